import PyProof.Rows.All
import Wide.All
import OpenK.AllK
import Wide.FinOn
import PySem.Challenge.RW_wf0016_01
open PySem PySem.W PyProof.Rows PySem.Calls
set_option Elab.async false
set_option maxRecDepth 100000
set_option maxHeartbeats 40000000
set_option linter.unusedVariables false
-- WHead
open_top hd for PySem.Challenge.rw_wf0016_01
namespace Mine
theorem walk_off : True := by
  w_top off
  trivial
end Mine
-- WFor
namespace Mine
def Pinned (m : Str → Option Value) (ps : List (Str × Value)) : Prop := ∀ p ∈ ps, m p.1 = some p.2
theorem Pinned.nil {m : Str → Option Value} : Pinned m [] := fun _ h => nomatch h
theorem Pinned.cons {m : Str → Option Value} {x : Str} {v : Value} {ps : List (Str × Value)} (h : m x = some v) (t : Pinned m ps) : Pinned m ((x, v) :: ps) := by
  intro p hp
  rcases List.mem_cons.mp hp with rfl | hp
  · exact h
  · exact t p hp
/-- the frame's map with named values ahead -/
def pinB (rest : Str → Option Value) : List (Str × Value) → Str → Option Value
  | [] => rest
  | (x, v) :: r => fun z => if z = x then some v else pinB rest r z
theorem pinB_eq {m : Str → Option Value} : ∀ {ps : List (Str × Value)}, Pinned m ps → ∀ z, pinB m ps z = m z
  | [], _, _ => rfl
  | (x, v) :: r, h, z => by
    show (if z = x then some v else pinB m r z) = m z
    by_cases e : z = x
    · rw [if_pos e, e]
      exact (h (x, v) (List.mem_cons_self ..)).symm
    · rw [if_neg e]
      exact pinB_eq (fun p hp => h p (List.mem_cons_of_mem _ hp)) z
theorem pin_eq {m : Str → Option Value} {ps : List (Str × Value)} (h : Pinned m ps) : pinB m ps = m := by
  funext z
  exact pinB_eq h z
/-- what a turn, or the loop, leaves: a state of the relation B, with the loop's own objects -/
def Out {σ : Type} (h₀ : Heap) (L : Addr) (Led : σ → List (Addr × Obj)) (ps : σ → List (Str × Value)) (B : σ → Prop) (own : List (Addr × Obj)) (s s₂ : Shared) : Prop :=
  ∃ c' h' tk' m', s₂ = { s with heap := h', toks := tk' } ∧ Fr h₀ L h' m' ∧ Pinned m' (ps c') ∧ News h₀ L h' (own ++ Led c') ∧ B c'
theorem Out.intro {σ : Type} {h₀ : Heap} {L : Addr} {Led : σ → List (Addr × Obj)} {ps : σ → List (Str × Value)} {B : σ → Prop} {own news : List (Addr × Obj)} {s : Shared} {h' : Heap} {tk' : Nat} {m' : Str → Option Value} (c' : σ)
    (F : Fr h₀ L h' m') (N : News h₀ L h' news) (hp : Pinned m' (ps c')) (hm : ∀ p ∈ own ++ Led c', p ∈ news) (hB : B c') : Out h₀ L Led ps B own s { s with heap := h', toks := tk' } :=
  ⟨c', h', tk', m', rfl, F, hp, fun p h => N p (hm p h), hB⟩
def TurnPost {σ : Type} (h₀ : Heap) (L : Addr) (Led : σ → List (Addr × Obj)) (ps : σ → List (Str × Value)) (P B : σ → Prop) (own : List (Addr × Obj)) (Q : Flow → Shared → Prop) (s : Shared) (f : Flow) (s₂ : Shared) : Prop :=
  match f with
  | .ret v => Q (.ret v) s₂
  | .brk => Out h₀ L Led ps B own s s₂
  | _ => Out h₀ L Led ps P own s s₂
def ElsePost {σ : Type} (h₀ : Heap) (L : Addr) (Led : σ → List (Addr × Obj)) (ps : σ → List (Str × Value)) (B : σ → Prop) (Q : Flow → Shared → Prop) (s : Shared) (f : Flow) (s₂ : Shared) : Prop :=
  match f with
  | .next => Out h₀ L Led ps B [] s s₂
  | .ret v => Q (.ret v) s₂
  | _ => False
theorem Fr.pins {h₀ h : Heap} {L : Addr} {m : Str → Option Value} {ps : List (Str × Value)} (F : Fr h₀ L h m) (hp : Pinned m ps) : ∃ u, Fr h₀ L h (pinB u ps) := ⟨m, by rw [pin_eq hp]; exact F⟩
theorem named {h₀ h : Heap} {L l : Addr} {o : Obj} {news : List (Addr × Obj)} (_N : News h₀ L h ((l, o) :: news)) : ∃ l', l' = l := ⟨l, rfl⟩
theorem all_ne {d : Addr} {l : List (Addr × Obj)} (h : ∀ p ∈ l, p.1 < d) : ∀ p ∈ l, p.1 ≠ d := fun p hp => Nat.ne_of_lt (h p hp)
section
variable {prog : Program} {w : World} {A : Around} {s : Shared} {env : Env} {h₀ : Heap}
theorem my_for {σ : Type} {x : Str} {px : Pos} {body orelse : List Stmt} {I : Addr} {fp : List Addr} {n : Nat} {PV : Nat → Value → Prop} {St : Nat → Heap → Prop} {m : Str → Option Value} {Q : Flow → Shared → Prop} {R : Value → Shared → Prop}
    (W : Walks prog w A I fp [I] n PV St) (hlive : ∀ i h, St i h → ∃ o, h.get? I = some o) (hx : env.kindOf x = some .local)
    (hp : (env.scope.kind == .class || (env.scope.kind == .module && env.locals != env.globals)) = false)
    (Led : σ → List (Addr × Obj)) (ps : σ → List (Str × Value)) (P : Nat → σ → Prop) (c₀ : σ)
    (hLf : env.locals ∉ fp) (hI : h₀.get? I = none) (hIa : ∀ c, ∀ p ∈ Led c, p.1 ≠ I)
    (hfp : ∀ b ∈ fp, b = I ∨ (∃ o, ∀ c, (b, o) ∈ Led c) ∨ ∃ o, h₀.get? b = some o)
    (hst : St 0 s.heap) (F : Fr h₀ env.locals s.heap m) (N : News h₀ env.locals s.heap (Led c₀)) (hpin : Pinned m (ps c₀)) (h0 : P 0 c₀)
    (turn : ∀ i v c oI u h tk, i < n → PV i v → P i c → Fr h₀ env.locals h (fun y => if y = x then some v else pinB u (ps c) y) → News h₀ env.locals h ((I, oI) :: Led c) →
      wpAny (model prog w) A (execs body env) (fun f s₂ => match f with
        | .ret v => Q (.ret v) s₂
        | .brk => Q .next s₂
        | _ => ∃ c' h' tk' m', s₂ = { s with heap := h', toks := tk' } ∧ Fr h₀ env.locals h' m' ∧ Pinned m' (ps c') ∧ News h₀ env.locals h' ((I, oI) :: Led c') ∧ P (i + 1) c') (fun _ _ => False)
        { s with heap := h, toks := tk })
    (done : ∀ c u h tk, P n c → Fr h₀ env.locals h (pinB u (ps c)) → News h₀ env.locals h (Led c) →
      wpAny (model prog w) A (execs orelse env) Q (fun _ _ => False) { s with heap := h, toks := tk }) :
    codeAny (model prog w) A (.forLoop (.Name x px) (.ref I) body orelse env) (fun r s' => match r with | .ok f => Q f s' | .error e => R e s') s := by
  have hIf : I ∈ fp := W.sub I (List.mem_singleton.mpr rfl)
  have hLI : env.locals ≠ I := fun h => hLf (h ▸ hIf)
  have oldI : ∀ b o, h₀.get? b = some o → b ∉ [I] := fun b o e hb => by rw [List.mem_singleton.mp hb, hI] at e; cases e
  refine codeAny_forLoop
    (fun k s' => ∃ c h' tk m' i, s' = { s with heap := h', toks := tk } ∧ St i h' ∧ Fr h₀ env.locals h' m' ∧ Pinned m' (ps c) ∧ News h₀ env.locals h' (Led c) ∧ P i c ∧ i ≤ n ∧ k = n - i) ?_ n
    ⟨c₀, s.heap, s.toks, m, 0, rfl, hst, F, hpin, N, h0, Nat.zero_le _, rfl⟩
  rintro k s' ⟨c, h', tk, m', i, rfl, hst', F', hpin', N', hP, hi, rfl⟩
  have next : ∀ h₁ : Heap, (∀ b o, b ∉ [I] → h'.get? b = some o → h₁.get? b = some o) → Fr h₀ env.locals h₁ m' ∧ News h₀ env.locals h₁ (Led c) := fun h₁ hk₁ =>
    ⟨⟨F'.ns.at' fun o e => hk₁ _ o (fun h => hLI (List.mem_singleton.mp h)) e, fun b o e => hk₁ b o (oldI b o e) (F'.keep b o e), F'.above⟩,
      fun p hp => ⟨hk₁ _ _ (fun h => hIa c p hp (List.mem_singleton.mp h)) (N' p hp).1, (N' p hp).2⟩⟩
  by_cases hlt : i < n
  · refine W.item i _ _ _ hlt hst' fun v h₁ tk₁ hPv hst₁ hk₁ => ?_
    obtain ⟨F₁, N₁⟩ := next h₁ hk₁
    refine wpAny_assign_Name (wpAny_storeName_local hx F₁.ns (fun h₂ hn₂ hs₂ => ?_) hp)
    have F₂ := F₁.set hn₂ hs₂
    have N₂ := N₁.set hs₂
    obtain ⟨oI, hoI⟩ := hlive _ _ hst₁
    have hoI₂ : h₂.get? I = some oI := (hs₂.2 I (Ne.symm hLI)).trans hoI
    have N₂' : News h₀ env.locals h₂ ((I, oI) :: Led c) := by
      intro p hp
      rcases List.mem_cons.mp hp with rfl | hp
      · exact ⟨hoI₂, Ne.symm hLI, hI⟩
      · exact N₂ p hp
    have F₂' : Fr h₀ env.locals h₂ (fun y => if y = x then some v else pinB m' (ps c) y) := by rw [pin_eq hpin']; exact F₂
    refine wpAny_mono (turn i v c oI m' h₂ _ hlt hPv hP F₂' N₂') (fun f s₃ h₃ => ?_) fun _ _ e => e.elim
    have fin : (∃ c' h' tk' m', s₃ = { s with heap := h', toks := tk' } ∧ Fr h₀ env.locals h' m' ∧ Pinned m' (ps c') ∧ News h₀ env.locals h' ((I, oI) :: Led c') ∧ P (i + 1) c') →
        ∃ k', k' < n - i ∧ ∃ c h' tk m' i, s₃ = { s with heap := h', toks := tk } ∧ St i h' ∧ Fr h₀ env.locals h' m' ∧ Pinned m' (ps c) ∧ News h₀ env.locals h' (Led c) ∧ P i c ∧ i ≤ n ∧ k' = n - i := by
      rintro ⟨c', h₄, tk₄, m₄, rfl, F₄, hpin₄, N₄, hP₄⟩
      refine ⟨n - (i + 1), by omega, c', h₄, tk₄, m₄, i + 1, rfl, ?_, F₄, hpin₄, fun p hp => N₄ p (List.mem_cons_of_mem _ hp), hP₄, hlt, rfl⟩
      refine W.frame _ _ _ hst₁ fun b hb o e => ?_
      rcases hfp b hb with rfl | ⟨o', ho'⟩ | ⟨o₀, hn⟩
      · rw [hoI] at e; cases e
        exact (N₄ (b, oI) (List.mem_cons_self ..)).1
      · have e1 := (N₁ _ (ho' c)).1
        rw [e1] at e; cases e
        exact (N₄ (b, o') (List.mem_cons_of_mem _ (ho' c'))).1
      · have e1 := F₁.keep b o₀ hn
        rw [e1] at e; cases e
        exact F₄.keep b _ hn
    cases f with
    | ret v => exact h₃
    | brk => exact h₃
    | next => exact fin h₃
    | cont => exact fin h₃
  · have hin : i = n := by omega
    subst hin
    refine W.done _ _ _ hst' fun h₁ tk₁ hk₁ => ?_
    obtain ⟨F₁, N₁⟩ := next h₁ hk₁
    have F₁' : Fr h₀ env.locals h₁ (pinB m' (ps c)) := by rw [pin_eq hpin']; exact F₁
    exact wpAny_mono (done c m' h₁ tk₁ hP F₁' N₁) (fun _ _ x => x) fun _ _ e => e.elim
theorem my_for_x {σ : Type} {x : Str} {px : Pos} {body orelse : List Stmt} {I : Addr} {fp : List Addr} {n : Nat} {PV : Nat → Value → Prop} {St : Nat → Heap → Prop} {m : Str → Option Value} {Q : Flow → Shared → Prop} {R : Value → Shared → Prop}
    (W : Walks prog w A I fp [I] n PV St) (hlive : ∀ i h, St i h → ∃ o, h.get? I = some o) (hx : env.kindOf x = some .local)
    (hp : (env.scope.kind == .class || (env.scope.kind == .module && env.locals != env.globals)) = false)
    (Led : σ → List (Addr × Obj)) (ps : σ → List (Str × Value)) (P : Nat → σ → Prop) (B : σ → Prop) (c₀ : σ)
    (hLf : env.locals ∉ fp) (hI : h₀.get? I = none) (hIa : ∀ c, ∀ p ∈ Led c, p.1 ≠ I)
    (hfp : ∀ b ∈ fp, b = I ∨ (∃ o, ∀ c, (b, o) ∈ Led c) ∨ ∃ o, h₀.get? b = some o)
    (hst : St 0 s.heap) (F : Fr h₀ env.locals s.heap m) (N : News h₀ env.locals s.heap (Led c₀)) (hpin : Pinned m (ps c₀)) (h0 : P 0 c₀)
    (turn : ∀ i v c oI u h tk, i < n → PV i v → P i c → Fr h₀ env.locals h (fun y => if y = x then some v else pinB u (ps c) y) → News h₀ env.locals h ((I, oI) :: Led c) →
      wpAny (model prog w) A (execs body env) (TurnPost h₀ env.locals Led ps (P (i + 1)) B [(I, oI)] Q { s with heap := h, toks := tk }) (fun _ _ => False) { s with heap := h, toks := tk })
    (done : ∀ c u h tk, P n c → Fr h₀ env.locals h (pinB u (ps c)) → News h₀ env.locals h (Led c) →
      wpAny (model prog w) A (execs orelse env) (ElsePost h₀ env.locals Led ps B Q { s with heap := h, toks := tk }) (fun _ _ => False) { s with heap := h, toks := tk })
    (exit : ∀ c u h tk, B c → Fr h₀ env.locals h (pinB u (ps c)) → News h₀ env.locals h (Led c) → Q .next { s with heap := h, toks := tk }) :
    codeAny (model prog w) A (.forLoop (.Name x px) (.ref I) body orelse env) (fun r s' => match r with | .ok f => Q f s' | .error e => R e s') s := by
  have out : ∀ {own : List (Addr × Obj)} {h : Heap} {tk : Nat} {s₂ : Shared}, Out h₀ env.locals Led ps B own { s with heap := h, toks := tk } s₂ → Q .next s₂ := by
    rintro own h tk s₂ ⟨c', h', tk', m', rfl, F', hp', N', hB⟩
    exact exit c' m' h' tk' hB (by rw [pin_eq hp']; exact F') fun p hp => N' p (List.mem_append_right _ hp)
  refine my_for W hlive hx hp Led ps P c₀ hLf hI hIa hfp hst F N hpin h0 ?_ ?_
  · intro i v c oI u h tk hi hv hP F₁ N₁
    refine wpAny_mono (turn i v c oI u h tk hi hv hP F₁ N₁) (fun f s₂ h₂ => ?_) fun _ _ e => e
    have fin : Out h₀ env.locals Led ps (P (i + 1)) [(I, oI)] { s with heap := h, toks := tk } s₂ → ∃ c' h' tk' m', s₂ = { s with heap := h', toks := tk' } ∧ Fr h₀ env.locals h' m' ∧ Pinned m' (ps c') ∧ News h₀ env.locals h' ((I, oI) :: Led c') ∧ P (i + 1) c' := fun h => h
    cases f with
    | ret v => exact h₂
    | brk => exact out h₂
    | next => exact fin h₂
    | cont => exact fin h₂
  · intro c u h tk hP F₁ N₁
    refine wpAny_mono (done c u h tk hP F₁ N₁) (fun f s₂ h₂ => ?_) fun _ _ e => e
    cases f with
    | ret v => exact h₂
    | brk => exact h₂.elim
    | next => exact out h₂
    | cont => exact h₂.elim
/-- over a range, by ones -/
theorem my_for_range {σ : Type} {x : Str} {px : Pos} {body orelse : List Stmt} {r : Addr} {a₀ b₀ : Int} {t₀ u₀ v₀ : Tok} {n : Nat} {m : Str → Option Value} {Q : Flow → Shared → Prop} {R : Value → Shared → Prop} {E : Value → Shared → Prop} {stp : Int}
    (hh : A.handled = none) (hr : IsRange s.heap r a₀ b₀ stp t₀ u₀ v₀) (hsmall : Builtin.Range.small a₀ b₀ stp = true) (hn : Builtin.Range.rangeSize a₀ b₀ stp = (n : Int))
    (hx : env.kindOf x = some .local)
    (hp : (env.scope.kind == .class || (env.scope.kind == .module && env.locals != env.globals)) = false)
    (Led : σ → List (Addr × Obj)) (ps : σ → List (Str × Value)) (P : Nat → σ → Prop) (B : σ → Prop) (c₀ : σ)
    (hadr : ∀ c, (Led c).map (·.1) = (Led c₀).map (·.1))
    (F : Fr h₀ env.locals s.heap m) (N : News h₀ env.locals s.heap (Led c₀)) (hpin : Pinned m (ps c₀)) (h0 : P 0 c₀)
    (turn : ∀ (I : Addr) i t c oI u h tk, i < n → (∀ p ∈ Led c, p.1 < I) → P i c → Fr h₀ env.locals h (fun y => if y = x then some (.int (a₀ + (i : Nat) * stp) t) else pinB u (ps c) y) → News h₀ env.locals h ((I, oI) :: Led c) →
      wpAny (model prog w) A (execs body env) (TurnPost h₀ env.locals Led ps (P (i + 1)) B [(I, oI)] Q { s with heap := h, toks := tk }) (fun _ _ => False) { s with heap := h, toks := tk })
    (done : ∀ c u h tk, P n c → Fr h₀ env.locals h (pinB u (ps c)) → News h₀ env.locals h (Led c) →
      wpAny (model prog w) A (execs orelse env) (ElsePost h₀ env.locals Led ps B Q { s with heap := h, toks := tk }) (fun _ _ => False) { s with heap := h, toks := tk })
    (exit : ∀ c u h tk, B c → Fr h₀ env.locals h (pinB u (ps c)) → News h₀ env.locals h (Led c) → Q .next { s with heap := h, toks := tk }) :
    wpAny (model prog w) A (pyIter (.ref r)) (fun it s₂ => codeAny (model prog w) A (.forLoop (.Name x px) it body orelse env) (fun r s' => match r with | .ok f => Q f s' | .error e => R e s') s₂) E s := by
  refine wpAny_pyIter_range hr hsmall ?_
  have above : ∀ c, ∀ p ∈ Led c, p.1 < s.heap.objs.size := fun c p hp => by
    have h1 : p.1 ∈ (Led c).map (·.1) := List.mem_map.mpr ⟨p, hp, rfl⟩
    rw [hadr] at h1
    obtain ⟨q, hq, e⟩ := List.mem_map.mp h1
    exact e ▸ Heap.lt_size (N q hq).1
  refine my_for_x (W := Walks.range hh s.heap.objs.size a₀ stp n) (fun i h st => ⟨_, st⟩) hx hp Led ps P B c₀ ?_ ?_ ?_ ?_ ?_ (F.push _) (fun p hp => ⟨Heap.get?_push_of_some _ (N p hp).1, (N p hp).2⟩) hpin h0 ?_ ?_ ?_
  · intro hm
    exact absurd F.ns.lt ((List.mem_singleton.mp hm) ▸ Nat.lt_irrefl _)
  · exact next_is_new F
  · intro c p hp e
    exact absurd (above c p hp) (by rw [e]; exact Nat.lt_irrefl _)
  · intro b hb
    exact .inl (List.mem_singleton.mp hb)
  · show IsRangeIter _ _ _ _ _
    rw [hn]
    simpa using Heap.get?_push_size _ rfl
  · rintro i v c oI u h tk hi ⟨t, rfl⟩ hP F₁ N₁
    refine turn s.heap.objs.size i t c oI u h tk hi (above c) hP F₁ N₁
  · exact done
  · exact exit
/-- over a list of the call's own, that stays as it is -/
theorem my_for_list {σ : Type} {x : Str} {px : Pos} {body orelse : List Stmt} {l : Addr} {vs : List Value} {nn : Nat} {m : Str → Option Value} {Q : Flow → Shared → Prop} {R : Value → Shared → Prop} {E : Value → Shared → Prop}
    (hh : A.handled = none)
    (hx : env.kindOf x = some .local)
    (hp : (env.scope.kind == .class || (env.scope.kind == .module && env.locals != env.globals)) = false)
    (Led : σ → List (Addr × Obj)) (ps : σ → List (Str × Value)) (P : Nat → σ → Prop) (B : σ → Prop) (c₀ : σ)
    (hl : ∀ c, (l, listOf vs.toArray nn) ∈ Led c)
    (hadr : ∀ c, (Led c).map (·.1) = (Led c₀).map (·.1))
    (F : Fr h₀ env.locals s.heap m) (N : News h₀ env.locals s.heap (Led c₀)) (hpin : Pinned m (ps c₀)) (h0 : P 0 c₀)
    (turn : ∀ (I : Addr) i v c oI u h tk, vs[i]? = some v → (∀ p ∈ Led c, p.1 < I) → P i c → Fr h₀ env.locals h (fun y => if y = x then some v else pinB u (ps c) y) → News h₀ env.locals h ((I, oI) :: Led c) →
      wpAny (model prog w) A (execs body env) (TurnPost h₀ env.locals Led ps (P (i + 1)) B [(I, oI)] Q { s with heap := h, toks := tk }) (fun _ _ => False) { s with heap := h, toks := tk })
    (done : ∀ c u h tk, P vs.length c → Fr h₀ env.locals h (pinB u (ps c)) → News h₀ env.locals h (Led c) →
      wpAny (model prog w) A (execs orelse env) (ElsePost h₀ env.locals Led ps B Q { s with heap := h, toks := tk }) (fun _ _ => False) { s with heap := h, toks := tk })
    (exit : ∀ c u h tk, B c → Fr h₀ env.locals h (pinB u (ps c)) → News h₀ env.locals h (Led c) → Q .next { s with heap := h, toks := tk }) :
    wpAny (model prog w) A (pyIter (.ref l)) (fun it s₂ => codeAny (model prog w) A (.forLoop (.Name x px) it body orelse env) (fun r s' => match r with | .ok f => Q f s' | .error e => R e s') s₂) E s := by
  have hls : s.heap.IsList l vs.toArray := ⟨_, (N _ (hl c₀)).1, rfl, nn, rfl⟩
  refine wpAny_pyIter_list hls ?_
  have above : ∀ c, ∀ p ∈ Led c, p.1 < s.heap.objs.size := fun c p hp => by
    have h1 : p.1 ∈ (Led c).map (·.1) := List.mem_map.mpr ⟨p, hp, rfl⟩
    rw [hadr] at h1
    obtain ⟨q, hq, e⟩ := List.mem_map.mp h1
    exact e ▸ Heap.lt_size (N q hq).1
  have hlt : l < s.heap.objs.size := above c₀ _ (hl c₀)
  have hsz : vs.toArray.size = vs.length := List.size_toArray ..
  have W := Walks.list (prog := prog) (w := w) (A := A) hh s.heap.objs.size l (Nat.ne_of_lt hlt) vs.toArray
  rw [hsz] at W
  refine my_for_x (W := W) (fun i h st => let ⟨o, ho, _⟩ := st.1; ⟨o, ho⟩) hx hp Led ps P B c₀ ?_ ?_ ?_ ?_ ?_ (F.push _) (fun p hp => ⟨Heap.get?_push_of_some _ (N p hp).1, (N p hp).2⟩) hpin h0 ?_ ?_ ?_
  · intro hm
    rcases List.mem_cons.mp hm with e | hm
    · exact absurd F.ns.lt (e ▸ Nat.lt_irrefl _)
    · exact (N _ (hl c₀)).2.1 (List.mem_singleton.mp hm).symm
  · exact next_is_new F
  · intro c p hp e
    exact absurd (above c p hp) (by rw [e]; exact Nat.lt_irrefl _)
  · intro b hb
    rcases List.mem_cons.mp hb with e | hb
    · exact .inl e
    · rw [List.mem_singleton.mp hb]
      exact .inr (.inl ⟨_, hl⟩)
  · exact ⟨⟨_, Heap.get?_push_size _ rfl, rfl, rfl⟩, hls.at fun o e => Heap.get?_push_of_some _ e⟩
  · rintro i v c oI u h tk hi hv hP F₁ N₁
    refine turn s.heap.objs.size i v c oI u h tk (by simpa using hv) (above c) hP F₁ N₁
  · exact done
  · exact exit
/-- a while, by a measure -/
theorem my_while {σ : Type} {test : Expr} {body orelse : List Stmt} {pos : Pos} {m : Str → Option Value} {Q : Flow → Shared → Prop} {E : Value → Shared → Prop}
    (Led : σ → List (Addr × Obj)) (ps : σ → List (Str × Value)) (P : Nat → σ → Prop) (B : σ → Prop) (c₀ : σ) (n₀ : Nat)
    (F : Fr h₀ env.locals s.heap m) (N : News h₀ env.locals s.heap (Led c₀)) (hpin : Pinned m (ps c₀)) (h0 : P n₀ c₀)
    (turn : ∀ k c u h tk, P k c → Fr h₀ env.locals h (pinB u (ps c)) → News h₀ env.locals h (Led c) →
      wpAny (model prog w) A (isTrue test env (eval test env)) (fun b s₂ => if b then wpAny (model prog w) A (execs body env) (TurnPost h₀ env.locals Led ps (fun c => ∃ k', k' < k ∧ P k' c) B [] Q { s with heap := h, toks := tk }) (fun _ _ => False) s₂
        else wpAny (model prog w) A (execs orelse env) (ElsePost h₀ env.locals Led ps B Q { s with heap := h, toks := tk }) (fun _ _ => False) s₂) (fun _ _ => False) { s with heap := h, toks := tk })
    (exit : ∀ c u h tk, B c → Fr h₀ env.locals h (pinB u (ps c)) → News h₀ env.locals h (Led c) → Q .next { s with heap := h, toks := tk }) :
    wpAny (model prog w) A (exec (.While test body orelse pos) env) Q E s := by
  have out : ∀ {own : List (Addr × Obj)} {h : Heap} {tk : Nat} {s₂ : Shared}, Out h₀ env.locals Led ps B own { s with heap := h, toks := tk } s₂ → Q .next s₂ := by
    rintro own h tk s₂ ⟨c', h', tk', m', rfl, F', hp', N', hB⟩
    exact exit c' m' h' tk' hB (by rw [pin_eq hp']; exact F') fun p hp => N' p (List.mem_append_right _ hp)
  refine wpAny_While ?_
  refine codeAny_whileLoop (fun k s' => ∃ c h' tk m', s' = { s with heap := h', toks := tk } ∧ Fr h₀ env.locals h' m' ∧ Pinned m' (ps c) ∧ News h₀ env.locals h' (Led c) ∧ P k c) ?_ n₀ ⟨c₀, s.heap, s.toks, m, rfl, F, hpin, N, h0⟩
  rintro k s' ⟨c, h', tk, m', rfl, F', hpin', N', hP⟩
  refine wpAny_mono (turn k c m' h' tk hP (by rw [pin_eq hpin']; exact F') N') (fun b s₂ h₂ => ?_) fun _ _ e => e.elim
  cases b with
  | true =>
    rw [if_pos rfl] at h₂ ⊢
    refine wpAny_mono h₂ (fun f s₃ h₃ => ?_) fun _ _ e => e.elim
    have fin : Out h₀ env.locals Led ps (fun c => ∃ k', k' < k ∧ P k' c) [] { s with heap := h', toks := tk } s₃ → ∃ k', k' < k ∧ ∃ c h' tk m', s₃ = { s with heap := h', toks := tk } ∧ Fr h₀ env.locals h' m' ∧ Pinned m' (ps c) ∧ News h₀ env.locals h' (Led c) ∧ P k' c := by
      rintro ⟨c', h₄, tk₄, m₄, rfl, F₄, hp₄, N₄, k', hk, hP'⟩
      exact ⟨k', hk, c', h₄, tk₄, m₄, rfl, F₄, hp₄, N₄, hP'⟩
    cases f with
    | ret v => exact h₃
    | brk => exact out h₃
    | next => exact fin h₃
    | cont => exact fin h₃
  | false =>
    rw [if_neg Bool.false_ne_true] at h₂ ⊢
    refine wpAny_mono h₂ (fun f s₃ h₃ => ?_) fun _ _ e => e.elim
    cases f with
    | ret v => exact h₃
    | brk => exact h₃.elim
    | next => exact out h₃
    | cont => exact h₃.elim
end
end Mine
-- WArith
namespace Mine
/-- the k-th binary digit -/
def bt (n k : Nat) : Bool := n / 2 ^ k % 2 == 1
theorem bt_true {n k : Nat} : bt n k = true ↔ n / 2 ^ k % 2 = 1 := by unfold bt; simp
theorem bt_false {n k : Nat} : bt n k = false ↔ n / 2 ^ k % 2 = 0 := by unfold bt; simp only [beq_eq_false_iff_ne]; omega
theorem shift_val (i : Nat) : ((1 : Int) * 2 ^ (0 + (i : Int) * 1).toNat) = ((2 ^ i : Nat) : Int) := by
  have e : (0 + (i : Int) * 1).toNat = i := by omega
  rw [e, Int.one_mul, kbt_cast]
theorem pf_and {n i x : Nat} (hx : x = n / 2 ^ i * 2 ^ i) : Builtin.bitAnd (x : Int) (1 * 2 ^ (0 + (i : Int) * 1).toNat) = ((n / 2 ^ i % 2 * 2 ^ i : Nat) : Int) := by
  have hp : 0 < 2 ^ i := Nat.pow_pos (by decide)
  rw [shift_val, kbt_cast, kbt_bit, ← kbt_cast]
  rw [hx, ← Int.natCast_ediv, Nat.mul_div_cancel _ hp]
  rfl
theorem next_val (n i : Nat) : n / 2 ^ (i + 1) * 2 ^ (i + 1) + n / 2 ^ i % 2 * 2 ^ i = n / 2 ^ i * 2 ^ i := by
  rw [Nat.pow_succ, ← Nat.div_div_eq_div_mul]
  have h := Nat.div_add_mod (n / 2 ^ i) 2
  generalize n / 2 ^ i = q at *
  generalize 2 ^ i = p at *
  have e : q / 2 * (p * 2) = (2 * (q / 2)) * p := by rw [Nat.mul_comm p 2, ← Nat.mul_assoc, Nat.mul_comm (q / 2) 2]
  rw [e, ← Nat.add_mul, h]
theorem pf_yes {n i x : Nat} (hx : x = n / 2 ^ i * 2 ^ i) (h : Builtin.bitAnd (x : Int) (1 * 2 ^ (0 + (i : Int) * 1).toNat) ≠ 0) :
    bt n i = true ∧ Builtin.bitXor (x : Int) (1 * 2 ^ (0 + (i : Int) * 1).toNat) = ((n / 2 ^ (i + 1) * 2 ^ (i + 1) : Nat) : Int) := by
  rw [bitXor_and, pf_and hx, shift_val]
  rw [pf_and hx] at h
  have h1 : n / 2 ^ i % 2 = 1 := by
    rcases Nat.mod_two_eq_zero_or_one (n / 2 ^ i) with e | e
    · exact absurd (by rw [e]; simp) h
    · exact e
  have h2 := next_val n i
  rw [h1, Nat.one_mul] at h2 ⊢
  refine ⟨bt_true.mpr h1, ?_⟩
  omega
theorem pf_no {n i x : Nat} (hx : x = n / 2 ^ i * 2 ^ i) (h : Builtin.bitAnd (x : Int) (1 * 2 ^ (0 + (i : Int) * 1).toNat) = 0) :
    bt n i = false ∧ x = n / 2 ^ (i + 1) * 2 ^ (i + 1) := by
  rw [pf_and hx] at h
  have hp : 0 < 2 ^ i := Nat.pow_pos (by decide)
  have h1 : n / 2 ^ i % 2 = 0 := by
    rcases Nat.mod_two_eq_zero_or_one (n / 2 ^ i) with e | e
    · exact e
    · rw [e, Nat.one_mul] at h; omega
  have h2 := next_val n i
  rw [h1, Nat.zero_mul] at h2
  exact ⟨bt_false.mpr h1, by omega⟩
end Mine
-- WPretty
namespace Mine
/-- the word of the k-th flag -/
def nmS : Nat → Str
  | 0 => Str.ofString "OPTIMIZED" | 1 => Str.ofString "NEWLOCALS" | 2 => Str.ofString "VARARGS" | 3 => Str.ofString "VARKEYWORDS" | 4 => Str.ofString "NESTED"
  | 5 => Str.ofString "GENERATOR" | 6 => Str.ofString "NOFREE" | 7 => Str.ofString "COROUTINE" | 8 => Str.ofString "ITERABLE_COROUTINE" | 9 => Str.ofString "ASYNC_GENERATOR"
  | _ => Str.ofString "0x400"
def namesB (n : Nat) : Nat → List Str
  | 0 => []
  | i + 1 => if bt n i then namesB n i ++ [nmS i] else namesB n i
def prettyL (n : Nat) : List Str := if n = 0 then [Str.ofString "0x0"] else namesB n 11
def prettyF (n : Nat) : Str := Txt.join (Str.ofString ", ") (prettyL n)
local macro_rules | `(tactic| k_all) => `(tactic| exact all_ne (by assumption))
theorem namesB_size (n : Nat) : ∀ i, ((namesB n i).map (·.length)).sum ≤ 18 * i ∧ (namesB n i).length ≤ i
  | 0 => by simp [namesB]
  | i + 1 => by
    have ih := namesB_size n i
    have hk : (nmS i).length ≤ 18 := by
      unfold nmS
      split <;> decide
    unfold namesB
    split
    · simp only [List.map_append, List.map_cons, List.map_nil, List.sum_append, List.sum_cons, List.sum_nil, List.length_append, List.length_cons, List.length_nil]; omega
    · omega
theorem prettyL_size (n : Nat) : ((prettyL n).map (·.length)).sum + (prettyL n).length * 2 ≤ 16777216 := by
  unfold prettyL
  split
  · decide
  · have := namesB_size n 11; omega
theorem strs_push {vs : Array Value} {ns : List Str} {y : Str} {t : Tok} (h : StrsAre vs.toList ns) : StrsAre (vs.push (.str y t)).toList (ns ++ [y]) := by
  rw [Array.toList_push]
  exact StrsAre.append' h (.cons _ _ .nil)
theorem namesB_yes {n i : Nat} (h : bt n i = true) : namesB n (i + 1) = namesB n i ++ [nmS i] := by rw [namesB, if_pos h]
theorem namesB_no {n i : Nat} (h : bt n i = false) : namesB n (i + 1) = namesB n i := by rw [namesB, h]; rfl
theorem namesB_push {n i : Nat} {vs : Array Value} {t : Tok} {y : Str} (h : bt n i = true) (hv : StrsAre vs.toList (namesB n i)) (hy : y = nmS i) : StrsAre (vs.push (.str y t)).toList (namesB n (i + 1)) := by
  rw [namesB_yes h, ← hy]
  exact strs_push hv
theorem bt_none {n i : Nat} (h : n / 2 ^ i * 2 ^ i = 0) : bt n i = false := by
  have hp : 0 < 2 ^ i := Nat.pow_pos (by decide)
  have h1 : n / 2 ^ i = 0 := by
    rcases Nat.mul_eq_zero.mp h with e | e
    · exact e
    · omega
  rw [bt_false, h1]
theorem zero_up {n i : Nat} (h : n / 2 ^ i * 2 ^ i = 0) : ∀ d, n / 2 ^ (i + d) * 2 ^ (i + d) = 0
  | 0 => h
  | d + 1 => by
    have h1 := next_val n (i + d)
    have h2 := zero_up h d
    rw [Nat.add_assoc] at h1
    omega
theorem namesB_stop {n i : Nat} (h : n / 2 ^ i * 2 ^ i = 0) : ∀ d, namesB n (i + d) = namesB n i
  | 0 => rfl
  | d + 1 => by
    rw [← Nat.add_assoc, namesB_no (bt_none (zero_up h d)), namesB_stop h d]
theorem prettyL_stop {n i : Nat} (hn : n ≠ 0) (hi : i ≤ 11) (h : n / 2 ^ i * 2 ^ i = 0) : prettyL n = namesB n i := by
  have e := namesB_stop h (11 - i)
  rw [show i + (11 - i) = 11 by omega] at e
  rw [prettyL, if_neg hn, e]
structure PSt where
  x : Nat
  t : Tok
  ns : List Str
  vs : Array Value
  cap : Nat
local macro_rules | `(tactic| walk_at "TurnPost") => `(tactic| dsimp only [TurnPost])
local macro_rules | `(tactic| walk_at "ElsePost") => `(tactic| dsimp only [ElsePost])
local macro_rules | `(tactic| k_steps) => `(tactic| repeat' (first | ((fail_if_success (with_reducible show wpAny _ _ (pyIter _) _ _ _)); (fail_if_success (with_reducible show Out _ _ _ _ _ _ _ _)); (first | (k_unfold; (try dsimp only)) | (k_end; wrow_close) | walk1 | (dsimp only; walk1) | (leave1; walk_say "STEP leave1"; try dsimp only) | fail "no step"))))
local macro_rules | `(tactic| walk_at "exec For Name Call cons cons") => `(tactic| refine wpAny_For ?_)
abbrev pLed (l' : Addr) (news : List (Addr × Obj)) (c : PSt) : List (Addr × Obj) := (l', listOf c.vs c.cap) :: news
abbrev pPin (l' : Addr) (c : PSt) : List (Str × Value) := [(Str.ofString "flags", .int c.x c.t), (Str.ofString "names", .ref l')]
theorem pf_out {h₀ : Heap} {L l' I : Addr} {oI : Obj} {news : List (Addr × Obj)} {B : PSt → Prop} {s : Shared} {h' : Heap} {tk' : Nat} {m' : Str → Option Value} {x : Nat} {t : Tok} {vs : Array Value} {cap : Nat}
    (F : Fr h₀ L h' m') (N : News h₀ L h' ((I, oI) :: (l', listOf vs cap) :: news)) (h1 : m' (Str.ofString "flags") = some (.int x t)) (h2 : m' (Str.ofString "names") = some (.ref l')) (ns : List Str) (hB : B ⟨x, t, ns, vs, cap⟩) :
    Out h₀ L (pLed l' news) (pPin l') B [(I, oI)] s { s with heap := h', toks := tk' } :=
  Out.intro ⟨x, t, ns, vs, cap⟩ F N (Pinned.cons h1 (Pinned.cons h2 Pinned.nil)) (fun p h => h) hB
theorem pf {w : World} {mean : ExcName → Option Value} {mg mb : Str → Option Value} (news : List (Addr × Obj)) (n : Nat) (tk0 : Tok) (hn : n < 2048) :
   CbClaim PySem.Challenge.rw_wf0016_01.row.prog w (hd.heap_39 w.params) hd.view_39 (looseW hd.view_39 [Str.ofString "COMPILER_FLAG_NAMES"]) mean mg mb 36 news [] True [.int n tk0] (fun t => .str (prettyF n) t) := by
  k_fill
  dsimp only [CbClaim, CbLists, CbRet]; intros; rename_i hret
  refine wpAny_call ?_
  k_dflt cell_enter
  rename Fr _ _ _ _ => F0
  obtain ⟨u0, F0⟩ := Fr.pins F0 (ps := [(Str.ofString "flags", .int n tk0)]) (Pinned.cons rfl Pinned.nil)
  k_steps
  rename IsRange _ _ _ _ _ _ _ _ => R2
  rename Fr _ _ _ _ => F2
  rename News _ _ _ _ => N2
  obtain ⟨l', e'⟩ := named N2
  subst e'
  refine my_for_range (n := 32) (σ := PSt) ?a1 R2 ?a2 ?a3 ?a4 ?a5 (pLed l' news) (pPin l')
    (fun i c => c.x = n / 2 ^ i * 2 ^ i ∧ c.ns = namesB n i ∧ StrsAre c.vs.toList c.ns ∧ (n ≠ 0 → c.x ≠ 0)) (fun c => c.ns = prettyL n ∧ StrsAre c.vs.toList c.ns) ⟨n, tk0, [], #[], 0⟩ ?a6 F2 N2 ?a7 ?a8 ?turn ?done ?exit
  case a1 => rfl
  case a2 => decide
  case a3 => decide
  case a4 => rfl
  case a5 => rfl
  case a6 => exact fun c => rfl
  case a7 => exact Pinned.cons rfl (Pinned.cons rfl Pinned.nil)
  case a8 => exact ⟨by simp, rfl, .nil, fun h => h⟩
  case done =>
    rintro ⟨x, t, ns, vs, cap⟩ u h tk ⟨hx, hns, hvs, h0⟩ F N
    dsimp only at hx hns hvs h0 F N
    have hx0 : x = 0 := by rw [hx, Nat.div_eq_of_lt (Nat.lt_of_lt_of_le hn (by decide)), Nat.zero_mul]
    have hn0 : n = 0 := Classical.byContradiction fun e => h0 e hx0
    subst hx0 hn0
    have hns0 : ns = [] := hns
    subst hns0
    have hvs0 : vs = #[] := by
      have e := StrsAre.nil_inv hvs
      exact Array.toList_eq_nil_iff.mp e
    subst hvs0
    k_steps
    refine Out.intro ⟨0, t, [Str.ofString "0x0"], #[_], _⟩ (by assumption) (by assumption) (Pinned.cons rfl (Pinned.cons rfl Pinned.nil)) (fun p h => h) ⟨rfl, ?_⟩
    exact .cons _ _ .nil
  case exit =>
    rintro ⟨x, t, ns, vs, cap⟩ u h tk ⟨hns, hvs⟩ F N
    dsimp only at hns hvs F N
    k_steps
    refine join_list (ys := prettyL n) ⟨_, (N _ (List.mem_cons_self ..)).1, rfl, _, rfl⟩ (hns ▸ hvs) (prettyL_size n) ?_
    intro t' k'
    k_steps
    exact hret _ _ _ (by assumption) (cb_drop (by assumption) fun p hp => List.mem_cons_of_mem _ hp)
  case turn =>
    rintro I i t ⟨x, t', ns, vs, cap⟩ oI u h tk hi hI ⟨hx, hns, hvs, h0⟩ F N
    dsimp only at hI hx hns hvs h0 F N
    have hlI := ltN (hI _ (List.mem_cons_self ..))
    dsimp only at hlI
    have hsz : vs.size ≤ sizeLine := by
      have h1 := StrsAre.len_eq hvs
      have h2 := (namesB_size n i).2
      rw [← hns] at h2
      rw [sizeLine_eq]
      simp only [Array.length_toList] at h1
      omega
    by_cases h11 : i < 11
    · have hc : i = 0 ∨ i = 1 ∨ i = 2 ∨ i = 3 ∨ i = 4 ∨ i = 5 ∨ i = 6 ∨ i = 7 ∨ i = 8 ∨ i = 9 ∨ i = 10 := by omega
      rcases hc with rfl | rfl | rfl | rfl | rfl | rfl | rfl | rfl | rfl | rfl | rfl
      all_goals k_steps
      all_goals (rename Fr _ _ _ _ => F9; rename News _ _ _ _ => N9)
      all_goals first
        | (rename (Builtin.bitXor _ _ ≠ 0) => hc; rename (Builtin.bitAnd _ _ ≠ 0) => hb; have hy := pf_yes hx hb; rw [hy.2] at F9 hc
           exact pf_out F9 N9 rfl rfl _ ⟨rfl, rfl, namesB_push hy.1 (hns ▸ hvs) rfl, fun _ e => hc (congrArg Int.ofNat e)⟩)
        | (rename (Builtin.bitXor _ _ = 0) => hc; rename (Builtin.bitAnd _ _ ≠ 0) => hb; have hy := pf_yes hx hb; rw [hy.2] at F9 hc
           have hn0 : n ≠ 0 := (fun e => by subst e; simp at hx; subst hx; simp [Builtin.bitAnd] at hb)
           have hz := prettyL_stop hn0 (by exact h11) (Int.ofNat.inj hc)
           exact pf_out F9 N9 rfl rfl (prettyL n) ⟨rfl, hz.symm ▸ namesB_push hy.1 (hns ▸ hvs) rfl⟩)
        | (rename (Builtin.bitAnd _ _ = 0) => hb; have hy := pf_no hx hb
           exact pf_out F9 N9 rfl rfl ns ⟨hy.2, by rw [hns, namesB_no hy.1], hvs, h0⟩)
    · have hz : n / 2 ^ i * 2 ^ i = 0 := by rw [Nat.div_eq_of_lt (Nat.lt_of_lt_of_le hn (show 2 ^ 11 ≤ 2 ^ i from Nat.pow_le_pow_right (by decide) (by omega))), Nat.zero_mul]
      k_steps
      all_goals (rename Fr _ _ _ _ => F9; rename News _ _ _ _ => N9)
      all_goals first
        | (rename (Builtin.bitAnd _ _ ≠ 0) => hb; have hy := pf_yes hx hb; rw [bt_none hz] at hy; exact absurd hy.1 Bool.false_ne_true)
        | (rename (Builtin.bitAnd _ _ = 0) => hb; have hy := pf_no hx hb
           exact pf_out F9 N9 rfl rfl ns ⟨hy.2, by rw [hns, namesB_no hy.1], hvs, h0⟩)
end Mine
-- WText
namespace Mine
/-- the text of these signs -/
def T (l : List Nat) : Str := ⟨l.toArray⟩
theorem T_of (x : Str) : T x.cps.toList = x := by cases x; rfl
theorem T_length (l : List Nat) : (T l).length = l.length := by simp [T, Str.length]
theorem T_append (a b : List Nat) : T a ++ T b = T (a ++ b) := by
  have e : (T a ++ T b).cps = (T (a ++ b)).cps := by rw [Str.cps_append]; simp [T]
  cases h1 : T a ++ T b; cases h2 : T (a ++ b); rw [h1, h2] at e; exact congrArg _ e
theorem T_inj {a b : List Nat} : T a = T b ↔ a = b := ⟨fun h => by have := congrArg Str.cps h; simpa [T] using this, fun h => by rw [h]⟩
theorem T_beq (a b : List Nat) : (T a == T b) = decide (a = b) := by
  rw [Bool.eq_iff_iff]
  simp [T_inj]
theorem slice_to (l : List Nat) (j : Int) (h0 : 0 ≤ j) (h1 : j ≤ l.length) : Txt.slice (T l) none (some j) = T (l.take j.toNat) := by
  have h := eq_of_beq (slice_closes_to (x := T l) (j := j) ⟨h0, by simpa [T] using h1⟩)
  rw [h]
  simp [T]
theorem slice_from (l : List Nat) (i : Int) (h0 : 0 ≤ i) (h1 : i ≤ l.length) : Txt.slice (T l) (some i) none = T (l.drop i.toNat) := by
  have h := eq_of_beq (slice_closes_from (x := T l) (i := i) ⟨h0, by simpa [T] using h1⟩)
  rw [h]
  have e : List.take ((l.length : Int) - i).toNat (List.drop i.toNat l) = List.drop i.toNat l := List.take_of_length_le (by rw [List.length_drop]; omega)
  simp [T, e]
theorem slice_mid (l : List Nat) (i j : Int) (h0 : 0 ≤ i) (h1 : i ≤ j) (h2 : j ≤ l.length) : Txt.slice (T l) (some i) (some j) = T ((l.drop i.toNat).take (j - i).toNat) := by
  have h := eq_of_beq (slice_closes (x := T l) (i := i) (j := j) ⟨h0, h1, by simpa [T] using h2⟩)
  rw [h]
  simp [T]
theorem join_T_aux : ∀ ls : List (List Nat), Str.join (T []) (ls.map T) = T ls.flatten
  | [] => rfl
  | [x] => by show T x = T ([x].flatten); simp
  | x :: y :: r => by
    have ih := join_T_aux (y :: r)
    show T x ++ T [] ++ Str.join (T []) ((y :: r).map T) = _
    rw [ih, T_append, T_append]
    simp
theorem join_T (ls : List (List Nat)) : Txt.join (Str.ofString "") (ls.map T) = T ls.flatten := by
  rw [show Str.ofString "" = T [] from rfl, ← join_T_aux]
  exact eq_of_beq (join_closes rfl)
theorem lens_T (ls : List (List Nat)) : ((ls.map T).map (·.length)).sum = (ls.map List.length).sum := by
  rw [List.map_map]
  exact congrArg _ (List.map_congr_left fun a _ => T_length a)
/-- what parse257 reads behind the first mark -/
def parseL : List Nat → List Nat
  | [] => []
  | [c] => if c = 34 then [] else [c]
  | c :: d :: r => if c = 34 then (if d = 34 then 34 :: parseL r else []) else c :: parseL (d :: r)
theorem parseL_plain {c : Nat} (h : c ≠ 34) (r : List Nat) : parseL (c :: r) = c :: parseL r := by
  cases r with
  | nil => simp [parseL, h]
  | cons d r => simp [parseL, h]
theorem item_T (l : List Nat) (i : Int) (c : Nat) (h0 : 0 ≤ i) (h : l[i.toNat]? = some c) : Txt.item (T l) i = T [c] := item_meets h0 (by simpa [T] using h)
theorem drop_at {l : List Nat} {k c : Nat} (h : l[k]? = some c) : l.drop k = c :: l.drop (k + 1) := by
  have hk : k < l.length := by
    rcases Nat.lt_or_ge k l.length with h1 | h1
    · exact h1
    · rw [List.getElem?_eq_none h1] at h; cases h
  rw [List.drop_eq_getElem_cons hk]
  rw [List.getElem?_eq_getElem hk] at h
  rw [Option.some.inj h]
theorem parse_mark_end {l : List Nat} {k : Nat} (h : l[k]? = some 34) (h2 : l.length ≤ k + 1) : parseL (l.drop k) = [] := by
  rw [drop_at h, List.drop_eq_nil_of_le h2]; simp [parseL]
theorem parse_mark_other {l : List Nat} {k d : Nat} (h : l[k]? = some 34) (h2 : l[k + 1]? = some d) (hd : d ≠ 34) : parseL (l.drop k) = [] := by
  rw [drop_at h, drop_at h2]; simp [parseL, hd]
theorem parse_mark_two {l : List Nat} {k : Nat} (h : l[k]? = some 34) (h2 : l[k + 1]? = some 34) : parseL (l.drop k) = 34 :: parseL (l.drop (k + 2)) := by
  rw [drop_at h, drop_at h2]; simp [parseL]
theorem parse_other {l : List Nat} {k c : Nat} (h : l[k]? = some c) (hc : c ≠ 34) : parseL (l.drop k) = c :: parseL (l.drop (k + 1)) := by
  rw [drop_at h, parseL_plain hc]
end Mine
-- WParse
namespace Mine
local macro_rules | `(tactic| walk_at "TurnPost") => `(tactic| dsimp only [TurnPost])
local macro_rules | `(tactic| walk_at "ElsePost") => `(tactic| dsimp only [ElsePost])
local macro_rules | `(tactic| k_steps) => `(tactic| repeat' (first | ((fail_if_success (with_reducible show wpAny _ _ (pyIter _) _ _ _)); (fail_if_success (with_reducible show wpAny _ _ (exec (Stmt.While _ _ _ _) _) _ _ _)); (fail_if_success (with_reducible show Out _ _ _ _ _ _ _ _)); (first | (k_unfold; (try dsimp only)) | (k_end; wrow_close) | walk1 | (dsimp only; walk1) | (leave1; walk_say "STEP leave1"; try dsimp only) | fail "no step"))))
local macro_rules | `(tactic| walk_at "exec For Name Call cons cons") => `(tactic| refine wpAny_For ?_)
structure QSt where
  acc : List Nat
  ta : Tok
  k : Nat
  ti : Tok
  tn : Tok
abbrev qPin (r : Str) (tk0 : Tok) (c : QSt) : List (Str × Value) := [(Str.ofString "resp", .str r tk0), (Str.ofString "dirname", .str (T c.acc) c.ta), (Str.ofString "i", .int (5 + c.k) c.ti), (Str.ofString "n", .int r.length c.tn)]
theorem q_out {h₀ : Heap} {L : Addr} {news : List (Addr × Obj)} {B : QSt → Prop} {s : Shared} {h' : Heap} {tk' : Nat} {m' : Str → Option Value} {r d : Str} {tk0 ta ti tn : Tok} {iv : Int}
    (F : Fr h₀ L h' m') (N : News h₀ L h' news) (h1 : m' (Str.ofString "resp") = some (.str r tk0)) (h2 : m' (Str.ofString "dirname") = some (.str d ta)) (h3 : m' (Str.ofString "i") = some (.int iv ti)) (h4 : m' (Str.ofString "n") = some (.int r.length tn))
    (acc : List Nat) (k : Nat) (hd : d = T acc) (hi : iv = 5 + k) (hB : B ⟨acc, ta, k, ti, tn⟩) :
    Out h₀ L (fun _ => news) (qPin r tk0) B [] s { s with heap := h', toks := tk' } := by
  subst hd hi
  exact Out.intro ⟨acc, ta, k, ti, tn⟩ F N (Pinned.cons h1 (Pinned.cons h2 (Pinned.cons h3 (Pinned.cons h4 Pinned.nil)))) (fun p h => h) hB
def pre5 : List Nat := [50, 53, 55, 32, 34]
theorem pp {w : World} {mean : ExcName → Option Value} {mg mb : Str → Option Value} (news : List (Addr × Obj)) (l : List Nat) (tk0 : Tok) (hl : l.length ≤ 1000) :
   CbClaim PySem.Challenge.rw_wf0016_01.row.prog w (hd.heap_39 w.params) hd.view_39 (looseW hd.view_39 [Str.ofString "COMPILER_FLAG_NAMES"]) mean mg mb 68 news [] True [.str (T (pre5 ++ l)) tk0] (fun t => .str (T (parseL l)) t) := by
  k_fill
  dsimp only [CbClaim, CbLists, CbRet]; intros; rename_i hret
  refine wpAny_call ?_
  k_dflt cell_enter
  rename Fr _ _ _ _ => F0
  obtain ⟨u0, F0⟩ := Fr.pins F0 (ps := [(Str.ofString "resp", .str (T (pre5 ++ l)) tk0)]) (Pinned.cons rfl Pinned.nil)
  have hz : (pre5 ++ l).length = 5 + l.length := by rw [List.length_append]; rfl
  have hrl : (T (pre5 ++ l)).length ≤ sizeLine := by rw [T_length, sizeLine_eq, hz]; omega
  have e1 : Txt.slice (T (pre5 ++ l)) none (some 3) = Str.ofString "257" := by rw [slice_to _ _ (by decide) (by rw [hz]; omega)]; rfl
  have e2 : Txt.slice (T (pre5 ++ l)) (some 3) (some 5) = Str.ofString " \"" := by rw [slice_mid _ _ _ (by decide) (by decide) (by rw [hz]; omega)]; rfl
  have e3 : ((T (pre5 ++ l)).length : Int) = 5 + l.length := by rw [T_length, hz]; omega
  have e4 : ∀ (k : Nat) c, l[k]? = some c → Txt.item (T (pre5 ++ l)) (5 + (k : Int)) = T [c] := fun k c h => item_T _ _ _ (by omega) (by
    rw [show (5 + (k : Int)).toNat = 5 + k by omega, List.getElem?_append_right (by show 5 ≤ 5 + k; omega), ← h]
    exact congrArg (fun n => l[n]?) (show 5 + k - 5 = k by omega))
  have e5 : ∀ (k : Nat) c, l[k + 1]? = some c → Txt.item (T (pre5 ++ l)) (5 + (k : Int) + 1) = T [c] := fun k c h => by
    rw [← e4 (k + 1) c h]
    exact congrArg _ (by omega)
  generalize T (pre5 ++ l) = r at *
  k_steps
  · rename ((_ != _) = true) => hb
    rw [e1] at hb
    exact absurd hb (by decide)
  · rename ((Txt.slice r (some 3) (some 5) != _) = true) => hb
    rw [e2] at hb
    exact absurd hb (by decide)
  rename Fr _ _ _ _ => F1
  rename News _ _ _ _ => N1
  obtain ⟨ta, ti, tn, u1, F2⟩ : ∃ ta ti tn u, Fr _ _ _ (pinB u (qPin r tk0 ⟨[], ta, 0, ti, tn⟩)) := ⟨_, _, _, Fr.pins F1 (Pinned.cons rfl (Pinned.cons rfl (Pinned.cons rfl (Pinned.cons rfl Pinned.nil))))⟩
  refine my_while (σ := QSt) (fun _ => news) (qPin r tk0) (fun k c => c.k ≤ l.length ∧ c.acc ++ parseL (l.drop c.k) = parseL l ∧ c.acc.length ≤ c.k ∧ k = l.length - c.k) (fun c => c.acc = parseL l) ⟨[], ta, 0, ti, tn⟩ l.length F2 N1 ?a1 ?a2 ?turn ?exit
  case a1 => exact Pinned.cons rfl (Pinned.cons rfl (Pinned.cons rfl (Pinned.cons rfl Pinned.nil)))
  case a2 => exact ⟨Nat.zero_le _, rfl, Nat.le_refl _, rfl⟩
  case exit =>
    rintro ⟨acc, ta, k, ti, tn⟩ u h tk hacc F N
    dsimp only [qPin] at hacc F
    subst hacc
    k_steps
    exact hret _ _ _ (by assumption) (by assumption)
  case turn =>
    rintro kk ⟨acc, ta, k, ti, tn⟩ u h tk ⟨hk, he, ha, hm⟩ F N
    dsimp only [qPin] at hk he ha hm F
    have hal : (T acc).length ≤ 1000 := by rw [T_length]; omega
    have gets : 5 + (k : Int) < r.length → ∃ c, l[k]? = some c ∧ Txt.item r (5 + (k : Int)) = T [c] := fun h => by
      have h1 : k < l.length := by omega
      exact ⟨_, List.getElem?_eq_getElem h1, e4 k _ (List.getElem?_eq_getElem h1)⟩
    have getn : ¬ (r.length : Int) ≤ 5 + (k : Int) + 1 → ∃ d, l[k + 1]? = some d ∧ Txt.item r (5 + (k : Int) + 1) = T [d] := fun h => by
      have h1 : k + 1 < l.length := by omega
      exact ⟨_, List.getElem?_eq_getElem h1, e5 k _ (List.getElem?_eq_getElem h1)⟩
    have mk : ∀ c, (T [c] == Str.ofString "\"") = decide (c = 34) := fun c => by
      rw [show Str.ofString "\"" = T [34] from rfl, T_beq]; simp
    k_steps
    all_goals (rename Fr _ _ _ _ => F9; rename News _ _ _ _ => N9)
    · rename (5 + (k : Int) < _) => h1; rename ((_ == _) = true) => h2; rename (_ ≤ 5 + (k : Int) + 1) => h3
      obtain ⟨c, hc, ec⟩ := gets h1
      rw [ec, mk, decide_eq_true_eq] at h2
      subst h2
      exact q_out F9 N9 rfl rfl rfl rfl acc (k + 1) rfl (by omega) (by rw [parse_mark_end hc (by omega), List.append_nil] at he; exact he)
    · rename (5 + (k : Int) < _) => h1; rename ((_ == _) = true) => h2; rename (¬ _ ≤ 5 + (k : Int) + 1) => h3; rename ((Txt.item _ (5 + (k : Int) + 1) != _) = true) => h4
      obtain ⟨c, hc, ec⟩ := gets h1
      obtain ⟨d, hd, ed⟩ := getn h3
      rw [ec, mk, decide_eq_true_eq] at h2
      rw [ed, bne, mk] at h4
      subst h2
      exact q_out F9 N9 rfl rfl rfl rfl acc (k + 1) rfl (by omega) (by rw [parse_mark_other hc hd (by simpa using h4), List.append_nil] at he; exact he)
    · rename (5 + (k : Int) < _) => h1; rename ((_ == _) = true) => h2; rename (¬ _ ≤ 5 + (k : Int) + 1) => h3; rename ((Txt.item _ (5 + (k : Int) + 1) != _) = false) => h4
      obtain ⟨c, hc, ec⟩ := gets h1
      obtain ⟨d, hd, ed⟩ := getn h3
      rw [ec, mk, decide_eq_true_eq] at h2
      rw [ed, bne, mk] at h4
      have h5 : d = 34 := by simpa using h4
      subst h2 h5
      have h6 : k + 1 < l.length := by omega
      have g1 : k + 2 ≤ l.length := by omega
      have g2 : (acc ++ [34]).length ≤ k + 2 := by rw [List.length_append]; show acc.length + 1 ≤ k + 2; omega
      have g3 : l.length - (k + 2) < kk := by omega
      exact q_out F9 N9 rfl rfl rfl rfl (acc ++ [34]) (k + 2) (by rw [ec, T_append]) (by omega) ⟨l.length - (k + 2), g3, g1, by rw [List.append_assoc]; rw [parse_mark_two hc hd] at he; exact he, g2, rfl⟩
    · rename (5 + (k : Int) < _) => h1; rename ((Txt.item _ (5 + (k : Int)) == _) = false) => h2
      obtain ⟨c, hc, ec⟩ := gets h1
      rw [ec, mk, decide_eq_false_iff_not] at h2
      have h6 : k < l.length := by omega
      have g2 : (acc ++ [c]).length ≤ k + 1 := by rw [List.length_append]; show acc.length + 1 ≤ k + 1; omega
      have g3 : l.length - (k + 1) < kk := by omega
      exact q_out F9 N9 rfl rfl rfl rfl (acc ++ [c]) (k + 1) (by rw [ec, T_append]) (by omega) ⟨l.length - (k + 1), g3, h6, by rw [List.append_assoc]; rw [parse_other hc h2] at he; exact he, g2, rfl⟩
    · rename (¬ 5 + (k : Int) < _) => h1
      exact q_out F9 N9 rfl rfl rfl rfl acc k rfl (by omega) (by rw [List.drop_eq_nil_of_le (by omega)] at he; simpa [parseL] using he)
end Mine
-- WEnum
open Sem (wp)
open AutoSeq1 (wpAny_loadPart')
namespace Mine
section
variable {prog : Program} {w : World} {A : Around} {E : Value → Shared → Prop} {s : Shared}
theorem nextOf_ascii_item {it : Addr} {x : Str} {t : Tok} {i c : Nat} {Q : Value → Shared → Prop} (hit : s.heap.IsStrIter it "str_ascii_iterator" x t i) (hx : x.cps[i]? = some c)
    (hQ : ∀ h', h'.IsStrIter it "str_ascii_iterator" x t (i + 1) → Heap.SameBut it s.heap h' → Q (.str ⟨#[c]⟩ s.toks) { s with heap := h', toks := s.toks + 1 }) :
    wpAny (model prog w) A (Builtin.SmallTypes.nextOf (.ref it)) Q E s := by
  obtain ⟨o, ho, hc, hd⟩ := id hit
  unfold Builtin.SmallTypes.nextOf
  refine wpAny_bind (wpAny_callSpecial?_slot (name := Str.ofString "__next__") hit.typeIs F.slot_str_ascii_iterator_next
    (wpAny_call_entry F.slot_str_ascii_iterator_next hit.typeIs F.entry_str_ascii_iterator_next ?_ (F.args_str_ascii_iterator_next_1 _)))
  show wpAny _ _ (field (.ref it) 0 >>= _) _ _ s
  refine wpAny_bind (wpAny_field ho hd (x := .str x t) rfl ?_)
  show wpAny _ _ (field (.ref it) 1 >>= _) _ _ s
  refine wpAny_bind (wpAny_field ho hd (x := .int i 0) rfl ?_)
  simp only [Int.toNat_natCast, hx]
  refine wpAny_bind (wpAny_setField ho hd (by simp) (wpAny_bind (wpAny_mkStr (wpAny_pure ⟨_, rfl, wpAny_pure (hQ _ ?_ (Heap.SameBut.update ..))⟩) (by show 1 ≤ sizeLine; decide))))
  exact ⟨_, Heap.get?_update_self _ ho (Obj.isFreed_of_fields (Obj.data_mapFields hd _)), (Obj.cls_mapFields ..).trans hc, by
    rw [Obj.data_mapFields hd]; simp [rawInt]⟩
theorem nextOf_ascii_end {it : Addr} {x : Str} {t : Tok} {i : Nat} {Q : Value → Shared → Prop} (hh : A.handled = none)
    (hit : s.heap.IsStrIter it "str_ascii_iterator" x t i) (hx : x.cps[i]? = none)
    (hE : ∀ h' e, Heap.ExtBut it s.heap h' → (∃ o, h'.get? e = some o ∧ o.cls = .type "StopIteration") → E (.ref e) { s with heap := h' }) :
    wpAny (model prog w) A (Builtin.SmallTypes.nextOf (.ref it)) Q E s := by
  obtain ⟨o, ho, hc, hd⟩ := id hit
  unfold Builtin.SmallTypes.nextOf
  refine wpAny_bind (wpAny_callSpecial?_slot (name := Str.ofString "__next__") hit.typeIs F.slot_str_ascii_iterator_next
    (wpAny_call_entry F.slot_str_ascii_iterator_next hit.typeIs F.entry_str_ascii_iterator_next ?_ (F.args_str_ascii_iterator_next_1 _)))
  show wpAny _ _ (field (.ref it) 0 >>= _) _ _ s
  refine wpAny_bind (wpAny_field ho hd (x := .str x t) rfl ?_)
  show wpAny _ _ (field (.ref it) 1 >>= _) _ _ s
  refine wpAny_bind (wpAny_field ho hd (x := .int i 0) rfl ?_)
  simp only [Int.toNat_natCast, hx]
  refine wpAny_bind (wpAny_rule (wpAny_bind (wpAny_setField ho hd (by simp) (wpAny_bind (wpAny_letGo ?_)))))
  show wpAny _ _ (newExc (.type "StopIteration") [] >>= _) _ _ _
  refine wpAny_bind ?_
  simp only [newExc, newTuple]
  refine wpAny_bind (wpAny_newObj_type ?_ (by size_fits))
  refine wpAny_bind (m := firstArgMember _ _) (wpAny_of_eq (a := Value.none) (by first | rfl | (simp only [firstArgMember]; rfl)) ?_)
  refine wpAny_newObj_type ?_ (by size_fits)
  simp only [raiseNew]
  refine wpAny_bind (wpAny_handled ?_)
  first | rw [show A.in1.handled = none from hh] | rw [hh]
  refine wpAny_bind (wpAny_pure (wpAny_throw ?_))
  exact hE _ _ (((Heap.SameBut.update ..).extBut.push _).push _) ⟨_, Heap.get?_push_size _ rfl, rfl⟩
end
theorem meets_enumerate_new_str (x : Str) (t : Tok) (ha : x.cps.all (· < 128) = true) :
    Meets (Builtin.«enumerate.__new__» ⟨[.type "enumerate", .str x t], []⟩) (fun _ R s =>
      R (.ok (.ret (.ref (s.heap.push { cls := .type "str_ascii_iterator", data := .fields #[.str x t, .int 0 0] }).objs.size)))
        { s with heap := (s.heap.push { cls := .type "str_ascii_iterator", data := .fields #[.str x t, .int 0 0] }).push { cls := .type "enumerate", data := .fields #[.none, .bool false, .ref s.heap.objs.size, rawInt 0, .none, .none] } }) :=
  .of_wp fun prog w A R s h => by
    obtain ⟨hp, g, d, tk, os⟩ := s
    have hsub := sub_enumerate
    wp_walk using wpAny_pyIter_ascii ha
    refine wpAny_stack_any fun st => wpAny_pure ?_
    split
    · rename_i c _ _ _ _ _
      cases (c == Value.type "enumerate")
      · wp_walk using wpAny_pyIter_ascii ha
        exact ⟨_, rfl, h⟩
      · wp_walk using wpAny_pyIter_ascii ha
        exact ⟨_, rfl, h⟩
    · wp_walk using wpAny_pyIter_ascii ha
      exact ⟨_, rfl, h⟩
section
variable {prog : Program} {w : World} {A : Around} {E : Value → Shared → Prop} {s : Shared}
theorem call_enumerate_str {x : Str} {t : Tok} {Q : Value → Shared → Prop} (ha : x.cps.all (· < 128) = true)
    (h : ∀ h', IsEnum h' (s.heap.objs.size + 1) s.heap.objs.size 0 .none → h'.IsStrIter s.heap.objs.size "str_ascii_iterator" x t 0 → h'.objs.size = s.heap.objs.size + 2 →
      (∀ b o, s.heap.get? b = some o → h'.get? b = some o) → Q (.ref (s.heap.objs.size + 1)) { s with heap := h' }) :
    wpAny (model prog w) A (call (.type "enumerate") [.str x t]) Q E s := by
  refine callType_new F.called_enumerate (by decide) (F.typeCall_enumerate_1 _) (F.newCall_enumerate_1 _) (fun obj => F.args_object_init_2 obj _) F.entry_enumerate_new
    (meets_enumerate_new_str x t ha) ?_
  have hz : (s.heap.push { cls := .type "str_ascii_iterator", data := .fields #[.str x t, .int 0 0] }).objs.size = s.heap.objs.size + 1 := Heap.size_push ..
  show _ ∧ _
  rw [hz]
  have he : IsEnum ((s.heap.push { cls := .type "str_ascii_iterator", data := .fields #[.str x t, .int 0 0] }).push
      { cls := .type "enumerate", data := .fields #[.none, .bool false, .ref s.heap.objs.size, rawInt 0, .none, .none] }) (s.heap.objs.size + 1) s.heap.objs.size 0 .none := by
    have := Heap.get?_push_size (s.heap.push { cls := .type "str_ascii_iterator", data := .fields #[.str x t, .int 0 0] })
      (o := { cls := .type "enumerate", data := .fields #[.none, .bool false, .ref s.heap.objs.size, rawInt 0, .none, .none] }) rfl
    rw [hz] at this; exact this
  refine ⟨⟨_, he, rfl⟩, h _ he ⟨_, Heap.get?_push_of_some _ (Heap.get?_push_size _ rfl), rfl, rfl⟩ (by rw [Heap.size_push, hz]) fun b o y => Heap.get?_push_of_some _ (Heap.get?_push_of_some _ y)⟩
end
end Mine
-- WEnum2
open Sem (wp)
namespace Mine
section
variable {prog : Program} {w : World} {A : Around} {E : Value → Shared → Prop} {s : Shared}
theorem enum_next_str {e it : Addr} {x : Str} {t : Tok} {i c : Nat} {old : Value} {Q : Value → Shared → Prop}
    (he : IsEnum s.heap e it i old) (hit : s.heap.IsStrIter it "str_ascii_iterator" x t i) (hx : x.cps[i]? = some c) (hne : e ≠ it)
    (hQ : ∀ h' item ti, item = .str ⟨#[c]⟩ s.toks → IsEnumOut h' e it ((i : Int) + 1) item s.heap.objs.size → h'.IsStrIter it "str_ascii_iterator" x t (i + 1) →
      h'.get? s.heap.objs.size = some { cls := .type "tuple", data := .seq #[.int i ti, item] } → h'.objs.size = s.heap.objs.size + 1 →
      (∀ b o, b ≠ e → b ≠ it → s.heap.get? b = some o → h'.get? b = some o) → Q (.ref s.heap.objs.size) { s with heap := h', toks := s.toks + 1 + 1 }) :
    wpAny (model prog w) A (Builtin.«enumerate.__next__» ⟨[.ref e], []⟩) (fun fin s' => ∃ v, fin = .done (.ret v) ∧ Q v s') E s := by
  obtain ⟨hp, g, d, tk, os⟩ := s
  show wpAny _ _ (field (.ref e) 2 >>= _) _ _ _
  refine wpAny_bind (wpAny_field he rfl (x := .ref it) rfl ?_)
  refine wpAny_bind (nextOf_ascii_item hit hx fun h₁ hit₁ hs₁ => ?_)
  replace hs₁ : Heap.SameBut it hp h₁ := hs₁
  have he₁ : IsEnum h₁ e it i old := (hs₁.2 e hne).trans he
  show wpAny _ _ (field (.ref e) 3 >>= _) _ _ ⟨h₁, g, d, tk + 1, os⟩
  refine wpAny_bind (wpAny_field he₁ rfl (x := rawInt i) rfl ?_)
  show wpAny _ _ (field (.ref e) 4 >>= _) _ _ ⟨h₁, g, d, tk + 1, os⟩
  refine wpAny_bind (wpAny_field he₁ rfl (x := .none) rfl ?_)
  show wpAny _ _ (mkInt i >>= _) _ _ ⟨h₁, g, d, tk + 1, os⟩
  refine wpAny_bind (wpAny_mkInt ?_)
  show wpAny _ _ (setField (.ref e) 3 (rawInt ((i : Int) + 1)) >>= _) _ _ ⟨h₁, g, d, tk + 1 + 1, os⟩
  refine wpAny_bind (wpAny_setField_rec he₁ (by simp) fun h₂ he₂ hs₂ => ?_)
  replace hs₂ : Heap.SameBut e h₁ h₂ := hs₂
  replace he₂ : IsEnum h₂ e it ((i : Int) + 1) old := he₂
  show wpAny _ _ (setField (.ref e) 4 .none >>= _) _ _ ⟨h₂, g, d, tk + 1 + 1, os⟩
  refine wpAny_bind (wpAny_setField_rec he₂ (by simp) fun h₃ he₃ hs₃ => ?_)
  replace hs₃ : Heap.SameBut e h₂ h₃ := hs₃
  replace he₃ : IsEnum h₃ e it ((i : Int) + 1) old := he₃
  generalize hitem : Value.str ⟨#[c]⟩ (Shared.toks ⟨hp, g, d, tk, os⟩) = item
  generalize hti : tk + 1 = ti
  show wpAny _ _ (newTuple [.int i ti, item] >>= _) _ _ ⟨h₃, g, d, ti + 1, os⟩
  refine wpAny_bind (wpAny_newTuple ?_)
  have he₄ : IsEnum (h₃.push { cls := .type "tuple", data := .seq #[.int i ti, item] }) e it ((i : Int) + 1) old := Heap.get?_push_of_some _ he₃
  generalize hh₄ : h₃.push { cls := .type "tuple", data := .seq #[.int i ti, item] } = h₄ at he₄
  have hsz : h₃.objs.size = hp.objs.size := by rw [hs₃.1, hs₂.1, hs₁.1]
  have hel : e < hp.objs.size := Heap.lt_size he
  have ht₄ : h₄.get? hp.objs.size = some { cls := .type "tuple", data := .seq #[.int i ti, item] } := by rw [← hh₄, ← hsz]; exact Heap.get?_push_size _ rfl
  have hz₄ : h₄.objs.size = hp.objs.size + 1 := by rw [← hh₄, Heap.size_push, hsz]
  have hk₄ : ∀ b o, b ≠ e → b ≠ it → hp.get? b = some o → h₄.get? b = some o := fun b o hbe hbi hb => by
    rw [← hh₄]; exact Heap.get?_push_of_some _ (hs₃.extBut b o hbe (hs₂.extBut b o hbe (hs₁.extBut b o hbi hb)))
  have hit₄ : h₄.IsStrIter it "str_ascii_iterator" x t (i + 1) := by
    rw [← hh₄]; obtain ⟨o, ho, r⟩ := (hit₁.extBut hs₂.extBut (Ne.symm hne)).extBut hs₃.extBut (Ne.symm hne); exact ⟨o, Heap.get?_push_of_some _ ho, r⟩
  show wpAny _ _ (Builtin.SmallTypes.ownedTupleIsFree (.ref e) >>= _) _ _ ⟨h₄, g, d, ti + 1, os⟩
  rw [hsz]
  clear hh₄ he₃ hs₃ he₂ hs₂ he₁ hs₁ hit₁ hsz h₃ h₂ h₁
  refine wpAny_bind ?_
  unfold Builtin.SmallTypes.ownedTupleIsFree
  refine wpAny_bind (wpAny_field he₄ rfl (x := .none) rfl (wpAny_pure ?_))
  simp only [if_true]
  refine wpAny_bind (wpAny_rule ?_)
  refine wpAny_bind (wpAny_field he₄ rfl (x := old) rfl ?_)
  refine wpAny_bind (wpAny_setField_rec he₄ (by simp) fun h₅ he₅ hs₅ => ?_)
  replace hs₅ : Heap.SameBut e h₄ h₅ := hs₅
  replace he₅ : IsEnum h₅ e it ((i : Int) + 1) item := he₅
  show wpAny _ _ (Builtin.SmallTypes.ownedTupleHandOut (.ref e) (.ref hp.objs.size) >>= _) _ _ ⟨h₅, g, d, ti + 1, os⟩
  refine wpAny_bind ?_
  unfold Builtin.SmallTypes.ownedTupleHandOut
  refine wpAny_bind (wpAny_setField_rec he₅ (by simp) fun h₆ he₆ hs₆ => ?_)
  replace hs₆ : Heap.SameBut e h₅ h₆ := hs₆
  replace he₆ : IsEnumOut h₆ e it ((i : Int) + 1) item hp.objs.size := he₆
  refine wpAny_setField_rec he₆ (by simp) fun h₇ he₇ hs₇ => ?_
  replace hs₇ : Heap.SameBut e h₆ h₇ := hs₇
  replace he₇ : IsEnumOut h₇ e it ((i : Int) + 1) item hp.objs.size := he₇
  subst hti
  refine wpAny_bind (wpAny_letGo (wpAny_pure ⟨_, rfl, hQ h₇ item (tk + 1) hitem.symm he₇ ?_ ?_ ?_ ?_⟩))
  · exact ((hit₄.extBut hs₅.extBut (Ne.symm hne)).extBut hs₆.extBut (Ne.symm hne)).extBut hs₇.extBut (Ne.symm hne)
  · exact hs₇.extBut _ _ (Nat.ne_of_gt hel) (hs₆.extBut _ _ (Nat.ne_of_gt hel) (hs₅.extBut _ _ (Nat.ne_of_gt hel) ht₄))
  · rw [hs₇.1, hs₆.1, hs₅.1, hz₄]
  · exact fun b o hbe hbi hb => hs₇.extBut b o hbe (hs₆.extBut b o hbe (hs₅.extBut b o hbe (hk₄ b o hbe hbi hb)))
theorem pyNext_enum_str {e it : Addr} {x : Str} {t : Tok} {i c : Nat} {old : Value} {Q : Option Value → Shared → Prop}
    (he : IsEnum s.heap e it i old) (hit : s.heap.IsStrIter it "str_ascii_iterator" x t i) (hx : x.cps[i]? = some c) (hne : e ≠ it)
    (hQ : ∀ h' item ti, item = .str ⟨#[c]⟩ s.toks → IsEnumOut h' e it ((i : Int) + 1) item s.heap.objs.size → h'.IsStrIter it "str_ascii_iterator" x t (i + 1) →
      h'.get? s.heap.objs.size = some { cls := .type "tuple", data := .seq #[.int i ti, item] } → h'.objs.size = s.heap.objs.size + 1 →
      (∀ b o, b ≠ e → b ≠ it → s.heap.get? b = some o → h'.get? b = some o) → Q (some (.ref s.heap.objs.size)) { s with heap := h', toks := s.toks + 1 + 1 }) :
    wpAny (model prog w) A (pyNext (.ref e)) Q E s := by
  have hT : s.TypeIs (.ref e) "enumerate" := ⟨_, he, rfl⟩
  unfold pyNext
  exact wpAny_bind (wpAny_attempt (wpAny_callSpecial?_slot (name := Str.ofString "__next__") hT F.slot_enumerate_next
    (wpAny_call_entry F.slot_enumerate_next hT F.entry_enumerate_next
      (enum_next_str he hit hx hne fun h' item ti z a b c d k => wpAny_pure (hQ h' item ti z a b c d k)) (F.args_enumerate_next_1 _))))
theorem pyNext_enum_str_end {e it : Addr} {x : Str} {t : Tok} {i : Nat} {old : Value} {Q : Option Value → Shared → Prop} (hh : A.handled = none)
    (he : IsEnum s.heap e it i old) (hit : s.heap.IsStrIter it "str_ascii_iterator" x t i) (hx : x.cps[i]? = none)
    (hQ : ∀ h', Heap.ExtBut it s.heap h' → Q none { s with heap := h' }) : wpAny (model prog w) A (pyNext (.ref e)) Q E s := by
  have hT : s.TypeIs (.ref e) "enumerate" := ⟨_, he, rfl⟩
  unfold pyNext
  refine wpAny_bind (wpAny_attempt (wpAny_callSpecial?_slot (name := Str.ofString "__next__") hT F.slot_enumerate_next
    (wpAny_call_entry F.slot_enumerate_next hT F.entry_enumerate_next ?_ (F.args_enumerate_next_1 _))))
  show wpAny _ _ (field (.ref e) 2 >>= _) _ _ _
  refine wpAny_bind (wpAny_field he rfl (x := .ref it) rfl ?_)
  refine wpAny_bind (nextOf_ascii_end hh hit hx fun h' y he' hy => ?_)
  obtain ⟨o, ho, hc⟩ := hy
  refine wpAny_bind (wpAny_isInstance (T := "StopIteration") (b := true) ⟨o, ho, hc⟩ isSubtype_stop ?_)
  exact wpAny_pure (hQ _ he')
end
end Mine
-- WGen
open Sem (wp)
namespace Mine
abbrev sPos : Str := Str.ofString "pos"
abbrev sEsc : Str := Str.ofString "escape"
abbrev sCh : Str := Str.ofString "ch"
abbrev sAddr : Str := Str.ofString "addr"
def GenView (hb : Heap) (C E I : Addr) (x : Str) (t : Tok) (j : Nat) (h : Heap) : Prop :=
  (∃ u, Fr hb C h (pinB u [(sEsc, .bool false)])) ∧ (∃ old, IsEnum h E I (j : Int) old) ∧ h.IsStrIter I "str_ascii_iterator" x t j
def Since (C E I : Addr) (s₀ s : Shared) : Prop :=
  ∃ h' tk, s = { s₀ with heap := h', toks := tk } ∧ ∀ b o, b ≠ C → b ≠ E → b ≠ I → s₀.heap.get? b = some o → h'.get? b = some o
theorem Since.refl (C E I : Addr) (s : Shared) : Since C E I s s := ⟨s.heap, s.toks, rfl, fun _ _ _ _ _ e => e⟩
theorem Since.step {C E I : Addr} {s₀ s : Shared} (x : Since C E I s₀ s) {h' : Heap} {tk : Nat} (hk : ∀ b o, b ≠ C → b ≠ E → b ≠ I → s.heap.get? b = some o → h'.get? b = some o) :
    Since C E I s₀ { s with heap := h', toks := tk } := by
  obtain ⟨h₁, tk₁, rfl, hk₁⟩ := x
  exact ⟨h', tk, rfl, fun b o h1 h2 h3 e => hk b o h1 h2 h3 (hk₁ b o h1 h2 h3 e)⟩
def genR (C E I : Addr) : Nat → Shared → Shared → Prop := fun n s₀ s₁ => n = 0 ∧ Since C E I s₀ s₁
def genY (hb : Heap) (C E I : Addr) (x : Str) (t : Tok) : Protocol := fun m s₀ v s kap =>
  ∃ T ti tc c, v = .ref T ∧ s.heap.IsTuple T #[.int ((x.cps.size - 1 - m : Nat) : Int) ti, .str ⟨#[c]⟩ tc] ∧ m < x.cps.size ∧ x.cps[x.cps.size - 1 - m]? = some c ∧ Since C E I s₀ s ∧
    GenView hb C E I x t (x.cps.size - m) s.heap ∧ ∀ s'' : Shared, GenView hb C E I x t (x.cps.size - m) s''.heap → kap (.send .none) s''
local macro_rules | `(tactic| k_steps) => `(tactic| repeat' (first | ((fail_if_success (with_reducible show Seg _ _ _ _ _ _ _ _ _ _)); (first | (k_unfold; (try dsimp only)) | (k_end; wrow_close) | walk1 | (dsimp only; walk1) | (leave1; walk_say "STEP leave1"; try dsimp only) | fail "no step"))))
section
variable {prog : Program} {w : World} {A : Around}
theorem gen_loop {hb : Heap} {C E I : Addr} {x : Str} {t : Tok} {nm : Str} {scope : Scope} {fa : Addr} {cd : Value} {K : Frag}
    {p1 p2 p3 p4 p5 p6 p7 p8 p9 p10 p11 p12 p13 p14 : Pos} {k1 k2 k3 : Nat} {b1 b2 : List Stmt} {K' : Result → Sem Fin} {l0 : List Value} {c₁ : Code} {q₁ : Pos}
    (hh : A.handled = none) (hno : 92 ∉ x.cps) (XK : K.In hb)
    (hk : scope.kind = .function) (hco : scope.isCoroutine = false)
    (kp : (envOf nm scope C fa cd).kindOf sPos = some .local) (ke : (envOf nm scope C fa cd).kindOf sEsc = some .local) (kc : (envOf nm scope C fa cd).kindOf sCh = some .local)
    (hCE : C ≠ E) (hCI : C ≠ I) (hEI : E ≠ I) (hbE : hb.get? E = none) (hbI : hb.get? I = none)
    (hend : ∀ s₀ s, Since C E I s₀ s → (∃ u, Fr hb C s.heap (pinB u [(sEsc, .bool false)])) →
      Seg (model prog w) A (fun n s₀ r s₁ => r = .ok (.ret .none) ∧ genR C E I n s₀ s₁) (genY hb C E I x t) 0 s₀ c₁ (K' (.ok .next)) [] s) :
    ∀ (k j : Nat) (s₀ s : Shared), j + k = x.cps.size → GenView hb C E I x t j s.heap → Since C E I s₀ s →
      Seg (model prog w) A (fun n s₀ r s₁ => r = .ok (.ret .none) ∧ genR C E I n s₀ s₁) (genY hb C E I x t) k s₀
        (.forLoop (.Tuple [.Name sPos p1, .Name sCh p2] k1 p3) (.ref E)
          [.If (.Name sEsc p4) b1 [.If (.Compare (.Name sCh p5) [.Eq] [.Constant (.str (Str.ofString "\\")) k2 p6] p7) b2 [.Expr (.Yield (some (.Tuple [.Name sPos p8, .Name sCh p9] k3 p10)) p11) p12] p13] p14] [] (envOf nm scope C fa cd))
        ((model prog w).den (.forLoop (.Tuple [.Name sPos p1, .Name sCh p2] k1 p3) (.ref E)
          [.If (.Name sEsc p4) b1 [.If (.Compare (.Name sCh p5) [.Eq] [.Constant (.str (Str.ofString "\\")) k2 p6] p7) b2 [.Expr (.Yield (some (.Tuple [.Name sPos p8, .Name sCh p9] k3 p10)) p11) p12] p13] p14] [] (envOf nm scope C fa cd)))
        [.ret K' none false l0 c₁ q₁ []] s := by
  have hhA : ∀ c, (A.over c [.ret K' none false l0 c₁ q₁ []]).handled = none := fun c => by
    show (marksOver [.ret K' none false l0 c₁ q₁ []] (A.handled, A.handled)).1 = none
    rw [hh]
    rfl
  intro k
  induction k with
  | zero =>
    intro j s₀ s hj hv hs
    obtain ⟨⟨u, F⟩, ⟨old, he⟩, hit⟩ := hv
    show Seg _ A _ _ _ s₀ _ ((forTurn _ (.ref E) _ [] (envOf nm scope C fa cd)).onRaise (fun x => do noteFrame x (envOf nm scope C fa cd); theTreesLotGoes x)) _ s
    unfold forTurn
    rw [Sem.onRaise_eq_wrap]
    refine seg_bind_wrap (wpAny_standAt ?_)
    have hx : x.cps[j]? = none := by
      rw [Array.getElem?_eq_none_iff]; omega
    refine seg_bind_wrap (wpAny_onRaise (pyNext_enum_str_end (hhA _) he hit hx fun h' ext => ?_))
    refine seg_again rfl ?_
    refine seg_leaf (.ok .next) ?_
    have F' : Fr hb C h' (pinB u [(sEsc, .bool false)]) := ⟨F.ns.at' fun o e => ext C o hCI e, fun b o e => ext b o (fun h => by rw [h, hbI] at e; cases e) (F.keep b o e), F.above⟩
    exact hend _ _ (hs.step fun b o _ _ h3 e => ext b o h3 e) ⟨u, F'⟩
  | succ k ih =>
    intro j s₀ s hj hv hs
    obtain ⟨⟨u, F⟩, ⟨old, he⟩, hit⟩ := hv
    obtain ⟨c, hx⟩ : ∃ c, x.cps[j]? = some c := ⟨_, Array.getElem?_eq_getElem (by omega)⟩
    have hp : ((envOf nm scope C fa cd).scope.kind == .class || ((envOf nm scope C fa cd).scope.kind == .module && (envOf nm scope C fa cd).locals != (envOf nm scope C fa cd).globals)) = false := by
      show (scope.kind == .class || (scope.kind == .module && C != mainGlobals)) = false
      rw [hk]; rfl
    have hc92 : c ≠ 92 := fun h => hno (h ▸ Array.mem_of_getElem? hx)
    show Seg _ A _ _ _ s₀ _ ((forTurn _ (.ref E) _ [] (envOf nm scope C fa cd)).onRaise (fun x => do noteFrame x (envOf nm scope C fa cd); theTreesLotGoes x)) _ s
    unfold forTurn
    rw [Sem.onRaise_eq_wrap]
    refine seg_bind_wrap (wpAny_standAt ?_)
    refine seg_bind_wrap (wpAny_onRaise (pyNext_enum_str he hit hx hEI fun h₁ item ti hitem heo hit₁ ht₁ hz₁ hk₁ => ?_))
    refine seg_bind_wrap (wpAny_letOwnedTupleGo_enum heo fun h₂ he₂ hs₂ => ?_)
    replace hs₂ : Heap.SameBut E h₁ h₂ := hs₂
    have heH : E < s.heap.objs.size := Heap.lt_size he
    have hIH : I < s.heap.objs.size := by obtain ⟨o, ho, _⟩ := hit; exact Heap.lt_size ho
    have hCH : C < s.heap.objs.size := F.ns.lt
    have ht₂ : h₂.IsTuple s.heap.objs.size #[.int j ti, item] := ⟨_, (hs₂.2 _ (Nat.ne_of_gt heH)).trans ht₁, rfl, _, rfl⟩
    have hz₂ : h₂.objs.size = s.heap.objs.size + 1 := hs₂.1.trans hz₁
    refine seg_bind_wrap (wpAny_assign_Tuple (hhA _) ht₂ rfl rfl fun h₃ hx₃ => ?_)
    replace hx₃ : Heap.ExtBut h₂.objs.size h₂ h₃ := hx₃
    have old₃ : ∀ b o, b < s.heap.objs.size → h₂.get? b = some o → h₃.get? b = some o := fun b o hb e => hx₃ b o (by rw [hz₂]; exact Nat.ne_of_lt (Nat.lt_succ_of_lt hb)) e
    have up₃ : ∀ b o, b ≠ E → b ≠ I → s.heap.get? b = some o → h₃.get? b = some o := fun b o h1 h2 e => old₃ b o (Heap.lt_size e) ((hs₂.2 b h1).trans (hk₁ b o h1 h2 e))
    have F₃ : Fr hb C h₃ (pinB u [(sEsc, .bool false)]) := ⟨F.ns.at' fun o e => up₃ C o hCE hCI e, fun b o e => up₃ b o (fun h => by rw [h, hbE] at e; cases e) (fun h => by rw [h, hbI] at e; cases e) (F.keep b o e), F.above⟩
    have he₃ : IsEnum h₃ E I ((j : Int) + 1) item := old₃ _ _ heH he₂
    have hit₃ : h₃.IsStrIter I "str_ascii_iterator" x t (j + 1) := by
      obtain ⟨o, ho, r⟩ := hit₁
      exact ⟨o, old₃ _ _ hIH ((hs₂.2 I (Ne.symm hEI)).trans ho), r⟩
    show wpAny _ _ (do holding [item] (assign (.Name sPos p1) (envOf nm scope C fa cd) (.int j ti)); do holding [] (assign (.Name sCh p2) (envOf nm scope C fa cd) item); pure ()) _ _ _
    refine wpAny_bind (wpAny_holding (wpAny_assign_Name (wpAny_storeName_local kp F₃.ns (fun h₄ hn₄ hs₄ => ?_) hp)))
    replace hs₄ : Heap.SameBut C h₃ h₄ := hs₄
    have F₄ := F₃.set hn₄ hs₄
    refine wpAny_bind (wpAny_holding (wpAny_assign_Name (wpAny_storeName_local kc F₄.ns (fun h₅ hn₅ hs₅ => wpAny_pure ?_) hp)))
    replace hs₅ : Heap.SameBut C h₄ h₅ := hs₅
    have F₅ := F₄.set hn₅ hs₅
    have he₅ : IsEnum h₅ E I ((j : Int) + 1) item := (hs₅.2 E (Ne.symm hCE)).trans ((hs₄.2 E (Ne.symm hCE)).trans he₃)
    have hit₅ : h₅.IsStrIter I "str_ascii_iterator" x t (j + 1) := by
      obtain ⟨o, ho, r⟩ := hit₃
      exact ⟨o, (hs₅.2 I (Ne.symm hCI)).trans ((hs₄.2 I (Ne.symm hCI)).trans ho), r⟩
    have up₅ : ∀ b o, b ≠ C → b ≠ E → b ≠ I → s.heap.get? b = some o → h₅.get? b = some o := fun b o h0 h1 h2 e => (hs₅.2 b h0).trans ((hs₄.2 b h0).trans (up₃ b o h1 h2 e))
    rw [Sem.bind_eq_wrap', Sem.wrap_wrap]
    refine seg_execs_cons ?_
    rw [exec_If]
    refine seg_bind_wrap (wpAny_standAt ?_)
    refine seg_bind_wrap (isTrue_plain (ld F₅ rfl (wpAny_truthy_bool ?_) hk ke))
    rw [if_neg Bool.false_ne_true]
    refine seg_execs_cons ?_
    rw [exec_If]
    refine seg_bind_wrap (wpAny_standAt ?_)
    refine seg_bind_wrap ?_
    subst hitem
    refine wpAny_isTrue_Compare1 (ld F₅ rfl (wpAny_Constant_str (PyProof.Rows.eq_str (wpAny_truthy_bool ?_))) hk kc)
    have hne : ((⟨#[c]⟩ : Str) == Str.ofString "\\") = false := by
      have := T_beq [c] [92]
      rw [show T [c] = (⟨#[c]⟩ : Str) from rfl, show T [92] = Str.ofString "\\" from rfl] at this
      rw [this]; simp [hc92]
    rw [hne, if_neg Bool.false_ne_true]
    refine seg_execs_cons ?_
    refine seg_Expr_Yield rfl rfl rfl ?_ hco (by unfold interactive; simp [envOf, hk])
    refine Tuple_ (spliced_more (ld F₅ rfl (spliced_more (ld F₅ rfl (spliced_none ?_) hk kc)) hk kp))
    refine wpAny_newTuple ?_
    intro kap hkap
    have hsz : x.cps.size - 1 - k = j := by omega
    have hsz2 : x.cps.size - k = j + 1 := by omega
    have key : ∀ s'' : Shared, GenView hb C E I x t (j + 1) s''.heap → kap (.send .none) s'' := fun s'' hv' =>
      hkap .none s'' (seg_again rfl (ih (j + 1) s'' s'' (by omega) hv' (Since.refl _ _ _ _)))
    refine ⟨_, ti, s.toks, c, rfl, ?_, by omega, by rw [hsz]; exact hx, ?_, ?_, ?_⟩
    · rw [hsz]
      exact ⟨_, Heap.get?_push_size _ rfl, rfl, _, rfl⟩
    · exact hs.step fun b o h0 h1 h2 e => Heap.get?_push_of_some _ (up₅ b o h0 h1 h2 e)
    · rw [hsz2]
      refine ⟨Fr.pins (F₅.push _) (Pinned.cons rfl Pinned.nil), ⟨Value.str ⟨#[c]⟩ s.toks, ?_⟩, ?_⟩
      · have e1 : ((j + 1 : Nat) : Int) = (j : Int) + 1 := by omega
        rw [e1]
        exact Heap.get?_push_of_some _ he₅
      · obtain ⟨o, ho, r⟩ := hit₅
        exact ⟨o, Heap.get?_push_of_some _ ho, r⟩
    · rw [hsz2]; exact key
end
end Mine
-- WGen2
open Sem (wp)
namespace Mine
section
variable {prog : Program} {w : World} {A : Around}
theorem gen_start {hb : Heap} {C : Addr} {x : Str} {t : Tok} {nm : Str} {scope : Scope} {fa : Addr} {cd : Value} {K : Frag} {iter : Expr}
    {p1 p2 p3 p4 p5 p6 p7 p8 p9 p10 p11 p12 p13 p14 r1 r2 r3 r4 r5 r6 r7 r8 r9 : Pos} {k1 k2 k3 k4 k5 : Nat} {b1 b2 b3 : List Stmt} {u : Str → Option Value} {s : Shared}
    (hh : A.handled = none) (hno : 92 ∉ x.cps) (hasc : x.cps.all (· < 128) = true) (XK : K.In hb)
    (hk : scope.kind = .function) (hco : scope.isCoroutine = false)
    (kp : (envOf nm scope C fa cd).kindOf sPos = some .local) (ke : (envOf nm scope C fa cd).kindOf sEsc = some .local) (kc : (envOf nm scope C fa cd).kindOf sCh = some .local)
    (hfold : ∀ v, foldedSetIterable iter (envOf nm scope C fa cd) v = pure v)
    (hiter : ∀ (A' : Around) (u : Str → Option Value) (s : Shared) (Q E : Value → Shared → Prop), A'.handled = none → Fr hb C s.heap (pinB u [(sAddr, .str x t)]) →
      (∀ tk, wpAny (model prog w) A' (call (.type "enumerate") [.str x t]) Q E { s with toks := tk }) → wpAny (model prog w) A' (eval iter (envOf nm scope C fa cd)) Q E s)
    (F : Fr hb C s.heap (pinB u [(sAddr, .str x t)])) :
    Seg (model prog w) A (fun n s₀ r s₁ => r = .ok (.ret .none) ∧ genR C (s.heap.objs.size + 1) s.heap.objs.size n s₀ s₁) (genY hb C (s.heap.objs.size + 1) s.heap.objs.size x t) x.cps.size s
        (.func [.Assign [.Name sPos r1] (.Constant (.int 0) k4 r2) r3, .Assign [.Name sEsc r4] (.Constant (.bool false) k5 r5) r6,
          .For (.Tuple [.Name sPos p1, .Name sCh p2] k1 p3) iter
          [.If (.Name sEsc p4) b1 [.If (.Compare (.Name sCh p5) [.Eq] [.Constant (.str (Str.ofString "\\")) k2 p6] p7) b2 [.Expr (.Yield (some (.Tuple [.Name sPos p8, .Name sCh p9] k3 p10)) p11) p12] p13] p14] [] r7,
          .If (.Name sEsc r8) b3 [] r9] (envOf nm scope C fa cd))
        ((model prog w).den (.func [.Assign [.Name sPos r1] (.Constant (.int 0) k4 r2) r3, .Assign [.Name sEsc r4] (.Constant (.bool false) k5 r5) r6,
          .For (.Tuple [.Name sPos p1, .Name sCh p2] k1 p3) iter
          [.If (.Name sEsc p4) b1 [.If (.Compare (.Name sCh p5) [.Eq] [.Constant (.str (Str.ofString "\\")) k2 p6] p7) b2 [.Expr (.Yield (some (.Tuple [.Name sPos p8, .Name sCh p9] k3 p10)) p11) p12] p13] p14] [] r7,
          .If (.Name sEsc r8) b3 [] r9] (envOf nm scope C fa cd)))
        [] s := by
  have hhA : ∀ c, (A.over c []).handled = none := fun c => hh
  have hp : ((envOf nm scope C fa cd).scope.kind == .class || ((envOf nm scope C fa cd).scope.kind == .module && (envOf nm scope C fa cd).locals != (envOf nm scope C fa cd).globals)) = false := by
    show (scope.kind == .class || (scope.kind == .module && C != mainGlobals)) = false
    rw [hk]; rfl
  refine seg_func ?_
  refine seg_execs_cons (seg_wrap ?_)
  refine wpAny_Assign_Name (wpAny_Constant_int (wpAny_storeName_local kp F.ns (fun h₁ hn₁ hs₁ => ?_) hp))
  replace hs₁ : Heap.SameBut C s.heap h₁ := hs₁
  have F₁ := F.set hn₁ hs₁
  refine seg_execs_cons (seg_wrap ?_)
  refine wpAny_Assign_Name (wpAny_Constant_bool (wpAny_storeName_local ke F₁.ns (fun h₂ hn₂ hs₂ => ?_) hp))
  replace hs₂ : Heap.SameBut C h₁ h₂ := hs₂
  have F₂ := F₁.set hn₂ hs₂
  refine seg_execs_cons ?_
  rw [exec_For]
  refine seg_bind_wrap (wpAny_standAt ?_)
  obtain ⟨u', F₂'⟩ := Fr.pins F₂ (ps := [(sAddr, .str x t)]) (Pinned.cons rfl Pinned.nil)
  refine seg_bind_wrap (hiter _ _ _ _ _ (hhA _) F₂' fun tk => call_enumerate_str hasc fun h₃ he₃ hit₃ hz₃ hk₃ => ?_)
  have hz : h₂.objs.size = s.heap.objs.size := hs₂.1.trans hs₁.1
  dsimp only at he₃ hit₃ hz₃ hk₃
  rw [hz] at he₃ hit₃ hz₃
  dsimp only
  rw [hz, hfold]
  refine seg_bind_wrap (wpAny_pure ?_)
  refine seg_bind_wrap (wpAny_standAt ?_)
  refine seg_bind_wrap (wpAny_holding (wpAny_pyIter_enum he₃ ?_))
  refine seg_call (fun p => ?_)
  have hCs : C < s.heap.objs.size := F.ns.lt
  have hbn : ∀ b, s.heap.objs.size ≤ b → hb.get? b = none := fun b hbz => Heap.get?_none_of_le (Nat.le_trans (Nat.le_of_lt (Nat.lt_of_le_of_lt F.above hCs)) hbz)
  have kept : ∀ b o, b ≠ C → s.heap.get? b = some o → h₃.get? b = some o := fun b o h0 e => hk₃ b o ((hs₂.2 b h0).trans ((hs₁.2 b h0).trans e))
  have F₃ : Fr hb C h₃ (pinB u' [(sAddr, .str x t)]) := ⟨F₂'.ns.at' fun o e => hk₃ C o e, fun b o e => hk₃ b o (F₂.keep b o e), F₂.above⟩
  have F₃' : ∃ u, Fr hb C h₃ (pinB u [(sEsc, .bool false)]) := Fr.pins (m := fun y => if y = sEsc then some (.bool false) else if y = sPos then some (.int 0 s.toks) else pinB u [(sAddr, .str x t)] y) ⟨F₂.ns.at' fun o e => hk₃ C o e, F₃.keep, F₂.above⟩ (Pinned.cons rfl Pinned.nil)
  refine gen_loop hh hno XK hk hco kp ke kc (Nat.ne_of_lt (Nat.lt_succ_of_lt hCs)) (Nat.ne_of_lt hCs) (Nat.succ_ne_self _) (hbn _ (Nat.le_succ _)) (hbn _ (Nat.le_refl _)) ?_ x.cps.size 0 s _ (Nat.zero_add _) ⟨F₃', ⟨_, he₃⟩, hit₃⟩
    ⟨h₃, _, rfl, fun b o h0 _ _ e => kept b o h0 e⟩
  rintro s₀ s' hsince ⟨u, Fe⟩
  show Seg _ _ _ _ 0 s₀ _ ((execs [.If (.Name sEsc r8) b3 [] r9] (envOf nm scope C fa cd)).wrap _ _ _ _) [] s'
  refine seg_execs_cons ?_
  rw [exec_If]
  refine seg_bind_wrap (wpAny_standAt ?_)
  refine seg_bind_wrap (isTrue_plain (ld Fe rfl (wpAny_truthy_bool ?_) hk ke))
  rw [if_neg Bool.false_ne_true]
  refine seg_execs_nil ?_
  refine seg_execs_nil ?_
  exact seg_end (.ok (.ret .none)) ⟨rfl, rfl, hsince⟩
end
end Mine
-- WGen3
open Sem (wp)
namespace Mine
theorem push_set {G : Array GenState} {a b : GenState} : (G.push a).setIfInBounds G.size b = G.push b := by
  apply Array.ext
  · simp
  · intro i h1 h2
    rw [Array.getElem_setIfInBounds]
    · by_cases h : i = G.size
      · subst h; simp
      · rw [if_neg (Ne.symm h)]
        simp only [Array.size_push] at h2
        have h3 : i < G.size := by omega
        rw [Array.getElem_push_lt h3, Array.getElem_push_lt h3]
    · simpa using h1
section
variable {prog : Program} {w : World} {A : Around} {s : Shared}
def Kept (C E I : Addr) (h h' : Heap) : Prop := ∀ b o, b ≠ C → b ≠ E → b ≠ I → h.get? b = some o → h'.get? b = some o
def GoesOn (prog : Program) (w : World) (A : Around) (hb : Heap) (C E I : Addr) (x : Str) (t : Tok) (j : Nat) (gs : GenState) (s : Shared) : Prop :=
  gs.Goes (model prog w) A (fun n s₀ r s₁ => r = .ok (.ret .none) ∧ genR C E I n s₀ s₁) (genY hb C E I x t) (x.cps.size - j) (.send .none) s
theorem gen_next {hb : Heap} {C E I a : Addr} {x : Str} {t : Tok} {j : Nat} {G : Array GenState} {gs : GenState} {Q : Option Value → Shared → Prop} {E' : Value → Shared → Prop}
    (hh : A.handled = none) (hl : s.heap.NoLimit) (hroom : A.depth < recursionLimit) (hs : s.gens = G.push gs) (hg : s.heap.IsGen a G.size) (hj : j ≤ x.cps.size)
    (hgo : GoesOn prog w A.in1 hb C E I x t j gs { s with gens := G.push .running })
    (hitem : ∀ T ti tc c h' tk gs', h'.IsTuple T #[.int j ti, .str ⟨#[c]⟩ tc] → x.cps[j]? = some c → j < x.cps.size → Kept C E I s.heap h' → GenView hb C E I x t (j + 1) h' →
      (∀ s'' : Shared, GenView hb C E I x t (j + 1) s''.heap → GoesOn prog w A.in1 hb C E I x t (j + 1) gs' s'') → Q (some (.ref T)) { s with heap := h', toks := tk, gens := G.push gs' })
    (hend : j = x.cps.size → ∀ h' tk, Kept C E I s.heap h' → Q none { s with heap := h', toks := tk, gens := G.push .finished }) :
    wpAny (model prog w) A (pyNext (.ref a)) Q E' s := by
  have hset : ∀ y, s.setGen G.size y = { s with gens := G.push y } := fun y => by
    unfold Shared.setGen
    rw [hs, push_set]
  have hgs : s.gens[G.size]? = some gs := by rw [hs]; exact Array.getElem?_push_size ..
  refine wpAny_pyNext_gen (P := genR C E I) (Y := genY hb C E I x t) (n := x.cps.size - j) hh hl hroom hg hgs (by rw [hset]; exact hgo) (fun v s₁ gs' hy => ?_) (fun s₁ hp h' hk => ?_)
  · rw [hset] at hy
    obtain ⟨T, ti, tc, c, rfl, hT, hm, hc, ⟨h', tk, rfl, hkept⟩, hv, hkap⟩ := hy
    cases hn : x.cps.size - j with
    | zero =>
      rw [hn] at hkap hv
      exact (hkap _ hv).elim
    | succ m =>
      rw [hn] at hT hc hv hkap
      simp only [Nat.add_sub_cancel] at hT hc hv hkap
      have e1 : x.cps.size - 1 - m = j := by omega
      have e2 : x.cps.size - m = j + 1 := by omega
      have e3 : x.cps.size - (j + 1) = m := by omega
      rw [e1] at hT hc
      rw [e2] at hv hkap
      have hres := hitem T ti tc c h' tk gs' hT hc (by omega) hkept hv (fun s'' hv' => by unfold GoesOn; rw [e3]; exact hkap s'' hv')
      have e4 : Shared.setGen { ({ s with gens := G.push .running } : Shared) with heap := h', toks := tk } G.size gs' = { s with heap := h', toks := tk, gens := G.push gs' } := by
        unfold Shared.setGen
        simp only [push_set]
      rw [e4]
      exact hres
  · rw [hset] at hp
    obtain ⟨hn, h₁, tk, rfl, hkept⟩ := hp
    have hres := hend (by omega) h' tk (fun b o h0 h1 h2 e => hk b o (hkept b o h0 h1 h2 e))
    have e4 : ({ Shared.setGen { ({ s with gens := G.push .running } : Shared) with heap := h₁, toks := tk } G.size .finished with heap := h' } : Shared) = { s with heap := h', toks := tk, gens := G.push .finished } := by
      unfold Shared.setGen
      simp only [push_set]
    rw [e4]
    exact hres
theorem letOwned_gen {elts : List Expr} {x1} {pos : Pos} {a T : Addr} {g : Nat} {Q : Unit → Shared → Prop} {E : Value → Shared → Prop} (hg : s.heap.IsGen a g) (hQ : Q () s) :
    wpAny (model prog w) A (letOwnedTupleGo (.Tuple elts x1 pos) (.ref a) (.ref T)) Q E s := by
  obtain ⟨o, nm, qn, ho, hc, hd, _⟩ := hg
  unfold letOwnedTupleGo
  refine wpAny_bind (wpAny_load ho ?_)
  rw [hc, hd]
  show wpAny _ A (if (["enumerate", "zip", "dict_itemiterator", "dict_reverseitemiterator", "odict_iterator", "itertools.zip_longest", "itertools.pairwise"].contains "generator" &&
      (#[.int g 0, nm, qn] : Array Value)[0]? == some (rawInt T)) = true then _ else _) Q E s
  rw [if_neg (by simp)]
  exact wpAny_pure hQ
end
end Mine
-- WGen4
open Sem (wp)
namespace Mine
/-- what a turn over the generator leaves -/
def GPost {σ : Type} (h₀ : Heap) (L : Addr) (Led : σ → List (Addr × Obj)) (ps : σ → List (Str × Value)) (P : σ → Prop) (own : List (Addr × Obj)) (s : Shared) (f : Flow) (s₂ : Shared) : Prop :=
  match f with
  | .next | .cont => Out h₀ L Led ps P own s s₂
  | _ => False
section
variable {prog : Program} {w : World} {A : Around} {s : Shared} {env : Env} {h₀ : Heap}
/-- the objects of a running generator, for the ledger -/
theorem view_objs {hb h : Heap} {C E I : Addr} {x : Str} {t : Tok} {j : Nat} (v : GenView hb C E I x t j h) : ∃ oC oE oI, h.get? C = some oC ∧ h.get? E = some oE ∧ h.get? I = some oI ∧
    ∀ h', h'.get? C = some oC → h'.get? E = some oE → h'.get? I = some oI → (∀ b o, hb.get? b = some o → h'.get? b = some o) → GenView hb C E I x t j h' := by
  obtain ⟨⟨u, F⟩, ⟨old, he⟩, ⟨oi, hi, ri⟩⟩ := v
  obtain ⟨oC, _, _, hC, _⟩ := id F.ns
  refine ⟨oC, _, oi, hC, he, hi, fun h' h1 h2 h3 hk => ⟨⟨u, F.ns.at' fun o e => ?_, hk, F.above⟩, ⟨old, h2⟩, ⟨oi, h3, ri⟩⟩⟩
  have : oC = o := Option.some.inj (hC.symm.trans e)
  subst this
  exact h1
theorem gen_for {σ : Type} {xp xc : Str} {p1 p2 p3 : Pos} {k1 : Nat} {body : List Stmt} {C a : Addr} {oa : Obj} {x : Str} {t : Tok} {gc : Code} {G : Array GenState} {u₀ m : Str → Option Value} {Q : Flow → Shared → Prop} {R : Value → Shared → Prop}
    (hh : A.handled = none) (hroom : A.depth < recursionLimit) (hlim : h₀.NoLimit)
    (kp : env.kindOf xp = some .local) (kc : env.kindOf xc = some .local)
    (hp : (env.scope.kind == .class || (env.scope.kind == .module && env.locals != env.globals)) = false)
    (hgens : s.gens = G.push (.fresh gc))
    (start : ∀ s : Shared, Fr h₀ C s.heap (pinB u₀ [(sAddr, .str x t)]) → Seg (model prog w) A.in1 (fun n s₀ r s₁ => r = .ok (.ret .none) ∧ genR C (s.heap.objs.size + 1) s.heap.objs.size n s₀ s₁) (genY h₀ C (s.heap.objs.size + 1) s.heap.objs.size x t) x.cps.size s gc ((model prog w).den gc) [] s)
    (Led : σ → List (Addr × Obj)) (ps : σ → List (Str × Value)) (P : Nat → σ → Prop) (c₀ : σ)
    (hadr : ∀ c, (Led c).map (·.1) = (Led c₀).map (·.1))
    (F : Fr h₀ env.locals s.heap m) (N : News h₀ env.locals s.heap ((a, oa) :: Led c₀)) (hpin : Pinned m (ps c₀)) (h0 : P 0 c₀)
    (hisg : s.heap.IsGen a G.size) (FC : Fr h₀ C s.heap (pinB u₀ [(sAddr, .str x t)])) (hCL : C ≠ env.locals) (hCa : C ≠ a) (hCl : ∀ p ∈ Led c₀, p.1 ≠ C ∧ p.1 ≠ a)
    (turn : ∀ (E I : Addr) j c ti tc st gs oC oE oI u h tk, x.cps[j]? = some c → j < x.cps.size → P j st → (∀ p ∈ Led st, p.1 ≠ C ∧ p.1 ≠ E ∧ p.1 ≠ I ∧ p.1 ≠ a) →
      Fr h₀ env.locals h (fun y => if y = xc then some (.str ⟨#[c]⟩ tc) else if y = xp then some (.int j ti) else pinB u (ps st) y) →
      News h₀ env.locals h ((a, oa) :: (C, oC) :: (E, oE) :: (I, oI) :: Led st) →
      wpAny (model prog w) A (execs body env) (GPost h₀ env.locals Led ps (P (j + 1)) [(a, oa), (C, oC), (E, oE), (I, oI)] { s with heap := h, toks := tk, gens := G.push gs }) (fun _ _ => False) { s with heap := h, toks := tk, gens := G.push gs })
    (done : ∀ st u h tk, P x.cps.size st → Fr h₀ env.locals h (pinB u (ps st)) → News h₀ env.locals h ((a, oa) :: Led st) → Q .next { s with heap := h, toks := tk, gens := G.push .finished }) :
    codeAny (model prog w) A (.forLoop (.Tuple [.Name xp p1, .Name xc p2] k1 p3) (.ref a) body [] env) (fun r s' => match r with | .ok f => Q f s' | .error e => R e s') s := by
  have haL : a ≠ env.locals := (N _ (List.mem_cons_self ..)).2.1
  have hha : s.heap.get? a = some oa := (N _ (List.mem_cons_self ..)).1
  have hha0 : h₀.get? a = none := (N _ (List.mem_cons_self ..)).2.2
  have hC0 : h₀.get? C = none := Heap.get?_none_of_le FC.above
  have hsn : ∀ b, s.heap.objs.size ≤ b → h₀.get? b = none := fun b hbz => Heap.get?_none_of_le (Nat.le_trans (Nat.le_of_lt (Nat.lt_of_le_of_lt F.above F.ns.lt)) hbz)
  have isg : ∀ h : Heap, h.get? a = some oa → h.IsGen a G.size := fun h e => by
    obtain ⟨o, nm, qn, ho, r⟩ := hisg
    have : o = oa := Option.some.inj (ho.symm.trans hha)
    subst this
    exact ⟨o, nm, qn, e, r⟩
  refine codeAny_forLoop_any
    (fun k s' => ∃ j h tk gs m' st E I, s' = { s with heap := h, toks := tk, gens := G.push gs } ∧ j ≤ x.cps.size ∧ k = x.cps.size - j ∧ Fr h₀ env.locals h m' ∧ Pinned m' (ps st) ∧ News h₀ env.locals h ((a, oa) :: Led st) ∧ P j st ∧
      GoesOn prog w A.in1 h₀ C E I x t j gs { s' with gens := G.push .running } ∧ (∀ p ∈ Led c₀, p.1 ≠ C ∧ p.1 ≠ E ∧ p.1 ≠ I ∧ p.1 ≠ a) ∧ (a ≠ C ∧ a ≠ E ∧ a ≠ I) ∧ (env.locals ≠ C ∧ env.locals ≠ E ∧ env.locals ≠ I) ∧ h₀.get? E = none ∧ h₀.get? I = none)
    ?_ (x.cps.size - 0) ⟨0, s.heap, s.toks, .fresh gc, m, c₀, s.heap.objs.size + 1, s.heap.objs.size, ?_, Nat.zero_le _, rfl, F, hpin, N, h0, ?_, ?_, ?_, ?_, hsn _ (Nat.le_succ _), hsn _ (Nat.le_refl _)⟩
  rotate_left
  · rw [← hgens]
  · exact ⟨rfl, start { s with gens := G.push .running } FC⟩
  · intro p hp'
    have h1 := N p (List.mem_cons_of_mem _ hp')
    have h2 : p.1 < s.heap.objs.size := Heap.lt_size h1.1
    exact ⟨(hCl p hp').1, Nat.ne_of_lt (Nat.lt_succ_of_lt h2), Nat.ne_of_lt h2, (hCl p hp').2⟩
  · have h2 : a < s.heap.objs.size := Heap.lt_size hha
    exact ⟨Ne.symm hCa, Nat.ne_of_lt (Nat.lt_succ_of_lt h2), Nat.ne_of_lt h2⟩
  · have h2 : env.locals < s.heap.objs.size := F.ns.lt
    exact ⟨Ne.symm hCL, Nat.ne_of_lt (Nat.lt_succ_of_lt h2), Nat.ne_of_lt h2⟩
  rintro k s' ⟨j, h, tk, gs, m', st, E, I, rfl, hj, rfl, F', hpin', N', hP, hgo, hsep, haS, hLS, hE0, hI0⟩
  have sepOf : ∀ st', ∀ p ∈ Led st', p.1 ≠ C ∧ p.1 ≠ E ∧ p.1 ≠ I ∧ p.1 ≠ a := fun st' p hp' => by
    have h1 : p.1 ∈ (Led st').map (·.1) := List.mem_map.mpr ⟨p, hp', rfl⟩
    rw [hadr] at h1
    obtain ⟨q, hq, e⟩ := List.mem_map.mp h1
    rw [← e]; exact hsep q hq
  have old : ∀ b o, h₀.get? b = some o → b ≠ C ∧ b ≠ E ∧ b ≠ I := fun b o e => ⟨fun h => (by rw [h, hC0] at e; cases e), fun h => (by rw [h, hE0] at e; cases e), fun h => (by rw [h, hI0] at e; cases e)⟩
  have keepF : ∀ h' : Heap, Kept C E I h h' → Fr h₀ env.locals h' m' := fun h' hk => ⟨F'.ns.at' fun o e => hk _ o hLS.1 hLS.2.1 hLS.2.2 e, fun b o e => let ⟨q1, q2, q3⟩ := old b o e; hk b o q1 q2 q3 (F'.keep b o e), F'.above⟩
  have keepN : ∀ h' : Heap, Kept C E I h h' → News h₀ env.locals h' ((a, oa) :: Led st) := fun h' hk p hp' => by
    have h1 := N' p hp'
    refine ⟨?_, h1.2⟩
    rcases List.mem_cons.mp hp' with rfl | hp'
    · exact hk _ _ haS.1 haS.2.1 haS.2.2 h1.1
    · obtain ⟨q1, q2, q3, _⟩ := sepOf st p hp'
      exact hk _ _ q1 q2 q3 h1.1
  refine gen_next hh (hlim.keeps F'.keep) hroom rfl (isg h (N' _ (List.mem_cons_self ..)).1) hj hgo ?_ ?_
  · intro T ti tc c h₁ tk₁ gs' hT hc hlt hk₁ hv₁ hgo'
    have F₁ := keepF h₁ hk₁
    have N₁ := keepN h₁ hk₁
    refine letOwned_gen (isg h₁ (N₁ _ (List.mem_cons_self ..)).1) ?_
    refine wpAny_assign_Tuple hh hT rfl rfl fun h₂ hx₂ => ?_
    replace hx₂ : Heap.ExtBut h₁.objs.size h₁ h₂ := hx₂
    have up₂ : ∀ b o, h₁.get? b = some o → h₂.get? b = some o := fun b o e => hx₂ b o (Nat.ne_of_lt (Heap.lt_size e)) e
    have F₂ : Fr h₀ env.locals h₂ m' := ⟨F₁.ns.at' fun o e => up₂ _ o e, fun b o e => up₂ b o (F₁.keep b o e), F₁.above⟩
    show wpAny _ A (do holding [Value.str ⟨#[c]⟩ tc] (assign (.Name xp p1) env (.int j ti)); do holding [] (assign (.Name xc p2) env (.str ⟨#[c]⟩ tc)); pure ()) _ _ _
    refine wpAny_bind (wpAny_holding (wpAny_assign_Name (wpAny_storeName_local kp F₂.ns (fun h₃ hn₃ hs₃ => ?_) hp)))
    replace hs₃ : Heap.SameBut env.locals h₂ h₃ := hs₃
    have F₃ := F₂.set hn₃ hs₃
    refine wpAny_bind (wpAny_holding (wpAny_assign_Name (wpAny_storeName_local kc F₃.ns (fun h₄ hn₄ hs₄ => wpAny_pure ?_) hp)))
    replace hs₄ : Heap.SameBut env.locals h₃ h₄ := hs₄
    have F₄ := F₃.set hn₄ hs₄
    have up₄ : ∀ b o, b ≠ env.locals → h₁.get? b = some o → h₄.get? b = some o := fun b o hb e => (hs₄.2 b hb).trans ((hs₃.2 b hb).trans (up₂ b o e))
    obtain ⟨oC, oE, oI, gC, gE, gI, hview⟩ := view_objs hv₁
    have N₄ : News h₀ env.locals h₄ ((a, oa) :: (C, oC) :: (E, oE) :: (I, oI) :: Led st) := by
      intro p hp'
      rcases List.mem_cons.mp hp' with rfl | hp'
      · exact ⟨up₄ _ _ haL (N₁ _ (List.mem_cons_self ..)).1, (N₁ _ (List.mem_cons_self ..)).2⟩
      rcases List.mem_cons.mp hp' with rfl | hp'
      · exact ⟨up₄ _ _ (Ne.symm hLS.1) gC, Ne.symm hLS.1, hC0⟩
      rcases List.mem_cons.mp hp' with rfl | hp'
      · exact ⟨up₄ _ _ (Ne.symm hLS.2.1) gE, Ne.symm hLS.2.1, hE0⟩
      rcases List.mem_cons.mp hp' with rfl | hp'
      · exact ⟨up₄ _ _ (Ne.symm hLS.2.2) gI, Ne.symm hLS.2.2, hI0⟩
      · have h1 := N₁ p (List.mem_cons_of_mem _ hp')
        exact ⟨up₄ _ _ h1.2.1 h1.1, h1.2⟩
    have F₄' : Fr h₀ env.locals h₄ (fun y => if y = xc then some (.str ⟨#[c]⟩ tc) else if y = xp then some (.int j ti) else pinB m' (ps st) y) := by rw [pin_eq hpin']; exact F₄
    refine wpAny_mono (turn E I j c ti tc st gs' oC oE oI m' h₄ _ hc hlt hP (sepOf st) F₄' N₄) (fun f s₃ h₃ => ?_) fun _ _ e => e.elim
    have fin : Out h₀ env.locals Led ps (P (j + 1)) [(a, oa), (C, oC), (E, oE), (I, oI)] { s with heap := h₄, toks := tk₁ + 1 + 1, gens := G.push gs' } s₃ →
        ∃ k', k' < x.cps.size - j ∧ ∃ j h tk gs m' st E I, s₃ = { s with heap := h, toks := tk, gens := G.push gs } ∧ j ≤ x.cps.size ∧ k' = x.cps.size - j ∧ Fr h₀ env.locals h m' ∧ Pinned m' (ps st) ∧ News h₀ env.locals h ((a, oa) :: Led st) ∧ P j st ∧
          GoesOn prog w A.in1 h₀ C E I x t j gs { s₃ with gens := G.push .running } ∧ (∀ p ∈ Led c₀, p.1 ≠ C ∧ p.1 ≠ E ∧ p.1 ≠ I ∧ p.1 ≠ a) ∧ (a ≠ C ∧ a ≠ E ∧ a ≠ I) ∧ (env.locals ≠ C ∧ env.locals ≠ E ∧ env.locals ≠ I) ∧ h₀.get? E = none ∧ h₀.get? I = none := by
      rintro ⟨st', h₅, tk₅, m₅, rfl, F₅, hp₅, N₅, hP₅⟩
      have gv : ∀ b o, (b, o) ∈ [(a, oa), (C, oC), (E, oE), (I, oI)] → h₅.get? b = some o := fun b o hb => (N₅ (b, o) (List.mem_append_left _ hb)).1
      refine ⟨x.cps.size - (j + 1), by omega, j + 1, h₅, tk₅, gs', m₅, st', E, I, rfl, hlt, rfl, F₅, hp₅, fun p hp' => N₅ p ?_, hP₅, ?_, hsep, haS, hLS, hE0, hI0⟩
      · rcases List.mem_cons.mp hp' with rfl | hp'
        · exact List.mem_append_left _ (List.mem_cons_self ..)
        · exact List.mem_append_right _ hp'
      · exact hgo' _ (hview h₅ (gv C oC (by simp)) (gv E oE (by simp)) (gv I oI (by simp)) F₅.keep)
    cases f with
    | ret v => exact h₃.elim
    | brk => exact h₃.elim
    | next => exact fin h₃
    | cont => exact fin h₃
  · intro hjn h₁ tk₁ hk₁
    refine wpAny_execs_nil ?_
    have F₁ := keepF h₁ hk₁
    exact done st m' h₁ tk₁ (hjn ▸ hP) (by rw [pin_eq hpin']; exact F₁) (keepN h₁ hk₁)
end
end Mine
-- WGen5
open Sem (wp)
namespace Mine
section
variable {prog : Program} {w : World} {A : Around} {s : Shared} {h₀ : Heap} {L : Addr} {m : Str → Option Value} {news : List (Addr × Obj)} {K : Frag} {E : Value → Shared → Prop} {Q : Value → Shared → Prop}
theorem gen_call {f : Addr} {name qual : Str} {params : Arguments} {body : List Stmt} {scope : Scope} {dV kV doc pm cdv ct oc : Value} {an od : Option Addr} {osl : Array (Option Value)} {vs : List Value} {binds : List (Str × Value)}
    (F : Fr h₀ L s.heap m) (X₀ : K.In h₀) (N : News h₀ L s.heap news) (hlim : h₀.NoLimit) (hroom : A.depth < recursionLimit)
    (ho : K.lookup f = some ⟨oc, od, .func (fnOf name qual params body scope dV kV doc pm an cdv ct), osl⟩) (hcd : codeIn K cdv qual = true)
    (hbind : bindArgs (fnOf name qual params body scope dV kV doc pm an cdv ct) ⟨vs, []⟩ = pure binds) (hloc : ∀ y ∈ binds, scope.names.lookup y.1 = some .local)
    (hco : scope.isCoroutine = false) (hgen : scope.isGenerator = true) (hk : scope.kind = .function) (hcell : ∀ x ∈ scope.names, x.2 ≠ .cell)
    (h : ∀ (C a : Addr) (oa : Obj) (h' : Heap) (tk : Nat), C < a → L < C → (∀ p ∈ news, p.1 < C) → Fr h₀ L h' m → News h₀ L h' ((a, oa) :: news) → Fr h₀ C h' (fun y => binds.reverse.lookup y) → h'.IsGen a s.gens.size →
      Q (.ref a) { s with heap := h', toks := tk, gens := s.gens.push (.fresh (.func body (envOf qual scope C f cdv))) }) :
    wpAny (model prog w) A (call (.ref f) vs) Q E s := by
  have X := X₀.keeps F.keep
  refine wpAny_call (codeAny_call_generator hroom (X _ _ ho) rfl hco hgen rfl (codeRec_of X hcd) ?_)
  rw [hbind]
  refine wpAny_pure ?_
  refine wpAny_newFunctionEnv hcell hloc (fun h₁ hn₁ hs₁ => ?_) hk
  replace hs₁ : Heap.SameBut s.heap.objs.size (s.heap.push { cls := .type "frame", data := .dict #[] }) h₁ := hs₁
  have keep₁ : ∀ b o, s.heap.get? b = some o → h₁.get? b = some o := fun b o e => hs₁.extBut b o (Nat.ne_of_lt (Heap.lt_size e)) (Heap.get?_push_of_some _ e)
  have hz₁ : h₁.objs.size = s.heap.objs.size + 1 := by rw [hs₁.1, Heap.size_push]
  have hnl : h₁.NoLimit := (hlim.keeps F.keep).fresh _ hs₁
  have F₁ : Fr h₀ L h₁ m := ⟨F.ns.at' fun o e => keep₁ _ o e, fun b o e => keep₁ b o (F.keep b o e), F.above⟩
  have N₁ : News h₀ L h₁ news := fun p hp => ⟨keep₁ _ _ (N p hp).1, (N p hp).2⟩
  refine ⟨hnl, ?_⟩
  have hLs : L < s.heap.objs.size := F.ns.lt
  refine h s.heap.objs.size h₁.objs.size _ _ _ (by rw [hz₁]; exact Nat.lt_succ_self _) hLs (fun p hp => Heap.lt_size (N p hp).1) (F₁.push _) (N₁.push F₁ _) (Fr.push ⟨hn₁, F₁.keep, Nat.le_trans F.above (Nat.le_of_lt hLs)⟩ _) ?_
  exact ⟨_, _, _, Heap.get?_push_size _ rfl, rfl, rfl, rfl⟩
end
end Mine
-- WStrip
namespace Mine
/-- where the scan of _strip_quoted_realnames stands -/
structure SS where
  st : Nat
  op : Option Nat
  res : List (List Nat)
def stripStep (l : List Nat) (c : SS) (j ch : Nat) : SS :=
  if ch = 34 then
    match c.op with
    | none => { c with op := some j }
    | some o => { st := j + 1, op := none, res := if c.st ≠ o then c.res ++ [(l.drop c.st).take (o - c.st)] else c.res }
  else c
def stripSt (l : List Nat) : Nat → SS
  | 0 => ⟨0, none, []⟩
  | j + 1 => stripStep l (stripSt l j) j (l.getD j 0)
def stripF (l : List Nat) : List Nat :=
  let c := stripSt l l.length
  (if c.st < l.length then c.res ++ [l.drop c.st] else c.res).flatten
theorem stripSt_plain {l : List Nat} (h : 34 ∉ l) : ∀ j, j ≤ l.length → stripSt l j = ⟨0, none, []⟩
  | 0, _ => rfl
  | j + 1, hj => by
    have h1 : l.getD j 0 ≠ 34 := by
      rw [List.getD_eq_getElem?_getD, List.getElem?_eq_getElem (by omega)]
      exact fun e => h (e ▸ List.getElem_mem _)
    rw [stripSt, stripSt_plain h j (by omega), stripStep, if_neg h1]
theorem stripF_plain {l : List Nat} (h : 34 ∉ l) : stripF l = l := by
  unfold stripF
  rw [stripSt_plain h l.length (Nat.le_refl _)]
  cases l with
  | nil => rfl
  | cons c r => simp
/-- what holds of the scan at each place -/
theorem stripSt_ok (l : List Nat) : ∀ j, j ≤ l.length → (stripSt l j).st ≤ j ∧ (∀ o, (stripSt l j).op = some o → (stripSt l j).st ≤ o ∧ o < j) ∧ (((stripSt l j).res.map List.length).sum ≤ (stripSt l j).st) ∧ (stripSt l j).res.length ≤ j
  | 0, _ => by simp [stripSt]
  | j + 1, hj => by
    obtain ⟨h1, h2, h3, h4⟩ := stripSt_ok l j (by omega)
    rw [stripSt]
    generalize stripSt l j = c at *
    obtain ⟨st, op, res⟩ := c
    dsimp only at h1 h2 h3 h4
    unfold stripStep
    split
    · cases op with
      | none =>
        dsimp only
        refine ⟨by omega, fun o ho => ?_, h3, by omega⟩
        cases ho
        omega
      | some o =>
        dsimp only
        have h5 := h2 o rfl
        refine ⟨Nat.le_refl _, (fun o ho => nomatch ho), ?_, ?_⟩
        · split
          · simp only [List.map_append, List.map_cons, List.map_nil, List.sum_append, List.sum_cons, List.sum_nil, List.length_take, List.length_drop]
            omega
          · omega
        · split
          · simp only [List.length_append, List.length_cons, List.length_nil]; omega
          · omega
    · dsimp only
      exact ⟨by omega, fun o ho => by have := h2 o ho; omega, h3, by omega⟩
end Mine
-- WStripW
namespace Mine
local macro_rules | `(tactic| walk_at "TurnPost") => `(tactic| dsimp only [TurnPost])
local macro_rules | `(tactic| walk_at "ElsePost") => `(tactic| dsimp only [ElsePost])
local macro_rules | `(tactic| k_all) => `(tactic| exact all_ne (by assumption))
local macro_rules | `(tactic| k_steps) => `(tactic| repeat' (first | ((fail_if_success (with_reducible show wpAny _ _ (pyIter _) _ _ _)); (fail_if_success (with_reducible show wpAny _ _ (call (Value.ref _) _) _ _ _)); (fail_if_success (with_reducible show wpAny _ _ (call (Value.type "enumerate") _) _ _ _)); (fail_if_success (with_reducible show wpAny _ _ (exec (Stmt.For _ _ _ _ _) _) _ _ _)); (fail_if_success (with_reducible show wpAny _ _ (exec (Stmt.While _ _ _ _) _) _ _ _)); (fail_if_success (with_reducible show Out _ _ _ _ _ _ _ _)); (first | (k_unfold; (try dsimp only)) | (k_end; wrow_close) | walk1 | (dsimp only; walk1) | (leave1; walk_say "STEP leave1"; try dsimp only) | fail "no step"))))
structure SSt where
  c : SS
  ts : Tok
  to : Tok
  vs : Array Value
  cap : Nat
def opV : Option Nat → Tok → Value
  | none, _ => .none
  | some o, t => .int o t
abbrev sLed (l' : Addr) (news : List (Addr × Obj)) (c : SSt) : List (Addr × Obj) := (l', listOf c.vs c.cap) :: news
abbrev sPin (x : Str) (tk0 : Tok) (l' : Addr) (c : SSt) : List (Str × Value) := [(Str.ofString "addr", .str x tk0), (Str.ofString "start", .int c.c.st c.ts), (Str.ofString "open_pos", opV c.c.op c.to), (Str.ofString "result", .ref l')]
theorem s_out {h₀ : Heap} {L l' : Addr} {own news : List (Addr × Obj)} {B : SSt → Prop} {s : Shared} {h' : Heap} {tk' : Nat} {m' : Str → Option Value} {x : Str} {tk0 : Tok} {sv : Int} {ov : Value} {ts : Tok} {vs : Array Value} {cap : Nat}
    (F : Fr h₀ L h' m') (N : News h₀ L h' (own ++ (l', listOf vs cap) :: news)) (h0 : m' (Str.ofString "addr") = some (.str x tk0)) (h1 : m' (Str.ofString "start") = some (.int sv ts)) (h2 : m' (Str.ofString "open_pos") = some ov) (h3 : m' (Str.ofString "result") = some (.ref l'))
    (c' : SS) (to : Tok) (hs : sv = c'.st) (ho : ov = opV c'.op to) (hB : B ⟨c', ts, to, vs, cap⟩) :
    Out h₀ L (sLed l' news) (sPin x tk0 l') B own s { s with heap := h', toks := tk' } := by
  subst hs ho
  exact Out.intro ⟨c', ts, to, vs, cap⟩ F N (Pinned.cons h0 (Pinned.cons h1 (Pinned.cons h2 (Pinned.cons h3 Pinned.nil)))) (fun p h => h) hB
theorem strs_pushW {vs : Array Value} {ns : List Str} {y : Str} {t : Tok} (h : StrsAre vs.toList ns) : StrsAre (vs.push (.str y t)).toList (ns ++ [y]) := by
  rw [Array.toList_push]
  exact StrsAre.append' h (.cons _ _ .nil)
local macro_rules | `(tactic| walk_at "GPost") => `(tactic| dsimp only [GPost])
def GensOk (a b : Array GenState) : Prop := b = a ∨ b = a.push .finished
theorem ss {w : World} {mean : ExcName → Option Value} {mg mb : Str → Option Value} (news : List (Addr × Obj)) (l : List Nat) (tk0 : Tok) (hl : l.length ≤ 1000) (hno : 92 ∉ l) (hasc : l.all (· < 128) = true)
   (dp un : Nat) (gd : Option (List Code)) (cn : Str) (cs : Scope) (a : Addr) (ccd : Value) (cl : List (Str × Addr)) (outer : List Env) (A₀ : Around) (base h₀ : Heap) (L : Addr) (m : Str → Option Value) (s : Shared) (Q E : Value → Shared → Prop)
   (hB : Below A₀ base outer h₀) (hF : Fr h₀ L s.heap m) (hX : (hd.heap_39 w.params).In h₀) (hN : News h₀ L s.heap news) (hT : Top hd.view_39 (looseW hd.view_39 [Str.ofString "COMPILER_FLAG_NAMES"]) mean mg mb h₀) (hcs : cs.kind = .function)
   (hdp : dp + 2 < recursionLimit) (hun : un + 8 < cLine)
   (hret : ∀ (t : Tok) (h' : Heap) (tk' : Nat) (gs' : Array GenState), GensOk s.gens gs' → Fr h₀ L h' m → News h₀ L h' news → Q (.str (T (stripF l)) t) { s with heap := h', toks := tk', gens := gs' }) :
   wpAny (model PySem.Challenge.rw_wf0016_01.row.prog w) (ktrTop dp un gd cn cs L a ccd cl outer) (call (.ref 28) [.str (T l) tk0]) Q E s := by
  revert hX
  k_fill
  intro hX
  refine wpAny_call ?_
  have hdp1 : dp + 1 < recursionLimit := by omega
  k_dflt cell_enter
  rename Fr _ _ _ _ => F0
  obtain ⟨u0, F0⟩ := Fr.pins F0 (ps := [(Str.ofString "addr", .str (T l) tk0)]) (Pinned.cons rfl Pinned.nil)
  have hrl : (T l).length ≤ sizeLine := by rw [T_length, sizeLine_eq]; omega
  k_steps
  · rename (List.isEmpty _ = true) => hb
    have hf := StrLaws.found_one (T l) 34
    have hb' : (Builtin.Str.occurrences (T l) ⟨#[34]⟩ 0 (T l).length 1).isEmpty = true := hb
    rw [hb'] at hf
    have h34 : 34 ∉ l := fun hm => by
      have hm' : 34 ∈ (T l).cps.toList := by simpa [T] using hm
      rw [decide_eq_true hm'] at hf
      exact absurd hf (by decide)
    have hr := hret tk0 _ tk s.gens (.inl rfl) (by assumption) (by assumption)
    rw [stripF_plain h34] at hr
    exact hr
  rename News _ _ _ _ => N1
  rename Fr _ _ _ _ => F1
  obtain ⟨l', e'⟩ := named N1
  subst e'
  refine wpAny_For ?_
  k_steps
  rename News _ _ _ _ => N2
  rename Fr _ _ _ _ => F2
  refine' gen_call (K := hd.heap_39 w.params) F2 ?kX N2 ?kL ?kR ?k6 ?k7 ?k8 ?k9 ?c2 ?c3 ?c4 ?c5 ?_
  case kX => k_asm
  case kL => exact Top.nolimit (by assumption)
  case kR => ktr_room
  case k6 => k_is
  case k7 => k_is
  case k8 => exact rfl
  case k9 => exact locs rfl
  case c2 => exact rfl
  case c3 => exact rfl
  case c4 => exact rfl
  case c5 => decide
  intro C a' oa h3 tk3 hCa hLC hlC F3 N3 FC hg
  obtain ⟨uC, FC⟩ := Fr.pins FC (ps := [(sAddr, .str (T l) tk0)]) (Pinned.cons rfl Pinned.nil)
  refine wpAny_pyIter_gen hg ?_
  have hlC1 := ltN (hlC _ (List.mem_cons_self ..))
  dsimp only at hlC1
  obtain ⟨ts0, u3, F3⟩ : ∃ ts u, Fr _ _ _ (pinB u (sPin (T l) tk0 l' ⟨⟨0, none, []⟩, ts, 0, #[], 0⟩)) := ⟨_, Fr.pins F3 (Pinned.cons rfl (Pinned.cons rfl (Pinned.cons rfl (Pinned.cons rfl Pinned.nil))))⟩
  refine gen_for (σ := SSt) (C := C) (a := a') (oa := oa) (x := T l) (t := tk0) (G := s.gens) rfl ?room ?lim ?kp ?kc ?hp rfl ?start (sLed l' news) (sPin (T l) tk0 l') (fun j c => c.c = stripSt l j ∧ StrsAre c.vs.toList (c.c.res.map T)) ⟨⟨0, none, []⟩, ts0, 0, #[], 0⟩ ?adr F3 N3 ?pin ?p0 hg FC ?cl ?ca ?cled ?turn ?done
  case room => ktr_room
  case lim => exact Top.nolimit (by assumption)
  case kp => exact rfl
  case kc => exact rfl
  case hp => exact rfl
  case adr => exact fun c => rfl
  case pin => exact Pinned.cons rfl (Pinned.cons rfl (Pinned.cons rfl (Pinned.cons rfl Pinned.nil)))
  case p0 => exact ⟨rfl, .nil⟩
  case cl => exact Nat.ne_of_gt hLC
  case ca => exact Nat.ne_of_lt hCa
  case cled => exact fun p hp => ⟨Nat.ne_of_lt (hlC p hp), Nat.ne_of_lt (Nat.lt_trans (hlC p hp) hCa)⟩
  case start =>
    intro s9 F9
    refine gen_start (K := hd.heap_39 w.params) ?h0 ?g1 ?g2 ?g3 ?h1 ?h2 ?h3 ?h4 ?h5 ?g4 ?g5 F9
    case h0 => exact rfl
    case h1 => exact rfl
    case h2 => exact rfl
    case h3 => exact rfl
    case h4 => exact rfl
    case h5 => exact rfl
    case g1 => simpa [T] using hno
    case g2 => simpa [T] using hasc
    case g3 => k_asm
    case g4 => exact fun v => rfl
    case g5 =>
      intro A' u s Q E hA F h
      k_steps
      exact h _
  case turn =>
    rintro E I j c ti tc ⟨c0, ts, to, vs, cap⟩ gs oC oE oI u h tk hc hjl ⟨hc0, hvs⟩ hsep F N
    dsimp only at hc0 hvs hsep F N
    have hcl : l[j]? = some c := by simpa [T] using hc
    have hjl' : j < l.length := by simpa [T] using hjl
    have hok := stripSt_ok l j (Nat.le_of_lt hjl')
    have hnx : stripSt l (j + 1) = stripStep l (stripSt l j) j c := by rw [stripSt, List.getD_eq_getElem?_getD, hcl]; rfl
    rw [← hc0] at hok hnx
    have hs4 := hsep _ (List.mem_cons_self ..)
    dsimp only at hs4
    obtain ⟨st, op, res⟩ := c0
    dsimp only at hok hnx hvs F
    obtain ⟨ho1, ho2, ho3, ho4⟩ := hok
    have hsz : vs.size ≤ sizeLine := by
      have h1 := StrsAre.len_eq hvs
      rw [sizeLine_eq]
      simp only [Array.length_toList, List.length_map] at h1
      omega
    have q1 := neN hs4.1
    have q2 := neN hs4.2.1
    have q3 := neN hs4.2.2.1
    have q4 := neN hs4.2.2.2
    dsimp only [sLed] at N
    have mk : (({ cps := #[c] } : Str) == Str.ofString "\"") = decide (c = 34) := by
      rw [show ({ cps := #[c] } : Str) = T [c] from rfl, show Str.ofString "\"" = T [34] from rfl, T_beq]; simp
    cases op with
    | none =>
      dsimp only [sPin, opV] at F
      k_steps
      all_goals (rename Fr _ _ _ _ => F9; rename News _ _ _ _ => N9)
      · rename ((_ == _) = true) => h1
        rw [mk, decide_eq_true_eq] at h1
        subst h1
        exact s_out F9 N9 rfl rfl rfl rfl ⟨st, some j, res⟩ ti rfl rfl ⟨by rw [hnx]; simp [stripStep], hvs⟩
      · rename ((_ == _) = false) => h1
        rw [mk, decide_eq_false_iff_not] at h1
        exact s_out F9 N9 rfl rfl rfl rfl ⟨st, none, res⟩ to rfl rfl ⟨by rw [hnx]; simp [stripStep, h1], hvs⟩
    | some o =>
      dsimp only [sPin, opV] at F
      have ho5 := ho2 o rfl
      k_steps
      all_goals (rename Fr _ _ _ _ => F9; rename News _ _ _ _ => N9)
      · rename ((_ == _) = true) => h1
        rename ((st : Int) ≠ o) => h2
        rw [mk, decide_eq_true_eq] at h1
        subst h1
        have h3 : st ≠ o := fun e => h2 (by rw [e])
        have h4 := slice_mid l st o (by omega) (by omega) (by omega)
        rw [show ((o : Int) - (st : Int)).toNat = o - st by omega, Int.toNat_natCast] at h4
        rw [h4] at N9
        exact s_out F9 N9 rfl rfl rfl rfl ⟨j + 1, none, res ++ [(l.drop st).take (o - st)]⟩ 0 rfl rfl ⟨by rw [hnx]; simp [stripStep, h3], by dsimp only; rw [List.map_append]; exact strs_pushW hvs⟩
      · rename ((_ == _) = true) => h1
        rename ((st : Int) = o) => h2
        rw [mk, decide_eq_true_eq] at h1
        subst h1
        have h3 : st = o := by omega
        exact s_out F9 N9 rfl rfl rfl rfl ⟨j + 1, none, res⟩ 0 rfl rfl ⟨by rw [hnx]; simp [stripStep, h3], hvs⟩
      · rename ((_ == _) = false) => h1
        rw [mk, decide_eq_false_iff_not] at h1
        exact s_out F9 N9 rfl rfl rfl rfl ⟨st, some o, res⟩ to rfl rfl ⟨by rw [hnx]; simp [stripStep, h1], hvs⟩
  case done =>
    rintro ⟨c0, ts, to, vs, cap⟩ u h tk ⟨hc0, hvs⟩ F N
    dsimp only [sLed, sPin] at hc0 hvs F N
    have hz : (T l).cps.size = l.length := by simp [T]
    rw [hz] at hc0
    have hok := stripSt_ok l l.length (Nat.le_refl _)
    have hfin : stripF l = (if (stripSt l l.length).st < l.length then (stripSt l l.length).res ++ [l.drop (stripSt l l.length).st] else (stripSt l l.length).res).flatten := rfl
    rw [← hc0] at hok hfin
    obtain ⟨st, op, res⟩ := c0
    dsimp only at hok hfin hvs F
    obtain ⟨ho1, _, ho3, ho4⟩ := hok
    have hlen : (T l).length = l.length := T_length l
    have hsz : vs.size ≤ sizeLine := by
      have h1 := StrsAre.len_eq hvs
      rw [sizeLine_eq]
      simp only [Array.length_toList, List.length_map] at h1
      omega
    have ql := neN (Nat.ne_of_lt (Nat.lt_trans hlC1 (ltN hCa)))
    have fin : ∀ (rs : List (List Nat)) (vs' : Array Value) (cap' : Nat) (h' : Heap) (tk1 : Tok) (Q9 E9 : Value → Shared → Prop) (A9 : Around) (s9 : Shared), StrsAre vs'.toList (rs.map T) → (rs.map List.length).sum ≤ 1000 → s9.heap.get? l' = some (listOf vs' cap') →
        (∀ t' k, Q9 (.str (T rs.flatten) t') { s9 with toks := k }) → wpAny (model PySem.Challenge.rw_wf0016_01.row.prog w) A9 (call (.builtin "str.join") [.str (Str.ofString "") tk1, .ref l']) Q9 E9 s9 := by
      intro rs vs' cap' h' tk1 Q9 E9 A9 s9 hv hs hg9 hq
      refine join_list (ys := rs.map T) ⟨_, hg9, rfl, _, rfl⟩ hv (by rw [lens_T, show (Str.ofString "").length = 0 from rfl]; omega) ?_
      intro t' k
      rw [join_T]
      exact hq t' k
    k_steps
    all_goals (rename Fr _ _ _ _ => F9; rename News _ _ _ _ => N9)
    · rename ((st : Int) < _) => h1
      have h2 : st < l.length := by omega
      have h4 := slice_from l st (by omega) (by omega)
      rw [Int.toNat_natCast] at h4
      rw [h4] at N9
      rw [if_pos h2] at hfin
      have hv2 : ∀ tq, StrsAre (vs.push (.str (T (l.drop st)) tq)).toList ((res ++ [l.drop st]).map T) := fun tq => by rw [List.map_append]; exact strs_pushW hvs
      refine fin (res ++ [l.drop st]) _ _ h tk _ _ _ _ (hv2 _) ?_ (N9 _ (List.Mem.tail _ (List.Mem.head _))).1 ?_
      · simp only [List.map_append, List.map_cons, List.map_nil, List.sum_append, List.sum_cons, List.sum_nil, List.length_drop]
        omega
      · intro t' k'
        rw [← hfin]
        k_steps
        exact hret _ _ _ _ (.inr rfl) (by assumption) (cb_drop (by assumption) fun p hp => List.mem_cons_of_mem _ (List.mem_cons_of_mem _ hp))
    · rename (¬ (st : Int) < _) => h1
      have h2 : ¬ st < l.length := by omega
      rw [if_neg h2] at hfin
      refine fin res _ _ h tk _ _ _ _ hvs (by omega) (N9 _ (List.Mem.tail _ (List.Mem.head _))).1 ?_
      intro t' k'
      rw [← hfin]
      k_steps
      exact hret _ _ _ _ (.inr rfl) (by assumption) (cb_drop (by assumption) fun p hp => List.mem_cons_of_mem _ (List.mem_cons_of_mem _ hp))
end Mine
-- WUse
namespace Mine
section
variable {w : World} {mean : ExcName → Option Value} {mg mb : Str → Option Value} {news : List (Addr × Obj)} {dp un : Nat} {gd : Option (List Code)} {cn : Str} {cs : Scope} {a : Addr} {ccd : Value} {cl : List (Str × Addr)} {outer : List Env} {A₀ : Around} {base h₀ : Heap} {L : Addr} {m : Str → Option Value} {s : Shared} {Q E : Value → Shared → Prop}
theorem pf_use {n : Nat} {tk : Tok} (hB : Below A₀ base outer h₀) (hF : Fr h₀ L s.heap m) (hX : (hd.heap_39 w.params).In h₀) (hN : News h₀ L s.heap news) (hT : Top hd.view_39 (looseW hd.view_39 [Str.ofString "COMPILER_FLAG_NAMES"]) mean mg mb h₀) (hcs : cs.kind = .function)
    (hn : n < 2048) (hdp : dp + 1 < recursionLimit) (hun : un + 8 < cLine)
    (hret : ∀ (t : Tok) (h' : Heap) (tk' : Nat), Fr h₀ L h' m → News h₀ L h' news → Q (.str (prettyF n) t) { s with heap := h', toks := tk' }) :
    wpAny (model PySem.Challenge.rw_wf0016_01.row.prog w) (ktrTop dp un gd cn cs L a ccd cl outer) (call (.ref 36) [.int n tk]) Q E s :=
  pf news n tk hn dp un gd cn cs a ccd cl outer A₀ base h₀ L m s Q E hB hF hX hN hT hcs trivial hdp hun hret
theorem pp_use {l : List Nat} {tk : Tok} (hB : Below A₀ base outer h₀) (hF : Fr h₀ L s.heap m) (hX : (hd.heap_39 w.params).In h₀) (hN : News h₀ L s.heap news) (hT : Top hd.view_39 (looseW hd.view_39 [Str.ofString "COMPILER_FLAG_NAMES"]) mean mg mb h₀) (hcs : cs.kind = .function)
    (hn : l.length ≤ 1000) (hdp : dp + 1 < recursionLimit) (hun : un + 8 < cLine)
    (hret : ∀ (t : Tok) (h' : Heap) (tk' : Nat), Fr h₀ L h' m → News h₀ L h' news → Q (.str (T (parseL l)) t) { s with heap := h', toks := tk' }) :
    wpAny (model PySem.Challenge.rw_wf0016_01.row.prog w) (ktrTop dp un gd cn cs L a ccd cl outer) (call (.ref 68) [.str (T (pre5 ++ l)) tk]) Q E s :=
  pp news l tk hn dp un gd cn cs a ccd cl outer A₀ base h₀ L m s Q E hB hF hX hN hT hcs trivial hdp hun hret
theorem ss_use {l : List Nat} {tk : Tok} (hl : l.length ≤ 1000) (hno : 92 ∉ l) (hasc : l.all (· < 128) = true) (hB : Below A₀ base outer h₀) (hF : Fr h₀ L s.heap m) (hX : (hd.heap_39 w.params).In h₀) (hN : News h₀ L s.heap news) (hT : Top hd.view_39 (looseW hd.view_39 [Str.ofString "COMPILER_FLAG_NAMES"]) mean mg mb h₀) (hcs : cs.kind = .function)
    (hdp : dp + 2 < recursionLimit) (hun : un + 8 < cLine)
    (hret : ∀ (t : Tok) (h' : Heap) (tk' : Nat) (gs' : Array GenState), GensOk s.gens gs' → Fr h₀ L h' m → News h₀ L h' news → Q (.str (T (stripF l)) t) { s with heap := h', toks := tk', gens := gs' }) :
    wpAny (model PySem.Challenge.rw_wf0016_01.row.prog w) (ktrTop dp un gd cn cs L a ccd cl outer) (call (.ref 28) [.str (T l) tk]) Q E s :=
  ss news l tk hl hno hasc dp un gd cn cs a ccd cl outer A₀ base h₀ L m s Q E hB hF hX hN hT hcs hdp hun hret
end
end Mine
-- WLine
namespace Mine
def namesAll : List Str := [nmS 0, nmS 1, nmS 2, nmS 3, nmS 4, nmS 5, nmS 6, nmS 7, nmS 8, nmS 9, nmS 10]
theorem names_are (t0 t1 t2 t3 t4 t5 t6 t7 t8 t9 t10 : Tok) : StrsAre (#[Value.str (Str.ofString "OPTIMIZED") t0, .str (Str.ofString "NEWLOCALS") t1, .str (Str.ofString "VARARGS") t2, .str (Str.ofString "VARKEYWORDS") t3, .str (Str.ofString "NESTED") t4, .str (Str.ofString "GENERATOR") t5,
    .str (Str.ofString "NOFREE") t6, .str (Str.ofString "COROUTINE") t7, .str (Str.ofString "ITERABLE_COROUTINE") t8, .str (Str.ofString "ASYNC_GENERATOR") t9, .str (Str.ofString "0x400") t10] : Array Value).toList namesAll :=
  .cons _ _ (.cons _ _ (.cons _ _ (.cons _ _ (.cons _ _ (.cons _ _ (.cons _ _ (.cons _ _ (.cons _ _ (.cons _ _ (.cons _ _ .nil))))))))))
theorem names_at {i : Nat} {y : Str} (hi : i < 11) (h : namesAll[i]? = some y) : y = nmS i := by
  have hc : i = 0 ∨ i = 1 ∨ i = 2 ∨ i = 3 ∨ i = 4 ∨ i = 5 ∨ i = 6 ∨ i = 7 ∨ i = 8 ∨ i = 9 ∨ i = 10 := by omega
  rcases hc with rfl | rfl | rfl | rfl | rfl | rfl | rfl | rfl | rfl | rfl | rfl <;> exact (Option.some.inj h).symm
/-- the signs of the k-th word -/
def nmL (k : Nat) : List Nat := (nmS k).cps.toList
theorem nmL_T (k : Nat) : T (nmL k) = nmS k := T_of _
def segL (o t k : Nat) : List Nat := (if bt o k then [34] else []) ++ (if bt t k then [34, 34] else []) ++ nmL k ++ [59]
def lineL (o t : Nat) : Nat → List Nat
  | 0 => []
  | k + 1 => lineL o t k ++ segL o t k
def startsL (o t : Nat) : Nat → List Int
  | 0 => []
  | k + 1 => startsL o t k ++ [((lineL o t k).length : Int)]
theorem nmL_len (k : Nat) : (nmL k).length ≤ 18 := by
  unfold nmL nmS
  split <;> decide
theorem segL_len (o t k : Nat) : (segL o t k).length ≤ 22 := by
  have := nmL_len k
  unfold segL
  simp only [List.length_append, List.length_cons, List.length_nil]
  split <;> split <;> simp only [List.length_cons, List.length_nil] <;> omega
theorem lineL_len (o t : Nat) : ∀ k, (lineL o t k).length ≤ 22 * k
  | 0 => by simp [lineL]
  | k + 1 => by
    have h1 := lineL_len o t k
    have h2 := segL_len o t k
    simp only [lineL, List.length_append]
    omega
theorem startsL_len (o t : Nat) : ∀ k, (startsL o t k).length = k
  | 0 => rfl
  | k + 1 => by simp [startsL, startsL_len o t k]
/-- the flags that turn, below k -/
def turnsL (o : Nat) : Nat → List Int
  | 0 => []
  | k + 1 => if bt o k then turnsL o k ++ [(k : Int)] else turnsL o k
def turnG (o : Nat) (l : List Int) (k : Int) : List Int := if bt o k.toNat then l ++ [k] else l
theorem turnG_grows (o : Nat) : KPfGrows (turnG o) := fun l k => by
  unfold turnG
  split
  · simp
  · omega
theorem turns_fold (o : Nat) : ∀ n, (rangeKs 0 n).foldl (turnG o) [] = turnsL o n
  | 0 => rfl
  | n + 1 => by
    have e : rangeKs 0 (n + 1) = rangeKs 0 n ++ [(n : Int)] := by
      simp [rangeKs, List.range_succ]
    rw [e, List.foldl_append, turns_fold o n]
    simp [turnG, turnsL]
theorem turns_eq (o : Nat) : (rangeKs 0 11).foldl (turnG o) [] = turnsL o 11 := turns_fold o 11
theorem fd_fm (o : Nat) (k : Int) (h0 : 0 ≤ k) : (Int.fdiv (o : Int) (2 ^ k.toNat)).fmod 2 = ((o / 2 ^ k.toNat % 2 : Nat) : Int) := by
  rw [Int.fdiv_eq_ediv_of_nonneg _ (Int.le_of_lt (kbt_pos _)), Int.fmod_eq_emod_of_nonneg _ (by decide), ← kbt_cast]
  omega
/-- the flags that either number holds, below k -/
def eithersL (o t : Nat) : Nat → List Int
  | 0 => []
  | k + 1 => if (bt o k || bt t k) = true then eithersL o t k ++ [(k : Int)] else eithersL o t k
def eitherG (o t : Nat) (l : List Int) (k : Int) : List Int := if (bt o k.toNat || bt t k.toNat) = true then l ++ [k] else l
theorem eitherG_grows (o t : Nat) : KPfGrows (eitherG o t) := fun l k => by
  unfold eitherG
  split
  · simp
  · omega
theorem eithers_fold (o t : Nat) : ∀ n, (rangeKs 0 n).foldl (eitherG o t) [] = eithersL o t n
  | 0 => rfl
  | n + 1 => by
    have e : rangeKs 0 (n + 1) = rangeKs 0 n ++ [(n : Int)] := by
      simp [rangeKs, List.range_succ]
    rw [e, List.foldl_append, eithers_fold o t n]
    simp [eitherG, eithersL]
theorem eithers_eq (o t : Nat) : (rangeKs 0 11).foldl (eitherG o t) [] = eithersL o t 11 := eithers_fold o t 11
def StaysIs (o t : Nat) (st : Int) : Prop := if (turnsL o 11).length % 2 = 1 then st ∈ eithersL o t 11 ∧ ∀ a, a ∈ eithersL o t 11 → a ≤ st else st = -1
def flagsL (o : Nat) (st : Int) : List Int := if (turnsL o 11).length % 2 = 1 then turnsL o 11 ++ [st] else turnsL o 11
theorem turns_sub (o t : Nat) : ∀ k a, a ∈ turnsL o k → a ∈ eithersL o t k
  | 0, a, h => h
  | k + 1, a, h => by
    have ih := turns_sub o t k a
    unfold turnsL at h
    unfold eithersL
    split at h <;> rename_i hb
    · rw [if_pos (by rw [hb]; rfl)]
      rcases List.mem_append.mp h with h | h
      · exact List.mem_append_left _ (ih h)
      · exact List.mem_append_right _ h
    · split
      · exact List.mem_append_left _ (ih h)
      · exact ih h
theorem eithers_ne {o t : Nat} (h : (turnsL o 11).length % 2 = 1) : 0 < (eithersL o t 11).length := by
  rcases e : turnsL o 11 with _ | ⟨a, l⟩
  · rw [e] at h; cases h
  · have := turns_sub o t 11 a (by rw [e]; exact List.mem_cons_self ..)
    exact List.length_pos_of_mem this
theorem turnsL_len (o : Nat) : ∀ k, (turnsL o k).length ≤ k
  | 0 => Nat.le_refl _
  | k + 1 => by
    have := turnsL_len o k
    unfold turnsL
    split
    · rw [List.length_append, List.length_cons, List.length_nil]; omega
    · omega
theorem flagsL_len (o : Nat) (st : Int) : (flagsL o st).length ≤ 12 := by
  have := turnsL_len o 11
  unfold flagsL
  split
  · rw [List.length_append, List.length_cons, List.length_nil]; omega
  · omega
theorem flagsL_even (o : Nat) (st : Int) : (flagsL o st).length % 2 = 0 := by
  unfold flagsL
  split
  · rw [List.length_append, List.length_cons, List.length_nil]; omega
  · omega
theorem turnsL_all (o : Nat) : ∀ k a, a ∈ turnsL o k → 0 ≤ a ∧ a < (k : Int)
  | 0, a, h => nomatch h
  | k + 1, a, h => by
    have ih := turnsL_all o k a
    unfold turnsL at h
    split at h
    · rcases List.mem_append.mp h with h | h
      · have := ih h; omega
      · rw [List.mem_singleton.mp h]; omega
    · have := ih h; omega
theorem eithersL_all (o t : Nat) : ∀ k a, a ∈ eithersL o t k → 0 ≤ a ∧ a < (k : Int)
  | 0, a, h => nomatch h
  | k + 1, a, h => by
    have ih := eithersL_all o t k a
    unfold eithersL at h
    split at h
    · rcases List.mem_append.mp h with h | h
      · have := ih h; omega
      · rw [List.mem_singleton.mp h]; omega
    · have := ih h; omega
theorem flags_all {o t : Nat} {st : Int} (h : StaysIs o t st) : ∀ a, a ∈ flagsL o st → 0 ≤ a ∧ a < (11 : Nat) := by
  intro a ha
  unfold flagsL at ha
  split at ha <;> rename_i hb
  · rcases List.mem_append.mp ha with ha | ha
    · exact turnsL_all o 11 a ha
    · rw [StaysIs, if_pos hb] at h
      rw [List.mem_singleton.mp ha]
      exact eithersL_all o t 11 _ h.1
  · exact turnsL_all o 11 a ha
theorem flags_at {o t : Nat} {st : Int} (h : StaysIs o t st) {k : Nat} (hk : k < (flagsL o st).length) : ∃ x, (flagsL o st)[k]? = some x ∧ 0 ≤ x ∧ x < 11 :=
  ⟨_, List.getElem?_eq_getElem hk, flags_all h _ (List.getElem_mem hk)⟩
theorem turns_at {o : Nat} {k : Nat} (hk : k < (turnsL o 11).length) : ∃ x, (turnsL o 11)[k]? = some x ∧ 0 ≤ x ∧ x < 11 :=
  ⟨_, List.getElem?_eq_getElem hk, turnsL_all o 11 _ (List.getElem_mem hk)⟩
theorem range2 (n : Nat) (h : n ≤ 12) : Builtin.Range.small 0 n 2 = true ∧ Builtin.Range.rangeSize 0 n 2 = (((n + 1) / 2 : Nat) : Int) := by
  have hc : n = 0 ∨ n = 1 ∨ n = 2 ∨ n = 3 ∨ n = 4 ∨ n = 5 ∨ n = 6 ∨ n = 7 ∨ n = 8 ∨ n = 9 ∨ n = 10 ∨ n = 11 ∨ n = 12 := by omega
  rcases hc with rfl | rfl | rfl | rfl | rfl | rfl | rfl | rfl | rfl | rfl | rfl | rfl | rfl <;> decide
/-- what the i-th pair of flags hides -/
def hidG (l : List Int) (i : Nat) : Int := 2 ^ (l.getD (2 * i + 1) 0).toNat - 2 ^ (l.getD (2 * i) 0).toNat
def hiddenI (l : List Int) : Int := ((List.range (l.length / 2)).map (hidG l)).sum
theorem flags_getD {o t : Nat} {st : Int} (h : StaysIs o t st) {k : Nat} (hk : k < (flagsL o st).length) : 0 ≤ (flagsL o st).getD k 0 ∧ (flagsL o st).getD k 0 < 11 := by
  obtain ⟨x, hx, h0, h1⟩ := flags_at h hk
  rw [List.getD_eq_getElem?_getD, hx]
  exact ⟨h0, h1⟩
theorem turns_getD {o : Nat} {k : Nat} (hk : k < (turnsL o 11).length) : 0 ≤ (turnsL o 11).getD k 0 ∧ (turnsL o 11).getD k 0 < 11 := by
  obtain ⟨x, hx, h0, h1⟩ := turns_at hk
  rw [List.getD_eq_getElem?_getD, hx]
  exact ⟨h0, h1⟩
def dueL (st : Int) (hid : Nat) : Nat → List Nat
  | 0 => []
  | k + 1 => dueL st hid k ++ ((if (k : Int) = st then [34] else []) ++ (if bt hid k then [] else nmL k ++ [59]))
theorem dueL_len (st : Int) (hid : Nat) : ∀ k, (dueL st hid k).length ≤ 22 * k
  | 0 => by simp [dueL]
  | k + 1 => by
    have h1 := dueL_len st hid k
    have h2 := nmL_len k
    simp only [dueL, List.length_append]
    split <;> split <;> simp only [List.length_append, List.length_cons, List.length_nil] <;> omega
theorem nmL_ok (k : Nat) : 92 ∉ nmL k ∧ (nmL k).all (· < 128) = true := by
  unfold nmL nmS
  split <;> decide
theorem segL_ok (o t k : Nat) : 92 ∉ segL o t k ∧ (segL o t k).all (· < 128) = true := by
  obtain ⟨h1, h2⟩ := nmL_ok k
  unfold segL
  constructor
  · simp only [List.mem_append, not_or]
    refine ⟨⟨⟨?_, ?_⟩, h1⟩, by decide⟩
    · split <;> decide
    · split <;> decide
  · simp only [List.all_append, h2, Bool.and_true]
    split <;> split <;> decide
theorem lineL_no (o t : Nat) : ∀ k, 92 ∉ lineL o t k
  | 0 => by simp [lineL]
  | k + 1 => by
    simp only [lineL, List.mem_append, not_or]
    exact ⟨lineL_no o t k, (segL_ok o t k).1⟩
theorem lineL_asc (o t : Nat) : ∀ k, (lineL o t k).all (· < 128) = true
  | 0 => rfl
  | k + 1 => by
    simp only [lineL, List.all_append, lineL_asc o t k, (segL_ok o t k).2, Bool.and_self]
/-- where the quotes that open at the j-th turn close -/
def closeL (o j : Nat) : Int := if j + 1 < (turnsL o 11).length then (turnsL o 11).getD (j + 1) 0 else 11
theorem lineL_mono (o t : Nat) {a : Nat} : ∀ {k : Nat}, a ≤ k → (lineL o t a).length ≤ (lineL o t k).length
  | 0, h => by rw [Nat.le_zero.mp h]; exact Nat.le_refl _
  | k + 1, h => by
    rcases Nat.lt_or_ge a (k + 1) with h1 | h1
    · have := lineL_mono o t (Nat.le_of_lt_succ h1)
      rw [lineL, List.length_append]; omega
    · have e : a = k + 1 := by omega
      subst e; exact Nat.le_refl _
theorem min_is (c : Nat) : ((if (10 : Int) < (c : Int) then 10 else (c : Int)) + 1) = ((min c 10 + 1 : Nat) : Int) := by
  split <;> omega
theorem range1_all : ∀ a : Fin 13, ∀ b : Fin 13, Builtin.Range.small (a.val : Int) (b.val : Int) 1 = true := by decide
theorem range1 {a b : Nat} (h : a ≤ b) (hb : b ≤ 12) : Builtin.Range.small (a : Int) (b : Int) 1 = true ∧ Builtin.Range.rangeSize (a : Int) (b : Int) 1 = ((b - a : Nat) : Int) := by
  refine ⟨range1_all ⟨a, by omega⟩ ⟨b, by omega⟩, ?_⟩
  unfold Builtin.Range.rangeSize
  rw [if_pos (by decide)]
  split <;> omega
def stretchL (t a c : Nat) : Nat → List Nat
  | 0 => []
  | m + 1 => stretchL t a c m ++ ((if bt t (a + m) then [34] else []) ++ (if a + m < c then nmL (a + m) ++ [59] else []))
theorem stretchL_len (t a c : Nat) : ∀ m, (stretchL t a c m).length ≤ 22 * m
  | 0 => by simp [stretchL]
  | m + 1 => by
    have h1 := stretchL_len t a c m
    have h2 := nmL_len (a + m)
    simp only [stretchL, List.length_append]
    split <;> split <;> simp only [List.length_append, List.length_cons, List.length_nil] <;> omega
theorem startsL_at (o t : Nat) {a : Nat} : ∀ {k : Nat}, a < k → (startsL o t k)[a]? = some ((lineL o t a).length : Int)
  | k + 1, h => by
    rcases Nat.lt_or_ge a k with h1 | h1
    · rw [startsL, List.getElem?_append_left (by rw [startsL_len]; exact h1)]
      exact startsL_at o t h1
    · have e : a = k := by omega
      subst e
      rw [startsL, List.getElem?_append_right (by rw [startsL_len]; exact Nat.le_refl _), startsL_len, Nat.sub_self]
      rfl
end Mine
-- WLaw1
namespace Mine
/-- the scan, read from the left: nothing is hidden / a quote stands open -/
def outG : List Nat → Option (List Nat) → List Nat
  | [], none => []
  | [], some p => p
  | c :: r, none => if c = 34 then outG r (some [34]) else c :: outG r none
  | c :: r, some p => if c = 34 then outG r none else outG r (some (p ++ [c]))
def scanAt (l : List Nat) (j : Nat) (c : SS) : Prop :=
  match c.op with
  | none => c.st ≤ j ∧ c.res.flatten ++ ((l.drop c.st).take (j - c.st) ++ outG (l.drop j) none) = outG l none
  | some o => c.st ≤ o ∧ o < j ∧ c.res.flatten ++ ((l.drop c.st).take (o - c.st) ++ outG (l.drop j) (some ((l.drop o).take (j - o)))) = outG l none
theorem take_more {l : List Nat} {a j c : Nat} (ha : a ≤ j) (h : l[j]? = some c) : (l.drop a).take (j + 1 - a) = (l.drop a).take (j - a) ++ [c] := by
  rw [show j + 1 - a = j - a + 1 by omega, List.take_add_one, List.getElem?_drop, show a + (j - a) = j by omega, h]
  rfl
theorem scan_ok (l : List Nat) : ∀ j, j ≤ l.length → scanAt l j (stripSt l j)
  | 0, _ => by
    show 0 ≤ 0 ∧ _
    simp [stripSt]
  | j + 1, hj => by
    have ih := scan_ok l j (by omega)
    have hlt : j < l.length := by omega
    have hc := List.getElem?_eq_getElem hlt
    have hd := drop_at hc
    rw [stripSt, List.getD_eq_getElem?_getD, hc]
    show scanAt l (j + 1) (stripStep l (stripSt l j) j l[j])
    generalize l[j] = c at *
    generalize stripSt l j = q at *
    obtain ⟨st, op, res⟩ := q
    unfold stripStep
    cases op with
    | none =>
      obtain ⟨h1, h2⟩ := ih
      dsimp only at h1 h2
      rw [hd] at h2
      by_cases e : c = 34
      · rw [if_pos e]
        subst e
        refine ⟨h1, Nat.lt_succ_self _, ?_⟩
        dsimp only
        rw [show j + 1 - j = 1 by omega, hd]
        simpa [outG] using h2
      · rw [if_neg e]
        refine ⟨by dsimp only; omega, ?_⟩
        dsimp only
        rw [take_more h1 hc]
        simpa [outG, e] using h2
    | some o =>
      obtain ⟨h1, h3, h2⟩ := ih
      dsimp only at h1 h2 h3
      rw [hd] at h2
      by_cases e : c = 34
      · rw [if_pos e]
        subst e
        refine ⟨Nat.le_refl _, ?_⟩
        dsimp only
        rw [Nat.sub_self, List.take_zero, List.nil_append, ← h2]
        simp only [outG, if_true]
        by_cases e2 : st = o
        · subst e2
          simp
        · rw [if_pos e2]
          simp
      · rw [if_neg e]
        refine ⟨h1, by omega, ?_⟩
        dsimp only
        rw [take_more (Nat.le_of_lt h3) hc]
        simpa [outG, e] using h2
theorem strip_out (l : List Nat) : stripF l = outG l none := by
  have h := scan_ok l l.length (Nat.le_refl _)
  have h0 := stripSt_ok l l.length (Nat.le_refl _)
  unfold stripF
  generalize stripSt l l.length = q at *
  obtain ⟨st, op, res⟩ := q
  dsimp only at h0 ⊢
  have e : (if st < l.length then res ++ [l.drop st] else res).flatten = res.flatten ++ l.drop st := by
    split
    · simp
    · rw [List.drop_eq_nil_of_le (by omega)]; simp
  rw [e]
  cases op with
  | none =>
    obtain ⟨h1, h2⟩ := h
    dsimp only at h1 h2
    rw [← h2, List.drop_length, List.take_of_length_le (by rw [List.length_drop]; exact Nat.le_refl _)]
    simp [outG]
  | some o =>
    obtain ⟨h1, h3, h2⟩ := h
    dsimp only at h1 h2 h3
    rw [← h2, List.drop_length]
    have e3 : l.drop st = (l.drop st).take (o - st) ++ (l.drop o).take (l.length - o) := by
      rw [List.take_of_length_le (i := l.length - o) (by rw [List.length_drop]; exact Nat.le_refl _)]
      have := (List.take_append_drop (o - st) (l.drop st)).symm
      rw [List.drop_drop, show st + (o - st) = o by omega] at this
      exact this
    conv => lhs; rw [e3]
    rfl
theorem outG_plain {x : List Nat} (h : 34 ∉ x) (r : List Nat) : outG (x ++ r) none = x ++ outG r none := by
  induction x with
  | nil => rfl
  | cons c x ih =>
    rw [List.mem_cons, not_or] at h
    rw [List.cons_append, outG, if_neg (fun e => h.1 e.symm), ih h.2]
    rfl
theorem outG_plain' {x : List Nat} (h : 34 ∉ x) (r : List Nat) : ∀ p, outG (x ++ r) (some p) = outG r (some (p ++ x)) := by
  induction x with
  | nil => intro p; simp
  | cons c x ih =>
    intro p
    rw [List.mem_cons, not_or] at h
    rw [List.cons_append, outG, if_neg (fun e => h.1 e.symm), ih h.2]
    simp
end Mine
-- WLaw2
namespace Mine
def sufL (o t : Nat) : Nat → Nat → List Nat
  | 0, _ => []
  | n + 1, a => segL o t a ++ sufL o t n (a + 1)
theorem line_suf (o t : Nat) : ∀ n a, lineL o t a ++ sufL o t n a = lineL o t (a + n)
  | 0, a => by simp [sufL]
  | n + 1, a => by
    rw [sufL, ← List.append_assoc, show lineL o t a ++ segL o t a = lineL o t (a + 1) from rfl, line_suf o t n (a + 1)]
    congr 1
    omega
def par (o : Nat) : Nat → Bool
  | 0 => false
  | k + 1 => (par o k) != (bt o k)
def dueS (st : Int) (hid : Nat) : Nat → Nat → List Nat
  | 0, _ => []
  | n + 1, a => ((if (a : Int) = st then [34] else []) ++ (if bt hid a then [] else nmL a ++ [59])) ++ dueS st hid n (a + 1)
theorem due_suf (st : Int) (hid : Nat) : ∀ n a, dueL st hid a ++ dueS st hid n a = dueL st hid (a + n)
  | 0, a => by simp [dueS]
  | n + 1, a => by
    rw [dueS, ← List.append_assoc, show dueL st hid a ++ ((if (a : Int) = st then [34] else []) ++ (if bt hid a then [] else nmL a ++ [59])) = dueL st hid (a + 1) from rfl, due_suf st hid n (a + 1)]
    congr 1
    omega
/-- the words from e on -/
def nmsL (e : Nat) : Nat → List Nat
  | 0 => []
  | m + 1 => nmsL e m ++ (nmL (e + m) ++ [59])
theorem nmL_no (k : Nat) : 34 ∉ nmL k ++ [59] := by
  have h : 34 ∉ nmL k := by
    unfold nmL nmS
    split <;> decide
  simp [h]
theorem par_same {o : Nat} : ∀ {n k : Nat}, (∀ j, k ≤ j → j < k + n → bt o j = false) → par o (k + n) = par o k
  | 0, k, _ => rfl
  | n + 1, k, h => by
    have e : par o (k + (n + 1)) = (par o (k + n) != bt o (k + n)) := rfl
    rw [e, par_same (fun j h1 h2 => h j h1 (by omega)), h (k + n) (by omega) (by omega)]
    simp
/-- a turn lies ahead, where the count is even and ends odd -/
theorem par_later {o k : Nat} (hk : k ≤ 11) (h : par o k ≠ par o 11) : ∃ j, k ≤ j ∧ j < 11 ∧ bt o j = true := by
  apply Classical.byContradiction
  intro hn
  refine h ?_
  have := par_same (o := o) (n := 11 - k) (k := k) (fun j h1 h2 => by
    cases e : bt o j with
    | false => rfl
    | true => exact absurd ⟨j, h1, by omega, e⟩ hn)
  rw [show k + (11 - k) = 11 by omega] at this
  exact this.symm
/-- what the places that stay and hide must be -/
structure Fit (o t : Nat) (st : Int) (hid : Nat) : Prop where
  even : par o 11 = false → st = -1
  odd : par o 11 = true → ∃ e : Nat, st = e ∧ e < 11 ∧ (bt o e || bt t e) = true ∧ ∀ k, k < 11 → (bt o k || bt t k) = true → k ≤ e
  hid : ∀ k, k < 11 → bt hid k = (par o (k + 1) && (!(par o 11) || decide ((k : Int) < st)))
theorem Fit.le {o t hid : Nat} {st : Int} (f : Fit o t st hid) (h : par o 11 = true) {k : Nat} (hk : k < 11) (hb : (bt o k || bt t k) = true) : (k : Int) ≤ st := by
  obtain ⟨e, he, _, _, h4⟩ := f.odd h
  have := h4 k hk hb
  omega
theorem seg_out (o t a : Nat) (r : List Nat) : segL o t a ++ r = (if bt o a then [34] else []) ++ ((if bt t a then [34, 34] else []) ++ ((nmL a ++ [59]) ++ r)) := by
  simp [segL]
theorem out_due {o t hid : Nat} {st : Int} (f : Fit o t st hid) : ∀ n a, a + n = 11 →
    (par o a = false → outG (sufL o t n a) none = dueS st hid n a) ∧
    (∀ e m, par o a = true → a = e + m → 0 < m → (bt o e || bt t e) = true → (∀ k, e < k → k < a → (bt o k || bt t k) = false) →
      outG (sufL o t n a) (some (34 :: nmsL e m)) = (if (e : Int) = st then 34 :: nmsL e m else []) ++ dueS st hid n a)
  | 0, a, ha => by
    refine ⟨fun _ => rfl, fun e m hp hem hm he hk => ?_⟩
    have h11 : a = 11 := by omega
    subst h11
    obtain ⟨g, hg, hg1, hg2, hg3⟩ := f.odd hp
    have h1 := hg3 e (by omega) he
    have h2 : g = e := by
      rcases Nat.lt_or_ge e g with h | h
      · have := hk g h hg1
        rw [hg2] at this; cases this
      · omega
    rw [if_pos (by omega)]
    simp [sufL, outG, dueS]
  | n + 1, a, ha => by
    obtain ⟨ihV, ihH⟩ := out_due f n (a + 1) (by omega)
    have hh := f.hid a (by omega)
    have pe : par o (a + 1) = (par o a != bt o a) := rfl
    have nm1 : nmsL a 1 = nmL a ++ [59] := by simp [nmsL]
    -- where the quote that opens is the a-th segment's
    have opens : par o (a + 1) = true → (bt o a || bt t a) = true →
        outG ((nmL a ++ [59]) ++ sufL o t n (a + 1)) (some [34]) = dueS st hid (n + 1) a := by
      intro hp hb
      rw [outG_plain' (nmL_no a), show ([34] ++ (nmL a ++ [59]) : List Nat) = 34 :: nmsL a 1 by rw [nm1]; rfl, ihH a 1 hp rfl (by omega) hb (fun k h1 h2 => by omega)]
      rw [dueS, hh, hp]
      by_cases e : (a : Int) = st
      · rw [if_pos e, if_pos e]
        have ho : par o 11 = true := by
          cases h : par o 11 with
          | true => rfl
          | false => have := f.even h; omega
        rw [ho, nm1]
        simp [e]
      · rw [if_neg e, if_neg e]
        have : (!(par o 11) || decide ((a : Int) < st)) = true := by
          cases h : par o 11 with
          | false => rfl
          | true =>
            have := f.le h (k := a) (by omega) hb
            simp; omega
        rw [this]
        simp
    -- where the scan shows the a-th segment
    have shows : par o (a + 1) = false → outG ((nmL a ++ [59]) ++ sufL o t n (a + 1)) none = dueS st hid (n + 1) a := by
      intro hp
      rw [outG_plain (nmL_no a), ihV hp, dueS, hh, hp]
      have e : ¬ (a : Int) = st := by
        intro e
        have ho : par o 11 = true := by
          cases h : par o 11 with
          | true => rfl
          | false => have := f.even h; omega
        obtain ⟨j, h1, h2, h3⟩ := par_later (o := o) (k := a + 1) (by omega) (by rw [hp, ho]; decide)
        have := f.le ho h2 (by rw [h3]; rfl)
        omega
      rw [if_neg e]
      simp
    refine ⟨fun hp => ?_, fun e m hp hem hm he hk => ?_⟩
    · rw [sufL, seg_out]
      cases ho : bt o a with
      | true =>
        have hp' : par o (a + 1) = true := by rw [pe, hp, ho]; rfl
        have := opens hp' (by rw [ho]; rfl)
        cases ht : bt t a <;> simpa [outG] using this
      | false =>
        have hp' : par o (a + 1) = false := by rw [pe, hp, ho]; rfl
        have := shows hp'
        cases ht : bt t a <;> simpa [outG] using this
    · rw [sufL, seg_out]
      cases ho : bt o a with
      | true =>
        have hp' : par o (a + 1) = false := by rw [pe, hp, ho]; rfl
        have h1 := shows hp'
        have e1 : ¬ (e : Int) = st := by
          intro e1
          have ho11 : par o 11 = true := by
            cases h : par o 11 with
            | true => rfl
            | false => have := f.even h; omega
          have := f.le ho11 (k := a) (by omega) (by rw [ho]; rfl)
          omega
        rw [if_neg e1]
        cases ht : bt t a <;> simpa [outG] using h1
      | false =>
        have hp' : par o (a + 1) = true := by rw [pe, hp, ho]; rfl
        cases ht : bt t a with
        | true =>
          have h1 := opens hp' (by rw [ht, Bool.or_true])
          have e1 : ¬ (e : Int) = st := by
            intro e1
            have ho11 : par o 11 = true := by
              cases h : par o 11 with
              | true => rfl
              | false => have := f.even h; omega
            have := f.le ho11 (k := a) (by omega) (by rw [ht, Bool.or_true])
            omega
          rw [if_neg e1]
          simpa [outG] using h1
        | false =>
          have h1 := ihH e (m + 1) hp' (by omega) (by omega) he (fun k h2 h3 => by
            rcases Nat.lt_or_ge k a with h | h
            · exact hk k h2 h
            · have : k = a := by omega
              subst this
              rw [ho, ht]; rfl)
          have e2 : nmsL e (m + 1) = nmsL e m ++ (nmL a ++ [59]) := by rw [nmsL, hem]
          have e3 : ¬ (a : Int) = st := by
            intro e3
            have ho11 : par o 11 = true := by
              cases h : par o 11 with
              | true => rfl
              | false => have := f.even h; omega
            obtain ⟨g, hg, hg1, hg2, hg3⟩ := f.odd ho11
            have : g = a := by omega
            subst this
            rw [ho, ht] at hg2; cases hg2
          have h0 : outG ((if false = true then [34] else []) ++ ((if false = true then [34, 34] else []) ++ ((nmL a ++ [59]) ++ sufL o t n (a + 1)))) (some (34 :: nmsL e m)) = outG (sufL o t n (a + 1)) (some (34 :: nmsL e (m + 1))) := by
            rw [e2]
            simp only [Bool.false_eq_true, if_false, List.nil_append]
            rw [outG_plain' (nmL_no a)]
            rfl
          rw [h0, h1, dueS, if_neg e3, hh, hp', e2]
          by_cases e4 : (e : Int) = st
          · rw [if_pos e4, if_pos e4]
            have ho11 : par o 11 = true := by
              cases h : par o 11 with
              | true => rfl
              | false => have := f.even h; omega
            have : decide ((a : Int) < st) = false := by simp; omega
            rw [ho11, this]
            simp
          · rw [if_neg e4, if_neg e4]
            have : (!(par o 11) || decide ((a : Int) < st)) = true := by
              cases h : par o 11 with
              | false => rfl
              | true =>
                obtain ⟨g, hg, hg1, hg2, hg3⟩ := f.odd h
                have h5 := hg3 e (by omega) he
                have h6 : a < g := by
                  rcases Nat.lt_or_ge a g with h7 | h7
                  · exact h7
                  · have : e < g := by omega
                    have h8 := hk g this (by omega)
                    rw [hg2] at h8; cases h8
                simp; omega
            rw [this]
            simp
theorem strip_fit {o t hid : Nat} {st : Int} (f : Fit o t st hid) : stripF (lineL o t 11) = dueL st hid 11 := by
  rw [strip_out]
  have h1 := (out_due f 11 0 rfl).1 rfl
  have h2 := line_suf o t 11 0
  have h3 := due_suf st hid 11 0
  rw [Nat.zero_add] at h2 h3
  rw [← h2, ← h3]
  exact h1
end Mine
-- WLaw3
namespace Mine
/-- the sum with signs: down at an even place, up at an odd one -/
def altS : List Int → Int
  | [] => 0
  | [a] => - 2 ^ a.toNat
  | a :: b :: r => 2 ^ b.toNat - 2 ^ a.toNat + altS r
theorem altS_snoc (x : Int) : ∀ l : List Int, altS (l ++ [x]) = altS l + (if l.length % 2 = 0 then - 2 ^ x.toNat else 2 ^ x.toNat)
  | [] => by simp [altS]
  | [a] => by simp [altS]; omega
  | a :: b :: r => by
    have ih := altS_snoc x r
    show 2 ^ b.toNat - 2 ^ a.toNat + altS (r ++ [x]) = 2 ^ b.toNat - 2 ^ a.toNat + altS r + _
    rw [ih, show (a :: b :: r).length % 2 = r.length % 2 by simp only [List.length_cons]; omega]
    omega
theorem hid_alt : ∀ l : List Int, l.length % 2 = 0 → ((List.range (l.length / 2)).map (hidG l)).sum = altS l
  | [], _ => rfl
  | [a], h => by cases h
  | a :: b :: r, h => by
    have ih := hid_alt r (by simp only [List.length_cons] at h; omega)
    have e : (a :: b :: r).length / 2 = r.length / 2 + 1 := by simp only [List.length_cons]; omega
    rw [e, List.range_succ_eq_map, List.map_cons, List.sum_cons, List.map_map]
    have e2 : (List.range (r.length / 2)).map (hidG (a :: b :: r) ∘ Nat.succ) = (List.range (r.length / 2)).map (hidG r) := by
      apply List.map_congr_left
      intro i _
      show hidG (a :: b :: r) (i + 1) = hidG r i
      unfold hidG
      rw [show 2 * (i + 1) + 1 = (2 * i + 1) + 1 + 1 by omega, show 2 * (i + 1) = 2 * i + 1 + 1 by omega]
      rfl
    rw [e2, ih]
    rfl
def hidN (o : Nat) : Nat → Nat
  | 0 => 0
  | k + 1 => hidN o k + (if par o (k + 1) = true then 2 ^ k else 0)
theorem turns_par (o : Nat) : ∀ k, ((turnsL o k).length % 2 = 0 ↔ par o k = false)
  | 0 => by simp [turnsL, par]
  | k + 1 => by
    have ih := turns_par o k
    unfold turnsL par
    cases h1 : bt o k <;> cases h2 : par o k <;> rw [h2] at ih <;> simp [List.length_append] at ih ⊢ <;> omega
theorem turns_alt (o : Nat) : ∀ k, altS (turnsL o k) = (hidN o k : Int) - (if par o k = true then ((2 ^ k : Nat) : Int) else 0)
  | 0 => by simp [turnsL, altS, hidN, par]
  | k + 1 => by
    have ih := turns_alt o k
    have hp := turns_par o k
    have pe : par o (k + 1) = (par o k != bt o k) := rfl
    have p2 : (2 : Nat) ^ (k + 1) = 2 ^ k + 2 ^ k := by rw [Nat.pow_succ]; omega
    have cast : (2 : Int) ^ ((k : Int)).toNat = ((2 ^ k : Nat) : Int) := by rw [Int.toNat_natCast, Int.natCast_pow]; rfl
    unfold turnsL hidN
    rw [pe]
    cases h1 : bt o k <;> cases h2 : par o k <;> rw [h2] at ih hp
    · simp at ih hp ⊢
      exact ih
    · simp at ih hp ⊢
      rw [ih]
      have : ((2 : Int) ^ (k + 1)) = 2 ^ k + 2 ^ k := by rw [Int.pow_succ]; omega
      rw [this]; omega
    · simp only [if_true]
      rw [altS_snoc, ih, if_pos (hp.mpr rfl), cast, p2]
      simp
      omega
    · simp only [if_true]
      rw [if_pos rfl] at ih
      rw [altS_snoc, ih, if_neg (by rw [hp]; decide), cast]
      simp
theorem hidN_lt (o : Nat) : ∀ k, hidN o k < 2 ^ k
  | 0 => Nat.zero_lt_one
  | k + 1 => by
    have ih := hidN_lt o k
    unfold hidN
    have p2 : (2 : Nat) ^ (k + 1) = 2 ^ k + 2 ^ k := by rw [Nat.pow_succ]; omega
    split <;> omega
theorem bt_test (n k : Nat) : bt n k = n.testBit k := by
  rw [Nat.testBit_eq_decide_div_mod_eq, bt]
  by_cases h : n / 2 ^ k % 2 = 1
  · simp [h]
  · simp [h]
theorem hidN_bt (o k : Nat) : ∀ m, bt (hidN o m) k = (decide (k < m) && par o (k + 1))
  | 0 => by simp [hidN, bt]
  | m + 1 => by
    have ih := hidN_bt o k m
    have hl := hidN_lt o m
    unfold hidN
    rw [bt_test] at ih ⊢
    cases hp : par o (m + 1) with
    | false =>
      simp only [Bool.false_eq_true, if_false, Nat.add_zero]
      rw [ih]
      by_cases e : k = m
      · subst e; rw [hp]; simp
      · have : decide (k < m + 1) = decide (k < m) := by rw [decide_eq_decide]; omega
        rw [this]
    | true =>
      simp only [if_true]
      rw [Nat.add_comm (hidN o m)]
      rcases Nat.lt_trichotomy k m with h | h | h
      · rw [Nat.testBit_two_pow_add_gt h, ih]
        have : decide (k < m + 1) = decide (k < m) := by rw [decide_eq_decide]; omega
        rw [this]
      · subst h
        rw [Nat.testBit_two_pow_add_eq, ih, hp]
        simp
      · have h1 : 2 ^ m + hidN o m < 2 ^ k := by
          have : 2 ^ (m + 1) ≤ 2 ^ k := Nat.pow_le_pow_right (by decide) h
          have p2 : (2 : Nat) ^ (m + 1) = 2 ^ m + 2 ^ m := by rw [Nat.pow_succ]; omega
          omega
        rw [Nat.testBit_lt_two_pow h1]
        have : decide (k < m + 1) = false := by simp; omega
        rw [this]; rfl
theorem hidN_all {o m : Nat} : ∀ n, (∀ k, m ≤ k → k < m + n → par o (k + 1) = true) → hidN o (m + n) + 2 ^ m = hidN o m + 2 ^ (m + n)
  | 0, _ => rfl
  | n + 1, h => by
    have ih := hidN_all n (fun k h1 h2 => h k h1 (by omega))
    have e : hidN o (m + (n + 1)) = hidN o (m + n) + (if par o (m + n + 1) = true then 2 ^ (m + n) else 0) := rfl
    rw [e, if_pos (h (m + n) (by omega) (by omega))]
    have p2 : (2 : Nat) ^ (m + (n + 1)) = 2 ^ (m + n) + 2 ^ (m + n) := by rw [← Nat.add_assoc, Nat.pow_succ]; omega
    omega
theorem eithers_mem (o t : Nat) {k : Nat} : ∀ {n : Nat}, k < n → (bt o k || bt t k) = true → (k : Int) ∈ eithersL o t n
  | n + 1, h, hb => by
    unfold eithersL
    by_cases e : k = n
    · subst e
      rw [if_pos hb]
      exact List.mem_append_right _ (List.mem_singleton.mpr rfl)
    · have := eithers_mem o t (show k < n by omega) hb
      split
      · exact List.mem_append_left _ this
      · exact this
theorem eithers_of (o t : Nat) {a : Int} : ∀ {n : Nat}, a ∈ eithersL o t n → ∃ k : Nat, a = k ∧ k < n ∧ (bt o k || bt t k) = true
  | 0, h => nomatch h
  | n + 1, h => by
    unfold eithersL at h
    split at h <;> rename_i hb
    · rcases List.mem_append.mp h with h | h
      · obtain ⟨k, h1, h2, h3⟩ := eithers_of o t h
        exact ⟨k, h1, by omega, h3⟩
      · exact ⟨n, List.mem_singleton.mp h, by omega, hb⟩
    · obtain ⟨k, h1, h2, h3⟩ := eithers_of o t h
      exact ⟨k, h1, by omega, h3⟩
theorem fit_of {o t : Nat} {st : Int} (h : StaysIs o t st) : ∃ hid : Nat, ((List.range ((flagsL o st).length / 2)).map (hidG (flagsL o st))).sum = (hid : Int) ∧ hid < 2048 ∧ Fit o t st hid := by
  have hp := turns_par o 11
  have ha := turns_alt o 11
  rw [hid_alt _ (flagsL_even o st)]
  cases ho : par o 11 with
  | false =>
    rw [ho] at hp ha
    have h0 : (turnsL o 11).length % 2 = 0 := hp.mpr rfl
    rw [StaysIs, if_neg (by omega)] at h
    refine ⟨hidN o 11, ?_, hidN_lt o 11, ⟨fun _ => h, fun e => (by rw [ho] at e; cases e), fun k hk => ?_⟩⟩
    · rw [flagsL, if_neg (by omega), ha]
      simp
    · rw [hidN_bt, ho]
      simp [hk]
  | true =>
    rw [ho] at hp ha
    have h1 : (turnsL o 11).length % 2 = 1 := by
      rcases Nat.mod_two_eq_zero_or_one (turnsL o 11).length with h | h
      · exact absurd (hp.mp h) (by decide)
      · exact h
    rw [StaysIs, if_pos h1] at h
    obtain ⟨hm, hle⟩ := h
    obtain ⟨e, he, he1, he2⟩ := eithers_of o t hm
    subst he
    have later : ∀ k, k < 11 → (bt o k || bt t k) = true → k ≤ e := fun k h1 h2 => by
      have := hle k (eithers_mem o t h1 h2)
      omega
    have hpar : ∀ k, e ≤ k → k < e + (11 - e) → par o (k + 1) = true := fun k h2 h3 => by
      have := par_same (o := o) (n := 11 - (k + 1)) (k := k + 1) (fun j h4 h5 => by
        cases hb : bt o j with
        | false => rfl
        | true =>
          have := later j (by omega) (by rw [hb]; rfl)
          omega)
      rw [show k + 1 + (11 - (k + 1)) = 11 by omega] at this
      rw [← this]; exact ho
    have hall := hidN_all (11 - e) hpar
    rw [show e + (11 - e) = 11 by omega] at hall
    refine ⟨hidN o e, ?_, ?_, ⟨fun h => (by rw [ho] at h; cases h), fun _ => ⟨e, rfl, he1, he2, later⟩, fun k hk => ?_⟩⟩
    · rw [if_pos rfl] at ha
      rw [flagsL, if_pos h1, altS_snoc, ha, if_neg (by omega), Int.toNat_natCast]
      have cast : (2 : Int) ^ e = ((2 ^ e : Nat) : Int) := by rw [Int.natCast_pow]; rfl
      rw [cast]
      omega
    · have := hidN_lt o e
      have h3 : (2 : Nat) ^ e ≤ 2 ^ 11 := Nat.pow_le_pow_right (by decide) (by omega)
      omega
    · rw [hidN_bt, ho]
      have : decide ((k : Int) < (e : Int)) = decide (k < e) := by rw [decide_eq_decide]; omega
      rw [this, Bool.and_comm]
      rfl
end Mine
-- WLaw4
namespace Mine
open Builtin Builtin.Str
/-- the parts, with comma and blank between -/
def jl : List (List Nat) → List Nat
  | [] => []
  | [p] => p
  | p :: q :: r => p ++ ([44, 32] ++ jl (q :: r))
theorem jl_T : ∀ ps : List (List Nat), Str.join (Str.ofString ", ") (ps.map T) = T (jl ps)
  | [] => rfl
  | [p] => rfl
  | p :: q :: r => by
    have ih := jl_T (q :: r)
    show T p ++ Str.ofString ", " ++ Str.join (Str.ofString ", ") ((q :: r).map T) = _
    rw [ih, show Str.ofString ", " = T [44, 32] from rfl, T_append, T_append]
    simp [jl]
theorem at_T (l : List Nat) (k : Nat) : StrLaws.At (T l) (Str.ofString ", ") (T l).length k ↔ ∃ r, l.drop k = 44 :: 32 :: r := by
  unfold StrLaws.At
  rw [StrLaws.subAt_eq, show (Str.ofString ", ").length = 2 from rfl, show (Str.ofString ", ").cps.toList = [44, 32] from rfl, show (T l).cps.toList = l from by simp [T], T_length]
  constructor
  · rintro ⟨h1, h2⟩
    have h3 := eq_of_beq h2
    refine ⟨(l.drop k).drop 2, ?_⟩
    have h4 := (List.take_append_drop 2 (l.drop k)).symm
    rw [h3] at h4
    exact h4
  · rintro ⟨r, h⟩
    rw [h]
    refine ⟨?_, by rfl⟩
    have := congrArg List.length h
    rw [List.length_drop] at this
    simp only [List.length_cons] at this
    omega
theorem sub_T (l : List Nat) (a b : Nat) : strSub (T l) a b = T ((l.drop a).take (b - a)) := by
  apply Str.ext'
  apply Array.toList_inj.mp
  rw [StrLaws.strSub_toList]
  simp [T]
theorem parts_T (l : List Nat) (f : Nat) : ∀ (cuts : List Nat) (a : Nat) (p : List Nat) (rest : List (List Nat)), (∀ q ∈ p :: rest, 44 ∉ q) → a ≤ l.length → l.drop a = jl (p :: rest) →
    StrLaws.ChainG (T l) (Str.ofString ", ") (T l).length a cuts f → (∀ k, f ≤ k → ¬ StrLaws.At (T l) (Str.ofString ", ") (T l).length k) → StrLaws.partsFrom (T l) 2 a cuts = (p :: rest).map T
  | [], a, p, rest, hno, hal, hd, hG, hn => by
    have e : f = a := hG
    subst e
    cases rest with
    | nil =>
      show [strSub (T l) f (T l).length] = [T p]
      rw [sub_T, hd, T_length, List.take_of_length_le]
      · rfl
      · have := congrArg List.length hd
        rw [List.length_drop] at this
        omega
    | cons q r =>
      refine absurd ((at_T l (f + p.length)).mpr ⟨jl (q :: r), ?_⟩) (hn _ (by omega))
      rw [← List.drop_drop, hd]
      simp [jl]
  | c :: cs, a, p, rest, hno, hal, hd, hG, hn => by
    obtain ⟨h1, h2, h3, h4⟩ := hG
    obtain ⟨rr, hc⟩ := (at_T l c).mp h2
    have hp : 44 ∉ p := hno p (List.mem_cons_self ..)
    have hcl : l[c]? = some 44 := by
      have := congrArg List.head? hc
      rwa [List.head?_drop] at this
    -- a comma at c is no sign of p
    have far : a + p.length ≤ c := by
      rcases Nat.lt_or_ge c (a + p.length) with h | h
      · exfalso
        have e1 : (l.drop a)[c - a]? = some 44 := by rw [List.getElem?_drop, show a + (c - a) = c by omega]; exact hcl
        have e2 : (jl (p :: rest))[c - a]? = p[c - a]? := by
          cases rest with
          | nil => rfl
          | cons q r => rw [jl, List.getElem?_append_left (by omega)]
        rw [hd, e2] at e1
        exact hp (List.mem_of_getElem? e1)
      · exact h
    cases rest with
    | nil =>
      exfalso
      have := congrArg List.length hd
      rw [List.length_drop] at this
      have h5 : c < l.length := by
        rcases Nat.lt_or_ge c l.length with h | h
        · exact h
        · rw [List.getElem?_eq_none h] at hcl; cases hcl
      simp only [jl] at this
      omega
    | cons q r =>
      have hat := (at_T l (a + p.length)).mpr ⟨jl (q :: r), by rw [← List.drop_drop, hd]; simp [jl]⟩
      have ec : c = a + p.length := by
        rcases Nat.lt_or_ge (a + p.length) c with h | h
        · exact absurd hat (h3 _ (by omega) h)
        · omega
      have hd2 : l.drop (c + 2) = jl (q :: r) := by
        rw [ec, ← List.drop_drop, ← List.drop_drop, hd]
        simp [jl]
      have hl2 : c + 2 ≤ l.length := by
        have := congrArg List.length hc
        rw [List.length_drop] at this
        simp only [List.length_cons] at this
        omega
      have ih := parts_T l f cs (c + 2) q r (fun z hz => hno z (List.mem_cons_of_mem _ hz)) hl2 hd2 h4 hn
      show strSub (T l) a c :: StrLaws.partsFrom (T l) 2 (c + 2) cs = _
      rw [ih, sub_T, hd, ec, show a + p.length - a = p.length by omega]
      simp [jl]
theorem kind_T (l : List Nat) (h : l.all (· < 256) = true) : Builtin.Str.strKind (T l) = 1 := by
  unfold Builtin.Str.strKind
  rw [if_pos (by rw [← Array.all_toList]; simpa [T] using h)]
theorem split_jl (p : List Nat) (rest : List (List Nat)) (hno : ∀ q ∈ p :: rest, 44 ∉ q) (hk : Builtin.Str.strKind (T (jl (p :: rest))) = 1) : Txt.split (T (jl (p :: rest))) (Str.ofString ", ") = (p :: rest).map T := by
  obtain ⟨f, hG, hn⟩ := StrLaws.occ_tight (T (jl (p :: rest))) (Str.ofString ", ") (by decide)
  have key := parts_T (jl (p :: rest)) f _ 0 p rest hno (Nat.zero_le _) rfl hG hn
  unfold Txt.split
  have sk : Builtin.Str.strKind (Str.ofString ", ") = 1 := kind_T [44, 32] rfl
  rw [hk, sk]
  split
  · rename_i h
    have hlt : (T (jl (p :: rest))).length < 2 := by
      rw [Bool.or_eq_true, decide_eq_true_eq, decide_eq_true_eq] at h
      rcases h with h | h
      · exact h
      · exact absurd h (by decide)
    cases rest with
    | nil => rfl
    | cons q r =>
      rw [T_length] at hlt
      simp only [jl, List.length_append, List.length_cons] at hlt
      omega
  · split
    · rename_i h
      rw [List.isEmpty_iff.mp h] at key
      rw [← key]
      show [_] = [strSub _ 0 _]
      rw [StrLaws.sub_whole]
    · rw [← key, ← StrLaws.zip_parts]
      rfl
theorem nm_inj : ∀ m k : Fin 11, (nmL m.val = nmL k.val ↔ m.val = k.val) := by decide
theorem nm_zero : ∀ k : Fin 11, ¬ [48, 120, 48] = nmL k.val := by decide
theorem nmL_noc (k : Nat) : 44 ∉ nmL k := by
  unfold nmL nmS
  split <;> decide
theorem namesB_T (n : Nat) : ∀ k, ∃ ps : List (List Nat), namesB n k = ps.map T ∧ (∀ q ∈ ps, 44 ∉ q ∧ q.all (· < 256) = true ∧ q.length ≤ 18) ∧ ps.length ≤ k
  | 0 => ⟨[], rfl, fun q h => (by cases h), Nat.le_refl _⟩
  | k + 1 => by
    obtain ⟨ps, h1, h2, h3⟩ := namesB_T n k
    unfold namesB
    split
    · refine ⟨ps ++ [nmL k], by rw [h1, List.map_append, List.map_cons, List.map_nil, nmL_T], fun q hq => ?_, by simp; omega⟩
      rcases List.mem_append.mp hq with hq | hq
      · exact h2 q hq
      · rw [List.mem_singleton.mp hq]
        refine ⟨nmL_noc k, ?_, nmL_len k⟩
        unfold nmL nmS
        split <;> decide
    · exact ⟨ps, h1, h2, by omega⟩
theorem prettyL_T (n : Nat) : ∃ ps : List (List Nat), prettyL n = ps.map T ∧ (∀ q ∈ ps, 44 ∉ q ∧ q.all (· < 256) = true ∧ q.length ≤ 18) ∧ ps.length ≤ 11 := by
  unfold prettyL
  split
  · exact ⟨[[48, 120, 48]], rfl, fun q h => by rw [List.mem_singleton.mp h]; decide, by decide⟩
  · exact namesB_T n 11
theorem jl_len : ∀ ps : List (List Nat), (∀ q ∈ ps, q.length ≤ 18) → (jl ps).length ≤ 20 * ps.length
  | [], _ => Nat.le_refl _
  | [p], h => by have := h p (List.mem_cons_self ..); simp only [jl, List.length_cons, List.length_nil]; omega
  | p :: q :: r, h => by
    have ih := jl_len (q :: r) fun z hz => h z (List.mem_cons_of_mem _ hz)
    have := h p (List.mem_cons_self ..)
    simp only [jl, List.length_append, List.length_cons, List.length_nil] at ih ⊢
    omega
theorem jl_all : ∀ ps : List (List Nat), (∀ q ∈ ps, q.all (· < 256) = true) → (jl ps).all (· < 256) = true
  | [], _ => rfl
  | [p], h => h p (List.mem_cons_self ..)
  | p :: q :: r, h => by
    have ih := jl_all (q :: r) fun z hz => h z (List.mem_cons_of_mem _ hz)
    have := h p (List.mem_cons_self ..)
    rw [jl, List.all_append, List.all_append, ih, this]
    rfl
theorem pretty_jl {n : Nat} {ps : List (List Nat)} (h : prettyL n = ps.map T) : prettyF n = T (jl ps) := by
  unfold prettyF Txt.join
  rw [StrLaws.glued_eq_join, h, jl_T]
theorem namesB_has (n k : Nat) (hk : k < 11) : ∀ m, m ≤ 11 → (namesB n m).any (· == nmS k) = (decide (k < m) && bt n k)
  | 0, _ => by simp [namesB]
  | m + 1, hm => by
    have ih := namesB_has n k hk m (by omega)
    have inj : (nmS m == nmS k) = decide (m = k) := by
      rw [← nmL_T, ← nmL_T, T_beq]
      have := nm_inj ⟨m, by omega⟩ ⟨k, hk⟩
      rw [decide_eq_decide]
      exact this
    unfold namesB
    cases hb : bt n m with
    | true =>
      simp only [if_true, List.any_append, ih, List.any_cons, List.any_nil, Bool.or_false, inj]
      by_cases e : m = k
      · subst e; simp [hb]
      · have : decide (k < m + 1) = decide (k < m) := by rw [decide_eq_decide]; omega
        rw [this]; simp [e]
    | false =>
      simp only [Bool.false_eq_true, if_false, ih]
      by_cases e : m = k
      · subst e; simp [hb]
      · have : decide (k < m + 1) = decide (k < m) := by rw [decide_eq_decide]; omega
        rw [this]
theorem prettyL_ne (n : Nat) (h : prettyL n = []) (hn : n < 2048) : False := by
  unfold prettyL at h
  split at h
  · cases h
  · rename_i h0
    refine h0 (Nat.eq_of_testBit_eq fun k => ?_)
    rw [Nat.zero_testBit, ← bt_test]
    rcases Nat.lt_or_ge k 11 with hk | hk
    · have := namesB_has n k hk 11 (Nat.le_refl _)
      rw [h] at this
      simpa [hk] using this.symm
    · rw [bt_test]
      have : 2 ^ 11 ≤ 2 ^ k := Nat.pow_le_pow_right (by decide) hk
      exact Nat.testBit_lt_two_pow (by omega)
theorem prettyF_split' (n : Nat) (hn : n < 2048) : Txt.split (prettyF n) (Str.ofString ", ") = prettyL n := by
  obtain ⟨ps, h1, h2, h3⟩ := prettyL_T n
  rw [pretty_jl h1, h1]
  cases ps with
  | nil => exact (prettyL_ne n h1 hn).elim
  | cons p rest => exact split_jl p rest (fun q hq => (h2 q hq).1) (kind_T _ (jl_all _ fun q hq => (h2 q hq).2.1))
theorem prettyF_len' (n : Nat) : (prettyF n).length ≤ 1000 := by
  obtain ⟨ps, h1, h2, h3⟩ := prettyL_T n
  rw [pretty_jl h1, T_length]
  have := jl_len ps fun q hq => (h2 q hq).2.2
  omega
theorem told_has' (n k : Nat) (hk : k < 11) : (prettyL n).any (· == nmS k) = bt n k := by
  unfold prettyL
  split
  · rename_i h
    subst h
    have h0 : bt 0 k = false := by simp [bt]
    have h1 : ([Str.ofString "0x0"].any (· == nmS k)) = false := by
      rw [List.any_cons, List.any_nil, Bool.or_false, ← nmL_T, show Str.ofString "0x0" = T [48, 120, 48] from rfl, T_beq]
      have := nm_zero ⟨k, hk⟩
      simpa using this
    rw [h0, h1]
  · rw [namesB_has n k hk 11 (Nat.le_refl _)]
    simp [hk]
end Mine
-- WLaw5
namespace Mine
theorem turn_pos (o : Nat) : ∀ n j, j < (turnsL o n).length → ∃ a : Nat, (turnsL o n)[j]? = some (a : Int) ∧ a < n ∧ bt o a = true ∧
    ((j + 1 < (turnsL o n).length ∧ ∃ c : Nat, (turnsL o n)[j + 1]? = some (c : Int) ∧ a < c ∧ c < n ∧ bt o c = true ∧ ∀ k, a < k → k < c → bt o k = false) ∨
     (j + 1 = (turnsL o n).length ∧ ∀ k, a < k → k < n → bt o k = false))
  | 0, j, h => by cases h
  | n + 1, j, h => by
    have ih := turn_pos o n j
    unfold turnsL at h ⊢
    cases hb : bt o n with
    | false =>
      rw [hb] at h
      simp only [Bool.false_eq_true, if_false] at h ⊢
      obtain ⟨a, h1, h2, h3, h4⟩ := ih h
      refine ⟨a, h1, by omega, h3, ?_⟩
      rcases h4 with ⟨h5, c, h6, h7, h8, h9, h10⟩ | ⟨h5, h6⟩
      · exact .inl ⟨h5, c, h6, h7, by omega, h9, h10⟩
      · refine .inr ⟨h5, fun k hk1 hk2 => ?_⟩
        rcases Nat.lt_or_ge k n with h7 | h7
        · exact h6 k hk1 h7
        · have : k = n := by omega
          subst this; exact hb
    | true =>
      rw [hb] at h
      simp only [if_true, List.length_append, List.length_cons, List.length_nil] at h ⊢
      rcases Nat.lt_or_ge j (turnsL o n).length with hj | hj
      · obtain ⟨a, h1, h2, h3, h4⟩ := ih hj
        refine ⟨a, by rw [List.getElem?_append_left hj]; exact h1, by omega, h3, ?_⟩
        rcases h4 with ⟨h5, c, h6, h7, h8, h9, h10⟩ | ⟨h5, h6⟩
        · exact .inl ⟨by omega, c, by rw [List.getElem?_append_left h5]; exact h6, h7, by omega, h9, h10⟩
        · refine .inl ⟨by omega, n, ?_, h2, by omega, hb, h6⟩
          rw [List.getElem?_append_right (by omega), h5, Nat.sub_self]
          rfl
      · have ej : j = (turnsL o n).length := by omega
        refine ⟨n, ?_, by omega, hb, .inr ⟨by omega, fun k hk1 hk2 => by omega⟩⟩
        rw [List.getElem?_append_right (by omega), ej, Nat.sub_self]
        rfl
theorem turn_at' {o j : Nat} (hj : j < (turnsL o 11).length) : ∃ a c : Nat, (turnsL o 11).getD j 0 = (a : Int) ∧ closeL o j = (c : Int) ∧ a < c ∧ c ≤ 11 ∧ bt o a = true ∧ (∀ k, a < k → k < c → bt o k = false) ∧ (c < 11 → bt o c = true) := by
  obtain ⟨a, h1, h2, h3, h4⟩ := turn_pos o 11 j hj
  rcases h4 with ⟨h5, c, h6, h7, h8, h9, h10⟩ | ⟨h5, h6⟩
  · refine ⟨a, c, by rw [List.getD_eq_getElem?_getD, h1]; rfl, ?_, h7, by omega, h3, h10, fun _ => h9⟩
    rw [closeL, if_pos h5, List.getD_eq_getElem?_getD, h6]
    rfl
  · refine ⟨a, 11, by rw [List.getD_eq_getElem?_getD, h1]; rfl, ?_, h2, Nat.le_refl _, h3, h6, fun h => absurd h (by decide)⟩
    rw [closeL, if_neg (by omega)]
    rfl
def stretchS (t c : Nat) : Nat → Nat → List Nat
  | 0, _ => []
  | n + 1, k => ((if bt t k then [34] else []) ++ (if k < c then nmL k ++ [59] else [])) ++ stretchS t c n (k + 1)
theorem stretch_suf (t a c : Nat) : ∀ n m, stretchL t a c m ++ stretchS t c n (a + m) = stretchL t a c (m + n)
  | 0, m => by simp [stretchS]
  | n + 1, m => by
    rw [stretchS, ← List.append_assoc, show stretchL t a c m ++ ((if bt t (a + m) then [34] else []) ++ (if a + m < c then nmL (a + m) ++ [59] else [])) = stretchL t a c (m + 1) from rfl, show a + m + 1 = a + (m + 1) by omega, stretch_suf t a c n (m + 1)]
    congr 1
    omega
theorem parse_plain {x : List Nat} (h : 34 ∉ x) (r : List Nat) : parseL (x ++ r) = x ++ parseL r := by
  induction x with
  | nil => rfl
  | cons c x ih =>
    rw [List.mem_cons, not_or] at h
    rw [List.cons_append, parseL_plain (fun e => h.1 e.symm), ih h.2]
    rfl
theorem nm_head (k : Nat) : ∃ c r, nmL k ++ [59] = c :: r ∧ c ≠ 34 := by
  have h := nmL_no k
  cases e : nmL k ++ [59] with
  | nil => exact absurd e (by simp)
  | cons c r =>
    refine ⟨c, r, rfl, fun h1 => h ?_⟩
    rw [e, h1]
    exact List.mem_cons_self ..
/-- two quotes read as one, then the name -/
theorem parse_in (t k : Nat) (r : List Nat) : parseL ((if bt t k then [34, 34] else []) ++ ((nmL k ++ [59]) ++ r)) = (if bt t k then [34] else []) ++ ((nmL k ++ [59]) ++ parseL r) := by
  cases bt t k with
  | false => simpa using parse_plain (nmL_no k) r
  | true =>
    show parseL (34 :: 34 :: ((nmL k ++ [59]) ++ r)) = 34 :: ((nmL k ++ [59]) ++ parseL r)
    rw [← parse_plain (nmL_no k) r]
    simp [parseL]
theorem parse_stop (t k : Nat) (r : List Nat) : parseL (34 :: ((if bt t k then [34, 34] else []) ++ ((nmL k ++ [59]) ++ r))) = (if bt t k then [34] else []) := by
  obtain ⟨c, x, e, hc⟩ := nm_head k
  rw [e]
  cases bt t k with
  | false => simp [parseL, hc]
  | true => simp [parseL, hc]
theorem parse_suf {o t c : Nat} (hc : c ≤ 11) (hcl : c < 11 → bt o c = true) : ∀ n k, k + n = 11 → k ≤ c → (∀ j, k ≤ j → j < c → bt o j = false) → parseL (sufL o t n k) = stretchS t c (min c 10 + 1 - k) k
  | 0, k, hk, hkc, hm => by
    have e : min c 10 + 1 - k = 0 := by omega
    rw [e]
    rfl
  | n + 1, k, hk, hkc, hm => by
    rw [sufL, seg_out]
    rcases Nat.lt_or_ge k c with h | h
    · have ih := parse_suf (t := t) hc hcl n (k + 1) (by omega) h (fun j h1 h2 => hm j (by omega) h2)
      rw [hm k (Nat.le_refl _) h]
      have e : min c 10 + 1 - k = min c 10 + 1 - (k + 1) + 1 := by omega
      rw [e, stretchS, if_pos h, ← ih]
      have := parse_in t k (sufL o t n (k + 1))
      simpa using this
    · have ek : k = c := by omega
      subst ek
      rw [hcl (by omega)]
      have e : min k 10 + 1 - k = 1 := by rw [Nat.min_eq_left (show k ≤ 10 by omega)]; omega
      rw [e, stretchS, if_neg (Nat.lt_irrefl k), if_pos rfl]
      have := parse_stop t k (sufL o t n (k + 1))
      rw [stretchS, List.append_nil, List.append_nil]
      exact this
theorem parse_due' {o t a c : Nat} (hac : a < c) (hc : c ≤ 11) (hb : bt o a = true) (hm : ∀ k, a < k → k < c → bt o k = false) (hcl : c < 11 → bt o c = true) :
    ∃ l, (lineL o t 11).drop (lineL o t a).length = 34 :: l ∧ l.length ≤ 1000 ∧ parseL l = stretchL t a c (min c 10 + 1 - a) := by
  have h1 := line_suf o t (11 - a) a
  rw [show a + (11 - a) = 11 by omega] at h1
  have h2 : 11 - a = (10 - a) + 1 := by omega
  have hd : (lineL o t 11).drop (lineL o t a).length = 34 :: ((if bt t a then [34, 34] else []) ++ ((nmL a ++ [59]) ++ sufL o t (10 - a) (a + 1))) := by
    rw [← h1, List.drop_left, h2, sufL, seg_out, hb]
    rfl
  refine ⟨_, hd, ?_, ?_⟩
  · have h3 := congrArg List.length hd
    rw [List.length_drop, List.length_cons] at h3
    have := lineL_len o t 11
    omega
  · rw [parse_in, parse_suf (t := t) hc hcl (10 - a) (a + 1) (by omega) hac (fun j h4 h5 => hm j (by omega) h5)]
    have h6 := stretch_suf t a c (min c 10 + 1 - a) 0
    rw [Nat.zero_add, Nat.add_zero] at h6
    rw [← h6]
    have e : min c 10 + 1 - a = min c 10 + 1 - (a + 1) + 1 := by omega
    rw [e, stretchS]
    simp [stretchL, hac]
end Mine
-- WLaw6
namespace Mine
theorem turn_at {o j : Nat} (hj : j < (turnsL o 11).length) : ∃ a c : Nat, (turnsL o 11).getD j 0 = (a : Int) ∧ closeL o j = (c : Int) ∧ a < c ∧ c ≤ 11 ∧ bt o a = true ∧ (∀ k, a < k → k < c → bt o k = false) ∧ (c < 11 → bt o c = true) := turn_at' hj
theorem parse_due {o t a c : Nat} (hac : a < c) (hc : c ≤ 11) (hb : bt o a = true) (hm : ∀ k, a < k → k < c → bt o k = false) (hcl : c < 11 → bt o c = true) :
    ∃ l, (lineL o t 11).drop (lineL o t a).length = 34 :: l ∧ l.length ≤ 1000 ∧ parseL l = stretchL t a c (min c 10 + 1 - a) := parse_due' hac hc hb hm hcl
theorem prettyF_split {n : Nat} (hn : n < 2048) : Txt.split (prettyF n) (Str.ofString ", ") = prettyL n := prettyF_split' n hn
theorem told_has (n k : Nat) (hk : k < 11) (hn : n < 2048) : (prettyL n).any (· == nmS k) = bt n k := told_has' n k hk
theorem prettyF_len (n : Nat) : (prettyF n).length ≤ 1000 := prettyF_len' n
theorem hidden_small {o t : Nat} {st : Int} (h : StaysIs o t st) : ∃ n : Nat, hiddenI (flagsL o st) = (n : Int) ∧ n < 2048 := by
  obtain ⟨hid, h1, h2, _⟩ := fit_of h
  exact ⟨hid, h1, h2⟩
theorem strip_due {o t : Nat} {st : Int} {hid : Nat} (ho : o < 2048) (ht : t < 2048) (hst : StaysIs o t st) (hh : (List.map (hidG (flagsL o st)) (List.range ((flagsL o st).length / 2))).sum = (hid : Int)) : stripF (lineL o t 11) = dueL st hid 11 := by
  obtain ⟨hid', h1, h2, h3⟩ := fit_of hst
  have e : hid' = hid := by omega
  subst e
  exact strip_fit h3
end Mine
-- WComp
namespace Mine
section
variable {prog : Program} {w : World} {A : Around} {E : Value → Shared → Prop} {s : Shared} {h₀ : Heap} {L : Addr} {m : Str → Option Value} {env : Env}
/-- the source of a comprehension: a range with any step -/
def Src2 (prog : Program) (w : World) (A : Around) (h₀ : Heap) (L : Addr) (m : Str → Option Value) (env : Env) (elt : Expr) (x : Str) (scope : Scope) (cl : List (Str × Addr)) (Fin : Shared → List Value → List (Addr × Obj) → Prop) (xv : Value) (s₁ : Shared) : Prop :=
  ∃ r a b stp t u v n news, xv = .ref r ∧ A.handled = none ∧ Fr h₀ L s₁.heap m ∧ News h₀ L s₁.heap news ∧ IsRange s₁.heap r a b stp t u v ∧ Builtin.Range.small a b stp = true ∧ Builtin.Range.rangeSize a b stp = ((n : Nat) : Int) ∧ n ≤ sizeLine ∧
    ∀ s₂ : Shared, (∃ h, s₂ = { s₁ with heap := h }) → LCg.CompRest prog w A h₀ L m env elt x scope cl s₂ (fun _ => True) (fun i v => ∃ t, v = .int (a + (i : Nat) * stp) t) (Fin s₂) n 0 [] news
theorem ListComp_2 {elt iter : Expr} {x : Str} {px : Pos} {scope : Scope} {cl : List (Str × Addr)} {pos : Pos} {Q : Value → Shared → Prop} (F₀ : Fr h₀ L s.heap m)
    (hclos : closureFor scope env = pure cl) (hcell : ∀ y ∈ scope.names, y.2 ≠ .cell) (hkind : scope.kind = .function)
    (hnames : ∀ y ∈ scope.names, y.2 = .local → scope.names.lookup y.1 = some .local) (hx : scope.names.lookup x = some .local)
    (h : wpAny (model prog w) A (eval iter env) (Src2 prog w A h₀ L m env elt x scope cl (fun s₂ => LCg.FinE h₀ L m s₂ Q)) E s)
    (hs : ∀ x, foldedSetIterable iter env x = pure x := by intro _; rfl) :
    wpAny (model prog w) A (eval (.ListComp elt [⟨.Name x px, iter, [], 0⟩] scope pos) env) Q E s := by
  rw [eval_ListComp]
  refine wpAny_comprehension_free (use := none) rfl hs hclos hkind hnames (wpAny_mono h (fun xv s₁ h₁ => ?_) fun _ _ e => e)
  obtain ⟨r, a, b, stp, t, u, v, n, news, rfl, hh, F, N, hr, hsm, hn, hsz, R⟩ := h₁
  refine wpAny_pyIter_range hr hsm ?_
  refine LCg.block_U (Walks.range hh _ a stp n) hsz (fun i h st => ⟨_, st⟩) (fun i h h' o nw st e e' _ _ _ => ?_) hcell hkind hx (by show IsRangeIter _ _ _ _ _; rw [hn]; simpa using Heap.get?_push_size _ rfl) (fun b hb => ?_)
    (F.keeps fun _ _ e => Heap.get?_push_of_some _ e) (N.grown fun _ _ e => Heap.get?_push_of_some _ e) (Nat.ne_of_lt F.ns.lt) (next_is_new F) (fun p hp => Nat.ne_of_lt (Heap.lt_size (N p hp).1)) trivial (R _ ⟨_, rfl⟩) ?_
  · have st' : h.get? _ = some _ := st
    show h'.get? _ = some _
    rw [e', ← e]; exact st'
  · rw [List.mem_singleton.mp hb]
    show s₁.heap.objs.size < (s₁.heap.push _).objs.size
    rw [Heap.size_push]; exact Nat.lt_succ_self _
  · intro D C h' tk m' ys news' F' N' o1 hn hC₀ hD₀ hCL hDL hCD offC fin
    refine ⟨m', hn, fun h'' hs'' => fin D h'' tk (F'.change hs'' hCL hC₀) (fun p hp => ?_) o1⟩
    refine ⟨hs''.extBut _ _ ?_ (N' p hp).1, (N' p hp).2⟩
    rcases List.mem_cons.mp hp with rfl | hp
    · exact Ne.symm hCD
    · exact offC p hp
theorem Src2.intro {elt : Expr} {x : Str} {scope : Scope} {cl : List (Str × Addr)} {Fin : Shared → List Value → List (Addr × Obj) → Prop} {r : Addr} {a b stp : Int} {t u v : Tok} {n : Nat} {news : List (Addr × Obj)} {s₁ : Shared} (g : Nat → Int)
    (hh : A.handled = none) (F : Fr h₀ L s₁.heap m) (N : News h₀ L s₁.heap news) (hr : IsRange s₁.heap r a b stp t u v) (hsm : Builtin.Range.small a b stp = true) (hn : Builtin.Range.rangeSize a b stp = ((n : Nat) : Int)) (hsz : n ≤ sizeLine)
    (turn : ∀ (s₀ : Shared) i t I oI C oC D m₂ ys h tk (E' : Value → Shared → Prop), (∃ h, s₀ = { s₁ with heap := h }) → i < n → LCg.NsObj oC m₂ → m₂ x = some (.int (a + (i : Nat) * stp) t) → Fr h₀ L h m → News h₀ L h ((I, oI) :: (C, oC) :: (D, LCg.lst ys) :: news) → LCg.Off3 I C D news → ((@Ne Nat I C) ∧ (@Ne Nat I D) ∧ (@Ne Nat C D)) →
      wpAny (model prog w) A (eval elt (compEnvC scope cl C env)) (LCg.CompEnd h₀ L m { s₀ with heap := h, toks := tk } I oI C oC D (LCg.lst ys) (fun _ => True) (fun y news' => news' = news ∧ ∃ t, y = .int (g i) t)) E' { s₀ with heap := h, toks := tk })
    (fin : ∀ (s₀ : Shared) ys, (∃ h, s₀ = { s₁ with heap := h }) → IntsAre ys ((List.range n).map g) → Fin s₀ ys news) :
    Src2 prog w A h₀ L m env elt x scope cl Fin (.ref r) s₁ := by
  refine ⟨r, a, b, stp, t, u, v, n, news, rfl, hh, F, N, hr, hsm, hn, hsz, fun s₂ hs₂ => ?_⟩
  have key : ∀ (j i : Nat) (ys : List Value), i + j = n → IntsAre ys ((List.range i).map g) → LCg.CompRest prog w A h₀ L m env elt x scope cl s₂ (fun _ => True) (fun i v => ∃ t, v = .int (a + (i : Nat) * stp) t) (Fin s₂) j i ys news := by
    intro j
    induction j with
    | zero =>
      intro i ys hi hy
      have e : i = n := by omega
      subst e
      exact LCg.CompRest.zero (fin s₂ ys hs₂ hy)
    | succ j ih =>
      intro i ys hi hy
      refine LCg.CompRest.succ ?_
      rintro v I oI C oC D m₂ h tk E' ⟨t, rfl⟩ hC hx F N off ne
      refine wpAny_mono (turn s₂ i t I oI C oC D m₂ ys h tk E' hs₂ (by omega) hC hx F N off ne) (fun y s' hy' => ?_) fun _ _ e => e
      obtain ⟨h', tk', news', rfl, F', N', off', hS, rfl, t', rfl⟩ := hy'
      refine ⟨h', tk', _, rfl, F', N', off', trivial, ih (i + 1) _ (by omega) ?_⟩
      rw [List.range_succ, List.map_append]
      exact IntsAre.append hy (.cons _ _ .nil)
  exact key n 0 [] (by omega) .nil
end
end Mine
-- WFits
namespace Mine
local macro_rules | `(tactic| walk_at "TurnPost") => `(tactic| dsimp only [TurnPost])
local macro_rules | `(tactic| walk_at "ElsePost") => `(tactic| dsimp only [ElsePost])
theorem all_ne2 {b d : Nat} {l : List (Addr × Obj)} (h : ∀ p ∈ l, p.1 < b) (hb : b ≤ d) : ∀ p ∈ l, p.1 ≠ d := fun p hp => Nat.ne_of_lt (Nat.lt_of_lt_of_le (h p hp) hb)
local macro_rules | `(tactic| k_all) => `(tactic| (refine all_ne2 (by assumption) ?_; (try dsimp only); omega))
def StopIf : Prop := (7 : Nat) ≠ 8
theorem stopIf : StopIf := by unfold StopIf; decide
theorem my_join {σ : Type} {prog : Program} {w : World} {A : Around} {s : Shared} {h₀ : Heap} {L : Addr} {E : Value → Shared → Prop} {t : Sem Flow} {Q : Flow → Shared → Prop} {m : Str → Option Value} (_F : Fr h₀ L s.heap m) (Led : σ → List (Addr × Obj)) (ps : σ → List (Str × Value)) (B : σ → Prop)
    (h : wpAny (model prog w) A t (ElsePost h₀ L Led ps B Q s) E s) (exit : ∀ c u h tk, B c → Fr h₀ L h (pinB u (ps c)) → News h₀ L h (Led c) → Q .next { s with heap := h, toks := tk }) : wpAny (model prog w) A t Q E s := by
  refine wpAny_mono h (fun f s₂ h₂ => ?_) fun _ _ e => e
  cases f with
  | ret v => exact h₂
  | brk => exact h₂.elim
  | next =>
    obtain ⟨c', h', tk', m', rfl, F', hp', N', hB⟩ := h₂
    exact exit c' m' h' tk' hB (by rw [pin_eq hp']; exact F') N'
  | cont => exact h₂.elim
local macro_rules | `(tactic| k_steps) => `(tactic| repeat' (first | ((fail_if_success ((rename StopIf => hSI); (with_reducible show wpAny _ _ (exec (Stmt.If _ _ _ _) _) _ _ _))); (fail_if_success (with_reducible show wpAny _ _ (pyIter _) _ _ _)); (fail_if_success (with_reducible show wpAny _ _ (call (Value.ref _) _) _ _ _)); (fail_if_success (with_reducible show wpAny _ _ (exec (Stmt.For _ _ _ _ _) _) _ _ _)); (fail_if_success (with_reducible show wpAny _ _ (exec (Stmt.While _ _ _ _) _) _ _ _)); (fail_if_success (with_reducible show Out _ _ _ _ _ _ _ _)); (fail_if_success (with_reducible show wpAny _ _ (exec (Stmt.Assign _ (Expr.ListComp _ _ _ _) _) _) _ _ _)); (fail_if_success (with_reducible show wpAny _ _ (eval (Expr.ListComp _ _ _ _) _) _ _ _)); (fail_if_success (with_reducible show LCt.CompSrcT _ _ _ _ _ _ _ _ _ _ _ _ _ _ _)); (fail_if_success (with_reducible show Src2 _ _ _ _ _ _ _ _ _ _ _ _ _ _)); (fail_if_success (with_reducible show LCg.CompEnd _ _ _ _ _ _ _ _ _ _ _ _ _ _)); (first | (k_unfold; (try dsimp only)) | (k_end; wrow_close) | walk1 | (dsimp only; walk1) | (leave1; walk_say "STEP leave1"; try dsimp only) | fail "no step"))))
structure ASt where
  line : List Nat
  tl : Tok
  vs : Array Value
  cap : Nat
abbrev aPin (ls D1 D2 ln : Addr) (c : ASt) : List (Str × Value) := [(Str.ofString "line", .str (T c.line) c.tl), (Str.ofString "starts", .ref ls), (Str.ofString "told_of_ones", .ref D1), (Str.ofString "told_of_twos", .ref D2), (Str.ofString "names", .ref ln)]
theorem a_out {h₀ : Heap} {L ls D1 D2 ln : Addr} {own rest : List (Addr × Obj)} {B : ASt → Prop} {s : Shared} {h' : Heap} {tk' : Nat} {m' : Str → Option Value} {x : Str} {tl : Tok} {vs : Array Value} {cap : Nat}
    (F : Fr h₀ L h' m') (N : News h₀ L h' (own ++ (ls, listOf vs cap) :: rest)) (h1 : m' (Str.ofString "line") = some (.str x tl)) (h2 : m' (Str.ofString "starts") = some (.ref ls)) (h3 : m' (Str.ofString "told_of_ones") = some (.ref D1)) (h4 : m' (Str.ofString "told_of_twos") = some (.ref D2)) (h5 : m' (Str.ofString "names") = some (.ref ln))
    (line : List Nat) (hx : x = T line) (hB : B ⟨line, tl, vs, cap⟩) :
    Out h₀ L (fun c => (ls, listOf c.vs c.cap) :: rest) (aPin ls D1 D2 ln) B own s { s with heap := h', toks := tk' } := by
  subst hx
  exact Out.intro ⟨line, tl, vs, cap⟩ F N (Pinned.cons h1 (Pinned.cons h2 (Pinned.cons h3 (Pinned.cons h4 (Pinned.cons h5 Pinned.nil))))) (fun p h => h) hB
theorem len_is {prog : Program} {w : World} {A : Around} {E : Value → Shared → Prop} {s : Shared} {l : Addr} {items : Array Value} {k : Nat} {Q : Value → Shared → Prop} (hl : s.heap.IsList l items) (e : items.size = k) (hk : k ≤ 12)
    (h : Q (.int (k : Int) (s.toks + 1)) { s with toks := s.toks + 1 + 1 }) : wpAny (model prog w) A (call (.builtin "len") [.ref l]) Q E s := by
  subst e
  exact len_list hl (by omega) h
theorem odd_is (n : Nat) : ((n : Int).fmod 2 = 1) = (n % 2 = 1) := by
  rw [Int.fmod_eq_emod_of_nonneg _ (by decide)]
  apply propext; omega
abbrev jPin (line : List Nat) (tl : Tok) (ls DT ln : Addr) (_ : Unit) : List (Str × Value) := [(Str.ofString "turns", .ref DT), (Str.ofString "line", .str (T line) tl), (Str.ofString "starts", .ref ls), (Str.ofString "names", .ref ln)]
structure CSt where
  cv : Int
  tc : Tok
abbrev cPin (line : List Nat) (tl tq : Tok) (i : Nat) (ls DT ln : Addr) (c : CSt) : List (Str × Value) := [(Str.ofString "close", .int c.cv c.tc), (Str.ofString "j", .int ((0 : Int) + (i : Nat) * 2) tq), (Str.ofString "turns", .ref DT), (Str.ofString "line", .str (T line) tl), (Str.ofString "starts", .ref ls), (Str.ofString "names", .ref ln)]
theorem c_out {h₀ : Heap} {L ls DT ln : Addr} {own rest : List (Addr × Obj)} {B : CSt → Prop} {s : Shared} {h' : Heap} {tk' : Nat} {m' : Str → Option Value} {line : List Nat} {tl tq tc : Tok} {i : Nat} {cv : Int}
    (F : Fr h₀ L h' m') (N : News h₀ L h' (own ++ rest)) (h0 : m' (Str.ofString "close") = some (.int cv tc)) (h1 : m' (Str.ofString "j") = some (.int ((0 : Int) + (i : Nat) * 2) tq)) (h4 : m' (Str.ofString "turns") = some (.ref DT)) (h5 : m' (Str.ofString "line") = some (.str (T line) tl)) (h6 : m' (Str.ofString "starts") = some (.ref ls)) (h7 : m' (Str.ofString "names") = some (.ref ln))
    (hB : B ⟨cv, tc⟩) :
    Out h₀ L (fun _ : CSt => rest) (cPin line tl tq i ls DT ln) B own s { s with heap := h', toks := tk' } :=
  Out.intro ⟨cv, tc⟩ F N (Pinned.cons h0 (Pinned.cons h1 (Pinned.cons h4 (Pinned.cons h5 (Pinned.cons h6 (Pinned.cons h7 Pinned.nil)))))) (fun p h => h) hB
structure RSt where
  str : List Nat
  tr : Tok
abbrev rPin (line : List Nat) (tl tq tc : Tok) (i ck : Nat) (ls DT ln : Addr) (c : RSt) : List (Str × Value) := [(Str.ofString "stretch", .str (T c.str) c.tr), (Str.ofString "close", .int (ck : Int) tc), (Str.ofString "j", .int ((0 : Int) + (i : Nat) * 2) tq), (Str.ofString "turns", .ref DT), (Str.ofString "line", .str (T line) tl), (Str.ofString "starts", .ref ls), (Str.ofString "names", .ref ln)]
theorem r_out {h₀ : Heap} {L ls DT ln : Addr} {own rest : List (Addr × Obj)} {B : RSt → Prop} {s : Shared} {h' : Heap} {tk' : Nat} {m' : Str → Option Value} {line : List Nat} {tl tq tr tc : Tok} {i ck : Nat} {x : Str}
    (F : Fr h₀ L h' m') (N : News h₀ L h' (own ++ rest)) (h0 : m' (Str.ofString "stretch") = some (.str x tr)) (hc : m' (Str.ofString "close") = some (.int (ck : Int) tc)) (h1 : m' (Str.ofString "j") = some (.int ((0 : Int) + (i : Nat) * 2) tq)) (h4 : m' (Str.ofString "turns") = some (.ref DT)) (h5 : m' (Str.ofString "line") = some (.str (T line) tl)) (h6 : m' (Str.ofString "starts") = some (.ref ls)) (h7 : m' (Str.ofString "names") = some (.ref ln))
    (str : List Nat) (hx : x = T str) (hB : B ⟨str, tr⟩) :
    Out h₀ L (fun _ : RSt => rest) (rPin line tl tq tc i ck ls DT ln) B own s { s with heap := h', toks := tk' } := by
  subst hx
  exact Out.intro ⟨str, tr⟩ F N (Pinned.cons h0 (Pinned.cons hc (Pinned.cons h1 (Pinned.cons h4 (Pinned.cons h5 (Pinned.cons h6 (Pinned.cons h7 Pinned.nil))))))) (fun p h => h) hB
structure DSt where
  due : List Nat
  td : Tok
abbrev dPin (line : List Nat) (tl ts : Tok) (st : Int) (ls DT ln D3 : Addr) (c : DSt) : List (Str × Value) := [(Str.ofString "due", .str (T c.due) c.td), (Str.ofString "hides", .ref D3), (Str.ofString "stays", .int st ts), (Str.ofString "turns", .ref DT), (Str.ofString "line", .str (T line) tl), (Str.ofString "starts", .ref ls), (Str.ofString "names", .ref ln)]
theorem d_out {h₀ : Heap} {L ls DT ln D3 : Addr} {own rest : List (Addr × Obj)} {B : DSt → Prop} {s : Shared} {h' : Heap} {tk' : Nat} {m' : Str → Option Value} {line : List Nat} {tl ts td : Tok} {st : Int} {x : Str}
    (F : Fr h₀ L h' m') (N : News h₀ L h' (own ++ rest)) (h1 : m' (Str.ofString "due") = some (.str x td)) (h2 : m' (Str.ofString "hides") = some (.ref D3)) (h3 : m' (Str.ofString "stays") = some (.int st ts)) (h4 : m' (Str.ofString "turns") = some (.ref DT)) (h5 : m' (Str.ofString "line") = some (.str (T line) tl)) (h6 : m' (Str.ofString "starts") = some (.ref ls)) (h7 : m' (Str.ofString "names") = some (.ref ln))
    (due : List Nat) (hx : x = T due) (hB : B ⟨due, td⟩) :
    Out h₀ L (fun _ : DSt => rest) (dPin line tl ts st ls DT ln D3) B own s { s with heap := h', toks := tk' } := by
  subst hx
  exact Out.intro ⟨due, td⟩ F N (Pinned.cons h1 (Pinned.cons h2 (Pinned.cons h3 (Pinned.cons h4 (Pinned.cons h5 (Pinned.cons h6 (Pinned.cons h7 Pinned.nil))))))) (fun p h => h) hB
theorem item_nm {prog : Program} {w : World} {A : Around} {E : Value → Shared → Prop} {s : Shared} {h₀ : Heap} {L : Addr} {news : List (Addr × Obj)} {value slice : Expr} {l : Addr} {nv : Array Value} {j : Int} {u : Tok} {Q : Value → Shared → Prop} (N : News h₀ L s.heap news) (hm : (l, listOf nv 0) ∈ news) (hi : StrsAre nv.toList namesAll)
    (h0 : 0 ≤ j) (h1 : j < 11) (h : ∀ t, Q (.str (nmS j.toNat) t) s)
    (hs : subscripted slice false (.ref l) (.int j u) = operate [.ref l, .int j u] (getItem (.ref l) (.int j u)) := by with_unfolding_all rfl) (hg : ∀ r, letTemporaryGo value (.ref l) r = pure () := by intro _; with_unfolding_all rfl) :
    wpAny (model prog w) A (subscriptTail value slice (.ref l) (.int j u)) Q E s := by
  have hlt : j.toNat < nv.toList.length := by
    rw [StrsAre.len_eq hi]
    show j.toNat < 11
    omega
  have hv := List.getElem?_eq_getElem hlt
  obtain ⟨y, t, e, hy⟩ := StrsAre.item hi _ _ hv
  have hyk := names_at (by omega) hy
  subst hyk
  rw [e] at hv
  refine item_list (News.isList N hm) h0 (by omega) (x := .str (nmS j.toNat) t) ?_ (h t) hs hg
  rw [← Array.getElem?_toList]
  exact hv
theorem item_st {prog : Program} {w : World} {A : Around} {E : Value → Shared → Prop} {s : Shared} {h₀ : Heap} {L : Addr} {news : List (Addr × Obj)} {value slice : Expr} {l : Addr} {vs : Array Value} {cap o t ak : Nat} {j : Int} {u : Tok} {Q : Value → Shared → Prop} (hj : j = (ak : Int)) (N : News h₀ L s.heap news) (hm : (l, listOf vs cap) ∈ news) (hi : IntsAre vs.toList (startsL o t 11))
    (h1 : ak < 11) (h : ∀ t', Q (.int ((lineL o t ak).length : Int) t') s)
    (hs : subscripted slice false (.ref l) (.int j u) = operate [.ref l, .int j u] (getItem (.ref l) (.int j u)) := by with_unfolding_all rfl) (hg : ∀ r, letTemporaryGo value (.ref l) r = pure () := by intro _; with_unfolding_all rfl) :
    wpAny (model prog w) A (subscriptTail value slice (.ref l) (.int j u)) Q E s := by
  subst hj
  have hx := startsL_at o t (k := 11) h1
  have hlt : ak < vs.toList.length := by
    rcases Nat.lt_or_ge ak vs.toList.length with h | h
    · exact h
    · rw [List.getElem?_eq_none (by rw [← IntsAre.length hi]; exact h)] at hx; cases hx
  have hv := List.getElem?_eq_getElem hlt
  obtain ⟨x', t', e1, e2⟩ := IntsAre.at hi _ _ hv
  rw [hx] at e2
  cases e2
  rw [e1] at hv
  refine item_list (News.isList N hm) (by omega) (by omega) (x := .int ((lineL o t ak).length : Int) t') ?_ (h t') hs hg
  rw [Int.toNat_natCast, ← Array.getElem?_toList]
  exact hv
local macro_rules | `(tactic| walk_at "subscriptTail") => `(tactic| ((with_reducible show wpAny _ _ (subscriptTail _ _ (Value.ref _) (Value.int _ _)) _ _ _); (refine' item_st ?hj ?a1 ?a2 ?a3 ?a4 ?_; (case hj => assumption); (case a1 => k_asm); (case a2 => k_mem); (case a3 => assumption); (case a4 => omega)); intro _))
local macro_rules | `(tactic| walk_at "subscriptTail") => `(tactic| ((with_reducible show wpAny _ _ (subscriptTail _ _ (Value.ref _) (Value.int _ _)) _ _ _); (refine' item_nm ?a1 ?a2 ?a3 ?a4 ?a5 ?_; (case a1 => k_asm); (case a2 => k_mem); (case a3 => assumption); (case a4 => omega); (case a5 => omega)); intro _))
theorem bne_absurd {l : List Nat} (h : (T l != T l) = true) : False := by
  simp [bne] at h
theorem namedO {o : Obj} {d : Data} (_h : o.data = d) : ∃ o', o' = o := ⟨o, rfl⟩
structure FSt where
  fs : Array Value
  cf : Nat
  st : Int
  ts : Tok
abbrev fPin (line : List Nat) (tl : Tok) (ls DT ln : Addr) (c : FSt) : List (Str × Value) := [(Str.ofString "stays", .int c.st c.ts), (Str.ofString "turns", .ref DT), (Str.ofString "line", .str (T line) tl), (Str.ofString "starts", .ref ls), (Str.ofString "names", .ref ln)]
theorem f_out {h₀ : Heap} {L ls DF DT ln : Addr} {own rest : List (Addr × Obj)} {B : FSt → Prop} {s : Shared} {h' : Heap} {tk' : Nat} {m' : Str → Option Value} {line : List Nat} {tl ts : Tok} {fs : Array Value} {cf : Nat} {st : Int}
    (F : Fr h₀ L h' m') (N : News h₀ L h' (own ++ (DF, listOf fs cf) :: rest)) (h1 : m' (Str.ofString "stays") = some (.int st ts)) (h2 : m' (Str.ofString "turns") = some (.ref DT)) (h3 : m' (Str.ofString "line") = some (.str (T line) tl)) (h4 : m' (Str.ofString "starts") = some (.ref ls)) (h5 : m' (Str.ofString "names") = some (.ref ln))
    (hB : B ⟨fs, cf, st, ts⟩) :
    Out h₀ L (fun c => (DF, listOf c.fs c.cf) :: rest) (fPin line tl ls DT ln) B own s { s with heap := h', toks := tk' } :=
  Out.intro ⟨fs, cf, st, ts⟩ F N (Pinned.cons h1 (Pinned.cons h2 (Pinned.cons h3 (Pinned.cons h4 (Pinned.cons h5 Pinned.nil))))) (fun p h => h) hB
theorem ints_push {vs : Array Value} {ns : List Int} {n : Int} {t : Tok} (h : IntsAre vs.toList ns) : IntsAre (vs.push (.int n t)).toList (ns ++ [n]) := by
  rw [Array.toList_push]
  exact IntsAre.append h (.cons _ _ .nil)
theorem q1 : Str.ofString "\"" = T [34] := rfl
theorem q2 : Str.ofString "\"\"" = T [34, 34] := rfl
theorem q3 : Str.ofString ";" = T [59] := rfl
theorem lf {w : World} {mean : ExcName → Option Value} {mg mb : Str → Option Value} (news : List (Addr × Obj)) (o t : Nat) (tk0 tk1 : Tok) (ho : o < 2048) (ht : t < 2048)
   (dp un : Nat) (gd : Option (List Code)) (cn : Str) (cs : Scope) (a : Addr) (ccd : Value) (cl : List (Str × Addr)) (outer : List Env) (A₀ : Around) (base h₀ : Heap) (L : Addr) (m : Str → Option Value) (s : Shared) (Q E : Value → Shared → Prop)
   (hB : Below A₀ base outer h₀) (hF : Fr h₀ L s.heap m) (hX : (hd.heap_39 w.params).In h₀) (hN : News h₀ L s.heap news) (hT : Top hd.view_39 (looseW hd.view_39 [Str.ofString "COMPILER_FLAG_NAMES"]) mean mg mb h₀) (hcs : cs.kind = .function)
   (hdp : dp + 4 < recursionLimit) (hun : un + 20 < cLine)
   (hret : ∀ (h' : Heap) (tk' : Nat) (gs' : Array GenState), GensOk s.gens gs' → Fr h₀ L h' m → News h₀ L h' news → Q (.bool true) { s with heap := h', toks := tk', gens := gs' }) :
   wpAny (model PySem.Challenge.rw_wf0016_01.row.prog w) (ktrTop dp un gd cn cs L a ccd cl outer) (call (.ref 73) [.int o tk0, .int t tk1]) Q E s := by
  revert hX
  k_fill
  intro hX
  refine wpAny_call ?_
  have hdp1 : dp + 1 < recursionLimit := by omega
  k_dflt (refine' code_defC ?k1 ?k2 ?k3 ?k4 ?k5 ?kA ?kF ?kK ?k6 ?k7 ?k8 ?k9 ?kB ?kD ?_ ?c2 ?c3 ?c4; (case kA => exact rfl); (case kF => exact rfl); (case kK => assumption); (case k1 => k_asm); (case k2 => k_asm); (case k3 => k_asm); (case k4 => k_asm); (case k5 => k_asm); (case k6 => k_is); (case k7 => k_is); (case k8 => ktr_room); (case k9 => exact BindsTo.of_eq rfl); (case kB => exact rfl); (case kD => decide +kernel); (case c2 => exact rfl); (case c3 => exact rfl); (case c4 => exact rfl))
  intro g1 L1 h1 tk' cells' FG1 F1 N1 Y1 B1 X1 T1 l1
  k_cells Y1
  (try simp only [List.cons_append, List.nil_append] at N1)
  (try dsimp only)
  (try k_lift B1)
  (try k_fold)
  rename_i oF oT oO d1 d2 d3
  replace d1 : oF.data = .cell none := d1
  replace d2 : oT.data = .cell (some (.int t tk1)) := d2
  replace d3 : oO.data = .cell (some (.int o tk0)) := d3
  obtain ⟨u1, F1⟩ := Fr.pins F1 (ps := []) Pinned.nil
  k_steps
  refine' pf_use ?kB ?kF ?kX ?kN ?kT ?kK ho ?kd ?ku ?_
  case kB => k_asm
  case kF => k_asm
  case kX => k_asm
  case kN => k_asm
  case kT => k_asm
  case kK => exact rfl
  case kd => ktr_room
  case ku => ktr_units
  intro ta ha tka Fa Na
  obtain ⟨nv, Na, hnv⟩ : ∃ nv : Array Value, News g1 _ ha ((_, listOf nv 0) :: _) ∧ StrsAre nv.toList namesAll := ⟨_, Na, names_are _ _ _ _ _ _ _ _ _ _ _⟩
  obtain ⟨ln, e'⟩ := named Na
  subst e'
  k_steps
  rename Fr _ _ _ _ => F2
  rename News _ _ _ _ => N2
  refine KSpl.split1 F2 N2 (by decide) ?_ (by have := prettyF_len o; rw [sizeLine_eq]; omega)
  intro D1 l1' h2 k2 e1 a1 F3 N3 lt1
  rw [prettyF_split ho] at e1
  rw [e1] at a1
  k_lt lt1
  generalize strValues l1' = v1 at *
  clear e1
  k_steps
  refine' pf_use ?kB ?kF ?kX ?kN ?kT ?kK ht ?kd ?ku ?_
  case kB => k_asm
  case kF => k_asm
  case kX => k_asm
  case kN => k_asm
  case kT => k_asm
  case kK => exact rfl
  case kd => ktr_room
  case ku => ktr_units
  intro ta2 ha2 tka2 Fa2 Na2
  k_steps
  rename Fr _ _ _ _ => F4
  rename News _ _ _ _ => N4
  refine KSpl.split1 F4 N4 (by decide) ?_ (by have := prettyF_len t; rw [sizeLine_eq]; omega)
  intro D2 l2' h3 k3 e2 a2 F5 N5 lt2
  rw [prettyF_split ht] at e2
  rw [e2] at a2
  k_lt lt2
  generalize strValues l2' = v2 at *
  clear e2
  k_steps
  rename Fr _ _ _ _ => F6
  rename News _ _ _ _ => N6
  obtain ⟨ls, e'⟩ := named N6
  subst e'
  rename (D2 < ls ∧ _) => lt3
  obtain ⟨tl0, u6, F6⟩ : ∃ tl u, Fr _ _ _ (pinB u (aPin ls D1 D2 ln ⟨[], tl, #[], 0⟩)) := ⟨_, Fr.pins F6 (Pinned.cons rfl (Pinned.cons rfl (Pinned.cons rfl (Pinned.cons rfl (Pinned.cons rfl Pinned.nil)))))⟩
  refine wpAny_For ?_
  k_steps
  refine my_for_list (σ := ASt) (l := ln) (vs := nv.toList) (nn := 0) ?a1 ?a2 ?a3 (fun c => (ls, listOf c.vs c.cap) :: (D2, listOf v2.toArray 0) :: (D1, listOf v1.toArray 0) :: (ln, listOf nv 0) :: (L1 + 1 + 1 + 1, oF) :: (L1 + 1 + 1, oT) :: (L1 + 1, oO) :: news) (aPin ls D1 D2 ln)
    (fun i c => c.line = lineL o t i ∧ IntsAre c.vs.toList (startsL o t i)) (fun c => c.line = lineL o t 11 ∧ IntsAre c.vs.toList (startsL o t 11)) ⟨[], tl0, #[], 0⟩ ?a4 ?a5 F6 N6 ?a6 ?a7 ?turn ?done ?exit
  case a1 => exact rfl
  case a2 => exact rfl
  case a3 => exact rfl
  case a4 => exact fun c => List.Mem.tail _ (List.Mem.tail _ (List.Mem.tail _ (List.Mem.head _)))
  case a5 => exact fun c => rfl
  case a6 => exact Pinned.cons rfl (Pinned.cons rfl (Pinned.cons rfl (Pinned.cons rfl (Pinned.cons rfl Pinned.nil))))
  case a7 => exact ⟨rfl, .nil⟩
  case turn =>
    rintro I i v ⟨line, tl, vs, cap⟩ oI u h tk hv hI ⟨hl, hvs⟩ F N
    dsimp only [aPin] at hl hvs hI F N
    obtain ⟨y, ty, rfl, hy⟩ := StrsAre.item hnv i v hv
    have hi11 : i < 11 := by
      rcases Nat.lt_or_ge i 11 with h | h
      · exact h
      · rw [List.getElem?_eq_none (by exact h)] at hy; cases hy
    have hyk : y = nmS i := names_at hi11 hy
    subst hyk
    k_lt hI
    have hsz : vs.size ≤ sizeLine := by
      have h1 := IntsAre.length hvs
      rw [startsL_len, Array.length_toList] at h1
      rw [sizeLine_eq]; omega
    have hll : (T line).length ≤ 1000 := by
      rw [T_length, hl]; have := lineL_len o t i; omega
    have hnl : (nmS i).length ≤ 18 := by have := nmL_len i; rw [← nmL_T, T_length]; exact this
    have hvs' : ∀ tq, IntsAre (vs.push (.int ((T line).length : Int) tq)).toList (startsL o t (i + 1)) := fun tq => by
      have e : (T line).length = (lineL o t i).length := by rw [T_length, hl]
      rw [e]
      exact ints_push hvs
    have hto := told_has o i hi11 ho
    have htt := told_has t i hi11 ht
    k_steps
    all_goals (rename Fr _ _ _ _ => F9; rename News _ _ _ _ => N9)
    all_goals first | (rename (List.any (prettyL o) _ = true) => b1; rw [b1] at hto) | (rename (List.any (prettyL o) _ = false) => b1; rw [b1] at hto)
    all_goals first | (rename (List.any (prettyL t) _ = true) => b2; rw [b2] at htt) | (rename (List.any (prettyL t) _ = false) => b2; rw [b2] at htt)
    all_goals exact a_out F9 N9 rfl rfl rfl rfl rfl (line ++ segL o t i) (by simp only [segL, ← hto, ← htt, q1, q2, q3, ← nmL_T, T_append]; congr 1; simp) ⟨by rw [hl]; rfl, hvs' _⟩
  case done =>
    rintro ⟨line, tl, vs, cap⟩ u h tk hP F N
    k_steps
    rw [show nv.toList.length = 11 from StrsAre.len_eq hnv] at hP
    exact ⟨_, _, _, _, rfl, F, Pinned.cons rfl (Pinned.cons rfl (Pinned.cons rfl (Pinned.cons rfl (Pinned.cons rfl Pinned.nil)))), N, hP⟩
  case exit =>
    rintro ⟨line, tl, vs, cap⟩ u h tk ⟨hl, hvs⟩ F N
    dsimp only [aPin] at hl hvs F N
    k_steps
    k_dflt (refine LCt.Assign_ListComp_T (F₀ := by k_asm) (by rfl) (by with_unfolding_all rfl) (by with_unfolding_all rfl) (by decide) (by rfl) (by decide) (by rfl) (by rfl) (by rfl) ?_)
    k_steps
    rename Fr _ _ _ _ => F9
    rename News _ _ _ _ => N9
    rename IsRange _ _ _ _ _ _ _ _ => R9
    refine LCt.CompSrcT.range (n := 11) rfl F9 N9 R9 (by decide) rfl (by decide) ?_
    intro g'
    refine kci_range (turnG o) ?tturn ?tfin (turnG_grows o)
    case tturn =>
      intro k tk9 I oI C oC D m₂ ys l9 h9 tk10 E9 hlo hhi hi9 hC hx F N off ne mk
      clear hl hvs a1 a2 hnv R9 F9 N9 hcs hdp hun hdp1
      k_steps
      · rename (Int.fmod _ _ = 1) => hb
        rw [fd_fm o k hlo] at hb
        have hb' : bt o k.toNat = true := bt_true.mpr (by omega)
        exact LCg.CompEnd.intro (by assumption) (by assumption) _ (fun p h => h) off trivial (kci_el (by rw [turnG, if_pos hb']) rfl rfl)
      · rename (Int.fmod _ _ ≠ 1) => hb
        rw [fd_fm o k hlo] at hb
        have hb' : ¬ bt o k.toNat = true := fun e => hb (by rw [bt_true.mp e]; rfl)
        exact LCg.CompEnd.intro (by assumption) (by assumption) _ (fun p h => h) off trivial (kci_no (by rw [turnG, if_neg hb']) rfl)
    case tfin =>
      unfold KPfDone
      intro ys hys hyl
      rw [turns_eq] at hys
      intro DT h5 tk5 F5' N5' off5
      simp only [LCg.Off1] at off5
      dsimp only
      have hSI : StopIf := stopIf
      k_steps
      clear hSI
      rename Fr _ _ _ _ => F10
      rename News _ _ _ _ => N10
      rename (_ = Data.cell (some (Value.ref _))) => dF
      obtain ⟨DF, e'⟩ := named N10
      subst e'
      rename (DT < DF ∧ _) => lt10
      obtain ⟨oC, e'⟩ := namedO dF
      subst e'
      refine my_join (σ := FSt) F10 (fun c => (DF, listOf c.fs c.cf) :: (DT, LCg.lst ys) :: (ls, listOf vs cap) :: (D2, listOf v2.toArray 0) :: (D1, listOf v1.toArray 0) :: (ln, listOf nv 0) :: (L1 + 1 + 1 + 1, oC) :: (L1 + 1 + 1, oT) :: (L1 + 1, oO) :: news) (fPin line tl ls DT ln)
        (fun c => StaysIs o t c.st ∧ IntsAre c.fs.toList (flagsL o c.st)) ?jwalk ?jexit
      case jwalk =>
        k_steps
        rename News _ _ _ _ => N11
        refine len_is (News.isList N11 (List.Mem.tail _ (List.Mem.head _))) (k := (turnsL o 11).length) (by rw [List.size_toArray]; exact (IntsAre.length hys)) (Nat.le_succ_of_le (turnsL_len o 11)) ?_
        k_steps
        · rename (Int.fmod _ _ = 1) => hb
          rw [odd_is] at hb
          k_dflt (refine LCt.ListComp_T (F₀ := by k_asm) (by with_unfolding_all rfl) (by decide) (by rfl) (by decide) (by rfl) ?_)
          k_steps
          rename Fr _ _ _ _ => F12
          rename News _ _ _ _ => N12
          rename IsRange _ _ _ _ _ _ _ _ => R12
          refine LCt.CompSrcT.range (n := 11) rfl F12 N12 R12 (by decide) rfl (by decide) ?_
          intro g'
          refine kci_range (eitherG o t) ?mturn ?mfin (eitherG_grows o t)
          case mturn =>
            intro k tk9 I oI C oC' D m₂ ys l9 h9 tk10 E9 hlo hhi hi9 hC hx F N off ne mk
            clear hl hvs a1 a2 hnv R9 R12 hys hyl hb hcs hdp hun hdp1
            dsimp only
            k_steps
            · rename (Int.fmod _ _ = 1) => hb1
              rw [fd_fm o k hlo] at hb1
              have hb' : bt o k.toNat = true := bt_true.mpr (by omega)
              exact LCg.CompEnd.intro (by assumption) (by assumption) _ (fun p h => h) off trivial (kci_el (by rw [eitherG, if_pos (by rw [hb', Bool.true_or])]) rfl rfl)
            · rename (Int.fmod _ _ = 1) => hb1
              rw [fd_fm t k hlo] at hb1
              have hb' : bt t k.toNat = true := bt_true.mpr (by omega)
              exact LCg.CompEnd.intro (by assumption) (by assumption) _ (fun p h => h) off trivial (kci_el (by rw [eitherG, if_pos (by rw [hb', Bool.or_true])]) rfl rfl)
            · rename (Int.fmod (Int.fdiv (t : Int) _) _ ≠ 1) => hb1
              rename (Int.fmod (Int.fdiv (o : Int) _) _ ≠ 1) => hb2
              rw [fd_fm t k hlo] at hb1
              rw [fd_fm o k hlo] at hb2
              have hb' : ¬ (bt o k.toNat || bt t k.toNat) = true := by
                rw [Bool.or_eq_true]
                rintro (e | e)
                · exact hb2 (by rw [bt_true.mp e]; rfl)
                · exact hb1 (by rw [bt_true.mp e]; rfl)
              exact LCg.CompEnd.intro (by assumption) (by assumption) _ (fun p h => h) off trivial (kci_no (by rw [eitherG, if_neg hb']) rfl)
          case mfin =>
            unfold KPfDone
            intro zs hzs hzl
            rw [eithers_eq] at hzs
            intro DM h6 tk6 F6' N6' off6
            simp only [LCg.Off1] at off6
            dsimp only
            k_steps
            refine' kso_max ?kF ?kN ?hl hzs (eithers_ne hb) ?hh ?_
            case kF => k_asm
            case kN => k_asm
            case hl => exact ⟨_, (N6' _ (List.Mem.head _)).1, rfl, _, rfl⟩
            case hh => exact rfl
            intro h7 M tM tk7 F7 N7 hM hMle
            dsimp only
            k_steps
            rename News _ _ _ _ => N13
            exact f_out (by assumption) (fun p hp => N13 p (List.Mem.tail _ hp)) rfl rfl rfl rfl rfl ⟨by rw [StaysIs, if_pos hb]; exact ⟨hM, hMle⟩, by rw [flagsL, if_pos hb]; exact ints_push hys⟩
        · rename (Int.fmod _ _ ≠ 1) => hb
          rw [Ne, odd_is] at hb
          exact f_out (by assumption) (by assumption) rfl rfl rfl rfl rfl ⟨by rw [StaysIs, if_neg hb], by rw [flagsL, if_neg hb]; exact hys⟩
      case jexit =>
        rintro ⟨fs, cf, st, ts⟩ u10 h10 tk10 ⟨hst, hfs⟩ F14 N14
        dsimp only [fPin] at hst hfs F14 N14
        clear F10 N10
        have hfl := flagsL_len o st
        k_steps
        k_dflt (refine ListComp_2 (F₀ := by k_asm) (by with_unfolding_all rfl) (by decide) (by rfl) (by decide) (by rfl) ?_)
        k_steps
        rename Fr _ _ _ _ => F15
        rename News _ _ _ _ => N15
        rename IsRange _ _ _ _ _ _ _ _ => R15
        have hfe := flagsL_even o st
        refine Src2.intro (n := (flagsL o st).length / 2) (hidG (flagsL o st)) rfl F15 N15 R15 (range2 _ hfl).1 ((range2 _ hfl).2.trans (by congr 1; omega)) (by rw [sizeLine_eq]; omega) ?hturn ?hfin
        case hturn =>
          rintro s₀ i tj I oI C oC' D m₂ zs h9 tk10 E9 ⟨_, rfl⟩ hi hC hx F N off ne
          have e0 : 2 * i = ((0 : Int) + (i : Nat) * 2).toNat := by omega
          have e1 : 2 * i + 1 = ((0 : Int) + (i : Nat) * 2 + 1).toNat := by omega
          have g0 := flags_getD hst (k := ((0 : Int) + (i : Nat) * 2).toNat) (by omega)
          have g1 := flags_getD hst (k := ((0 : Int) + (i : Nat) * 2 + 1).toNat) (by omega)
          clear hl hvs a1 a2 hnv R9 R15 F15 N15 hys hyl hst hcs hdp hun hdp1
          dsimp only
          k_steps
          exact LCg.CompEnd.intro (by assumption) (by assumption) _ (fun p h => h) off trivial ⟨rfl, _, by rw [hidG, e1, e0]⟩
        case hfin =>
          rintro s₀ zs ⟨_, rfl⟩ hzs
          intro DH h6 tk6 F6' N6' off6
          simp only [LCg.Off1] at off6
          dsimp only
          have hhid := hidden_small hst
          obtain ⟨hid, hhe, hhl⟩ := hhid
          rw [hiddenI] at hhe
          k_steps
          rw [hhe]
          refine' pf_use ?kB ?kF ?kX ?kN ?kT ?kK hhl ?kd ?ku ?_
          case kB => k_asm
          case kF => k_asm
          case kX => k_asm
          case kN => k_asm
          case kT => k_asm
          case kK => exact rfl
          case kd => ktr_room
          case ku => ktr_units
          intro ta3 ha3 tka3 Fa3 Na3
          k_steps
          rename Fr _ _ _ _ => F17
          rename News _ _ _ _ => N17
          refine KSpl.split1 F17 N17 (by decide) ?_ (by have := prettyF_len hid; rw [sizeLine_eq]; omega)
          intro D3 l3' h8 k8 e3 a3 F18 N18 lt18
          rw [prettyF_split hhl] at e3
          rw [e3] at a3
          k_lt lt18
          generalize strValues l3' = v3 at *
          clear e3
          k_steps
          rename Fr _ _ _ _ => F19
          rename News _ _ _ _ => N19
          obtain ⟨td0, u19, F19⟩ : ∃ td u, Fr _ _ _ (pinB u (dPin line tl ts st ls DT ln D3 ⟨[], td⟩)) := ⟨_, Fr.pins F19 (Pinned.cons rfl (Pinned.cons rfl (Pinned.cons rfl (Pinned.cons rfl (Pinned.cons rfl (Pinned.cons rfl (Pinned.cons rfl Pinned.nil)))))))⟩
          refine wpAny_For ?_
          k_steps
          rename Fr _ _ _ _ => F20
          rename News _ _ _ _ => N20
          rename IsRange _ _ _ _ _ _ _ _ => R20
          refine my_for_range (σ := DSt) (n := 11) ?b1 R20 (by decide) rfl ?b2 ?b3 (fun _ => (D3, listOf v3.toArray 0) :: (DH, LCg.lst zs) :: (DF, listOf fs cf) :: (DT, LCg.lst ys) :: (ls, listOf vs cap) :: (D2, listOf v2.toArray 0) :: (D1, listOf v1.toArray 0) :: (ln, listOf nv 0) :: (L1 + 1 + 1 + 1, oC) :: (L1 + 1 + 1, oT) :: (L1 + 1, oO) :: news)
            (dPin line tl ts st ls DT ln D3) (fun k c => c.due = dueL st hid k) (fun c => c.due = dueL st hid 11) ⟨[], td0⟩ ?b5 F20 N20 ?b6 ?b7 ?dturn ?ddone ?dexit
          case b1 => exact rfl
          case b2 => exact rfl
          case b3 => exact rfl
          case b5 => exact fun c => rfl
          case b6 => exact Pinned.cons rfl (Pinned.cons rfl (Pinned.cons rfl (Pinned.cons rfl (Pinned.cons rfl (Pinned.cons rfl (Pinned.cons rfl Pinned.nil))))))
          case b7 => exact rfl
          case dturn =>
            rintro I i tq ⟨due, td⟩ oI u h tk hi11 hI hd F N
            dsimp only [dPin] at hd hI F N
            k_lt hI
            have hdl : (T due).length ≤ 1000 := by
              rw [T_length, hd]; have := dueL_len st hid i; omega
            have e0 : ((0 : Int) + (i : Nat) * 1).toNat = i := by omega
            have hnl : (nmS ((0 : Int) + (i : Nat) * 1).toNat).length ≤ 18 := by rw [e0]; have := nmL_len i; rw [← nmL_T, T_length]; exact this
            have hto := told_has hid i hi11 hhl
            k_steps
            all_goals (rename Fr _ _ _ _ => F21; rename News _ _ _ _ => N21)
            all_goals first | (rename (List.any (prettyL hid) _ = true) => b2; rw [e0, hto] at b2) | (rename (List.any (prettyL hid) _ = false) => b2; rw [e0, hto] at b2)
            all_goals refine d_out F21 N21 rfl rfl rfl rfl rfl rfl rfl (due ++ ((if (i : Int) = st then [34] else []) ++ (if bt hid i then [] else nmL i ++ [59]))) ?_ (by rw [hd]; rfl)
            all_goals first | rw [if_pos (show ((i : Nat) : Int) = st by omega)] | rw [if_neg (show ¬ ((i : Nat) : Int) = st by omega)]
            all_goals (rw [b2]; simp only [e0, q1, q3, ← nmL_T, T_append]; try (congr 1; try simp))
          case ddone =>
            rintro ⟨due, td⟩ u h tk hP F N
            k_steps
            exact ⟨_, _, _, _, rfl, F, Pinned.cons rfl (Pinned.cons rfl (Pinned.cons rfl (Pinned.cons rfl (Pinned.cons rfl (Pinned.cons rfl (Pinned.cons rfl Pinned.nil)))))), N, hP⟩
          case dexit =>
            rintro ⟨due, td⟩ u20 h20 tk20 hd F22 N22
            dsimp only [dPin] at hd F22 N22
            have hdl : (T due).length ≤ 1000 := by
              rw [T_length, hd]; have := dueL_len st hid 11; omega
            clear F20 N20
            k_steps
            refine' ss_use (l := line) ?kl ?kn ?ka ?kB ?kF ?kX ?kN ?kT ?kK ?kd ?ku ?_
            case kl => rw [hl]; have := lineL_len o t 11; omega
            case kn => rw [hl]; exact lineL_no o t 11
            case ka => rw [hl]; exact lineL_asc o t 11
            case kB => k_asm
            case kF => k_asm
            case kX => k_asm
            case kN => k_asm
            case kT => k_asm
            case kK => exact rfl
            case kd => ktr_room
            case ku => ktr_units
            intro tS hS tkS gs' hgs FS NS
            have hsd : stripF line = due := by rw [hl, hd]; exact strip_due ho ht hst hhe
            rw [hsd]
            k_steps
            · rename ((T due != T due) = true) => hne
              exact (bne_absurd hne).elim
            obtain ⟨u23, F23⟩ : ∃ u, Fr _ _ _ (pinB u (jPin line tl ls DT ln ())) := Fr.pins FS (Pinned.cons rfl (Pinned.cons rfl (Pinned.cons rfl (Pinned.cons rfl Pinned.nil))))
            have htl : (turnsL o 11).length ≤ 11 := turnsL_len o 11
            refine wpAny_For ?_
            k_steps
            rename Fr _ _ _ _ => F24
            rename News _ _ _ _ => N24
            rename IsRange _ _ _ _ _ _ _ _ => R24
            refine my_for_range (σ := Unit) (n := ((turnsL o 11).length + 1) / 2) ?b1 R24 (range2 _ (by omega)).1 (range2 _ (by omega)).2 ?b2 ?b3 (fun _ => (D3, listOf v3.toArray 0) :: (DH, LCg.lst zs) :: (DF, listOf fs cf) :: (DT, LCg.lst ys) :: (ls, listOf vs cap) :: (D2, listOf v2.toArray 0) :: (D1, listOf v1.toArray 0) :: (ln, listOf nv 0) :: (L1 + 1 + 1 + 1, oC) :: (L1 + 1 + 1, oT) :: (L1 + 1, oO) :: news)
              (jPin line tl ls DT ln) (fun _ _ => True) (fun _ => True) () ?b5 F24 N24 ?b6 trivial ?jturn ?jdone ?jexit
            case b1 => exact rfl
            case b2 => exact rfl
            case b3 => exact rfl
            case b5 => exact fun c => rfl
            case b6 => exact Pinned.cons rfl (Pinned.cons rfl (Pinned.cons rfl (Pinned.cons rfl Pinned.nil)))
            case jdone =>
              rintro _ u h tk hP F N
              k_steps
              exact ⟨(), _, _, _, rfl, F, Pinned.cons rfl (Pinned.cons rfl (Pinned.cons rfl (Pinned.cons rfl Pinned.nil))), N, trivial⟩
            case jexit =>
              rintro _ u30 h30 tk30 _ F30 N30
              dsimp only [jPin] at F30 N30
              k_steps
              rename Fr _ _ _ _ => F31
              rename News _ _ _ _ => N31
              exact hret _ _ _ hgs F31 fun p hp => N31 p (by simp [hp])
            case jturn =>
              rintro I i tq _ oI u h tk hi hI _ F N
              dsimp only [jPin] at hI F N
              k_lt hI
              have hjl : 2 * i < (turnsL o 11).length := by omega
              have e0 : ((0 : Int) + (i : Nat) * 2).toNat = 2 * i := by omega
              have ec : ((0 : Int) + (i : Nat) * 2 + 1 < ((turnsL o 11).length : Nat)) = (2 * i + 1 < (turnsL o 11).length) := by apply propext; omega
              have e1 : ((0 : Int) + (i : Nat) * 2 + 1).toNat = 2 * i + 1 := by omega
              have hSI : StopIf := stopIf
              k_steps
              clear hSI
              rename Fr _ _ _ _ => F32
              rename News _ _ _ _ => N32
              refine my_join (σ := CSt) F32 (fun _ => (I, oI) :: (D3, listOf v3.toArray 0) :: (DH, LCg.lst zs) :: (DF, listOf fs cf) :: (DT, LCg.lst ys) :: (ls, listOf vs cap) :: (D2, listOf v2.toArray 0) :: (D1, listOf v1.toArray 0) :: (ln, listOf nv 0) :: (L1 + 1 + 1 + 1, oC) :: (L1 + 1 + 1, oT) :: (L1 + 1, oO) :: news) (cPin line tl tq i ls DT ln)
                (fun c => c.cv = closeL o (2 * i)) ?cwalk ?cexit
              case cwalk =>
                k_steps
                · rename (_ < ((turnsL o 11).length : Int)) => hlt
                  exact c_out (by assumption) (by assumption) rfl rfl rfl rfl rfl rfl (by show _ = closeL o (2 * i); rw [closeL, if_pos (by omega), e1])
                · rename (¬ _ < ((turnsL o 11).length : Int)) => hlt
                  exact c_out (by assumption) (by assumption) rfl rfl rfl rfl rfl rfl (by show _ = closeL o (2 * i); rw [closeL, if_neg (by omega)])
              case cexit =>
                rintro ⟨cv, tc⟩ u33 h33 tk33 hcv F33 N33
                dsimp only [cPin] at hcv F33 N33
                obtain ⟨ak, ck, hak, hck, hac, hc11, hbo, hbm, hbc⟩ := turn_at hjl
                rw [hck] at hcv
                subst hcv
                rw [← e0] at hak
                k_steps
                obtain ⟨tr0, u34, F34⟩ : ∃ tr u, Fr _ _ _ (pinB u (rPin line tl tq tc i ck ls DT ln ⟨[], tr⟩)) := ⟨_, Fr.pins (by assumption) (Pinned.cons rfl (Pinned.cons rfl (Pinned.cons rfl (Pinned.cons rfl (Pinned.cons rfl (Pinned.cons rfl (Pinned.cons rfl Pinned.nil)))))))⟩
                refine wpAny_For ?_
                k_steps
                rename Fr _ _ _ _ => F35
                rename News _ _ _ _ => N35
                rename IsRange _ _ _ _ _ _ _ _ => R35
                rw [hak, min_is] at R35
                refine my_for_range (σ := RSt) (n := min ck 10 + 1 - ak) ?b1 R35 (range1 (by omega) (by omega)).1 (range1 (by omega) (by omega)).2 ?b2 ?b3 (fun _ => (I, oI) :: (D3, listOf v3.toArray 0) :: (DH, LCg.lst zs) :: (DF, listOf fs cf) :: (DT, LCg.lst ys) :: (ls, listOf vs cap) :: (D2, listOf v2.toArray 0) :: (D1, listOf v1.toArray 0) :: (ln, listOf nv 0) :: (L1 + 1 + 1 + 1, oC) :: (L1 + 1 + 1, oT) :: (L1 + 1, oO) :: news)
                  (rPin line tl tq tc i ck ls DT ln) (fun k c => c.str = stretchL t ak ck k) (fun c => c.str = stretchL t ak ck (min ck 10 + 1 - ak)) ⟨[], tr0⟩ ?b5 F35 N35 ?b6 ?b7 ?rturn ?rdone ?rexit
                case b1 => exact rfl
                case b2 => exact rfl
                case b3 => exact rfl
                case b5 => exact fun c => rfl
                case b6 => exact Pinned.cons rfl (Pinned.cons rfl (Pinned.cons rfl (Pinned.cons rfl (Pinned.cons rfl (Pinned.cons rfl (Pinned.cons rfl Pinned.nil))))))
                case b7 => exact rfl
                case rdone =>
                  rintro ⟨str, tr⟩ u h tk hP F N
                  k_steps
                  exact ⟨_, _, _, _, rfl, F, Pinned.cons rfl (Pinned.cons rfl (Pinned.cons rfl (Pinned.cons rfl (Pinned.cons rfl (Pinned.cons rfl (Pinned.cons rfl Pinned.nil)))))), N, hP⟩
                case rturn =>
                  rintro I2 m2 tq2 ⟨str, tr⟩ oI2 u h tk hm hI2 hr F N
                  dsimp only [rPin] at hr hI2 F N
                  k_lt hI2
                  have hm11 : ak + m2 < 11 := by omega
                  have e2 : ((ak : Int) + (m2 : Nat) * 1).toNat = ak + m2 := by omega
                  have hrl : (T str).length ≤ 1000 := by
                    rw [T_length, hr]; have := stretchL_len t ak ck m2; omega
                  have hnl : (nmS ((ak : Int) + (m2 : Nat) * 1).toNat).length ≤ 18 := by rw [e2]; have := nmL_len (ak + m2); rw [← nmL_T, T_length]; exact this
                  have hk0 : (0 : Int) ≤ (ak : Int) + (m2 : Nat) * 1 := by omega
                  clear R20 R24 R15 R9 hak e0 ec e1 htl hjl hi hdl hsd hgs hhl hhe hzs hfe hfl hfs hst hyl hys a3 a2 a1 hcs hdp hun hdp1
                  k_steps
                  all_goals (rename Fr _ _ _ _ => F38; rename News _ _ _ _ => N38)
                  all_goals refine r_out F38 N38 rfl rfl rfl rfl rfl rfl rfl (str ++ ((if bt t (ak + m2) then [34] else []) ++ (if ak + m2 < ck then nmL (ak + m2) ++ [59] else []))) ?_ (by rw [hr]; rfl)
                  all_goals first | rw [if_pos (show ak + m2 < ck by omega)] | rw [if_neg (show ¬ ak + m2 < ck by omega)]
                  all_goals first
                    | (rename (Int.fmod _ _ = 1) => b; rw [fd_fm t _ hk0, e2] at b; rw [show bt t (ak + m2) = true from bt_true.mpr (by omega)])
                    | (rename (Int.fmod _ _ ≠ 1) => b; rw [fd_fm t _ hk0, e2] at b; rw [show bt t (ak + m2) = false from bt_false.mpr (by omega)])
                  all_goals ((try simp only [e2, q1, q3, ← nmL_T, T_append]); try (congr 1; try simp))
                case rexit =>
                  rintro ⟨str, tr⟩ u36 h36 tk36 hr F36 N36
                  dsimp only [rPin] at hr F36 N36
                  have hrl : (T str).length ≤ 1000 := by
                    rw [T_length, hr]; have := stretchL_len t ak ck (min ck 10 + 1 - ak); omega
                  have hll := lineL_len o t 11
                  have hle := lineL_mono o t (show ak ≤ 11 by omega)
                  have hTl : (T line).length ≤ 1000 := by rw [T_length, hl]; omega
                  have hLa : (lineL o t ak).length ≤ (T line).length := by rw [T_length, hl]; exact hle
                  obtain ⟨pl, hpl, hpn, hpp⟩ := parse_due (t := t) hac hc11 hbo hbm hbc
                  have hX : Str.ofString "257 " ++ Txt.slice (T line) (some ((lineL o t ak).length : Int)) none = T (pre5 ++ pl) := by
                    rw [slice_from line _ (by omega) (by rw [hl]; omega), Int.toNat_natCast, hl, hpl]
                    exact T_append [50, 53, 55, 32] (34 :: pl)
                  k_steps
                  rw [hX]
                  refine' pp_use (l := pl) ?kB ?kF ?kX ?kN ?kT ?kK hpn ?kd ?ku ?_
                  case kB => k_asm
                  case kF => k_asm
                  case kX => k_asm
                  case kN => k_asm
                  case kT => k_asm
                  case kK => exact rfl
                  case kd => ktr_room
                  case ku => ktr_units
                  intro tP hP' tkP FP NP
                  have hps : parseL pl = str := by rw [hpp, hr]
                  rw [hps]
                  k_steps
                  · rename ((T str != T str) = true) => hne
                    exact (bne_absurd hne).elim
                  · rename Fr _ _ _ _ => F37
                    rename News _ _ _ _ => N37
                    exact ⟨(), _, _, _, rfl, F37, Pinned.cons rfl (Pinned.cons rfl (Pinned.cons rfl (Pinned.cons rfl Pinned.nil))), N37, trivial⟩
end Mine
-- WForG
namespace Mine
def OutG (h₀ : Heap) (L : Addr) (led : List (Addr × Obj)) (ps : List (Str × Value)) (GG : Array GenState → Prop) (own : List (Addr × Obj)) (s s₂ : Shared) : Prop :=
  ∃ h' tk' m' gs', s₂ = { s with heap := h', toks := tk', gens := gs' } ∧ Fr h₀ L h' m' ∧ Pinned m' ps ∧ News h₀ L h' (own ++ led) ∧ GG gs'
def TurnG (h₀ : Heap) (L : Addr) (led : List (Addr × Obj)) (ps : List (Str × Value)) (GG : Array GenState → Prop) (own : List (Addr × Obj)) (Q : Flow → Shared → Prop) (s : Shared) (f : Flow) (s₂ : Shared) : Prop :=
  match f with
  | .ret v => Q (.ret v) s₂
  | .brk => False
  | _ => OutG h₀ L led ps GG own s s₂
section
variable {prog : Program} {w : World} {A : Around} {s : Shared} {env : Env} {h₀ : Heap}
/-- over a list of the call's own, the generators growing -/
theorem my_for_gens {x : Str} {px : Pos} {body : List Stmt} {l : Addr} {vs : List Value} {nn : Nat} {m : Str → Option Value} {Q : Flow → Shared → Prop} {R : Value → Shared → Prop} {E : Value → Shared → Prop}
    (hh : A.handled = none) (hx : env.kindOf x = some .local)
    (hp : (env.scope.kind == .class || (env.scope.kind == .module && env.locals != env.globals)) = false)
    (led : List (Addr × Obj)) (ps : List (Str × Value)) (GG : Array GenState → Prop)
    (hl : (l, listOf vs.toArray nn) ∈ led)
    (F : Fr h₀ env.locals s.heap m) (N : News h₀ env.locals s.heap led) (hpin : Pinned m ps) (h0 : GG s.gens)
    (turn : ∀ (I : Addr) (i : Nat) (v : Value) (oI : Obj) (u : Str → Option Value) (h : Heap) (tk : Nat) (gs : Array GenState), vs[i]? = some v → (∀ p ∈ led, p.1 < I) → GG gs → Fr h₀ env.locals h (fun y => if y = x then some v else pinB u ps y) → News h₀ env.locals h ((I, oI) :: led) →
      wpAny (model prog w) A (execs body env) (TurnG h₀ env.locals led ps GG [(I, oI)] Q { s with heap := h, toks := tk, gens := gs }) (fun _ _ => False) { s with heap := h, toks := tk, gens := gs })
    (exit : ∀ (u : Str → Option Value) (h : Heap) (tk : Nat) (gs : Array GenState), GG gs → Fr h₀ env.locals h (pinB u ps) → News h₀ env.locals h led → Q .next { s with heap := h, toks := tk, gens := gs }) :
    wpAny (model prog w) A (pyIter (.ref l)) (fun it s₂ => codeAny (model prog w) A (.forLoop (.Name x px) it body [] env) (fun r s' => match r with | .ok f => Q f s' | .error e => R e s') s₂) E s := by
  have hls : s.heap.IsList l vs.toArray := ⟨_, (N _ hl).1, rfl, nn, rfl⟩
  refine wpAny_pyIter_list hls ?_
  have above : ∀ p ∈ led, p.1 < s.heap.objs.size := fun p hp => Heap.lt_size (N p hp).1
  have hlt : l < s.heap.objs.size := above _ hl
  have hsz : vs.toArray.size = vs.length := List.size_toArray ..
  have W := Walks.list (prog := prog) (w := w) (A := A) hh s.heap.objs.size l (Nat.ne_of_lt hlt) vs.toArray
  rw [hsz] at W
  generalize eI : s.heap.objs.size = I at *
  have hI : h₀.get? I = none := eI ▸ next_is_new F
  have hLI : env.locals ≠ I := fun e => absurd F.ns.lt (by rw [e, eI]; exact Nat.lt_irrefl _)
  have hIa : ∀ p ∈ led, p.1 ≠ I := fun p hp => Nat.ne_of_lt (above p hp)
  have oldI : ∀ b o, h₀.get? b = some o → b ∉ [I] := fun b o e hb => by rw [List.mem_singleton.mp hb, hI] at e; cases e
  refine codeAny_forLoop
    (fun k s' => ∃ h' tk m' gs i, s' = { s with heap := h', toks := tk, gens := gs } ∧ (h'.IsListIter I l i ∧ h'.IsList l vs.toArray) ∧ Fr h₀ env.locals h' m' ∧ Pinned m' ps ∧ News h₀ env.locals h' led ∧ GG gs ∧ i ≤ vs.length ∧ k = vs.length - i) ?_ vs.length
    ⟨_, s.toks, m, s.gens, 0, rfl, ⟨⟨_, eI ▸ Heap.get?_push_size _ rfl, rfl, rfl⟩, hls.at fun o e => Heap.get?_push_of_some _ e⟩, F.push _, hpin, fun p hp => ⟨Heap.get?_push_of_some _ (N p hp).1, (N p hp).2⟩, h0, Nat.zero_le _, rfl⟩
  rintro k s' ⟨h', tk, m', gs, i, rfl, hst', F', hpin', N', hG, hi, rfl⟩
  have next : ∀ h₁ : Heap, (∀ b o, b ∉ [I] → h'.get? b = some o → h₁.get? b = some o) → Fr h₀ env.locals h₁ m' ∧ News h₀ env.locals h₁ led := fun h₁ hk₁ =>
    ⟨⟨F'.ns.at' fun o e => hk₁ _ o (fun h => hLI (List.mem_singleton.mp h)) e, fun b o e => hk₁ b o (oldI b o e) (F'.keep b o e), F'.above⟩,
      fun p hp => ⟨hk₁ _ _ (fun h => hIa p hp (List.mem_singleton.mp h)) (N' p hp).1, (N' p hp).2⟩⟩
  by_cases hlt' : i < vs.length
  · refine W.item i _ _ _ hlt' hst' fun v h₁ tk₁ hPv hst₁ hk₁ => ?_
    obtain ⟨F₁, N₁⟩ := next h₁ hk₁
    refine wpAny_assign_Name (wpAny_storeName_local hx F₁.ns (fun h₂ hn₂ hs₂ => ?_) hp)
    have F₂ := F₁.set hn₂ hs₂
    have N₂ := N₁.set hs₂
    obtain ⟨oI, hoI, hoc⟩ := hst₁.1
    have hoI₂ : h₂.get? I = some oI := (hs₂.2 I (Ne.symm hLI)).trans hoI
    have N₂' : News h₀ env.locals h₂ ((I, oI) :: led) := by
      intro p hp
      rcases List.mem_cons.mp hp with rfl | hp
      · exact ⟨hoI₂, Ne.symm hLI, hI⟩
      · exact N₂ p hp
    have F₂' : Fr h₀ env.locals h₂ (fun y => if y = x then some v else pinB m' ps y) := by rw [pin_eq hpin']; exact F₂
    refine wpAny_mono (turn I i v oI m' h₂ _ gs (by simpa using hPv) above hG F₂' N₂') (fun f s₃ h₃ => ?_) fun _ _ e => e.elim
    have fin : OutG h₀ env.locals led ps GG [(I, oI)] { s with heap := h₂, toks := tk₁, gens := gs } s₃ →
        ∃ k', k' < vs.length - i ∧ ∃ h' tk m' gs i, s₃ = { s with heap := h', toks := tk, gens := gs } ∧ (h'.IsListIter I l i ∧ h'.IsList l vs.toArray) ∧ Fr h₀ env.locals h' m' ∧ Pinned m' ps ∧ News h₀ env.locals h' led ∧ GG gs ∧ i ≤ vs.length ∧ k' = vs.length - i := by
      rintro ⟨h₄, tk₄, m₄, gs₄, rfl, F₄, hpin₄, N₄, hG₄⟩
      refine ⟨vs.length - (i + 1), by omega, h₄, tk₄, m₄, gs₄, i + 1, rfl, ⟨⟨oI, (N₄ _ (List.mem_cons_self ..)).1, hoc⟩, ⟨_, (N₄ _ (List.mem_cons_of_mem _ hl)).1, rfl, nn, rfl⟩⟩, F₄, hpin₄, fun p hp => N₄ p (List.mem_cons_of_mem _ hp), hG₄, hlt', rfl⟩
    cases f with
    | ret v => exact h₃
    | brk => exact h₃.elim
    | next => exact fin h₃
    | cont => exact fin h₃
  · have hin : i = vs.length := by omega
    subst hin
    refine W.done _ _ _ hst' fun h₁ tk₁ hk₁ => ?_
    obtain ⟨F₁, N₁⟩ := next h₁ hk₁
    have F₁' : Fr h₀ env.locals h₁ (pinB m' ps) := by rw [pin_eq hpin']; exact F₁
    refine wpAny_execs_nil ?_
    exact exit m' h₁ tk₁ gs hG F₁' N₁
end
end Mine
-- L9
namespace Mine
theorem mod_nat (a : Int) : ∃ n : Nat, Int.fmod a 2048 = (n : Int) ∧ n < 2048 := by
  refine ⟨(Int.fmod a 2048).toNat, ?_, ?_⟩
  · rw [Int.fmod_eq_emod_of_nonneg _ (by decide)]; omega
  · rw [Int.fmod_eq_emod_of_nonneg _ (by decide)]; omega
theorem gens_bare {a b : Array GenState} (h : AllBare a) (g : GensOk a b) : AllBare b := by
  rcases g with rfl | rfl
  · exact h
  · exact h.push rfl
theorem three {ws : List Value} {l : List Int} (h : IntsAre ws (List.map (fun a => a) (List.take 2 l) ++ [1124758])) : (∃ t0, ws = [.int 1124758 t0]) ∨ (∃ a t0 t1, ws = [.int a t0, .int 1124758 t1]) ∨ (∃ a b t0 t1 t2, ws = [.int a t0, .int b t1, .int 1124758 t2]) := by
  match l, h with
  | [], .cons _ t .nil => exact .inl ⟨t, rfl⟩
  | [a], .cons _ t (.cons _ t' .nil) => exact .inr (.inl ⟨a, t, t', rfl⟩)
  | a :: b :: r, .cons _ t (.cons _ t' (.cons _ t'' .nil)) => exact .inr (.inr ⟨a, b, t, t', t'', rfl⟩)
local macro_rules | `(tactic| k_steps) => `(tactic| repeat' (first | ((fail_if_success (with_reducible show wpAny _ _ (pyIter _) _ _ _)); (fail_if_success (with_reducible show wpAny _ _ (exec (Stmt.For _ _ _ _ _) _) _ _ _)); (fail_if_success (with_reducible show TurnG _ _ _ _ _ _ _ _ _ _)); (fail_if_success (with_reducible show wpAny _ _ (call (Value.ref _) _) _ _ _)); (first | (k_unfold; (try dsimp only)) | (k_end; wrow_close) | walk1 | (dsimp only; walk1) | (leave1; walk_say "STEP leave1"; try dsimp only) | fail "no step"))))
theorem law_holds : PySem.Challenge.rw_wf0016_01.Holds := by
  refine hd ?_
  k_fill
  intro w s₀ s₁ mg mb G Y fa o pm cd doc dV kV ho hdd hcd hD hmg hg args vals as hpre hlay hrd hwl hlo
  have KX := kIn_of Y
  have X := (Ground.X G).1
  have V := (Ground.X G).2
  try w_nolog (first | (have GL := glob_more (Ground.glob G (by first | k_qdec | decide +kernel) (by first | k_qdec | decide +kernel)) V) | (have GL := glob_more (Ground.glob G (by decide +kernel)) V))
  refine Ground.open G ?_
  intro T B D TE TW
  try (refine guard_noD D (by decide +kernel) ?_; clear D)
  obtain ⟨_, _, M⟩ := bmod_of_top T
  have TA := at_of_top T
  try (obtain ⟨_, _, he, B0⟩ := based_of_top T rfl hmg ho hdd; have he' : cd = _ := he; subst he'; clear he)
  clear hmg
  wrow_args hpre hlay hrd hwl hlo
  all_goals (
    first | refine callC_kw (enter_call ?_) | refine enter_call ?_ | refine callC_kw (enter_callW ?_) | refine enter_callW ?_ | w_how
    w_top on
    have K0 := below_caller (Top.heap T)
    w_call any ho hdd hcd hD T F
    clear hdd TA
    k_drop
    skip)
  all_goals try k_fold
  k_steps
  refine wpAny_For ?_
  k_steps
  all_goals (try k_data)
  rename IntsAre _ (_ ++ [1124758]) => hI9
  rename Fr _ _ _ _ => F9
  rename News _ _ _ _ => N9
  obtain ⟨D, e'⟩ := named N9
  subst e'
  rename IntsAre _ (_ ++ [1124758]) => hI9
  refine' my_for_gens (l := D) (nn := 0) ?b1 ?b2 ?b3 ?led [] AllBare ?hl ?F ?N ?pin ?h0 ?turn ?exit
  case F => exact F9
  case N => exact N9
  case hl => exact List.Mem.head _
  case pin => exact Pinned.nil
  case h0 => exact AllBare.of_eq hg
  case b1 => exact rfl
  case b2 => exact rfl
  case b3 => exact rfl
  case turn =>
    intro I i v oI u h tk gs hv hI hG F N
    obtain ⟨a, ta, rfl, _⟩ := IntsAre.at hI9 i v hv
    obtain ⟨o1, ho1, ho2⟩ := mod_nat a
    obtain ⟨t1, ht1, ht2⟩ := mod_nat (Int.fdiv a 2048)
    k_steps
    rw [ho1, ht1]
    k_dflt (refine' lf _ o1 t1 _ _ ho2 ht2 _ _ _ _ _ _ _ _ _ _ _ _ _ _ _ _ _ ?kB ?kF ?kX ?kN ?kT ?kK ?kd ?ku ?_)
    case kB => k_asm
    case kF => k_asm
    case kX => k_asm
    case kN => k_asm
    case kT => k_asm
    case kK => exact rfl
    case kd => decide
    case ku => decide
    intro h7 tk7 gs7 hg7 F7 N7
    k_steps
    rename Fr _ _ _ _ => F8
    rename News _ _ _ _ => N8
    unfold TurnG
    dsimp only
    exact ⟨_, _, _, gs7, rfl, F8, Pinned.nil, N8, gens_bare hG hg7⟩
  case exit =>
    intro u h tk gs hG F N
    k_steps
    dsimp only
    k_steps
    rename Fr _ _ _ _ => F8
    refine ⟨.inl ⟨_, _, [], rfl, ?r1, ReadsW.bool true, ?r2, fun _ => ⟨List.nodup_nil, fun _ hm => nomatch hm⟩⟩, .of_keep ?r3, rfl, hG⟩
    case r1 => exact fun _ => rfl
    case r2 => with_unfolding_all rfl
    case r3 => exact F8.keep
end Mine
theorem PySem.Challenge.cw_wf0016_01_holds : PySem.Challenge.rw_wf0016_01.Holds := by
  exact Mine.law_holds
