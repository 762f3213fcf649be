import PyProof.Rows.All
import Wide.All
import OpenK.AllK
import Wide.FinOn
import PySem.Challenge.RW_kp0085_03
set_option Elab.async false
set_option maxRecDepth 100000
set_option linter.unusedVariables false
set_option linter.unusedSimpArgs false
namespace Mine
section
open PySem PySem.W PyProof.Rows
set_option maxHeartbeats 8000000
open_top hd for PySem.Challenge.rw_kp0085_03
end
end Mine

namespace Mine
section
open PySem PySem.W PyProof.Rows
set_option maxHeartbeats 4000000
theorem ne_of_all {d : Addr} {l : List (Addr × Obj)} (h : ∀ p ∈ l, p.1 < d) : ∀ p ∈ l, p.1 ≠ d := fun p hp => Nat.ne_of_lt (h p hp)
theorem ne_of_all1 {d : Addr} {l : List (Addr × Obj)} (h : ∀ p ∈ l, p.1 < d) : ∀ p ∈ l, p.1 ≠ d + 1 := fun p hp => Nat.ne_of_lt (Nat.lt_succ_of_lt (h p hp))
theorem ne_of_allLt {d : Addr} {l : List (Addr × Obj)} (h : AllLt d l) : ∀ p ∈ l, p.1 ≠ d := fun p hp => Nat.ne_of_lt (ktn_ltOf h p hp)
theorem ne_of_allLt2 {d : Addr} {P : Prop} {l : List (Addr × Obj)} (h : P ∧ AllLt d l) : ∀ p ∈ l, p.1 ≠ d := ne_of_allLt h.2
/-- the walk stands still before such a goal -/
def Stop (P : Prop) : Prop := P
theorem Stop.intro {P : Prop} (h : Stop P) : P := h
theorem Stop.out {P : Prop} (h : P) : Stop P := h
theorem ne_of_allLt3 {d : Addr} {P P2 : Prop} {l : List (Addr × Obj)} (h : P ∧ P2 ∧ AllLt d l) : ∀ p ∈ l, p.1 ≠ d := ne_of_allLt h.2.2
theorem ne_of_allLt4 {d : Addr} {P P2 P3 : Prop} {l : List (Addr × Obj)} (h : P ∧ P2 ∧ P3 ∧ AllLt d l) : ∀ p ∈ l, p.1 ≠ d := ne_of_allLt h.2.2.2
theorem ne_of_allLt5 {d : Addr} {P P2 P3 P4 : Prop} {l : List (Addr × Obj)} (h : P ∧ P2 ∧ P3 ∧ P4 ∧ AllLt d l) : ∀ p ∈ l, p.1 ≠ d := ne_of_allLt h.2.2.2.2
theorem ne_of_allLt6 {d : Addr} {P P2 P3 P4 P5 : Prop} {l : List (Addr × Obj)} (h : P ∧ P2 ∧ P3 ∧ P4 ∧ P5 ∧ AllLt d l) : ∀ p ∈ l, p.1 ≠ d := ne_of_allLt h.2.2.2.2.2
theorem ite_ff {c : Bool} {a b : Prop} (h : c = false) (hb : b) : if c = true then a else b := by rw [if_neg (by rw [h]; decide)]; exact hb
theorem ite_nt {c : Bool} {a b : Prop} (h : c = true) (hb : b) : if (!c) = true then a else b := by rw [if_neg (by rw [h]; decide)]; exact hb
theorem ite_nf {c : Bool} {a b : Prop} (h : c = false) (ha : a) : if (!c) = true then a else b := by rw [if_pos (by rw [h]; rfl)]; exact ha
section loops
variable {prog : Program} {w : World} {A : Around} {E : Value → Shared → Prop} {s : Shared} {env : Env} {h₀ : Heap} {x : Str} {body : List Stmt} {Q : Flow → Shared → Prop}
/-- what a turn has to give: a return, a break, or the state behind it -/
def TurnP (h₀ : Heap) (L : Addr) (J : (Str → Option Value) → List (Addr × Obj) → Prop) (I : Addr) (oI : Obj) (s₁ : Shared) (Q : Flow → Shared → Prop) (f : Flow) (s₂ : Shared) : Prop :=
  match f with
  | .ret v => Q (.ret v) s₂
  | .brk => Q .next s₂
  | _ => ∃ h' tk m' nx, s₂ = { s₁ with heap := h', toks := tk } ∧ Fr h₀ L h' m' ∧ News h₀ L h' ((I, oI) :: nx) ∧ (∀ p ∈ nx, p.1 ≠ I) ∧ J m' nx
theorem iter_led {l : Addr} {vs : List Value} {n : Nat} {m₀ : Str → Option Value} {news : List (Addr × Obj)} (J : Nat → (Str → Option Value) → List (Addr × Obj) → Prop)
    (hh : A.handled = none) (F : Fr h₀ env.locals s.heap m₀) (N : News h₀ env.locals s.heap news) (hl : (l, PySem.W.listOf vs.toArray n) ∈ news) (hj : J 0 m₀ news)
    (hJ : ∀ i m nx, J i m nx → (l, PySem.W.listOf vs.toArray n) ∈ nx)
    (turn : ∀ i v m₁ nx I oI h tk, vs[i]? = some v → J i m₁ nx → (∀ p ∈ nx, p.1 ≠ I) → Fr h₀ env.locals h (fun y => if y = x then some v else m₁ y) → News h₀ env.locals h ((I, oI) :: nx) →
      wpAny (model prog w) A (execs body env) (TurnP h₀ env.locals (J (i + 1)) I oI { s with heap := h, toks := tk } Q) E { s with heap := h, toks := tk })
    (done : ∀ m₁ nx h tk, J vs.length m₁ nx → Fr h₀ env.locals h m₁ → News h₀ env.locals h nx → Q .next { s with heap := h, toks := tk }) :
    wpAny (model prog w) A (pyIter (.ref l)) (fun it s₂ => LoopAtV prog w A h₀ env x body Q E it s₂) E s := by
  have hls : s.heap.IsList l vs.toArray := News.isList N hl
  obtain ⟨hol, hlL, hl₀⟩ := N _ hl
  have hlt : l < s.heap.objs.size := Heap.lt_size hol
  have hne : l ≠ s.heap.objs.size := Nat.ne_of_lt hlt
  refine wpAny_pyIter_list hls ?_
  have W := Walks.list (prog := prog) (w := w) hh s.heap.objs.size l hne vs.toArray
  refine ⟨_, _, _, vs.toArray.size, _, _, m₀, news, J, rfl, W, ?_, ?_, ?_, ⟨⟨_, Heap.get?_push_size _ rfl, rfl, rfl⟩, hls.at fun o e => Heap.get?_push_of_some _ e⟩, F.push _, (fun p hp => ⟨Heap.get?_push_of_some _ (N p hp).1, (N p hp).2⟩), hj, ?_, ?_⟩
  · intro hm
    rcases List.mem_cons.mp hm with e | hm
    · exact absurd F.ns.lt (e ▸ Nat.lt_irrefl _)
    · exact hlL (List.mem_singleton.mp hm).symm
  · intro b hb
    rw [List.mem_singleton.mp hb]
    exact next_is_new F
  · intro p hp hI
    exact absurd (Heap.lt_size (N p hp).1) ((List.mem_singleton.mp hI) ▸ Nat.lt_irrefl _)
  · rintro i v m₁ news₁ s₁ own ⟨hh', tk', rfl⟩ hin hP hJi hoff hown hget hall hst F₁ N₁
    obtain ⟨⟨oi, hoi, _⟩, _⟩ := hst
    have hI : (s.heap.objs.size, oi) ∈ own := hall _ (.head _) (next_is_new F) oi hoi
    have hoffI : ∀ p ∈ news₁, p.1 ≠ s.heap.objs.size := fun p hp e => hoff p hp (List.mem_singleton.mpr e)
    have hlm := hJ i m₁ news₁ hJi
    have hlo : hh'.get? l = some (PySem.W.listOf vs.toArray n) := (N₁ _ (List.mem_append_right _ hlm)).1
    have ownOf : ∀ p ∈ own, p = (s.heap.objs.size, oi) ∨ p = (l, PySem.W.listOf vs.toArray n) := by
      intro p hp
      have hg := hget p hp
      rcases List.mem_cons.mp (hown p hp) with e | e
      · left
        have e2 : p.2 = oi := by rw [e, hoi] at hg; exact (Option.some.inj hg).symm
        exact Prod.ext e e2
      · right
        have e1 := List.mem_singleton.mp e
        have e2 : p.2 = PySem.W.listOf vs.toArray n := by rw [e1] at hg; exact Option.some.inj (hg.symm.trans hlo)
        exact Prod.ext e1 e2
    have N₂ : News h₀ env.locals hh' ((s.heap.objs.size, oi) :: news₁) := fun p hp => by
      rcases List.mem_cons.mp hp with e | hp
      · rw [e]; exact N₁ _ (List.mem_append_left _ hI)
      · exact N₁ _ (List.mem_append_right _ hp)
    refine wpAny_mono (turn i v m₁ news₁ s.heap.objs.size oi hh' tk' (by simpa using hP) hJi hoffI F₁ N₂) (fun f s₂ p => ?_) fun _ _ e => e
    have fin : (∃ h' tk m' nx, s₂ = { ({ s with heap := hh', toks := tk' } : Shared) with heap := h', toks := tk } ∧ Fr h₀ env.locals h' m' ∧ News h₀ env.locals h' ((s.heap.objs.size, oi) :: nx) ∧ (∀ p ∈ nx, p.1 ≠ s.heap.objs.size) ∧ J (i + 1) m' nx) →
        LoopStepU h₀ env.locals [s.heap.objs.size] own (J (i + 1)) { s with heap := hh', toks := tk' } .next s₂ := by
      rintro ⟨h', tk, m', nx, e, F', N', ho, hj'⟩
      refine ⟨rfl, h', tk, m', nx, e, F', fun p hp => ?_, fun p hp hq => ho p hp (List.mem_singleton.mp hq), hj'⟩
      rcases List.mem_append.mp hp with hp | hp
      · rcases ownOf p hp with e | e
        · rw [e]; exact N' _ (.head _)
        · rw [e]; exact N' _ (.tail _ (hJ _ _ _ hj'))
      · exact N' p (.tail _ hp)
    cases f with
    | ret v => exact .ret p
    | brk => exact .brk p
    | next => exact .next (fin p)
    | cont => exact .cont (fin p)
  · rintro h' tk m' news' F' N' _ hJ'
    rw [List.size_toArray] at hJ'
    exact done m' news' h' tk hJ' F' N'

theorem iter_rng {r : Addr} {a₀ b₀ : Int} {t₀ u₀ v₀ : Tok} {n : Nat} {m₀ : Str → Option Value} {news : List (Addr × Obj)} (J : Nat → (Str → Option Value) → List (Addr × Obj) → Prop)
    (hh : A.handled = none) (hr : IsRange s.heap r a₀ b₀ 1 t₀ u₀ v₀) (hsmall : Builtin.Range.small a₀ b₀ 1 = true) (hn : Builtin.Range.rangeSize a₀ b₀ 1 = (n : Int))
    (F : Fr h₀ env.locals s.heap m₀) (N : News h₀ env.locals s.heap news) (hj : J 0 m₀ news)
    (turn : ∀ i t m₁ nx I oI h tk, i < n → J i m₁ nx → (∀ p ∈ nx, p.1 ≠ I) → Fr h₀ env.locals h (fun y => if y = x then some (.int (a₀ + (i : Nat)) t) else m₁ y) → News h₀ env.locals h ((I, oI) :: nx) →
      wpAny (model prog w) A (execs body env) (TurnP h₀ env.locals (J (i + 1)) I oI { s with heap := h, toks := tk } Q) E { s with heap := h, toks := tk })
    (done : ∀ m₁ nx h tk, J n m₁ nx → Fr h₀ env.locals h m₁ → News h₀ env.locals h nx → Q .next { s with heap := h, toks := tk }) :
    wpAny (model prog w) A (pyIter (.ref r)) (fun it s₂ => LoopAtV prog w A h₀ env x body Q E it s₂) E s := by
  refine wpAny_pyIter_range hr hsmall ?_
  have W : Walks prog w A s.heap.objs.size [s.heap.objs.size] [s.heap.objs.size] n (fun i v => i < n ∧ ∃ t, v = .int (a₀ + i * 1) t)
      (fun i h => IsRangeIter h s.heap.objs.size (a₀ + (i : Nat) * 1) ((n : Int) - (i : Nat)) 1) := (Walks.range hh _ a₀ 1 n).bound
  refine ⟨_, _, _, n, _, _, m₀, news, J, rfl, W, ?_, ?_, ?_, (by show IsRangeIter _ _ _ _ _; rw [hn]; simpa using Heap.get?_push_size _ rfl), F.push _, (fun p hp => ⟨Heap.get?_push_of_some _ (N p hp).1, (N p hp).2⟩), hj, ?_, ?_⟩
  · intro hm
    exact absurd F.ns.lt ((List.mem_singleton.mp hm) ▸ Nat.lt_irrefl _)
  · intro b hb
    rw [List.mem_singleton.mp hb]
    exact next_is_new F
  · intro p hp hI
    exact absurd (Heap.lt_size (N p hp).1) ((List.mem_singleton.mp hI) ▸ Nat.lt_irrefl _)
  · rintro i v m₁ news₁ s₁ own ⟨hh', tk', rfl⟩ hin hP hJi hoff hown hget hall hst F₁ N₁
    obtain ⟨oi, hoi⟩ : ∃ oi, hh'.get? s.heap.objs.size = some oi := ⟨_, hst⟩
    have hI : (s.heap.objs.size, oi) ∈ own := hall _ (.head _) (next_is_new F) oi hoi
    have hoffI : ∀ p ∈ news₁, p.1 ≠ s.heap.objs.size := fun p hp e => hoff p hp (List.mem_singleton.mpr e)
    have ownOf : ∀ p ∈ own, p = (s.heap.objs.size, oi) := by
      intro p hp
      have hg := hget p hp
      have e := List.mem_singleton.mp (hown p hp)
      have e2 : p.2 = oi := by rw [e, hoi] at hg; exact (Option.some.inj hg).symm
      exact Prod.ext e e2
    have N₂ : News h₀ env.locals hh' ((s.heap.objs.size, oi) :: news₁) := fun p hp => by
      rcases List.mem_cons.mp hp with e | hp
      · rw [e]; exact N₁ _ (List.mem_append_left _ hI)
      · exact N₁ _ (List.mem_append_right _ hp)
    obtain ⟨_, t, rfl⟩ := hP
    rw [Int.mul_one] at F₁
    refine wpAny_mono (turn i t m₁ news₁ s.heap.objs.size oi hh' tk' hin hJi hoffI F₁ N₂) (fun f s₂ p => ?_) fun _ _ e => e
    have fin : (∃ h' tk m' nx, s₂ = { ({ s with heap := hh', toks := tk' } : Shared) with heap := h', toks := tk } ∧ Fr h₀ env.locals h' m' ∧ News h₀ env.locals h' ((s.heap.objs.size, oi) :: nx) ∧ (∀ p ∈ nx, p.1 ≠ s.heap.objs.size) ∧ J (i + 1) m' nx) →
        LoopStepU h₀ env.locals [s.heap.objs.size] own (J (i + 1)) { s with heap := hh', toks := tk' } .next s₂ := by
      rintro ⟨h', tk, m', nx, e, F', N', ho, hj'⟩
      refine ⟨rfl, h', tk, m', nx, e, F', fun p hp => ?_, fun p hp hq => ho p hp (List.mem_singleton.mp hq), hj'⟩
      rcases List.mem_append.mp hp with hp | hp
      · rw [ownOf p hp]; exact N' _ (.head _)
      · exact N' p (.tail _ hp)
    cases f with
    | ret v => exact .ret p
    | brk => exact .brk p
    | next => exact .next (fin p)
    | cont => exact .cont (fin p)
  · rintro h' tk m' news' F' N' _ hJ'
    exact done m' news' h' tk hJ' F' N'
/-- a turn of a loop that stores no name but its own -/
def TurnP1 (h₀ : Heap) (L : Addr) (x : Str) (m₀ : Str → Option Value) (J : List (Addr × Obj) → Prop) (I : Addr) (oI : Obj) (s₁ : Shared) (Q : Flow → Shared → Prop) (f : Flow) (s₂ : Shared) : Prop :=
  match f with
  | .ret v => Q (.ret v) s₂
  | .brk => Q .next s₂
  | _ => ∃ h' tk m' nx, s₂ = { s₁ with heap := h', toks := tk } ∧ Fr h₀ L h' m' ∧ News h₀ L h' ((I, oI) :: nx) ∧ (∀ p ∈ nx, p.1 ≠ I) ∧ (∀ z, z ≠ x → m' z = m₀ z) ∧ J nx
theorem fr_norm {L : Addr} {h : Heap} {m₀ m₁ : Str → Option Value} {v : Option Value} (F : Fr h₀ L h (fun y => if y = x then v else m₁ y)) (hm : ∀ z, z ≠ x → m₁ z = m₀ z) : Fr h₀ L h (fun y => if y = x then v else m₀ y) := by
  have e : (fun y => if y = x then v else m₁ y) = fun y => if y = x then v else m₀ y := by
    funext y
    by_cases hy : y = x
    · simp [hy]
    · simp only [if_neg hy]; exact hm y hy
  rw [← e]; exact F
theorem fr_norm' {L : Addr} {h : Heap} {m₀ m₁ : Str → Option Value} (F : Fr h₀ L h m₁) (hm : ∀ z, z ≠ x → m₁ z = m₀ z) : Fr h₀ L h (fun y => if y = x then m₁ x else m₀ y) := by
  have e : m₁ = fun y => if y = x then m₁ x else m₀ y := by
    funext y
    by_cases hy : y = x
    · simp [hy]
    · simp only [if_neg hy]; exact hm y hy
  rw [← e]; exact F
theorem iter_led1 {l : Addr} {vs : List Value} {n : Nat} {m₀ : Str → Option Value} {news : List (Addr × Obj)} (J : Nat → List (Addr × Obj) → Prop)
    (hh : A.handled = none) (F : Fr h₀ env.locals s.heap m₀) (N : News h₀ env.locals s.heap news) (hl : (l, PySem.W.listOf vs.toArray n) ∈ news) (hj : J 0 news)
    (hJ : ∀ i nx, J i nx → (l, PySem.W.listOf vs.toArray n) ∈ nx)
    (turn : ∀ i v nx I oI h tk, vs[i]? = some v → J i nx → (∀ p ∈ nx, p.1 ≠ I) → Fr h₀ env.locals h (fun y => if y = x then some v else m₀ y) → News h₀ env.locals h ((I, oI) :: nx) →
      wpAny (model prog w) A (execs body env) (TurnP1 h₀ env.locals x m₀ (J (i + 1)) I oI { s with heap := h, toks := tk } Q) E { s with heap := h, toks := tk })
    (done : ∀ u nx h tk, J vs.length nx → Fr h₀ env.locals h (fun y => if y = x then u else m₀ y) → News h₀ env.locals h nx → Q .next { s with heap := h, toks := tk }) :
    wpAny (model prog w) A (pyIter (.ref l)) (fun it s₂ => LoopAtV prog w A h₀ env x body Q E it s₂) E s :=
  iter_led (fun i m nx => (∀ z, z ≠ x → m z = m₀ z) ∧ J i nx) hh F N hl ⟨fun _ _ => rfl, hj⟩ (fun i m nx h => hJ i nx h.2)
    (fun i v m₁ nx I oI h tk hv hj off F₁ N₁ => by
      refine wpAny_mono (turn i v nx I oI h tk hv hj.2 off (fr_norm F₁ hj.1) N₁) (fun f s₂ p => ?_) fun _ _ e => e
      cases f with
      | ret v => exact p
      | brk => exact p
      | next => obtain ⟨h', tk', m', nx', e, F', N', o', hm, hj'⟩ := p; exact ⟨h', tk', m', nx', e, F', N', o', hm, hj'⟩
      | cont => obtain ⟨h', tk', m', nx', e, F', N', o', hm, hj'⟩ := p; exact ⟨h', tk', m', nx', e, F', N', o', hm, hj'⟩)
    (fun m₁ nx h tk hj F₁ N₁ => done (m₁ x) nx h tk hj.2 (fr_norm' F₁ hj.1) N₁)
/-- a turn of a loop that fills one made list of texts -/
def TurnA (h₀ : Heap) (L : Addr) (x : Str) (m₀ : Str → Option Value) (I : Addr) (oI : Obj) (nl : Addr) (rest : List (Addr × Obj)) (acc : List Str) (s₁ : Shared) (Q : Flow → Shared → Prop) (f : Flow) (s₂ : Shared) : Prop :=
  match f with
  | .ret v => Q (.ret v) s₂
  | .brk => Q .next s₂
  | _ => ∃ h' tk m' ws nn, s₂ = { s₁ with heap := h', toks := tk } ∧ Fr h₀ L h' m' ∧ News h₀ L h' ((I, oI) :: (nl, PySem.W.listOf (List.toArray ws) nn) :: rest) ∧ (∀ z, z ≠ x → m' z = m₀ z) ∧ StrsAre ws acc
theorem TurnA.next {L : Addr} {m₀ m' : Str → Option Value} {I nl : Addr} {oI : Obj} {rest : List (Addr × Obj)} {acc : List Str} {s₁ : Shared} {h' : Heap} {tk nn : Nat} {ws : List Value} (F : Fr h₀ L h' m') (N : News h₀ L h' ((I, oI) :: (nl, PySem.W.listOf (List.toArray ws) nn) :: rest)) (hs : StrsAre ws acc) (hm : ∀ z, z ≠ x → m' z = m₀ z) :
    TurnA h₀ L x m₀ I oI nl rest acc s₁ Q .next { s₁ with heap := h', toks := tk } := ⟨h', tk, m', ws, nn, rfl, F, N, hm, hs⟩
theorem TurnA.cont {L : Addr} {m₀ m' : Str → Option Value} {I nl : Addr} {oI : Obj} {rest : List (Addr × Obj)} {acc : List Str} {s₁ : Shared} {h' : Heap} {tk nn : Nat} {ws : List Value} (F : Fr h₀ L h' m') (N : News h₀ L h' ((I, oI) :: (nl, PySem.W.listOf (List.toArray ws) nn) :: rest)) (hs : StrsAre ws acc) (hm : ∀ z, z ≠ x → m' z = m₀ z) :
    TurnA h₀ L x m₀ I oI nl rest acc s₁ Q .cont { s₁ with heap := h', toks := tk } := ⟨h', tk, m', ws, nn, rfl, F, N, hm, hs⟩
/-- a loop over a made list of texts that fills one made list of texts -/
theorem iter_strs_acc {nl cl : Addr} {vs ws₀ : List Value} {n nn₀ : Nat} {cs acc₀ : List Str} {m₀ : Str → Option Value} {rest : List (Addr × Obj)} (g : List Str → Str → List Str)
    (hh : A.handled = none) (F : Fr h₀ env.locals s.heap m₀) (N : News h₀ env.locals s.heap ((nl, PySem.W.listOf ws₀.toArray nn₀) :: (cl, PySem.W.listOf vs.toArray n) :: rest)) (hv : StrsAre vs cs) (hw : StrsAre ws₀ acc₀)
    (turn : ∀ i q t ws nn I oI h tk, cs[i]? = some q → StrsAre ws ((cs.take i).foldl g acc₀) → (@Ne Nat nl I) → (@Ne Nat cl I) → (∀ p ∈ rest, p.1 ≠ I) → Fr h₀ env.locals h (fun y => if y = x then some (.str q t) else m₀ y) →
      News h₀ env.locals h ((I, oI) :: (nl, PySem.W.listOf (List.toArray ws) nn) :: (cl, PySem.W.listOf vs.toArray n) :: rest) →
      wpAny (model prog w) A (execs body env) (TurnA h₀ env.locals x m₀ I oI nl ((cl, PySem.W.listOf vs.toArray n) :: rest) (g ((cs.take i).foldl g acc₀) q) { s with heap := h, toks := tk } Q) E { s with heap := h, toks := tk })
    (done : ∀ u ws nn h tk, StrsAre ws (cs.foldl g acc₀) → Fr h₀ env.locals h (fun y => if y = x then u else m₀ y) → News h₀ env.locals h ((nl, PySem.W.listOf (List.toArray ws) nn) :: (cl, PySem.W.listOf vs.toArray n) :: rest) → Q .next { s with heap := h, toks := tk }) :
    wpAny (model prog w) A (pyIter (.ref cl)) (fun it s₂ => LoopAtV prog w A h₀ env x body Q E it s₂) E s := by
  refine iter_led1 (l := cl) (vs := vs) (n := n) (fun i nx => ∃ ws nn, nx = (nl, PySem.W.listOf (List.toArray ws) nn) :: (cl, PySem.W.listOf vs.toArray n) :: rest ∧ StrsAre ws ((cs.take i).foldl g acc₀)) hh F N (.tail _ (.head _)) ⟨ws₀, nn₀, rfl, by simpa using hw⟩ ?_ ?_ ?_
  · rintro i nx ⟨ws, nn, rfl, _⟩
    exact .tail _ (.head _)
  · rintro i v nx I oI h tk hvi ⟨ws, nn, rfl, hs⟩ off F₁ N₁
    obtain ⟨q, t, rfl, hq⟩ := hv.item i v hvi
    have htk : (cs.take (i + 1)).foldl g acc₀ = g ((cs.take i).foldl g acc₀) q := by
      rw [List.take_add_one, hq]; simp
    refine wpAny_mono (turn i q t ws nn I oI h tk hq hs (off _ (.head _)) (off _ (.tail _ (.head _))) (fun p hp => off p (.tail _ (.tail _ hp))) F₁ N₁) (fun f s₂ p => ?_) fun _ _ e => e
    have fin : (∃ h' tk' m' ws nn, s₂ = { ({ s with heap := h, toks := tk } : Shared) with heap := h', toks := tk' } ∧ Fr h₀ env.locals h' m' ∧ News h₀ env.locals h' ((I, oI) :: (nl, PySem.W.listOf (List.toArray ws) nn) :: (cl, PySem.W.listOf vs.toArray n) :: rest) ∧ (∀ z, z ≠ x → m' z = m₀ z) ∧ StrsAre ws (g ((cs.take i).foldl g acc₀) q)) →
        TurnP1 h₀ env.locals x m₀ (fun nx => ∃ ws nn, nx = (nl, PySem.W.listOf (List.toArray ws) nn) :: (cl, PySem.W.listOf vs.toArray n) :: rest ∧ StrsAre ws ((cs.take (i + 1)).foldl g acc₀)) I oI { s with heap := h, toks := tk } Q .next s₂ := by
      rintro ⟨h', tk', m', ws', nn', e, F', N', hm, hs'⟩
      refine ⟨h', tk', m', _, e, F', N', ?_, hm, ws', nn', rfl, by rw [htk]; exact hs'⟩
      intro p hp
      rcases List.mem_cons.mp hp with e | hp
      · rw [e]; exact off (nl, PySem.W.listOf (List.toArray ws) nn) (.head _)
      · exact off p (.tail _ hp)
    cases f with
    | ret v => exact p
    | brk => exact p
    | next => exact fin p
    | cont => exact fin p
  · rintro u nx h tk ⟨ws, nn, rfl, hs⟩ F₁ N₁
    rw [hv.length, List.take_length] at hs
    exact done u ws nn h tk hs F₁ N₁
theorem TurnP1.next {L : Addr} {m₀ m' : Str → Option Value} {J : List (Addr × Obj) → Prop} {I : Addr} {oI : Obj} {s₁ : Shared} {h' : Heap} {tk : Nat} {nx : List (Addr × Obj)} (F : Fr h₀ L h' m') (N : News h₀ L h' ((I, oI) :: nx)) (ho : ∀ p ∈ nx, p.1 ≠ I) (hm : ∀ z, z ≠ x → m' z = m₀ z) (hj : J nx) :
    TurnP1 h₀ L x m₀ J I oI s₁ Q .next { s₁ with heap := h', toks := tk } := ⟨h', tk, m', nx, rfl, F, N, ho, hm, hj⟩
theorem TurnP1.cont {L : Addr} {m₀ m' : Str → Option Value} {J : List (Addr × Obj) → Prop} {I : Addr} {oI : Obj} {s₁ : Shared} {h' : Heap} {tk : Nat} {nx : List (Addr × Obj)} (F : Fr h₀ L h' m') (N : News h₀ L h' ((I, oI) :: nx)) (ho : ∀ p ∈ nx, p.1 ≠ I) (hm : ∀ z, z ≠ x → m' z = m₀ z) (hj : J nx) :
    TurnP1 h₀ L x m₀ J I oI s₁ Q .cont { s₁ with heap := h', toks := tk } := ⟨h', tk, m', nx, rfl, F, N, ho, hm, hj⟩
end loops

section comps
variable {prog : Program} {w : World} {A : Around} {h₀ : Heap} {L : Addr} {m : Str → Option Value} {env : Env} {ct elt : Expr} {x : Str} {scope : Scope} {cl : List (Str × Addr)} {s : Shared} {S : List (Addr × Obj) → Prop} {P : Nat → Value → Prop} {Fin : List Value → List (Addr × Obj) → Prop} {news : List (Addr × Obj)}
/-- a comprehension: every item's value is told by R -/
theorem rest_gen {n : Nat} (R : Nat → Value → Prop)
    (turn : ∀ i v I oI C oC D m₂ ys h tk (E' : Value → Shared → Prop), i < n → P i v → LCg.NsObj oC m₂ → m₂ x = some v → Fr h₀ L h m → News h₀ L h ((I, oI) :: (C, oC) :: (D, LCg.lst ys) :: news) → LCg.Off3 I C D news → ((@Ne Nat I C) ∧ (@Ne Nat I D) ∧ (@Ne Nat C D)) →
      wpAny (model prog w) A (eval elt (compEnvC scope cl C env)) (LCg.CompEnd h₀ L m { s with heap := h, toks := tk } I oI C oC D (LCg.lst ys) S (fun y news' => news' = news ∧ R i y)) E' { s with heap := h, toks := tk })
    (fin : ∀ ys : List Value, ys.length = n → (∀ i y, ys[i]? = some y → R i y) → Fin ys news) : LCg.CompRest prog w A h₀ L m env elt x scope cl s S P Fin n 0 [] news := by
  have key : ∀ (j i : Nat) (ys : List Value), i + j = n → ys.length = i → (∀ i y, ys[i]? = some y → R i y) → LCg.CompRest prog w A h₀ L m env elt x scope cl s S P Fin j i ys news := by
    intro j
    induction j with
    | zero =>
      intro i ys hi hl hy
      exact LCg.CompRest.zero (fin ys (by omega) hy)
    | succ j ih =>
      intro i ys hi hl hy
      refine LCg.CompRest.succ ?_
      intro v I oI C oC D m₂ h tk E' hv hC hx F N off ne
      refine wpAny_mono (turn i v I oI C oC D m₂ ys h tk E' (by omega) hv hC hx F N off ne) (fun y s₂ hq => ?_) fun _ _ e => e
      obtain ⟨h', tk', nw, e, F', N', off', hS, hn, hR⟩ := hq
      rw [hn] at N' off' hS
      refine ⟨h', tk', news, e, F', N', off', hS, ?_⟩
      refine ih (i + 1) _ (by omega) (by simp [hl]) ?_
      intro k z hz
      by_cases hk : k < ys.length
      · rw [List.getElem?_append_left hk] at hz; exact hy k z hz
      · rw [List.getElem?_append_right (by omega)] at hz
        have hk2 : k = ys.length := by
          by_cases hk3 : k - ys.length = 0
          · omega
          · rw [List.getElem?_eq_none (by simp; omega)] at hz; cases hz
        subst hk2
        simp at hz
        subst hz
        rw [hl]; exact hR
  exact key n 0 [] (by omega) rfl (fun i y h => by simp at h)
/-- a comprehension with a test, its items texts: they stay as they are -/
theorem restT_gen {n : Nat} (R : List Value → Nat → Prop) (h0 : R [] 0)
    (turn : ∀ i v I oI C oC D m₂ ys h tk (E' : Value → Shared → Prop), i < n → P i v → R ys i → LCg.NsObj oC m₂ → m₂ x = some v → Fr h₀ L h m → News h₀ L h ((I, oI) :: (C, oC) :: (D, LCg.lst ys) :: news) → LCg.Off3 I C D news → ((@Ne Nat I C) ∧ (@Ne Nat I D) ∧ (@Ne Nat C D)) →
      wpAny (model prog w) A (isTrue ct (compEnvC scope cl C env) (eval ct (compEnvC scope cl C env))) (fun ok s' => if ok = true then
        wpAny (model prog w) A (eval elt (compEnvC scope cl C env)) (LCg.CompEnd h₀ L m { s with heap := h, toks := tk } I oI C oC D (LCg.lst ys) S (fun y news' => news' = news ∧ R (ys ++ [y]) (i + 1))) E' s'
        else LCg.CompEnd h₀ L m { s with heap := h, toks := tk } I oI C oC D (LCg.lst ys) S (fun _ news' => news' = news ∧ R ys (i + 1)) Value.none s') E' { s with heap := h, toks := tk })
    (fin : ∀ ys : List Value, R ys n → Fin ys news) : LCt.CompRestT prog w A h₀ L m env ct elt x scope cl s S P Fin n 0 [] news := by
  have key : ∀ (j i : Nat) (ys : List Value), i + j = n → R ys i → LCt.CompRestT prog w A h₀ L m env ct elt x scope cl s S P Fin j i ys news := by
    intro j
    induction j with
    | zero =>
      intro i ys hi hy
      have e : i = n := by omega
      subst e
      exact LCt.CompRestT.zero (fin ys hy)
    | succ j ih =>
      intro i ys hi hy
      refine LCt.CompRestT.succ ?_
      intro v I oI C oC D m₂ h tk E' hv hC hx F N off ne
      refine wpAny_mono (turn i v I oI C oC D m₂ ys h tk E' (by omega) hv hy hC hx F N off ne) (fun ok s₂ hq => ?_) fun _ _ e => e
      by_cases hok : ok = true
      · rw [if_pos hok] at hq ⊢
        refine wpAny_mono hq (fun y s₃ hq => ?_) fun _ _ e => e
        obtain ⟨h', tk', nw, e, F', N', off', hS, hn, hR⟩ := hq
        rw [hn] at N' off' hS
        exact ⟨h', tk', news, e, F', N', off', hS, ih (i + 1) _ (by omega) hR⟩
      · rw [if_neg hok] at hq ⊢
        obtain ⟨h', tk', nw, e, F', N', off', hS, hn, hR⟩ := hq
        rw [hn] at N' off' hS
        exact ⟨h', tk', news, e, F', N', off', hS, ih (i + 1) _ (by omega) hR⟩
  exact key n 0 [] (by omega) h0
end comps
theorem strsAre_get : ∀ {ys : List Value} {zs : List Str}, ys.length = zs.length → (∀ (i : Nat) (y : Value), ys[i]? = some y → ∃ q t, zs[i]? = some q ∧ y = Value.str q t) → StrsAre ys zs
  | [], [], _, _ => .nil
  | [], _ :: _, h, _ => by cases h
  | _ :: _, [], h, _ => by cases h
  | y :: ys, z :: zs, h, k => by
    obtain ⟨q, t, e, rfl⟩ := k 0 y rfl
    cases e
    exact .cons _ t (strsAre_get (Nat.succ.inj h) fun i y e => by
      have := k (i + 1) y (by simpa using e)
      simpa using this)
theorem sumLen_le (B : Nat) : ∀ (l : List Str), (∀ a ∈ l, a.length ≤ B) → (l.map (·.length)).sum ≤ B * l.length
  | [], _ => by simp
  | a :: l, h => by
    have ih := sumLen_le B l (fun b hb => h b (List.mem_cons_of_mem _ hb))
    have ha := h a (List.mem_cons_self ..)
    simp only [List.map_cons, List.sum_cons, List.length_cons]
    have : B * (l.length + 1) = B * l.length + B := by rw [Nat.mul_succ]
    omega
theorem join_room {sep : Str} {l : List Str} (h : ∀ a ∈ l, a.length ≤ 20) (hn : l.length ≤ 1100) (hs : sep.length ≤ 4) : (l.map (·.length)).sum + l.length * sep.length ≤ 16777216 := by
  have h1 := sumLen_le 20 l h
  have h2 : l.length * sep.length ≤ 1100 * 4 := Nat.mul_le_mul hn hs
  omega
theorem strsAre_ex (P : Nat → Str → Prop) : ∀ {ys : List Value}, (∀ (i : Nat) (y : Value), ys[i]? = some y → ∃ q t, y = Value.str q t ∧ P i q) → ∃ zs : List Str, StrsAre ys zs ∧ zs.length = ys.length ∧ ∀ i q, zs[i]? = some q → P i q
  | [], _ => ⟨[], .nil, rfl, fun i q h => by simp at h⟩
  | y :: ys, k => by
    obtain ⟨q, t, rfl, hq⟩ := k 0 y rfl
    obtain ⟨zs, hz, hl, hp⟩ := strsAre_ex (fun i => P (i + 1)) (ys := ys) fun i y e => k (i + 1) y (by simpa using e)
    refine ⟨q :: zs, .cons _ t hz, by simp [hl], fun i r hr => ?_⟩
    cases i with
    | zero => simp at hr; subst hr; exact hq
    | succ i => exact hp i r (by simpa using hr)
theorem join_empty_cps : ∀ (zs : List Str), (Txt.join (Str.ofString "") zs).cps.toList = (zs.map fun z => z.cps.toList).flatten := by
  have key : ∀ zs : List Str, (Str.join (Str.ofString "") zs).cps.toList = (zs.map fun z => z.cps.toList).flatten := by
    intro zs
    induction zs with
    | nil => rfl
    | cons z r ih =>
      cases r with
      | nil => simp [Str.join]
      | cons z2 r =>
        show ((z ++ Str.ofString "") ++ Str.join (Str.ofString "") (z2 :: r)).cps.toList = _
        rw [PySem.Str.cps_append, Array.toList_append, ih, PySem.Str.cps_append, Array.toList_append, show (Str.ofString "").cps.toList = [] by decide]
        simp
  intro zs
  show (Builtin.Str.glued (Str.ofString "") zs).cps.toList = _
  rw [StrLaws.glued_eq_join]
  exact key zs
theorem nil_or_snoc {α : Type} : ∀ l : List α, l = [] ∨ ∃ p y, l = p ++ [y]
  | [] => .inl rfl
  | x :: r => by
    rcases nil_or_snoc r with e | ⟨p, y, e⟩
    · exact .inr ⟨[], x, by rw [e]; rfl⟩
    · exact .inr ⟨x :: p, y, by rw [e]; rfl⟩
theorem strsAre_snoc_inv : ∀ {p : List Value} {y : Value} {ps : List Str}, StrsAre (p ++ [y]) ps → ∃ qs q t, ps = qs ++ [q] ∧ y = .str q t ∧ StrsAre p qs
  | [], y, _, h => by
    cases h with
    | cons q t r => cases r; exact ⟨[], q, t, rfl, rfl, .nil⟩
  | v :: p, y, _, h => by
    cases h with
    | cons q t r =>
      obtain ⟨qs, q', t', rfl, rfl, hp⟩ := strsAre_snoc_inv r
      exact ⟨q :: qs, q', t', rfl, rfl, .cons q t hp⟩
section items
variable {prog : Program} {w : World} {A : Around} {E : Value → Shared → Prop} {s : Shared}
theorem item_last {value slice : PySem.Expr} {l : Addr} {p : List Value} {y : Value} {u : Tok} {Q : Value → Shared → Prop}
    (hl : s.heap.IsList l (p ++ [y]).toArray) (h : Q y s)
    (hs : subscripted slice false (.ref l) (.int (-1) u) = operate [.ref l, .int (-1) u] (getItem (.ref l) (.int (-1) u)) := by with_unfolding_all rfl) :
    wpAny (model prog w) A (subscriptTail value slice (.ref l) (.int (-1) u)) Q E s :=
  tail_any hl.typeIs slot_list_getitem.lookup (wpAny_getItem_list_neg hl (by decide) (by simp; omega) (by decide) (by simp [show ((-1 : Int) + ((p.length : Int) + 1)).toNat = p.length by omega]) h) hs
theorem truthy_snoc {l : Addr} {p : List Value} {y : Value} {Q : Bool → Shared → Prop} (hl : s.heap.IsList l (p ++ [y]).toArray) (hfit : p.length ≤ 10000) (h : Q true { s with toks := s.toks + 1 + 1 }) :
    wpAny (model prog w) A (truthy (.ref l)) Q E s := by
  refine wpAny_truthy_list hl (by simp; omega) ?_
  have e : (!(p ++ [y]).toArray.isEmpty) = true := by simp
  rw [e]; exact h
theorem truthy_nil {l : Addr} {Q : Bool → Shared → Prop} (hl : s.heap.IsList l ([] : List Value).toArray) (h : Q false { s with toks := s.toks + 1 + 1 }) :
    wpAny (model prog w) A (truthy (.ref l)) Q E s := wpAny_truthy_list hl (by simp) h
end items
theorem dropLast_take {α : Type} (l : List α) : l.take (l.length - 1) = l.dropLast := by rw [List.dropLast_eq_take]
theorem sl_butLast {vs : List Value} {ps : List Str} (h : StrsAre vs ps) : StrsAre (slicePick vs.toArray none (some (-1)) none).toList ps.dropLast := by
  have e : slicePick vs.toArray none (some (-1)) none = _ := slicePick_butLast vs.toArray 1 (Nat.le_refl 1)
  rw [e]
  show StrsAre (vs.take (vs.toArray.size - 1)) ps.dropLast
  rw [List.size_toArray, dropLast_take]
  exact strsAre_dropLast h
end
end Mine

namespace Mine
section
open PySem PySem.W PyProof.Rows PySem.Calls
set_option maxHeartbeats 4000000
section
variable {prog : Program} {w : World} {A : Around} {E : Value → Shared → Prop} {s : Shared}
theorem wpAny_letGo' : ∀ (removed keep : List Value) {Q : Unit → Shared → Prop}, Q () s → wpAny (model prog w) A (letGo removed keep) Q E s
  | [], _, _, h => wpAny_pure h
  | v :: r, keep, Q, h => by
    unfold letGo
    exact wpAny_bind (wpAny_holding (wpAny_point (wpAny_letGo' r keep h)))
theorem setItem_slice_at {l sl nl : Addr} {items new : Array Value} {n : Nat} {vl vu : Value} {lo hi : Option Int} {a b : Int} {Q : Unit → Shared → Prop} (hl : s.heap.get? l = some (PySem.W.listOf items n))
    (hs : s.heap.IsSliceOf sl vl vu .none) (pl : IsPart vl lo) (pu : IsPart vu hi) (hn : s.heap.IsList nl new) (hne : l ≠ nl) (hab : sliceBounds lo hi none items.size = (a, b, 1))
    (hsz : items.size + new.size ≤ 100000)
    (h : Q () { s with heap := s.heap.update l (Obj.mapSeq fun xs => xs.extract 0 a.toNat ++ new ++ xs.extract (max a b).toNat xs.size) }) :
    wpAny (model prog w) A (setItem (.ref l) (.ref sl) (.ref nl)) Q E s := by
  have hL : s.heap.IsList l items := ⟨_, hl, rfl, n, rfl⟩
  obtain ⟨os, hos, hcs, hds⟩ := id hs
  have hTs : s.TypeIs (.ref sl) "slice" := ⟨os, hos, hcs⟩
  obtain ⟨on, hon, hcn, nn, hdn⟩ := id hn
  unfold setItem
  try with_reducible refine wpAny_holding ?_
  refine wpAny_bind (wpAny_sequenceKey hL.typeIs (by decide) ?_)
  refine wpAny_bind (wpAny_callSpecial?_slot (name := Str.ofString "__setitem__") hL.typeIs slot_list_setitem
    (wpAny_call_entry slot_list_setitem hL.typeIs entry_list_setitem ?_ (args_list_setitem _ _ _)))
  show wpAny _ _ (Builtin.List.listSubscript? (.ref sl) >>= _) _ _ s
  refine wpAny_bind ?_
  unfold Builtin.List.listSubscript?
  refine wpAny_bind (wpAny_specialOf hTs slice_no_index ?_)
  simp only [Option.isNone_none, if_true]
  refine wpAny_pure ?_
  show wpAny _ _ (typeOf (.ref sl) >>= _) _ _ s
  refine wpAny_bind (wpAny_typeOf hTs ?_)
  rw [if_neg (by decide)]
  rw [listSliceParts_eq]
  refine wpAny_bind (wpAny_bind (wpAny_field hos hds (x := .none) rfl (wpAny_bind (wpAny_listPart .none ?_))))
  rw [if_neg (by decide)]
  refine wpAny_bind (wpAny_field hos hds (x := vl) rfl (wpAny_bind (wpAny_listPart pl ?_)))
  refine wpAny_bind (wpAny_field hos hds (x := vu) rfl (wpAny_bind (wpAny_listPart pu (wpAny_pure ?_))))
  have hsame : Builtin.List.listSameRef (.ref l) (.ref nl) = false := by
    show (l == nl) = false
    exact beq_eq_false_iff_ne.mpr hne
  rw [hsame]
  simp only [Bool.false_eq_true, if_false]
  refine wpAny_bind ?_
  unfold Builtin.List.listAllItems
  refine wpAny_bind (wpAny_typeOf hn.typeIs ?_)
  rw [if_pos (by decide)]
  have items_of : ∀ {c : Addr} {oc : Obj} {its : Array Value} {k : Nat} {P : Array Value → Shared → Prop} {E' : Value → Shared → Prop}, s.heap.get? c = some oc → oc.data = .seq its k → P its s → wpAny (model prog w) A.in1 (Builtin.List.listItems (.ref c)) P E' s := by
    intro c oc its k P E' hc hd hP
    unfold Builtin.List.listItems
    exact wpAny_bind (wpAny_seqItems hc hd (wpAny_pure hP))
  refine items_of hon hdn ?_
  show wpAny _ _ (Builtin.List.listItems (.ref l) >>= _) _ _ s
  refine wpAny_bind (m := Builtin.List.listItems (.ref l)) (items_of hl rfl ?_)
  refine wpAny_bind (wpAny_of_eq (sliceIndices_raw lo hi none items.size (by simp)) ?_)
  rw [hab]
  simp only [beq_self_eq_true, if_true]
  refine wpAny_bind (wpAny_rule ?_)
  rw [if_neg (by unfold Builtin.List.listTooLong; rw [PySem.sizeLine_eq]; simp; omega)]
  refine wpAny_bind ?_
  show wpAny _ _ (updateSeq l _) _ _ s
  refine wpAny_updateSeq hl rfl ?_ (by rw [PySem.sizeLine_eq]; omega) ?_
  · exact wpAny_bind (wpAny_letGo' _ _ (wpAny_pure ⟨_, rfl, wpAny_pure h⟩))
  · rw [PySem.sizeLine_eq]
    simp only [Array.size_append, Array.size_extract]
    omega
theorem mid_bounds {vs : List Value} (h : 2 ≤ vs.length) : sliceBounds (some 1) (some (-1)) none vs.toArray.size = (((1 : Nat) : Int), ((vs.length - 1 : Nat) : Int), 1) := by
  simp only [sliceBounds, Option.getD_none, List.size_toArray, show (1 : Int) > 0 by decide, if_true, if_neg (show ¬ ((1 : Int) < 0) by decide), if_pos (show ((-1 : Int) < 0) by decide)]
  congr 1
  · omega
  · congr 1
    omega
theorem mid_pick {vs : List Value} (h : 2 ≤ vs.length) : slicePick vs.toArray (some 1) (some (-1)) none = ((vs.drop 1).take (vs.length - 1 - 1)).toArray := by
  exact kmk_pick_nat vs.toArray (mid_bounds h)
/-- «xs[1:-1] = ys», the list in the ledger -/
theorem setItem_mid {h₀ : Heap} {L l sl nl : Addr} {m : Str → Option Value} {news : List (Addr × Obj)} {vs ws : List Value} {n : Nat} {vl vu : Value} {Q : Unit → Shared → Prop}
    (F : Fr h₀ L s.heap m) (N : News h₀ L s.heap news)
    {g : Obj → List (Addr × Obj)} (U : UpdF l (PySem.W.listOf vs.toArray n) news g) (hs : s.heap.IsSliceOf sl vl vu .none) (pl : IsPart vl (some 1)) (pu : IsPart vu (some (-1))) (hn : s.heap.IsList nl ws.toArray) (hne : l ≠ nl)
    (h2 : 2 ≤ vs.length) (hsz : vs.length + ws.length ≤ 100000)
    (h : ∀ h' k, Fr h₀ L h' m → News h₀ L h' (g (PySem.W.listOf (vs.take 1 ++ ws ++ vs.drop (vs.length - 1)).toArray k)) → Q () { s with heap := h' }) :
    wpAny (model prog w) A (setItem (.ref l) (.ref sl) (.ref nl)) Q E s := by
  obtain ⟨pre, post, rfl, hg, a, b⟩ := U.split
  have hm := N (l, PySem.W.listOf vs.toArray n) (List.mem_append_right _ (.head _))
  refine setItem_slice_at hm.1 hs pl pu hn hne (mid_bounds h2) (by simpa using hsz) ?_
  have hs' : Heap.SameBut l s.heap (s.heap.update l (Obj.mapSeq fun xs => xs.extract 0 ((1 : Nat) : Int).toNat ++ ws.toArray ++ xs.extract (max ((1 : Nat) : Int) ((vs.length - 1 : Nat) : Int)).toNat xs.size)) := Heap.SameBut.update ..
  have ho' := Heap.get?_update_self (f := Obj.mapSeq fun xs => xs.extract 0 ((1 : Nat) : Int).toNat ++ ws.toArray ++ xs.extract (max ((1 : Nat) : Int) ((vs.length - 1 : Nat) : Int)).toNat xs.size) hm.1 rfl
  have e : Obj.mapSeq (fun xs => xs.extract 0 ((1 : Nat) : Int).toNat ++ ws.toArray ++ xs.extract (max ((1 : Nat) : Int) ((vs.length - 1 : Nat) : Int)).toNat xs.size) (PySem.W.listOf vs.toArray n) = PySem.W.listOf (vs.take 1 ++ ws ++ vs.drop (vs.length - 1)).toArray (if (vs.take 1 ++ ws ++ vs.drop (vs.length - 1)).toArray.size == vs.toArray.size then n else n + 1) := by
    have e1 : (vs.toArray.extract 0 ((1 : Nat) : Int).toNat ++ ws.toArray ++ vs.toArray.extract (max ((1 : Nat) : Int) ((vs.length - 1 : Nat) : Int)).toNat vs.toArray.size) = (vs.take 1 ++ ws ++ vs.drop (vs.length - 1)).toArray := by
      have e2 : (max ((1 : Nat) : Int) ((vs.length - 1 : Nat) : Int)).toNat = vs.length - 1 := by omega
      rw [e2]
      apply Array.toList_inj.mp
      simp
      rw [List.take_of_length_le (by simp)]
    unfold Obj.mapSeq
    simp only [e1]
  rw [e] at ho'
  exact h _ _ (F.change hs' hm.2.1 hm.2.2) (hg _ ▸ N.setIn a b hs' ho')
end
end
end Mine

namespace Mine
section
open PySem PySem.W PyProof.Rows
set_option maxHeartbeats 4000000
/-- one step of a walk through a place: two dots up, nothing and a dot stay -/
def walkS (ps : List Str) (x : Str) : List Str :=
  if x = Str.ofString ".." then ps.dropLast else if x = Str.ofString "" ∨ x = Str.ofString "." then ps else ps ++ [x]
theorem walkS_empty (ps : List Str) : walkS ps (Str.ofString "") = ps := by
  unfold walkS; rw [if_neg (by decide), if_pos (.inl rfl)]
theorem walkS_dot (ps : List Str) : walkS ps (Str.ofString ".") = ps := by
  unfold walkS; rw [if_neg (by decide), if_pos (.inr rfl)]
theorem walkS_dotdot (ps : List Str) : walkS ps (Str.ofString "..") = ps.dropLast := by
  unfold walkS; rw [if_pos rfl]
theorem walkS_plain (ps : List Str) {q : Str} (h1 : q ≠ Str.ofString "") (h2 : q ≠ Str.ofString ".") (h3 : q ≠ Str.ofString "..") : walkS ps q = ps ++ [q] := by
  unfold walkS; rw [if_neg h3, if_neg (fun h => h.elim h1 h2)]
theorem walkS_up {ps : List Str} {x : Str} (h : (x == Str.ofString "..") = true) : walkS ps x = ps.dropLast := by
  unfold walkS; rw [if_pos (eq_of_beq h)]
theorem walkS_stay {ps : List Str} {x : Str} (h : (x == Str.ofString "..") = false) (h2 : ([Str.ofString "", Str.ofString "."].any fun y => y == x) = true) : walkS ps x = ps := by
  unfold walkS
  rw [if_neg (fun e => by rw [e] at h; simp at h), if_pos]
  simp only [List.any_cons, List.any_nil, Bool.or_false, Bool.or_eq_true, beq_iff_eq] at h2
  exact h2.imp Eq.symm Eq.symm
theorem walkS_on {ps : List Str} {x : Str} (h : (x == Str.ofString "..") = false) (h2 : ([Str.ofString "", Str.ofString "."].any fun y => y == x) = false) : walkS ps x = ps ++ [x] := by
  unfold walkS
  rw [if_neg (fun e => by rw [e] at h; simp at h), if_neg]
  simp only [List.any_cons, List.any_nil, Bool.or_false, Bool.or_eq_false_iff, beq_eq_false_iff_ne] at h2
  exact fun e => e.elim (fun e => h2.1 e.symm) fun e => h2.2 e.symm

/-- a name that a place may hold -/
def Plain (q : Str) : Prop := q ≠ Str.ofString "" ∧ q ≠ Str.ofString "." ∧ q ≠ Str.ofString ".."
def noSl (q : Str) : Prop := 47 ∉ q.cps.toList
theorem walkS_mem {ps : List Str} {x a : Str} (h : a ∈ walkS ps x) : a ∈ ps ∨ (a = x ∧ Plain x) := by
  unfold walkS at h
  split at h
  · exact .inl (List.dropLast_subset _ h)
  · split at h
    · exact .inl h
    · rename_i h1 h2
      rcases List.mem_append.mp h with h | h
      · exact .inl h
      · exact .inr ⟨List.mem_singleton.mp h, fun e => h2 (.inl e), fun e => h2 (.inr e), h1⟩
theorem walkS_len (ps : List Str) (x : Str) : (walkS ps x).length ≤ ps.length + 1 := by
  unfold walkS
  split
  · simp; omega
  · split <;> simp
theorem fold_len : ∀ (cs ps : List Str), (cs.foldl walkS ps).length ≤ ps.length + cs.length
  | [], _ => by simp
  | c :: cs, ps => by
    have h1 := fold_len cs (walkS ps c)
    have h2 := walkS_len ps c
    simp only [List.foldl_cons, List.length_cons]
    omega
theorem fold_mem : ∀ {cs ps : List Str} {a : Str}, a ∈ cs.foldl walkS ps → a ∈ ps ∨ (a ∈ cs ∧ Plain a)
  | [], _, _, h => .inl h
  | c :: cs, ps, a, h => by
    rcases fold_mem (cs := cs) h with h | h
    · rcases walkS_mem h with h | ⟨rfl, hp⟩
      · exact .inl h
      · exact .inr ⟨.head _, hp⟩
    · exact .inr ⟨.tail _ h.1, h.2⟩
theorem fold_plain {cs : List Str} {a : Str} (h : a ∈ cs.foldl walkS []) : a ∈ cs ∧ Plain a := by
  rcases fold_mem h with h | h
  · cases h
  · exact h
theorem fold_id : ∀ {cs ps : List Str}, (∀ c ∈ cs, Plain c) → cs.foldl walkS ps = ps ++ cs
  | [], ps, _ => by simp
  | c :: cs, ps, h => by
    have hc := h c (.head _)
    rw [List.foldl_cons, walkS_plain ps hc.1 hc.2.1 hc.2.2, fold_id fun a ha => h a (.tail _ ha)]
    simp

open Builtin.Str in
theorem slice_run {x : Str} {l u : Option Int} {a b : Nat} (h : strSliceIndices l u 1 x.length = sliceRange (a : Int) (b : Int) 1) (hb : b ≤ x.length) : (Txt.slice x l u).cps.toList = (x.cps.toList.drop a).take (b - a) := by
  unfold Txt.slice
  rw [h, sliceRange_one]
  split
  · rename_i hc
    simp at hc
    have hl : x.cps.toList.length = x.length := by simp [Str.length]
    by_cases h0 : x.length = 0
    · have e : x.cps.toList = [] := List.length_eq_zero_iff.mp (by rw [hl, h0])
      rw [e]; simp
    · have e : a = 0 := by omega
      subst e
      rw [List.drop_zero, List.take_of_length_le (by omega)]
  · rw [pick_run]
open Builtin.Str in
theorem slice_1 {x : Str} (h : 1 ≤ x.length) : (Txt.slice x none (some 1)).cps.toList = x.cps.toList.take 1 := by
  have e : strSliceIndices none (some 1) 1 x.length = sliceRange ((0 : Nat) : Int) ((1 : Nat) : Int) 1 := by
    have a2 : min (1 : Int) (x.length : Int) = 1 := by omega
    simp [strSliceIndices, a2, show max (0 : Int) 1 = 1 by decide]
  rw [slice_run e h, List.drop_zero]
open Builtin.Str in
theorem slice_from1 {x : Str} (h : 1 ≤ x.length) : (Txt.slice x (some 1) none).cps.toList = x.cps.toList.drop 1 := by
  have e : strSliceIndices (some 1) none 1 x.length = sliceRange ((1 : Nat) : Int) ((x.length : Nat) : Int) 1 := by
    have a2 : min (1 : Int) (x.length : Int) = 1 := by omega
    simp [strSliceIndices, a2, show max (0 : Int) 1 = 1 by decide]
  rw [slice_run e (Nat.le_refl _)]
  exact List.take_of_length_le (by simp [Str.length])
open Builtin.Str in
theorem slice_12 {x : Str} (h : 1 ≤ x.length) : (Txt.slice x (some 1) (some 2)).cps.toList = (x.cps.toList.drop 1).take 1 := by
  have hl : x.cps.toList.length = x.length := by simp [Str.length]
  by_cases h2 : 2 ≤ x.length
  · have e : strSliceIndices (some 1) (some 2) 1 x.length = sliceRange ((1 : Nat) : Int) ((2 : Nat) : Int) 1 := by
      have a2 : min (1 : Int) (x.length : Int) = 1 := by omega
      have a3 : min (2 : Int) (x.length : Int) = 2 := by omega
      simp [strSliceIndices, a2, a3, show max (0 : Int) 1 = 1 by decide, show max (0 : Int) 2 = 2 by decide]
    rw [slice_run e h2]
  · have e : strSliceIndices (some 1) (some 2) 1 x.length = sliceRange ((1 : Nat) : Int) ((1 : Nat) : Int) 1 := by
      have a2 : min (1 : Int) (x.length : Int) = 1 := by omega
      have a3 : min (2 : Int) (x.length : Int) = 1 := by omega
      simp [strSliceIndices, a2, a3, show max (0 : Int) 1 = 1 by decide, show max (0 : Int) 2 = 2 by decide]
    rw [slice_run e h, List.drop_of_length_le (by omega)]
    rfl
open Builtin.Str in
theorem slice_butLast {x : Str} : (Txt.slice x none (some (-1))).cps.toList = x.cps.toList.dropLast := by
  have hl : x.cps.toList.length = x.length := by simp [Str.length]
  have e : strSliceIndices none (some (-1)) 1 x.length = sliceRange ((0 : Nat) : Int) ((x.length - 1 : Nat) : Int) 1 := by
    have a3 : max 0 (min (-1 + (x.length : Int)) (x.length : Int)) = ((x.length - 1 : Nat) : Int) := by omega
    simp [strSliceIndices, a3]
  rw [slice_run e (by omega), List.drop_zero, List.dropLast_eq_take, hl, Nat.sub_zero]

/-! the signs of joined texts -/
def jn : List (List Nat) → List Nat
  | [] => []
  | [x] => x
  | x :: r => x ++ 47 :: jn r
theorem jn_cons2 (x y : List Nat) (r : List (List Nat)) : jn (x :: y :: r) = x ++ 47 :: jn (y :: r) := rfl
theorem take_sl {x r : List Nat} (h : 47 ∉ x) : (x ++ 47 :: r).takeWhile (· != 47) = x := by
  induction x with
  | nil => simp
  | cons c x ih =>
    have hc : (c != 47) = true := by simp only [bne_iff_ne, ne_eq]; exact fun e => h (e ▸ .head _)
    rw [List.cons_append, List.takeWhile_cons, if_pos hc, ih fun hm => h (.tail _ hm)]
theorem drop_sl {x r : List Nat} (h : 47 ∉ x) : (x ++ 47 :: r).dropWhile (· != 47) = 47 :: r := by
  induction x with
  | nil => simp
  | cons c x ih =>
    have hc : (c != 47) = true := by simp only [bne_iff_ne, ne_eq]; exact fun e => h (e ▸ .head _)
    rw [List.cons_append, List.dropWhile_cons, if_pos hc, ih fun hm => h (.tail _ hm)]
theorem drop_all {x : List Nat} (h : 47 ∉ x) : x.dropWhile (· != 47) = [] := by
  induction x with
  | nil => rfl
  | cons c x ih =>
    have hc : (c != 47) = true := by simp only [bne_iff_ne, ne_eq]; exact fun e => h (e ▸ .head _)
    rw [List.dropWhile_cons, if_pos hc, ih fun hm => h (.tail _ hm)]
theorem take_all {x : List Nat} (h : 47 ∉ x) : x.takeWhile (· != 47) = x := by
  induction x with
  | nil => rfl
  | cons c x ih =>
    have hc : (c != 47) = true := by simp only [bne_iff_ne, ne_eq]; exact fun e => h (e ▸ .head _)
    rw [List.takeWhile_cons, if_pos hc, ih fun hm => h (.tail _ hm)]
theorem jn_inj : ∀ {ps qs : List (List Nat)}, (∀ p ∈ ps, 47 ∉ p) → (∀ q ∈ qs, 47 ∉ q) → ps ≠ [] → qs ≠ [] → jn ps = jn qs → ps = qs
  | [], _, _, _, h, _, _ => absurd rfl h
  | _ :: _, [], _, _, _, h, _ => absurd rfl h
  | [x], [y], _, _, _, _, h => by
    have : x = y := h
    rw [this]
  | [x], y :: z :: r, hp, hq, _, _, h => by
    rw [jn_cons2] at h
    have h : x = y ++ 47 :: jn (z :: r) := h
    exact absurd (h ▸ List.mem_append.mpr (.inr (.head _))) (hp x (.head _))
  | x :: y :: r, [z], hp, hq, _, _, h => by
    rw [jn_cons2] at h
    have h : x ++ 47 :: jn (y :: r) = z := h
    exact absurd (h ▸ List.mem_append.mpr (.inr (.head _))) (hq z (.head _))
  | x :: y :: r, z :: u :: r2, hp, hq, _, _, h => by
    rw [jn_cons2, jn_cons2] at h
    have e1 := congrArg (List.takeWhile (· != 47)) h
    rw [take_sl (hp x (.head _)), take_sl (hq z (.head _))] at e1
    have e2 := congrArg (List.dropWhile (· != 47)) h
    rw [drop_sl (hp x (.head _)), drop_sl (hq z (.head _))] at e2
    have e3 := (List.cons.inj e2).2
    rw [e1, jn_inj (fun p h => hp p (.tail _ h)) (fun q h => hq q (.tail _ h)) (by simp) (by simp) e3]

theorem slash_cps : (Str.ofString "/").cps.toList = [47] := by decide
theorem fresh_eq (x : Str) : Txt.slice (x ++ Str.ofString "/") none (some (-1)) = x := by
  refine PySem.Str.ext' (Array.toList_inj.mp ?_)
  rw [slice_butLast, PySem.Str.cps_append, Array.toList_append, slash_cps]
  simp
theorem head_slash {x : Str} {r : List Nat} (h : x.cps.toList = 47 :: r) : (Txt.slice x none (some 1) != Str.ofString "/") = false := by
  have hl : 1 ≤ x.length := by
    have : x.cps.toList.length = x.length := by simp [Str.length]
    rw [h] at this
    simp at this
    omega
  have e : Txt.slice x none (some 1) = Str.ofString "/" := PySem.Str.ext' (Array.toList_inj.mp (by rw [slice_1 hl, h, slash_cps]; rfl))
  rw [e]; simp
theorem second_not {x : Str} {r : List Nat} (h : x.cps.toList = 47 :: r) (hr : r.head? ≠ some 47) : (Txt.slice x (some 1) (some 2) != Str.ofString "/") = true := by
  have hl : 1 ≤ x.length := by
    have : x.cps.toList.length = x.length := by simp [Str.length]
    rw [h] at this
    simp at this
    omega
  rw [bne_iff_ne]
  intro e
  have e2 := congrArg (fun s => s.cps.toList) e
  simp only [slice_12 hl, h, slash_cps] at e2
  cases r with
  | nil => simp at e2
  | cons c r => simp at e2; simp [e2] at hr
theorem rest_slash {x : Str} {r : List Nat} (h : x.cps.toList = 47 :: r) : (Txt.slice x (some 1) none).cps.toList = r := by
  have hl : 1 ≤ x.length := by
    have : x.cps.toList.length = x.length := by simp [Str.length]
    rw [h] at this
    simp at this
    omega
  rw [slice_from1 hl, h]; rfl
theorem slash_mk : Str.ofString "/" = ⟨#[47]⟩ := by decide
theorem toList_append (a b : Str) : (a ++ b).cps.toList = a.cps.toList ++ b.cps.toList := by rw [PySem.Str.cps_append, Array.toList_append]
theorem str_ext {a b : Str} (h : a.cps.toList = b.cps.toList) : a = b := PySem.Str.ext' (Array.toList_inj.mp h)
theorem join_cps : ∀ ps : List Str, (Str.join (Str.ofString "/") ps).cps.toList = jn (ps.map fun p => p.cps.toList)
  | [] => rfl
  | [x] => rfl
  | x :: y :: r => by
    show ((x ++ Str.ofString "/") ++ Str.join (Str.ofString "/") (y :: r)).cps.toList = _
    rw [toList_append, toList_append, slash_cps, join_cps (y :: r)]
    simp [jn]
theorem txt_join (sep : Str) (ps : List Str) : Txt.join sep ps = Str.join sep ps := StrLaws.glued_eq_join sep ps
theorem map_toList_inj {ps qs : List Str} (h : ps.map (fun p => p.cps.toList) = qs.map fun p => p.cps.toList) : ps = qs := by
  induction ps generalizing qs with
  | nil => cases qs with
    | nil => rfl
    | cons => simp at h
  | cons p ps ih => cases qs with
    | nil => simp at h
    | cons q qs =>
      simp only [List.map_cons, List.cons.injEq] at h
      rw [str_ext h.1, ih h.2]
theorem split_ne_nil (x : Str) : Txt.split x (Str.ofString "/") ≠ [] := by
  unfold Txt.split
  split
  · simp
  · split
    · simp
    · rename_i h1 h2
      intro h
      rw [StrLaws.partsBetween_eq] at h
      obtain ⟨p, q, e⟩ := StrLaws.partsFrom_ne x (Str.ofString "/").length 0 (Builtin.Str.occurrences x (Str.ofString "/") 0 x.length (x.length + 1))
      rw [e] at h
      cases h
theorem split_noSl (x : Str) : ∀ p ∈ Txt.split x (Str.ofString "/"), noSl p := by
  rw [slash_mk]; exact StrLaws.split_free x 47
/-- a text's parts are known by what they join to -/
theorem split_is {x : Str} {ps : List Str} (hp : ∀ p ∈ ps, noSl p) (hne : ps ≠ []) (h : x.cps.toList = jn (ps.map fun p => p.cps.toList)) : Txt.split x (Str.ofString "/") = ps := by
  have hj := StrLaws.join_split x (Str.ofString "/")
  have hc := congrArg (fun s => s.cps.toList) hj
  simp only [join_cps] at hc
  rw [h] at hc
  refine map_toList_inj (jn_inj ?_ ?_ ?_ ?_ hc)
  · intro p hm
    obtain ⟨q, hq, rfl⟩ := List.mem_map.mp hm
    exact split_noSl x q hq
  · intro p hm
    obtain ⟨q, hq, rfl⟩ := List.mem_map.mp hm
    exact hp q hq
  · simp [split_ne_nil]
  · simp [hne]
theorem split_jn (x : Str) : x.cps.toList = jn ((Txt.split x (Str.ofString "/")).map fun p => p.cps.toList) := by
  rw [← join_cps, StrLaws.join_split]
theorem jn_snoc : ∀ (ps : List (List Nat)) (x : List Nat), ps ≠ [] → jn (ps ++ [x]) = jn ps ++ 47 :: x
  | [], _, h => absurd rfl h
  | [p], x, _ => rfl
  | p :: q :: r, x, _ => by
    show p ++ 47 :: jn (q :: r ++ [x]) = _
    rw [jn_snoc (q :: r) x (by simp), jn_cons2]
    simp
theorem jn_length_le (ps : List (List Nat)) : ps.length ≤ (jn ps).length + 1 := by
  induction ps with
  | nil => simp
  | cons p r ih =>
    cases r with
    | nil => simp
    | cons q r =>
      rw [jn_cons2]
      simp only [List.length_append, List.length_cons] at ih ⊢
      omega
theorem split_length (x : Str) : (Txt.split x (Str.ofString "/")).length ≤ x.length + 1 := by
  have h := jn_length_le ((Txt.split x (Str.ofString "/")).map fun p => p.cps.toList)
  rw [← split_jn, List.length_map] at h
  simpa [Str.length] using h

/-- what _law_joined gives -/
def joinedS (ps : List Str) : Str := Txt.join (Str.ofString "") (ps.map fun p => Str.ofString "/" ++ p)
def fl (ps : List (List Nat)) : List Nat := (ps.map fun p => 47 :: p).flatten
theorem jn_nil_cons : ∀ ps : List (List Nat), jn ([] :: ps) = fl ps
  | [] => rfl
  | [p] => by simp [jn, fl]
  | p :: q :: r => by
    have ih := jn_nil_cons (q :: r)
    rw [jn_cons2, jn_cons2]
    have e : fl (p :: q :: r) = (47 :: p) ++ fl (q :: r) := rfl
    rw [e, ← ih, jn_cons2]
    simp
theorem joined_cps (ps : List Str) : (joinedS ps).cps.toList = fl (ps.map fun p => p.cps.toList) := by
  have key : ∀ zs : List Str, (Str.join (Str.ofString "") zs).cps.toList = (zs.map fun z => z.cps.toList).flatten := by
    intro zs
    induction zs with
    | nil => rfl
    | cons z r ih =>
      cases r with
      | nil => simp [Str.join]
      | cons z2 r =>
        show ((z ++ Str.ofString "") ++ Str.join (Str.ofString "") (z2 :: r)).cps.toList = _
        rw [toList_append, ih, toList_append, show (Str.ofString "").cps.toList = [] by decide]
        simp
  unfold joinedS
  rw [txt_join, key, fl, List.map_map, List.map_map]
  congr 1
  refine List.map_congr_left fun p _ => ?_
  simp [toList_append, slash_cps]
theorem split_joined {ps : List Str} (h : ∀ p ∈ ps, noSl p) : Txt.split (joinedS ps) (Str.ofString "/") = Str.ofString "" :: ps := by
  refine split_is ?_ (by simp) ?_
  · intro p hp
    rcases List.mem_cons.mp hp with rfl | hp
    · unfold noSl; decide
    · exact h p hp
  · rw [joined_cps, List.map_cons, show (Str.ofString "").cps.toList = [] by decide, jn_nil_cons]
theorem joined_nil : joinedS [] = Str.ofString "" := by decide
theorem joined_cons (p : Str) (ps : List Str) : joinedS (p :: ps) = Str.ofString "/" ++ p ++ joinedS ps := by
  refine str_ext ?_
  rw [joined_cps, toList_append, toList_append, joined_cps, slash_cps]
  simp [fl]
theorem joined_len : ∀ (ps : List Str), (∀ p ∈ ps, p.length ≤ 5) → (joinedS ps).length ≤ 6 * ps.length
  | [], _ => by decide
  | p :: ps, h => by
    have ih := joined_len ps fun q hq => h q (.tail _ hq)
    have hp := h p (.head _)
    have h1 : (Str.ofString "/").length = 1 := by decide
    rw [joined_cons, PySem.Str.length_append, PySem.Str.length_append, List.length_cons]
    omega

/-- the place that a path leads to -/
def placeS (x : Str) : List Str := (Txt.split x (Str.ofString "/")).foldl walkS []
/-- a script name as the law lays it -/
def WfS (x : Str) : Prop := x = Str.ofString "" ∨ ∃ c r, x.cps.toList = 47 :: c :: r ∧ c ≠ 47
theorem place_joined {ps : List Str} (h : ∀ p ∈ ps, noSl p ∧ Plain p) : placeS (joinedS ps) = ps := by
  unfold placeS
  rw [split_joined fun p hp => (h p hp).1, List.foldl_cons, walkS_empty, fold_id fun p hp => (h p hp).2, List.nil_append]
theorem wf_joined {ps : List Str} (h : ∀ p ∈ ps, noSl p ∧ Plain p) : WfS (joinedS ps) := by
  cases ps with
  | nil => exact .inl joined_nil
  | cons p ps =>
    right
    have hp := h p (.head _)
    have hne : p.cps.toList ≠ [] := fun e => hp.2.1 (str_ext (by rw [e]; decide))
    obtain ⟨c, r, e⟩ := List.exists_cons_of_ne_nil hne
    refine ⟨c, r ++ fl (ps.map fun p => p.cps.toList), ?_, fun e2 => hp.1 (by rw [e, e2]; exact .head _)⟩
    rw [joined_cons, toList_append, toList_append, slash_cps, e, joined_cps]
    simp
theorem walk_ok {ps : List Str} {n : Str} (h : ∀ p ∈ ps, noSl p ∧ Plain p) (hn : noSl n) : ∀ p ∈ walkS ps n, noSl p ∧ Plain p := by
  intro p hp
  rcases walkS_mem hp with hp | ⟨rfl, hp⟩
  · exact h p hp
  · exact ⟨hn, hp⟩
theorem place_ok (x : Str) : ∀ p ∈ placeS x, noSl p ∧ Plain p := by
  intro p hp
  have := fold_plain hp
  exact ⟨split_noSl x p this.1, this.2⟩

/-- the path that shift_path_info hands to normpath -/
def pathS (x n : Str) : Str := x ++ Str.ofString "/" ++ n
theorem pathS_cps (x n : Str) : (pathS x n).cps.toList = x.cps.toList ++ 47 :: n.cps.toList := by
  unfold pathS
  rw [toList_append, toList_append, slash_cps]
  simp
theorem pathS_head {x n : Str} (h : WfS x) (hn : noSl n) : ∃ r, (pathS x n).cps.toList = 47 :: r ∧ r.head? ≠ some 47 := by
  rw [pathS_cps]
  rcases h with rfl | ⟨c, r, e, hc⟩
  · refine ⟨n.cps.toList, by rw [show (Str.ofString "").cps.toList = [] by decide]; rfl, fun e => hn ?_⟩
    exact List.mem_of_mem_head? e
  · refine ⟨c :: r ++ 47 :: n.cps.toList, by rw [e]; rfl, fun e => hc ?_⟩
    simpa using e
/-- the parts behind the first slash lead to the old place and the name -/
theorem place_path {x n : Str} (h : WfS x) (hn : noSl n) {y : Str} (hy : (pathS x n).cps.toList = 47 :: y.cps.toList) : (Txt.split y (Str.ofString "/")).foldl walkS [] = walkS (placeS x) n := by
  rw [pathS_cps] at hy
  rcases h with rfl | ⟨c, r, e, hc⟩
  · have e1 : y = n := str_ext (by
      have : ([] : List Nat) ++ 47 :: n.cps.toList = 47 :: y.cps.toList := hy
      exact ((List.cons.inj this).2).symm)
    have e2 : Txt.split n (Str.ofString "/") = [n] := split_is (by intro p hp; rw [List.mem_singleton.mp hp]; exact hn) (by simp) rfl
    have e3 : placeS (Str.ofString "") = [] := by decide
    rw [e1, e2, e3]; rfl
  · have ey : y.cps.toList = c :: r ++ 47 :: n.cps.toList := by
      rw [e] at hy
      exact ((List.cons.inj hy).2).symm
    let z : Str := ⟨(c :: r).toArray⟩
    have hz : z.cps.toList = c :: r := rfl
    have s1 : Txt.split x (Str.ofString "/") = Str.ofString "" :: Txt.split z (Str.ofString "/") := by
      refine split_is ?_ (by simp) ?_
      · intro p hp
        rcases List.mem_cons.mp hp with rfl | hp
        · unfold noSl; decide
        · exact split_noSl z p hp
      · rw [e, List.map_cons, show (Str.ofString "").cps.toList = [] by decide]
        obtain ⟨a, l, el⟩ := List.exists_cons_of_ne_nil (split_ne_nil z)
        have h1 := split_jn z
        rw [el, hz] at h1
        rw [el, List.map_cons, jn_cons2]
        rw [List.map_cons] at h1
        rw [← h1]
        rfl
    have s2 : Txt.split y (Str.ofString "/") = Txt.split z (Str.ofString "/") ++ [n] := by
      refine split_is ?_ (by simp) ?_
      · intro p hp
        rcases List.mem_append.mp hp with hp | hp
        · exact split_noSl z p hp
        · rw [List.mem_singleton.mp hp]; exact hn
      · rw [List.map_append, List.map_singleton, jn_snoc _ _ (by simp [split_ne_nil]), ← split_jn z, ey, hz]
    unfold placeS
    rw [s1, s2, List.foldl_cons, walkS_empty, List.foldl_append]
    rfl
/-- what normpath gives, the slash ahead -/
def rootS (ps : List Str) : Str := Str.ofString "/" ++ Txt.join (Str.ofString "/") ps
theorem rootS_cps (ps : List Str) : (rootS ps).cps.toList = 47 :: jn (ps.map fun p => p.cps.toList) := by
  unfold rootS
  rw [toList_append, slash_cps, txt_join, join_cps]; rfl
theorem jn_fl : ∀ (p : List Nat) (ps : List (List Nat)), 47 :: jn (p :: ps) = fl (p :: ps)
  | p, [] => by simp [jn, fl]
  | p, q :: r => by
    have e : fl (p :: q :: r) = (47 :: p) ++ fl (q :: r) := rfl
    rw [jn_cons2, e, ← jn_fl q r]; rfl
theorem rootS_joined {ps : List Str} (h : ps ≠ []) : rootS ps = joinedS ps := by
  obtain ⟨p, r, rfl⟩ := List.exists_cons_of_ne_nil h
  refine str_ext ?_
  rw [rootS_cps, joined_cps, List.map_cons, jn_fl]
theorem joinlen {ps : List Str} {N M : Nat} (h : ∀ a ∈ ps, a.length ≤ N) (hn : ps.length ≤ M) : (Txt.join (Str.ofString "/") ps).length ≤ M * (N + 1) := by
  have h1 : ∀ l : List Str, (∀ a ∈ l, a.length ≤ N) → (Str.join (Str.ofString "/") l).length ≤ l.length * (N + 1) := by
    intro l
    induction l with
    | nil => intro _; exact Nat.zero_le _
    | cons a r ih =>
      intro h
      have ha := h a (.head _)
      have ih := ih fun b hb => h b (.tail _ hb)
      have e1 : (Str.ofString "/").length = 1 := by decide
      cases r with
      | nil => simp [Str.join]; omega
      | cons b r =>
        have e2 : (Str.join (Str.ofString "/") (a :: b :: r)).length = a.length + 1 + (Str.join (Str.ofString "/") (b :: r)).length := by
          show ((a ++ Str.ofString "/") ++ Str.join (Str.ofString "/") (b :: r)).length = _
          rw [PySem.Str.length_append, PySem.Str.length_append, e1]
        rw [e2, List.length_cons, Nat.succ_mul]
        omega
  rw [txt_join]
  exact Nat.le_trans (h1 ps h) (Nat.mul_le_mul_right _ hn)
theorem sum_room {ps : List Str} {N M : Nat} (h : ∀ a ∈ ps, a.length ≤ N) (hn : ps.length ≤ M) (hm : M * (N + 4) ≤ 16777216) {sep : Str} (hs : sep.length ≤ 4) : (ps.map (·.length)).sum + ps.length * sep.length ≤ 16777216 := by
  have h1 : ∀ l : List Str, (∀ a ∈ l, a.length ≤ N) → (l.map (·.length)).sum ≤ l.length * N := by
    intro l
    induction l with
    | nil => intro _; simp
    | cons a r ih =>
      intro h
      have ha := h a (.head _)
      have ih := ih fun b hb => h b (.tail _ hb)
      simp only [List.map_cons, List.sum_cons, List.length_cons, Nat.succ_mul]
      omega
  have h2 := h1 ps h
  have h3 : ps.length * sep.length ≤ ps.length * 4 := Nat.mul_le_mul_left _ hs
  have h4 : ps.length * N + ps.length * 4 = ps.length * (N + 4) := by rw [Nat.mul_add]
  have h5 : ps.length * (N + 4) ≤ M * (N + 4) := Nat.mul_le_mul_right _ hn
  omega
theorem len_ne0 {q : Str} (h : q ≠ Str.ofString "") : ((q.length : Int) != 0) = true := by
  rw [bne_iff_ne]
  intro e
  refine h (str_ext ?_)
  have : q.cps.toList.length = q.length := by simp [Str.length]
  rw [show (Str.ofString "").cps.toList = [] by decide]
  exact List.length_eq_zero_iff.mp (by omega)
end
end Mine

namespace Mine
section
open PySem PySem.W PyProof.Rows
set_option maxHeartbeats 4000000
section
variable {prog : Program} {w : World} {A : Around} {E : Value → Shared → Prop} {s : Shared} {h₀ : Heap} {L d : Addr} {m : Str → Option Value} {news : List (Addr × Obj)} {o : Obj} {kvs : List (Str × Value)} {x : Str} {t : Tok} {v dflt : Value} {Q : Value → Shared → Prop}
theorem dat (N : News h₀ L s.heap news) (hm : (d, o) ∈ news) (hd : o.IsDictOf (strKind prog w) kvs) : s.heap.DictOf (strKind prog w) d kvs := Heap.dictOf_iff.mpr ⟨o, (N _ hm).1, hd⟩
theorem d_get (N : News h₀ L s.heap news) (hm : (d, o) ∈ news) (hd : o.IsDictOf (strKind prog w) kvs) (lo : (d == sysModules) = false) (hv : valueAt kvs x = some v) (h : Q v { s with toks := s.toks + 1 }) :
    wpAny (model prog w) A (call (.builtin "dict.get") [.ref d, .str x t, dflt]) Q E s :=
  have hD := dat N hm hd
  call_meetsIn PySem.F.slot_dict_get hD.typeIs PySem.F.entry_dict_get (PySem.F.args_dict_get_3 _ _ _) (meets_dict_get_default (strKind prog w) d (strKind_is prog w x t) lo dflt) ⟨_, hD.mapOf, by rw [hv]; exact h⟩
theorem d_get_none (N : News h₀ L s.heap news) (hm : (d, o) ∈ news) (hd : o.IsDictOf (strKind prog w) kvs) (lo : (d == sysModules) = false) (hv : valueAt kvs x = none) (h : Q dflt { s with toks := s.toks + 1 }) :
    wpAny (model prog w) A (call (.builtin "dict.get") [.ref d, .str x t, dflt]) Q E s :=
  have hD := dat N hm hd
  call_meetsIn PySem.F.slot_dict_get hD.typeIs PySem.F.entry_dict_get (PySem.F.args_dict_get_3 _ _ _) (meets_dict_get_default (strKind prog w) d (strKind_is prog w x t) lo dflt) ⟨_, hD.mapOf, by rw [hv]; exact h⟩
theorem d_getMethod {name : Str} {id : String} {pl : Sem Bool} {Q : Value × List Value → Shared → Prop} (slot : Slot "dict" name id) (ty : typeOf (.builtin id) = pure (.type "method_descriptor")) (N : News h₀ L s.heap news) (hm : (d, o) ∈ news) (hd : o.IsDictOf (strKind prog w) kvs)
    (h : Q (.builtin id, [.ref d]) s) : wpAny (model prog w) A (getMethod (.ref d) name pl) Q E s := kdl_method slot ty N hm hd h
theorem d_setItem {g : Obj → List (Addr × Obj)} {Q : Unit → Shared → Prop} (F : Fr h₀ L s.heap m) (N : News h₀ L s.heap news) (U : UpdF d o news g) (hd : o.IsDictOf (strKind prog w) kvs) (hz : kvs.length ≤ 1000)
    (h : ∀ h' o', Fr h₀ L h' m → News h₀ L h' (g o') → o'.IsDictOf (strKind prog w) (stored kvs x v) → Q () { s with heap := h', toks := s.toks + 1 }) :
    wpAny (model prog w) A (setItem (.ref d) (.str x t) v) Q E s := by
  obtain ⟨pre, post, rfl, hg, a, b⟩ := U.split
  have hm := N (d, o) (List.mem_append_right _ (.head _))
  refine wpAny_setItem_pairs (hsz := by rw [PySem.sizeLine_eq]; omega) (strKind_is prog w x t) (Heap.dictOf_iff.mpr ⟨o, hm.1, hd⟩) fun h' hmm hs => ?_
  obtain ⟨o', ho', hd'⟩ := Heap.dictOf_iff.mp hmm
  exact h h' o' (F.change hs hm.2.1 hm.2.2) (hg o' ▸ N.setIn a b hs ho') hd'
theorem d_copy (F : Fr h₀ L s.heap m) (N : News h₀ L s.heap news) (hbig : h₀.NoLimit) (hm : (d, o) ∈ news) (hd : o.IsDictOf (strKind prog w) kvs) (lo : (d == sysModules) = false) (hz : kvs.length ≤ 1000)
    (k : ∀ D h' o', Fr h₀ L h' m → News h₀ L h' ((D, o') :: news) → (∀ p ∈ news, p.1 < D) → (D == sysModules) = false → o'.IsDictOf (strKind prog w) kvs → Q (.ref D) { s with heap := h' }) :
    wpAny (model prog w) A (call (.type "dict") [.ref d]) Q E s := by
  refine kt_call_dict lo (dat N hm hd) (by rw [PySem.sizeLine_eq]; omega) fun h' hm' hs => ?_
  obtain ⟨o', ho', hd'⟩ := Heap.dictOf_iff.mp hm'
  have N1 := News.push F N { cls := .type "dict", data := .dict #[] }
  exact k _ h' o' ((F.push _).change hs (N1 _ (.head _)).2.1 (N1.fresh (.head _))) (N1.setHead N.apart hs ho') (fun p hp => Heap.lt_size (N p hp).1) (F.notModules (modules_low hbig)) hd'
end
/-! plain facts of pairs -/
theorem valueAt_stored {kvs : List (Str × Value)} {k j : Str} {v : Value} : valueAt (stored kvs k v) j = if j = k then some v else valueAt kvs j := by
  unfold stored valueAt
  split
  · rename_i h
    induction kvs with
    | nil => simp at h
    | cons p r ih =>
      obtain ⟨a, b⟩ := p
      by_cases ha : a = k
      · subst ha
        by_cases hj : j = a
        · subst hj; simp
        · rw [if_neg hj]
          have e : ∀ r : List (Str × Value), ((r.map fun kv => if kv.1 = a then (kv.1, v) else kv).find? fun kv => decide (kv.1 = j)).map (·.2) = (r.find? fun kv => decide (kv.1 = j)).map (·.2) := by
            intro r
            induction r with
            | nil => rfl
            | cons q r ih2 =>
              obtain ⟨c, d⟩ := q
              by_cases hc : c = a
              · subst hc
                simp only [List.map_cons, if_true, List.find?_cons]
                have : decide (c = j) = false := decide_eq_false (Ne.symm hj)
                simp only [this]; exact ih2
              · simp only [List.map_cons, if_neg hc, List.find?_cons]
                by_cases hcj : c = j
                · simp [hcj]
                · simp only [decide_eq_false hcj]; exact ih2
          exact e ((a, b) :: r)
      · have h' : (r.any fun kv => decide (kv.1 = k)) = true := by simpa [ha] using h
        have ih' := ih h'
        simp only [List.map_cons, if_neg ha, List.find?_cons]
        by_cases haj : a = j
        · subst haj
          rw [if_neg ha]
          simp
        · simp only [decide_eq_false haj]
          exact ih'
  · rename_i h
    rw [List.find?_append]
    by_cases hj : j = k
    · subst hj
      have e : (kvs.find? fun kv => decide (kv.1 = j)) = none := by
        rw [List.find?_eq_none]
        intro p hp
        simp only [List.any_eq_true, not_exists] at h
        exact fun e => h p ⟨hp, e⟩
      simp [e]
    · rw [if_neg hj]
      cases e : kvs.find? fun kv => decide (kv.1 = j) with
      | some p => simp
      | none => simp [Ne.symm hj]
theorem stored_len_in {kvs : List (Str × Value)} {k : Str} {v u : Value} (h : valueAt kvs k = some u) : (stored kvs k v).length = kvs.length := by
  unfold stored
  rw [if_pos]
  · simp
  · unfold valueAt at h
    obtain ⟨p, hp, _⟩ := Option.map_eq_some_iff.mp h
    exact List.any_eq_true.mpr ⟨p, List.mem_of_find?_eq_some hp, by simpa using List.find?_some hp⟩
theorem stored_len_new {kvs : List (Str × Value)} {k : Str} {v : Value} (h : valueAt kvs k = none) : (stored kvs k v).length = kvs.length + 1 := by
  unfold stored
  rw [if_neg]
  · simp
  · intro ha
    obtain ⟨p, hp, e⟩ := List.any_eq_true.mp ha
    unfold valueAt at h
    rw [Option.map_eq_none_iff] at h
    exact absurd e (by have := List.find?_eq_none.mp h p hp; simpa using this)
end
end Mine

namespace Mine
section
open PySem PySem.W PyProof.Rows
set_option maxHeartbeats 4000000
section
variable {prog : Program} {w : World} {A : Around} {E : Value → Shared → Prop} {s : Shared} {h₀ : Heap} {L l d : Addr} {m : Str → Option Value} {news : List (Addr × Obj)} {o : Obj} {kvs : List (Str × Value)} {x : Str} {t : Tok}
def GetsS (kvs : List (Str × Value)) (k S : Str) : Prop := (∃ ts, valueAt kvs k = some (.str S ts)) ∨ (valueAt kvs k = none ∧ S = Str.ofString "")
theorem d_gets {S : Str} {t0 : Tok} {Q : Value → Shared → Prop} (N : News h₀ L s.heap news) (hm : (d, o) ∈ news) (hd : o.IsDictOf (strKind prog w) kvs) (lo : (d == sysModules) = false) (hv : GetsS kvs x S) (h : ∀ t' k, Q (.str S t') { s with toks := k }) :
    wpAny (model prog w) A (call (.builtin "dict.get") [.ref d, .str x t, .str (Str.ofString "") t0]) Q E s := by
  rcases hv with ⟨ts, hv⟩ | ⟨hv, rfl⟩
  · exact d_get N hm hd lo hv (h _ _)
  · exact d_get_none N hm hd lo hv (h _ _)
theorem item_1 {value slice : PySem.Expr} {a b : Value} {tl : List Value} {u : Tok} {Q : Value → Shared → Prop}
    (hl : s.heap.IsList l (a :: b :: tl).toArray) (h : Q b s)
    (hs : subscripted slice false (.ref l) (.int 1 u) = operate [.ref l, .int 1 u] (getItem (.ref l) (.int 1 u)) := by with_unfolding_all rfl) :
    wpAny (model prog w) A (subscriptTail value slice (.ref l) (.int 1 u)) Q E s :=
  tail_any hl.typeIs slot_list_getitem.lookup (PySem.wpAny_getItem_list hl (by decide) (by decide) (by simp) h) hs
theorem upd_of {d : Addr} {o o' : Obj} : ∀ {pre post : List (Addr × Obj)}, (∀ p ∈ pre, p.1 ≠ d) → (∀ p ∈ post, p.1 ≠ d) → Upd d o o' (pre ++ (d, o) :: post) (pre ++ (d, o') :: post)
  | [], _, _, h => .head h
  | p :: r, _, h1, h2 => .tail (h1 p (.head _)) (upd_of (fun q hq => h1 q (.tail _ hq)) h2)
theorem del_1 {a b : Value} {tl : List Value} {u : Tok} {n : Nat} {g : Obj → List (Addr × Obj)} {Q : Unit → Shared → Prop} (F : Fr h₀ L s.heap m) (N : News h₀ L s.heap news) (U : UpdF l (PySem.W.listOf (a :: b :: tl).toArray n) news g) (hz : tl.length ≤ 10000)
    (h : ∀ h', Fr h₀ L h' m → News h₀ L h' (g (PySem.W.listOf (a :: tl).toArray (n + 1))) → Q () { s with heap := h' }) : wpAny (model prog w) A (delItem (.ref l) (.int 1 u)) Q E s := by
  obtain ⟨pre, post, rfl, hg, x, y⟩ := U.split
  refine ki_del (k := 1) (q := a :: tl) (its := (a :: b :: tl).toArray) F N (by decide) ?_ ?_ (upd_of x y) ?_ (fun h' F' N' => h h' F' (hg _ ▸ N'))
  · unfold seqIndex?
    simp
    omega
  · rfl
  · rw [PySem.sizeLine_eq]; simp; omega
theorem stored_le {k : Str} {v : Value} : (stored kvs k v).length ≤ kvs.length + 1 := by
  unfold stored
  split <;> simp
theorem item_tupP {value slice : PySem.Expr} {t : Addr} {its : List Value} {k : Int} {u : Tok} {Q : Value → Shared → Prop} (P : Value → Prop) (ht : IsTup s.heap t its.toArray) (h0 : 0 ≤ k) (hk : k < its.length) (hz : its.length ≤ 1000) (hP : ∀ v ∈ its, P v) (h : ∀ v, P v → Q v s)
    (hs : subscripted slice false (.ref t) (.int k u) = operate [.ref t, .int k u] (getItem (.ref t) (.int k u)) := by with_unfolding_all rfl) :
    wpAny (model prog w) A (subscriptTail value slice (.ref t) (.int k u)) Q E s := by
  obtain ⟨j, rfl⟩ : ∃ j : Nat, k = j := ⟨k.toNat, by omega⟩
  have hj : j < its.length := by omega
  refine tail_any ht.typeIs PySem.F.slot_tuple_getitem.lookup (PyProof.Rows.getItem_tuple (j := j) (x := its[j]) ht (by omega) (by omega) ?_ ?_ (h _ (hP _ (List.getElem_mem hj)))) hs
  · unfold seqIndex?
    simp
    omega
  · simp [List.getElem?_eq_getElem hj]
theorem item_at {value slice : PySem.Expr} {v : Value} {its : List Value} {k : Int} {i : Nat} {u : Tok} {Q : Value → Shared → Prop}
    (hl : s.heap.IsList l its.toArray) (hk : k = (i : Int)) (hz : its.length ≤ 1000) (hv : its[i]? = some v) (h : Q v s)
    (hs : subscripted slice false (.ref l) (.int k u) = operate [.ref l, .int k u] (getItem (.ref l) (.int k u)) := by with_unfolding_all rfl) :
    wpAny (model prog w) A (subscriptTail value slice (.ref l) (.int k u)) Q E s := by
  subst hk
  have hi : i < its.length := by
    rcases Nat.lt_or_ge i its.length with h | h
    · exact h
    · rw [List.getElem?_eq_none h] at hv; cases hv
  exact tail_any hl.typeIs slot_list_getitem.lookup (PySem.wpAny_getItem_list hl (by omega) (by omega) (by simpa using hv) h) hs
theorem cut_at {α : Type} {c : Sem α} {m₀ : Str → Option Value} {Q : α → Shared → Prop} (F : Fr h₀ L s.heap m₀) (lo : (d == sysModules) = false) (J : Addr → (Str → Option Value) → α → Shared → Prop) (hw : wpAny (model prog w) A c (J d m₀) E s) (post : ∀ fl s', J d m₀ fl s' → Q fl s') : wpAny (model prog w) A c Q E s :=
  wpAny_mono hw post fun _ _ e => e
theorem upd2 {a b : Str} {m : Str → Option Value} {u v va vb : Option Value} (hab : a ≠ b) (z : Str) : (if z = b then vb else if z = a then va else if z = a then u else if z = b then v else m z) = (if z = a then va else if z = b then vb else m z) := by
  by_cases h1 : z = a
  · subst h1; simp [hab]
  · by_cases h2 : z = b
    · subst h2; simp [h1]
    · simp [h1, h2]
theorem upd2_0 {a b : Str} {m : Str → Option Value} {v : Option Value} (hb : m b = v) (z : Str) : m z = (if z = a then m a else if z = b then v else m z) := by
  by_cases h1 : z = a
  · subst h1; simp
  · by_cases h2 : z = b
    · rw [if_neg h1, if_pos h2, h2, hb]
    · simp [h1, h2]
end
end
end Mine

namespace Mine
section
open PySem PySem.W PyProof.Rows
set_option maxHeartbeats 4000000
def keepS (q : Str) : Bool := q != Str.ofString "" && q != Str.ofString "."
def namesS (ps : List Str) : List Str := ps.dropLast.filter keepS ++ ps.drop (ps.length - 1)
theorem keep_empty : keepS (Str.ofString "") = false := by decide
theorem keep_dot : keepS (Str.ofString ".") = false := by decide
theorem keep_on {q : Str} (h1 : q ≠ Str.ofString "") (h2 : q ≠ Str.ofString ".") : keepS q = true := by
  unfold keepS; simp [h1, h2]
theorem filter_take_succ {α : Type} {l : List α} {f : α → Bool} {i : Nat} {q : α} (h : l[i]? = some q) : (l.take (i + 1)).filter f = (l.take i).filter f ++ (if f q then [q] else []) := by
  rw [List.take_add_one, h, List.filter_append]
  cases e : f q <;> simp [e]
theorem names_mem {ps : List Str} {a : Str} (h : a ∈ namesS ps) : a ∈ ps := by
  unfold namesS at h
  rcases List.mem_append.mp h with h | h
  · exact List.dropLast_subset ps (List.mem_filter.mp h |>.1)
  · exact List.mem_of_mem_drop h
theorem names_len (ps : List Str) : (namesS ps).length ≤ ps.length := by
  unfold namesS
  rw [List.length_append, List.length_drop]
  have := List.length_filter_le keepS ps.dropLast
  rw [List.length_dropLast] at this
  omega
theorem names_ne {ps : List Str} (h : namesS ps ≠ []) : ps ≠ [] := by
  intro e; subst e; exact h rfl
/-- a shift leaves a path whose names are the rest of the names -/
theorem names_kept {ns : List Str} (h : ∀ a ∈ ns.dropLast, keepS a = true) : namesS ns = ns := by
  unfold namesS
  rw [List.filter_eq_self.mpr h, List.dropLast_eq_take, List.take_append_drop]
theorem names_dropLast {ps : List Str} : ∀ a ∈ (namesS ps).dropLast, keepS a = true := by
  intro a ha
  unfold namesS at ha
  rcases Mine.nil_or_snoc ps with rfl | ⟨r, p, rfl⟩
  · cases ha
  · rw [List.dropLast_concat, List.length_append, List.length_singleton, Nat.add_sub_cancel, List.drop_left, List.dropLast_concat] at ha
    exact (List.mem_filter.mp ha).2
theorem dropLast_drop {α : Type} : ∀ (l : List α) (k : Nat), (l.drop k).dropLast = l.dropLast.drop k
  | l, 0 => rfl
  | [], k + 1 => by simp
  | [a], k + 1 => by simp
  | a :: b :: l, k + 1 => by
    rw [List.drop_succ_cons, dropLast_drop (b :: l) k]; rfl
theorem names_drop (ps : List Str) (k : Nat) : namesS ((namesS ps).drop k) = (namesS ps).drop k :=
  names_kept fun a ha => names_dropLast a (List.mem_of_mem_drop (by rw [dropLast_drop] at ha; exact ha))
theorem joined_ne {ps : List Str} (h : ps ≠ []) : joinedS ps ≠ Str.ofString "" := by
  intro e
  cases ps with
  | nil => exact h rfl
  | cons p r =>
    have := congrArg (fun s => s.cps.toList) e
    rw [joined_cons] at this
    simp only [toList_append, slash_cps, show (Str.ofString "").cps.toList = [] by decide] at this
    cases this
theorem root_nil : rootS [] = Str.ofString "/" := by decide
theorem ends_snoc {x y : Str} (h1 : y ≠ Str.ofString "") (h2 : noSl y) : Txt.endswith (x ++ y) (Str.ofString "/") = false := by
  have hl : 1 ≤ y.length := by
    rcases Nat.eq_zero_or_pos y.length with h | h
    · exact absurd (str_ext (by rw [show (Str.ofString "").cps.toList = [] by decide]; exact List.length_eq_zero_iff.mp (by rw [Array.length_toList]; exact h))) h1
    · exact h
  rw [PySem.W.KAf.ends_right (by rw [show (Str.ofString "/").length = 1 by decide]; exact hl)]
  unfold Txt.endswith
  rw [show (Str.ofString "/").length = 1 by decide]
  rw [Bool.and_eq_false_iff]
  right
  unfold PySem.Builtin.Str.subAt
  rw [beq_eq_false_iff_ne]
  intro e
  apply h2
  have : (y.cps.extract (y.length - 1) (y.length - 1 + 1)).toList = [47] := by rw [show (Str.ofString "/").length = 1 by decide] at e; rw [e, slash_cps]
  rw [Array.toList_extract] at this
  have h47 : 47 ∈ (y.cps.toList.extract (y.length - 1) (y.length - 1 + 1)) := by rw [this]; exact .head _
  rw [List.extract_eq_take_drop] at h47
  exact List.mem_of_mem_drop (List.mem_of_mem_take h47)
theorem joined_snoc (ps : List Str) (p : Str) : joinedS (ps ++ [p]) = joinedS ps ++ Str.ofString "/" ++ p := by
  apply str_ext
  rw [joined_cps]
  simp only [toList_append, joined_cps, slash_cps]
  simp [fl]
theorem joined_ends {W : List Str} (h : ∀ p ∈ W, noSl p ∧ Plain p) : Txt.endswith (joinedS W) (Str.ofString "/") = false := by
  rcases Mine.nil_or_snoc W with rfl | ⟨r, p, rfl⟩
  · decide
  · rw [joined_snoc]
    have := h p (by simp)
    exact ends_snoc this.2.1 this.1
theorem pathS_len {S n : Str} (h1 : S.length ≤ 600) (h2 : n.length ≤ 5) : (pathS S n).length ≤ 1000 := by
  have : (pathS S n).length = (pathS S n).cps.toList.length := (Array.length_toList ..).symm
  rw [this, pathS_cps, List.length_append, List.length_cons, Array.length_toList, Array.length_toList]
  have a : S.cps.size ≤ 600 := h1
  have b : n.cps.size ≤ 5 := h2
  omega
def wsum (ps : List Str) : Nat := (ps.map fun p => p.length + 1).sum
theorem wsum_nil : wsum [] = 0 := rfl
theorem wsum_cons (p : Str) (ps : List Str) : wsum (p :: ps) = p.length + 1 + wsum ps := rfl
theorem wsum_app (ps qs : List Str) : wsum (ps ++ qs) = wsum ps + wsum qs := by unfold wsum; simp
theorem wsum_dropLast (ps : List Str) : wsum ps.dropLast ≤ wsum ps := by
  rcases Mine.nil_or_snoc ps with rfl | ⟨r, p, rfl⟩
  · exact Nat.le_refl _
  · rw [List.dropLast_concat, wsum_app]; omega
theorem joined_wsum : ∀ ps : List Str, (joinedS ps).length = wsum ps
  | [] => by rw [joined_nil]; decide
  | p :: ps => by
    rw [joined_cons, wsum_cons, ← joined_wsum ps]
    have e : ∀ x : Str, x.length = x.cps.toList.length := fun x => (Array.length_toList ..).symm
    rw [e, toList_append, toList_append, slash_cps]
    simp only [List.length_append, ← e, List.length_cons, List.length_nil]
    omega
theorem walk_wsum (ps : List Str) (x : Str) : wsum (walkS ps x) ≤ wsum ps + (x.length + 1) := by
  unfold walkS
  split
  · have := wsum_dropLast ps; omega
  · split
    · omega
    · rw [wsum_app, wsum_cons, wsum_nil]; omega
theorem fold_wsum : ∀ (cs ps : List Str), wsum (cs.foldl walkS ps) ≤ wsum ps + wsum cs
  | [], _ => by simp [wsum_nil]
  | c :: cs, ps => by
    have h1 := fold_wsum cs (walkS ps c)
    have h2 := walk_wsum ps c
    rw [wsum_cons, List.foldl_cons]
    omega
theorem jn_wsum : ∀ ps : List Str, ps ≠ [] → (jn (ps.map fun p => p.cps.toList)).length + 1 = wsum ps
  | [], h => absurd rfl h
  | [p], _ => by
    show p.cps.toList.length + 1 = _
    rw [Array.length_toList]; rfl
  | p :: q :: r, _ => by
    have ih := jn_wsum (q :: r) (by simp)
    show (p.cps.toList ++ 47 :: jn ((q :: r).map fun p => p.cps.toList)).length + 1 = _
    rw [wsum_cons, ← ih, List.length_append, List.length_cons, Array.length_toList]
    show p.length + _ + 1 = _
    omega
theorem split_wsum (x : Str) : wsum (Txt.split x (Str.ofString "/")) = x.length + 1 := by
  rw [← jn_wsum _ (split_ne_nil x), ← split_jn, Array.length_toList]; rfl
theorem walked_len {S n : Str} (h1 : S.length ≤ 600) (h2 : n.length ≤ 5) : (joinedS (walkS (placeS S) n)).length ≤ 1000 := by
  rw [joined_wsum]
  have a := walk_wsum (placeS S) n
  have b := fold_wsum (Txt.split S (Str.ofString "/")) []
  rw [split_wsum, wsum_nil] at b
  have : wsum (placeS S) ≤ 0 + (S.length + 1) := b
  omega
theorem slice_root : Txt.slice (rootS []) none (some (-1)) = Str.ofString "" := by decide
theorem join_parts (ns : List Str) : Txt.join (Str.ofString "/") (Str.ofString "" :: ns) = joinedS ns := by
  apply str_ext
  rw [txt_join, join_cps, joined_cps, List.map_cons, show (Str.ofString "").cps.toList = [] by decide, jn_nil_cons]
def scriptS (S n : Str) : Str := joinedS (walkS (placeS S) n) ++ (if n = Str.ofString "" then Str.ofString "/" else Str.ofString "")
def ShiftV (n : Str) (v : Value) : Prop := (n = Str.ofString "." ∧ v = .none) ∨ (n ≠ Str.ofString "." ∧ ∃ t, v = .str n t)
def ShiftD (S n : Str) (ns : List Str) (kvs kvs' : List (Str × Value)) : Prop := ∃ t1 t2, kvs' = stored (stored kvs (Str.ofString "SCRIPT_NAME") (.str (scriptS S n) t1)) (Str.ofString "PATH_INFO") (.str (joinedS ns) t2)
theorem len_zero {n : Str} (h : ((n.length : Nat) : Int) = 0) : n = Str.ofString "" :=
  str_ext (by rw [show (Str.ofString "").cps.toList = [] by decide]; exact List.length_eq_zero_iff.mp (by rw [Array.length_toList]; exact Int.ofNat_eq_zero.mp h))
theorem len_nonzero {n : Str} (h : ((n.length : Nat) : Int) ≠ 0) : n ≠ Str.ofString "" := by
  intro e; subst e; exact h (by decide)
theorem shiftV_none {n : Str} (h : (n == Str.ofString ".") = true) : ShiftV n .none := .inl ⟨eq_of_beq h, rfl⟩
theorem shiftV_str {n : Str} {t : Tok} (h : (n == Str.ofString ".") = false) : ShiftV n (.str n t) := .inr ⟨beq_eq_false_iff_ne.mp h, t, rfl⟩
theorem shiftD_of {S n x : Str} {ns : List Str} {kvs : List (Str × Value)} {t1 t2 : Tok} (h : scriptS S n = x) : ShiftD S n ns kvs (stored (stored kvs (Str.ofString "SCRIPT_NAME") (.str x t1)) (Str.ofString "PATH_INFO") (.str (joinedS ns) t2)) := ⟨t1, t2, by rw [h]⟩
theorem app_empty (x : Str) : x ++ Str.ofString "" = x := str_ext (by rw [toList_append, show (Str.ofString "").cps.toList = [] by decide, List.append_nil])
theorem sc_ne {x n y : Str} (hsc : x = y ++ (if n = Str.ofString "" then Str.ofString "/" else Str.ofString "")) (h : ((n.length : Nat) : Int) ≠ 0) : x = y := by
  rw [hsc, if_neg (len_nonzero h), app_empty]
theorem sc_e {x n y : Str} (hsc : x = y ++ (if n = Str.ofString "" then Str.ofString "/" else Str.ofString "")) (h : ((n.length : Nat) : Int) = 0) : x = y ++ Str.ofString "/" := by
  rw [hsc, if_pos (len_zero h)]
theorem sc_ne0 {x n : Str} (hsc : x = joinedS [] ++ (if n = Str.ofString "" then Str.ofString "/" else Str.ofString "")) (h : ((n.length : Nat) : Int) ≠ 0) : x = Str.ofString "" := by
  rw [sc_ne hsc h]; decide
theorem sc_e0 {x n : Str} (hsc : x = joinedS [] ++ (if n = Str.ofString "" then Str.ofString "/" else Str.ofString "")) (h : ((n.length : Nat) : Int) = 0) : x = Str.ofString "/" := by
  rw [sc_e hsc h]; decide
def wfB (l : List Nat) : Bool := match l with
  | a :: c :: _ => a == 47 && c != 47
  | _ => false
theorem wf_of {x : Str} (h : wfB x.cps.toList = true) : WfS x := by
  unfold wfB at h
  split at h
  · rename_i a c r e
    simp only [Bool.and_eq_true, beq_iff_eq, bne_iff_ne] at h
    exact .inr ⟨c, r, by rw [e, h.1], h.2⟩
  · cases h
theorem starts_wf : ∀ x ∈ [Str.ofString "", Str.ofString "/a", Str.ofString "/a/b/", Str.ofString "/a/../b", Str.ofString "/./c//d", Str.ofString "/..", Str.ofString "/a/./.."], WfS x ∧ x.length ≤ 20 := by
  intro x hx
  simp only [List.mem_cons, List.not_mem_nil, or_false] at hx
  rcases hx with rfl | rfl | rfl | rfl | rfl | rfl | rfl
  · exact ⟨.inl rfl, by decide⟩
  all_goals exact ⟨wf_of (by decide), by decide⟩
def StartV (v : Value) : Prop := v = .none ∨ ∃ x t, v = .str x t ∧ WfS x ∧ x.length ≤ 20
theorem startV_str {x : Str} {t : Tok} (h : x ∈ [Str.ofString "", Str.ofString "/a", Str.ofString "/a/b/", Str.ofString "/a/../b", Str.ofString "/./c//d", Str.ofString "/..", Str.ofString "/a/./.."]) : StartV (.str x t) := .inr ⟨x, t, rfl, starts_wf x h⟩
theorem keep_any {q : Str} {b : Bool} (h : ([Str.ofString "", Str.ofString "."].any fun y => y == q) = b) : keepS q = !b := by
  subst h
  unfold keepS
  simp only [List.any_cons, List.any_nil, Bool.or_false]
  by_cases h1 : q = Str.ofString ""
  · subst h1; decide
  · by_cases h2 : q = Str.ofString "."
    · subst h2; decide
    · have a : (Str.ofString "" == q) = false := beq_eq_false_iff_ne.mpr (Ne.symm h1)
      have b : (Str.ofString "." == q) = false := beq_eq_false_iff_ne.mpr (Ne.symm h2)
      rw [a, b]
      simp [h1, h2]
theorem mem_wsum {q : Str} : ∀ {ps : List Str}, q ∈ ps → q.length + 1 ≤ wsum ps
  | p :: ps, h => by
    rw [wsum_cons]
    rcases List.mem_cons.mp h with rfl | h
    · omega
    · have := mem_wsum h; omega
theorem len_wsum : ∀ ps : List Str, ps.length ≤ wsum ps
  | [] => Nat.le_refl _
  | p :: ps => by
    have := len_wsum ps
    rw [wsum_cons, List.length_cons]; omega
end
end Mine

namespace Mine
section
open PySem PySem.W PyProof.Rows PySem.Calls
set_option maxHeartbeats 4000000
theorem stored_mem {kvs : List (Str × Value)} {k : Str} {v : Value} {p : Str × Value} (h : p ∈ stored kvs k v) : (p.1 = k ∧ p.2 = v) ∨ (p.1 ≠ k ∧ p ∈ kvs) := by
  unfold stored at h
  split at h
  · obtain ⟨q, hq, e⟩ := List.mem_map.mp h
    by_cases hk : q.1 = k
    · rw [if_pos hk] at e; subst e; exact .inl ⟨hk, rfl⟩
    · rw [if_neg hk] at e; subst e; exact .inr ⟨hk, hq⟩
  · rename_i hn
    rcases List.mem_append.mp h with h | h
    · refine .inr ⟨fun e => hn (List.any_eq_true.mpr ⟨p, h, by simpa using e⟩), h⟩
    · rw [List.mem_singleton] at h; subst h; exact .inl ⟨rfl, rfl⟩
def sQ : Str := Str.ofString "QUERY_STRING"
def sS : Str := Str.ofString "SCRIPT_NAME"
def sP : Str := Str.ofString "PATH_INFO"
def EnvOk (kvs : List (Str × Value)) : Prop := ∀ p ∈ kvs, valueAt kvs p.1 = some p.2 ∧ (∃ x t, p.2 = .str x t) ∧ (p.1 = sQ ∨ p.1 = sS ∨ p.1 = sP)
theorem EnvOk.stored {kvs : List (Str × Value)} {k x : Str} {t : Tok} (h : EnvOk kvs) (hk : k = sQ ∨ k = sS ∨ k = sP) : EnvOk (stored kvs k (.str x t)) := by
  intro p hp
  rcases stored_mem hp with ⟨h1, h2⟩ | ⟨h1, h2⟩
  · rw [valueAt_stored, if_pos h1, h2, h1]
    exact ⟨rfl, ⟨x, t, rfl⟩, hk⟩
  · obtain ⟨a, b, c⟩ := h p h2
    rw [valueAt_stored, if_neg h1]
    exact ⟨a, b, c⟩
theorem hits_of {prog : Program} {w : World} {A : Around} {s : Shared} {kb : List (Str × Value)} : ∀ {ka : List (Str × Value)}, (∀ p ∈ ka, ∃ x t t', p.2 = .str x t ∧ valueAt kb p.1 = some (.str x t')) → KeqHits A s kb ka true
  | [], _ => .nil
  | (k, v) :: r, h => by
    obtain ⟨x, t, t', e, hv⟩ := h (k, v) (.head _)
    have e : v = .str x t := e
    subst e
    have := KeqHits.hit (A := A) (s := s) hv (keq_flat (PyProof.V.Flat.str x t) (PyProof.V.Flat.str x t')) (hits_of (prog := prog) (w := w) fun p hp => h p (.tail _ hp))
    rwa [show PyData.eqv (.str x) (.str x) = true by simp [PyData.eqv]] at this
theorem EnvOk.self {kvs : List (Str × Value)} (h : EnvOk kvs) : ∀ p ∈ kvs, ∃ x t t', p.2 = .str x t ∧ valueAt kvs p.1 = some (.str x t') := fun p hp => by
  obtain ⟨a, ⟨x, t, e⟩, _⟩ := h p hp
  exact ⟨x, t, t, e, by rw [a, e]⟩
theorem EnvOk.due {kvs : List (Str × Value)} {a b c : Str} {ta tb tc ua ub uc : Tok} (h : EnvOk kvs) (h1 : valueAt kvs sQ = some (.str a ta)) (h2 : valueAt kvs sS = some (.str b tb)) (h3 : valueAt kvs sP = some (.str c tc)) :
    ∀ p ∈ kvs, ∃ x t t', p.2 = .str x t ∧ valueAt [(sQ, .str a ua), (sP, .str c uc), (sS, .str b ub)] p.1 = some (.str x t') := fun p hp => by
  obtain ⟨e, _, k⟩ := h p hp
  rcases k with k | k | k
  · rw [k, h1] at e; exact ⟨a, ta, ua, (Option.some.inj e).symm, by rw [k]; rfl⟩
  · rw [k, h2] at e; exact ⟨b, tb, ub, (Option.some.inj e).symm, by rw [k]; rfl⟩
  · rw [k, h3] at e; exact ⟨c, tc, uc, (Option.some.inj e).symm, by rw [k]; rfl⟩
theorem ne_dict {prog : Program} {w : World} {h₀ h : Heap} {L l d : Addr} {o1 o : Obj} {news : List (Addr × Obj)} {kvs : List (Str × Value)} (N : News h₀ L h news) (h1 : (l, o1) ∈ news) (hc : o1.cls = .type "list") (h2 : (d, o) ∈ news) (hd : o.IsDictOf (strKind prog w) kvs) : @Ne Nat l d := by
  intro e
  have a : h.get? l = some o1 := (N _ h1).1
  have b : h.get? d = some o := (N _ h2).1
  have e : l = d := e
  rw [e, b] at a
  obtain ⟨es, ep, hx, _⟩ := hd
  have := hx.1
  rw [Option.some.inj a, hc] at this
  exact absurd this (by decide)
/-- what the law holds when the environ is built -/
structure MidAt (prog : Program) (w : World) (h₀ : Heap) (L D d : Addr) (ys : List Value) (m₀ : Str → Option Value) (h' : Heap) (u : Option Value) (pl : Addr) (ws : List Value) (nn : Nat) (o' : Obj) (kvs : List (Str × Value)) (S0 : Str) (tq : Tok) : Prop where
  fr : Fr h₀ L h' (fun z => if z = Str.ofString "name" then u else if z = Str.ofString "place" then some (.ref pl) else m₀ z)
  nw : News h₀ L h' [(pl, PySem.W.listOf ws.toArray nn), (d, o'), (D, LCg.lst ys)]
  sa : StrsAre ws (placeS S0)
  dd : o'.IsDictOf (strKind prog w) kvs
  lo : (d == sysModules) = false
  ok : EnvOk kvs
  gs : GetsS kvs sS S0
  np : valueAt kvs sP = none
  vq : valueAt kvs sQ = some (.str (Str.ofString "q") tq)
  wf : WfS S0
  sl : S0.length ≤ 20
  ln : (kvs.length = 1 ∧ valueAt kvs sS = none) ∨ (kvs.length = 2 ∧ valueAt kvs sS ≠ none)
def Mid (prog : Program) (w : World) (h₀ : Heap) (L D d : Addr) (ys : List Value) (s₁ : Shared) (m₀ : Str → Option Value) (fl : Flow) (s' : Shared) : Prop :=
  fl = .next ∧ ∃ h' tk u pl ws nn o' kvs S0 tq, s' = { s₁ with heap := h', toks := tk } ∧ MidAt prog w h₀ L D d ys m₀ h' u pl ws nn o' kvs S0 tq
theorem env0_q (v : Value) : valueAt [(sQ, v)] sQ = some v := by
  unfold valueAt; rw [List.find?_cons_of_pos (by show decide (sQ = sQ) = true; decide)]; rfl
theorem env0_s (v : Value) : valueAt [(sQ, v)] sS = none := by
  unfold valueAt; rw [List.find?_cons_of_neg (by show ¬ decide (sQ = sS) = true; decide)]; rfl
theorem env0_p (v : Value) : valueAt [(sQ, v)] sP = none := by
  unfold valueAt; rw [List.find?_cons_of_neg (by show ¬ decide (sQ = sP) = true; decide)]; rfl
theorem env0_ok (x : Str) (t : Tok) : EnvOk [(sQ, .str x t)] := by
  intro p hp
  rw [List.mem_singleton] at hp
  subst hp
  exact ⟨env0_q _, ⟨x, t, rfl⟩, .inl rfl⟩
theorem place_empty : placeS (Str.ofString "") = [] := by
  rw [← joined_nil]; exact place_joined (fun p hp => nomatch hp)
theorem mid_none {prog : Program} {w : World} {h₀ h' : Heap} {L D d pl : Addr} {ys : List Value} {m₀ : Str → Option Value} {n : Nat} {o' : Obj} {t : Tok} {tup : Addr × Obj} (F : Fr h₀ L h' m₀) (hp : m₀ (Str.ofString "place") = some (.ref pl)) (N : News h₀ L h' [(pl, PySem.W.listOf (List.toArray []) n), (d, o'), tup, (D, LCg.lst ys)])
    (hd : o'.IsDictOf (strKind prog w) [(sQ, .str (Str.ofString "q") t)]) (lo : (d == sysModules) = false) : MidAt prog w h₀ L D d ys m₀ h' (m₀ (Str.ofString "name")) pl [] n o' [(sQ, .str (Str.ofString "q") t)] (Str.ofString "") t where
  fr := by
    have e : m₀ = fun z => if z = Str.ofString "name" then m₀ (Str.ofString "name") else if z = Str.ofString "place" then some (.ref pl) else m₀ z := funext fun z => upd2_0 hp z
    rw [← e]; exact F
  nw := fun p hp => N p (by
    simp only [List.mem_cons, List.not_mem_nil, or_false] at hp ⊢
    rcases hp with h | h | h <;> simp [h])
  sa := by rw [place_empty]; exact .nil
  dd := hd
  lo := lo
  ok := env0_ok _ _
  gs := .inr ⟨env0_s _, rfl⟩
  np := env0_p _
  vq := env0_q _
  wf := .inl rfl
  sl := by decide
  ln := .inl ⟨rfl, env0_s _⟩
theorem mid_str {prog : Program} {w : World} {h₀ h' : Heap} {L D d pl : Addr} {ys ws : List Value} {m₀ : Str → Option Value} {n : Nat} {o' : Obj} {t tx : Tok} {tup : Addr × Obj} {u : Option Value} {x : Str} (F : Fr h₀ L h' (fun z => if z = Str.ofString "name" then u else if z = Str.ofString "place" then some (.ref pl) else m₀ z)) (N : News h₀ L h' [(pl, PySem.W.listOf ws.toArray n), tup, (d, o'), (D, LCg.lst ys)])
    (hs : StrsAre ws (placeS x)) (hd : o'.IsDictOf (strKind prog w) (stored [(sQ, .str (Str.ofString "q") t)] sS (.str x tx))) (lo : (d == sysModules) = false) (hw : WfS x) (hx : x.length ≤ 20) : MidAt prog w h₀ L D d ys m₀ h' u pl ws n o' (stored [(sQ, .str (Str.ofString "q") t)] sS (.str x tx)) x t where
  fr := F
  nw := fun p hp => N p (by
    simp only [List.mem_cons, List.not_mem_nil, or_false] at hp ⊢
    rcases hp with h | h | h <;> simp [h])
  sa := hs
  dd := hd
  lo := lo
  ok := (env0_ok _ _).stored (.inr (.inl rfl))
  gs := .inl ⟨tx, by rw [valueAt_stored, if_pos rfl]⟩
  np := by rw [valueAt_stored, if_neg (by decide)]; exact env0_p _
  vq := by rw [valueAt_stored, if_neg (by decide)]; exact env0_q _
  wf := hw
  sl := hx
  ln := .inr ⟨by rw [stored_len_new (env0_s _)]; rfl, by rw [valueAt_stored, if_pos rfl]; simp⟩
end
end Mine

namespace Mine
section
open PySem PySem.W PyProof.Rows
set_option maxHeartbeats 4000000
section
variable {prog : Program} {w : World} {A : Around} {E : Value → Shared → Prop} {s : Shared} {env : Env} {h₀ : Heap} {body : List Stmt} {Q : Flow → Shared → Prop} {l d D : Addr} {o oD : Obj} {vs : List Value} {n : Nat} {m₀ : Str → Option Value}
theorem fr_eq {L : Addr} {h : Heap} {m m' : Str → Option Value} (F : Fr h₀ L h m) (e : ∀ z, m z = m' z) : Fr h₀ L h m' := by rw [← funext e]; exact F
def sName : Str := Str.ofString "name"
def sPlace : Str := Str.ofString "place"
def mPl (m₀ : Str → Option Value) (u : Option Value) (pl : Addr) (z : Str) : Option Value := if z = Str.ofString "name" then u else if z = Str.ofString "place" then some (.ref pl) else m₀ z
def TurnPl (h₀ : Heap) (L : Addr) (m₀ : Str → Option Value) (I : Addr) (oI : Obj) (rest : List (Addr × Obj)) (acc : List Str) (s₁ : Shared) (Q : Flow → Shared → Prop) (f : Flow) (s₂ : Shared) : Prop :=
  match f with
  | .ret v => Q (.ret v) s₂
  | .brk => Q .next s₂
  | _ => ∃ h' tk m' r ws nn u, s₂ = { s₁ with heap := h', toks := tk } ∧ Fr h₀ L h' m' ∧ (∀ z, m' z = mPl m₀ u r z) ∧ News h₀ L h' ((I, oI) :: (r, PySem.W.listOf (List.toArray ws) nn) :: rest) ∧ (@Ne Nat r I) ∧ StrsAre ws acc
theorem iter_place {pl₀ : Addr} {n₀ : Nat} {cs : List Str} {rest : List (Addr × Obj)} (hh : A.handled = none) (F : Fr h₀ env.locals s.heap m₀) (hp : m₀ (Str.ofString "place") = some (.ref pl₀))
    (N : News h₀ env.locals s.heap ((pl₀, PySem.W.listOf (List.toArray []) n₀) :: rest)) (hl : (l, PySem.W.listOf vs.toArray n) ∈ rest) (hv : StrsAre vs cs)
    (turn : ∀ i q t pl ws nn I oI h tk, cs[i]? = some q → StrsAre ws ((cs.take i).foldl walkS []) → (@Ne Nat pl I) → (∀ p ∈ rest, p.1 ≠ I) → Fr h₀ env.locals h (fun y => if y = Str.ofString "name" then some (.str q t) else if y = Str.ofString "place" then some (.ref pl) else m₀ y) →
      News h₀ env.locals h ((I, oI) :: (pl, PySem.W.listOf (List.toArray ws) nn) :: rest) →
      wpAny (model prog w) A (execs body env) (TurnPl h₀ env.locals m₀ I oI rest (walkS ((cs.take i).foldl walkS []) q) { s with heap := h, toks := tk } Q) E { s with heap := h, toks := tk })
    (done : ∀ u pl ws nn h tk, StrsAre ws (cs.foldl walkS []) → Fr h₀ env.locals h (fun z => if z = Str.ofString "name" then u else if z = Str.ofString "place" then some (.ref pl) else m₀ z) → News h₀ env.locals h ((pl, PySem.W.listOf (List.toArray ws) nn) :: rest) → Q .next { s with heap := h, toks := tk }) :
    wpAny (model prog w) A (pyIter (.ref l)) (fun it s₂ => LoopAtV prog w A h₀ env (Str.ofString "name") body Q E it s₂) E s := by
  refine iter_led (l := l) (vs := vs) (n := n) (fun i m nx => ∃ u pl ws nn, (∀ z, m z = mPl m₀ u pl z) ∧ nx = (pl, PySem.W.listOf (List.toArray ws) nn) :: rest ∧ StrsAre ws ((cs.take i).foldl walkS [])) hh F N (.tail _ hl) ⟨m₀ (Str.ofString "name"), pl₀, [], n₀, fun z => upd2_0 hp z, rfl, .nil⟩ ?_ ?_ ?_
  · rintro i m nx ⟨u, pl, ws, nn, _, rfl, _⟩
    exact .tail _ hl
  · rintro i v m₁ nx I oI h tk hvi ⟨u, pl, ws, nn, hm, rfl, hs⟩ off F₁ N₁
    obtain ⟨q, t, rfl, hq⟩ := hv.item i v hvi
    have htk : (cs.take (i + 1)).foldl walkS [] = walkS ((cs.take i).foldl walkS []) q := by rw [List.take_add_one, hq]; simp
    have F₂ := fr_eq (m' := fun y => if y = Str.ofString "name" then some (.str q t) else if y = Str.ofString "place" then some (.ref pl) else m₀ y) F₁ (fun z => by
      by_cases hz : z = Str.ofString "name"
      · simp only [if_pos hz]
      · simp only [if_neg hz, hm z, mPl])
    refine wpAny_mono (turn i q t pl ws nn I oI h tk hq hs (off _ (.head _)) (fun p hp => off p (.tail _ hp)) F₂ N₁) (fun f s₂ p => ?_) fun _ _ e => e
    have fin : (∃ h' tk' m' r ws nn u, s₂ = { ({ s with heap := h, toks := tk } : Shared) with heap := h', toks := tk' } ∧ Fr h₀ env.locals h' m' ∧ (∀ z, m' z = mPl m₀ u r z) ∧ News h₀ env.locals h' ((I, oI) :: (r, PySem.W.listOf (List.toArray ws) nn) :: rest) ∧ (@Ne Nat r I) ∧ StrsAre ws (walkS ((cs.take i).foldl walkS []) q)) →
        ∃ h' tk' m' nx, s₂ = { ({ s with heap := h, toks := tk } : Shared) with heap := h', toks := tk' } ∧ Fr h₀ env.locals h' m' ∧ News h₀ env.locals h' ((I, oI) :: nx) ∧ (∀ p ∈ nx, p.1 ≠ I) ∧ ∃ u pl ws nn, (∀ z, m' z = mPl m₀ u pl z) ∧ nx = (pl, PySem.W.listOf (List.toArray ws) nn) :: rest ∧ StrsAre ws ((cs.take (i + 1)).foldl walkS []) := by
      rintro ⟨h', tk', m', r, ws', nn', u', e, F', hm', N', hr, hs'⟩
      refine ⟨h', tk', m', _, e, F', N', ?_, u', r, ws', nn', hm', rfl, by rw [htk]; exact hs'⟩
      intro p hp
      rcases List.mem_cons.mp hp with e | hp
      · rw [e]; exact hr
      · exact off p (.tail _ hp)
    cases f with
    | ret v => exact p
    | brk => exact p
    | next => exact fin p
    | cont => exact fin p
  · rintro m₁ nx h tk ⟨u, pl, ws, nn, hm, rfl, hs⟩ F₁ N₁
    rw [hv.length, List.take_length] at hs
    exact done u pl ws nn h tk hs (fr_eq F₁ hm) N₁
def mMn (m₀ : Str → Option Value) (u1 u2 : Option Value) (pl : Addr) (u3 : Option Value) (z : Str) : Option Value :=
  if z = Str.ofString "k" then u1 else if z = Str.ofString "told" then u2 else if z = Str.ofString "place" then some (.ref pl) else if z = Str.ofString "due" then u3 else m₀ z
def TurnMn (h₀ : Heap) (L : Addr) (m₀ : Str → Option Value) (I : Addr) (oI : Obj) (d : Addr) (rest : List (Addr × Obj)) (R : List Value → Obj → Prop) (s₁ : Shared) (Q : Flow → Shared → Prop) (f : Flow) (s₂ : Shared) : Prop :=
  match f with
  | .ret v => Q (.ret v) s₂
  | .brk => Q .next s₂
  | _ => ∃ h' tk m' r ws nn o u1 u2 u3, s₂ = { s₁ with heap := h', toks := tk } ∧ Fr h₀ L h' m' ∧ (∀ z, m' z = mMn m₀ u1 u2 r u3 z) ∧ News h₀ L h' ((I, oI) :: (r, PySem.W.listOf (List.toArray ws) nn) :: (d, o) :: rest) ∧ (@Ne Nat r I) ∧ R ws o
theorem iter_main {r : Addr} {a₀ b₀ : Int} {t₀ u₀ v₀ : Tok} {N : Nat} {pl₀ : Addr} {ws₀ : List Value} {n₀ : Nat} {o₀ : Obj} {rest : List (Addr × Obj)} (R : Nat → List Value → Obj → Prop)
    (hh : A.handled = none) (hr : IsRange s.heap r a₀ b₀ 1 t₀ u₀ v₀) (hsmall : Builtin.Range.small a₀ b₀ 1 = true) (hn : Builtin.Range.rangeSize a₀ b₀ 1 = (N : Int))
    (F : Fr h₀ env.locals s.heap m₀) (hp : m₀ (Str.ofString "place") = some (.ref pl₀)) (Nw : News h₀ env.locals s.heap ((pl₀, PySem.W.listOf ws₀.toArray n₀) :: (d, o₀) :: rest)) (hR : R 0 ws₀ o₀)
    (turn : ∀ i t u2 u3 pl ws nn o I oI h tk, i < N → R i ws o → (@Ne Nat pl I) → (@Ne Nat d I) → (∀ p ∈ rest, p.1 ≠ I) →
      Fr h₀ env.locals h (fun y => if y = Str.ofString "k" then some (.int (a₀ + (i : Nat)) t) else if y = Str.ofString "told" then u2 else if y = Str.ofString "place" then some (.ref pl) else if y = Str.ofString "due" then u3 else m₀ y) →
      News h₀ env.locals h ((I, oI) :: (pl, PySem.W.listOf (List.toArray ws) nn) :: (d, o) :: rest) →
      wpAny (model prog w) A (execs body env) (TurnMn h₀ env.locals m₀ I oI d rest (R (i + 1)) { s with heap := h, toks := tk } Q) E { s with heap := h, toks := tk })
    (done : ∀ u1 u2 u3 pl ws nn o h tk, R N ws o → Fr h₀ env.locals h (fun y => if y = Str.ofString "k" then u1 else if y = Str.ofString "told" then u2 else if y = Str.ofString "place" then some (.ref pl) else if y = Str.ofString "due" then u3 else m₀ y) →
      News h₀ env.locals h ((pl, PySem.W.listOf (List.toArray ws) nn) :: (d, o) :: rest) → Q .next { s with heap := h, toks := tk }) :
    wpAny (model prog w) A (pyIter (.ref r)) (fun it s₂ => LoopAtV prog w A h₀ env (Str.ofString "k") body Q E it s₂) E s := by
  refine iter_rng (fun i m nx => ∃ u1 u2 u3 pl ws nn o, (∀ z, m z = mMn m₀ u1 u2 pl u3 z) ∧ nx = (pl, PySem.W.listOf (List.toArray ws) nn) :: (d, o) :: rest ∧ R i ws o) hh hr hsmall hn F Nw
    ⟨m₀ (Str.ofString "k"), m₀ (Str.ofString "told"), m₀ (Str.ofString "due"), pl₀, ws₀, n₀, o₀, fun z => ?_, rfl, hR⟩ ?_ ?_
  · unfold mMn
    by_cases h1 : z = Str.ofString "k"
    · rw [if_pos h1, h1]
    · rw [if_neg h1]
      by_cases h2 : z = Str.ofString "told"
      · rw [if_pos h2, h2]
      · rw [if_neg h2]
        by_cases h3 : z = Str.ofString "place"
        · rw [if_pos h3, h3, hp]
        · rw [if_neg h3]
          by_cases h4 : z = Str.ofString "due"
          · rw [if_pos h4, h4]
          · rw [if_neg h4]
  · rintro i t m₁ nx I oI h tk hi ⟨u1, u2, u3, pl, ws, nn, o, hm, rfl, hr⟩ off F₁ N₁
    have F₂ := fr_eq (m' := fun y => if y = Str.ofString "k" then some (.int (a₀ + (i : Nat)) t) else if y = Str.ofString "told" then u2 else if y = Str.ofString "place" then some (.ref pl) else if y = Str.ofString "due" then u3 else m₀ y) F₁ (fun z => by
      by_cases hz : z = Str.ofString "k"
      · simp only [if_pos hz]
      · simp only [if_neg hz, hm z, mMn])
    refine wpAny_mono (turn i t u2 u3 pl ws nn o I oI h tk hi hr (off _ (.head _)) (off _ (.tail _ (.head _))) (fun p hp => off p (.tail _ (.tail _ hp))) F₂ N₁) (fun f s₂ p => ?_) fun _ _ e => e
    have fin : (∃ h' tk' m' r ws nn o u1 u2 u3, s₂ = { ({ s with heap := h, toks := tk } : Shared) with heap := h', toks := tk' } ∧ Fr h₀ env.locals h' m' ∧ (∀ z, m' z = mMn m₀ u1 u2 r u3 z) ∧ News h₀ env.locals h' ((I, oI) :: (r, PySem.W.listOf (List.toArray ws) nn) :: (d, o) :: rest) ∧ (@Ne Nat r I) ∧ R (i + 1) ws o) →
        ∃ h' tk' m' nx, s₂ = { ({ s with heap := h, toks := tk } : Shared) with heap := h', toks := tk' } ∧ Fr h₀ env.locals h' m' ∧ News h₀ env.locals h' ((I, oI) :: nx) ∧ (∀ p ∈ nx, p.1 ≠ I) ∧ ∃ u1 u2 u3 pl ws nn o, (∀ z, m' z = mMn m₀ u1 u2 pl u3 z) ∧ nx = (pl, PySem.W.listOf (List.toArray ws) nn) :: (d, o) :: rest ∧ R (i + 1) ws o := by
      rintro ⟨h', tk', m', r, ws', nn', o', v1, v2, v3, e, F', hm', N', hr, hs'⟩
      refine ⟨h', tk', m', _, e, F', N', ?_, v1, v2, v3, r, ws', nn', o', hm', rfl, hs'⟩
      intro p hp
      rcases List.mem_cons.mp hp with e | hp
      · rw [e]; exact hr
      · rcases List.mem_cons.mp hp with e | hp
        · rw [e]; exact off (d, o) (.tail _ (.head _))
        · exact off p (.tail _ (.tail _ hp))
    cases f with
    | ret v => exact p
    | brk => exact p
    | next => exact fin p
    | cont => exact fin p
  · rintro m₁ nx h tk ⟨u1, u2, u3, pl, ws, nn, o, hm, rfl, hs⟩ F₁ N₁
    exact done u1 u2 u3 pl ws nn o h tk hs (fr_eq F₁ hm) N₁
/-- the names stored in a turn, put in order -/
theorem upd4 {m : Str → Option Value} {vk vt vd u2 u3 : Option Value} {pl r : Addr} (z : Str) :
    (if z = Str.ofString "due" then vd else if z = Str.ofString "place" then some (.ref r) else if z = Str.ofString "told" then vt else if z = Str.ofString "k" then vk else if z = Str.ofString "told" then u2 else if z = Str.ofString "place" then some (.ref pl) else if z = Str.ofString "due" then u3 else m z) = mMn m vk vt r vd z := by
  unfold mMn
  by_cases h1 : z = Str.ofString "due"
  · subst h1; simp only [if_pos]; rw [if_neg (by decide), if_neg (by decide), if_neg (by decide)]
  · by_cases h2 : z = Str.ofString "place"
    · subst h2; rw [if_neg h1, if_pos rfl, if_neg (by decide), if_neg (by decide), if_pos rfl]
    · by_cases h3 : z = Str.ofString "told"
      · subst h3; rw [if_neg h1, if_neg h2, if_pos rfl, if_neg (by decide), if_pos rfl]
      · by_cases h4 : z = Str.ofString "k"
        · subst h4; rw [if_neg h1, if_neg h2, if_neg h3, if_pos rfl, if_pos rfl]
        · simp only [if_neg h1, if_neg h2, if_neg h3, if_neg h4]
theorem upd2p {m : Str → Option Value} {va v : Option Value} {r : Addr} (z : Str) : (if z = Str.ofString "place" then some (.ref r) else if z = Str.ofString "name" then va else if z = Str.ofString "place" then v else m z) = mPl m va r z := by
  unfold mPl
  by_cases h1 : z = Str.ofString "name"
  · subst h1; rw [if_neg (by decide), if_pos rfl, if_pos rfl]
  · by_cases h2 : z = Str.ofString "place"
    · subst h2; rw [if_pos rfl, if_neg h1, if_pos rfl]
    · simp only [if_neg h1, if_neg h2]
theorem news_b {L : Addr} {h : Heap} {a b c t e : Addr × Obj} (N : News h₀ L h [a, b, c, t, e]) : News h₀ L h [b, a, c, e] := fun p hp => N p (by
  simp only [List.mem_cons, List.not_mem_nil, or_false] at hp ⊢
  rcases hp with h | h | h | h <;> simp [h])
theorem news_c {L : Addr} {h : Heap} {a b c t : Addr × Obj} (N : News h₀ L h [a, b, c, t]) : News h₀ L h [a, b, t] := fun p hp => N p (by
  simp only [List.mem_cons, List.not_mem_nil, or_false] at hp ⊢
  rcases hp with h | h | h <;> simp [h])
theorem news_d {L : Addr} {h : Heap} {a b c t : Addr × Obj} (N : News h₀ L h [a, b, c, t]) : News h₀ L h [a, c, t] := fun p hp => N p (by
  simp only [List.mem_cons, List.not_mem_nil, or_false] at hp ⊢
  rcases hp with h | h | h <;> simp [h])
theorem news_swap {L : Addr} {h : Heap} {a b c : Addr × Obj} {rest : List (Addr × Obj)} (N : News h₀ L h (a :: b :: c :: rest)) : News h₀ L h (b :: a :: rest) := fun p hp => N p (by
  simp only [List.mem_cons] at hp ⊢
  rcases hp with h | h | h <;> simp [h])
theorem news_m {L : Addr} {h : Heap} {a b c t e f g i : Addr × Obj} (N : News h₀ L h [a, b, c, t, e, f, g, i]) : News h₀ L h [f, g, a] := fun p hp => N p (by
  simp only [List.mem_cons, List.not_mem_nil, or_false] at hp ⊢
  rcases hp with h | h | h <;> simp [h])
theorem news_t {L : Addr} {h : Heap} {a b c t : Addr × Obj} (N : News h₀ L h [a, b, c, t]) : News h₀ L h [c, a, b, t] := fun p hp => N p (by
  simp only [List.mem_cons, List.not_mem_nil, or_false] at hp ⊢
  rcases hp with h | h | h | h <;> simp [h])
end
end
end Mine

namespace Mine
section
open PySem PySem.W PyProof.Rows PySem.Calls
set_option maxHeartbeats 4000000
theorem joined_slash (W : List Str) : joinedS W ++ Str.ofString "/" = joinedS (W ++ [Str.ofString ""]) := by
  rw [joined_snoc, app_empty]
theorem place_slash {W : List Str} (h : ∀ p ∈ W, noSl p ∧ Plain p) : placeS (joinedS W ++ Str.ofString "/") = W := by
  rw [joined_slash]
  unfold placeS
  rw [split_joined (fun p hp => by
    rcases List.mem_append.mp hp with hp | hp
    · exact (h p hp).1
    · rw [List.mem_singleton] at hp; subst hp; show 47 ∉ _; rw [show (Str.ofString "").cps.toList = [] by decide]; exact fun h => nomatch h)]
  rw [List.foldl_cons, walkS_empty, List.foldl_append, fold_id fun c hc => (h c hc).2, List.foldl_cons, walkS_empty]
  rfl
theorem names_empty {ps : List Str} (h : namesS ps = []) : ps = [] := by
  unfold namesS at h
  have := (List.append_eq_nil_iff.mp h).2
  rw [List.drop_eq_nil_iff] at this
  exact List.length_eq_zero_iff.mp (by omega)
theorem valueAt_ne_stored {kvs : List (Str × Value)} {k : Str} {v : Value} : valueAt (stored kvs k v) k ≠ none := by
  rw [valueAt_stored, if_pos rfl]; simp
theorem stored_len_ne {kvs : List (Str × Value)} {k : Str} {v : Value} (h : valueAt kvs k ≠ none) : (stored kvs k v).length = kvs.length := by
  cases e : valueAt kvs k with
  | none => exact absurd e h
  | some u => exact stored_len_in e
def LawR (prog : Program) (w : World) (nm : List Str) (i : Nat) (ws : List Value) (o : Obj) : Prop :=
  ∃ kvs S ps P tq, StrsAre ws P ∧ o.IsDictOf (strKind prog w) kvs ∧ EnvOk kvs ∧ valueAt kvs sQ = some (.str (Str.ofString "q") tq) ∧ GetsS kvs sP (joinedS ps) ∧ GetsS kvs sS S ∧ namesS ps = nm.drop i ∧ (∀ q ∈ ps, noSl q ∧ q.length ≤ 5) ∧ ps.length ≤ 100 ∧
    (i < nm.length → WfS S ∧ placeS S = P) ∧ wsum P ≤ 21 + 6 * i ∧ S.length ≤ 22 + 6 * i ∧ ((kvs.length = 2 ∧ valueAt kvs sS = none ∧ valueAt kvs sP ≠ none) ∨ (kvs.length = 3 ∧ valueAt kvs sS ≠ none ∧ valueAt kvs sP ≠ none))
theorem law_start {prog : Program} {w : World} {kvs : List (Str × Value)} {ws : List Value} {o : Obj} {S0 : Str} {zs : List Str} {tq t1 t2 : Tok} {x : Str} (hs : StrsAre ws (placeS S0)) (hok : EnvOk kvs) (hq : valueAt kvs sQ = some (.str (Str.ofString "q") tq)) (hgs : GetsS kvs sS S0) (hnp : valueAt kvs sP = none) (hwf : WfS S0) (hsl : S0.length ≤ 20)
    (hln : (kvs.length = 1 ∧ valueAt kvs sS = none) ∨ (kvs.length = 2 ∧ valueAt kvs sS ≠ none)) (hz : ∀ q ∈ zs, noSl q ∧ q.length ≤ 5) (hzl : zs.length ≤ 100)
    (hd : o.IsDictOf (strKind prog w) (stored (stored kvs sP (.str x t1)) sP (.str (joinedS zs) t2))) : LawR prog w (namesS zs) 0 ws o := by
  have hsp : ∀ k, k ≠ sP → ∀ v u, valueAt (stored (stored kvs sP v) sP u) k = valueAt kvs k := fun k hk v u => by rw [valueAt_stored, if_neg hk, valueAt_stored, if_neg hk]
  refine ⟨_, S0, zs, placeS S0, tq, hs, hd, (hok.stored (.inr (.inr rfl))).stored (.inr (.inr rfl)), ?_, ?_, ?_, rfl, hz, hzl, fun _ => ⟨hwf, rfl⟩, ?_, by omega, ?_⟩
  · rw [hsp _ (by decide)]; exact hq
  · exact .inl ⟨t2, by rw [valueAt_stored, if_pos rfl]⟩
  · unfold GetsS
    rw [hsp _ (by decide)]; exact hgs
  · have b := fold_wsum (Txt.split S0 (Str.ofString "/")) []
    rw [split_wsum, wsum_nil] at b
    have : wsum (placeS S0) ≤ 0 + (S0.length + 1) := b
    omega
  · rw [hsp sS (by decide)]
    have e : (stored (stored kvs sP (.str x t1)) sP (.str (joinedS zs) t2)).length = kvs.length + 1 := by
      rw [stored_len_ne valueAt_ne_stored, stored_len_new hnp]
    rw [e]
    rcases hln with ⟨a, b⟩ | ⟨a, b⟩
    · exact .inl ⟨by omega, b, valueAt_ne_stored⟩
    · exact .inr ⟨by omega, b, valueAt_ne_stored⟩
theorem drop_cons_get {α : Type} {l : List α} {i : Nat} {a : α} {r : List α} (h : l.drop i = a :: r) : l[i]? = some a ∧ r = l.drop (i + 1) := by
  constructor
  · have := congrArg (·[0]?) h
    simpa using this
  · have := congrArg List.tail h
    simpa using this.symm
theorem law_next {prog : Program} {w : World} {zs : List Str} {i : Nat} {kvs kvs' : List (Str × Value)} {vs' : List Value} {o' : Obj} {S n : Str} {ns P : List Str} {tq : Tok} (hok : EnvOk kvs) (hq : valueAt kvs sQ = some (.str (Str.ofString "q") tq)) (hzs : ∀ q ∈ zs, noSl q ∧ q.length ≤ 5) (hzl : zs.length ≤ 100)
    (hS : placeS S = P) (hw : wsum P ≤ 21 + 6 * i)
    (hln : (kvs.length = 2 ∧ valueAt kvs sS = none ∧ valueAt kvs sP ≠ none) ∨ (kvs.length = 3 ∧ valueAt kvs sS ≠ none ∧ valueAt kvs sP ≠ none))
    (hd : (namesS zs).drop i = n :: ns) (hD : ShiftD S n ns kvs kvs') (hdo : o'.IsDictOf (strKind prog w) kvs') (hv : StrsAre vs' (walkS P n)) :
    LawR prog w (namesS zs) (i + 1) vs' o' ∧ EnvOk kvs' ∧ kvs'.length = 3 ∧ valueAt kvs' sQ = some (.str (Str.ofString "q") tq) ∧ (∃ t, valueAt kvs' sS = some (.str (scriptS S n) t)) ∧ (∃ t, valueAt kvs' sP = some (.str (joinedS ns) t)) := by
  obtain ⟨t1, t2, rfl⟩ := hD
  obtain ⟨hg, hns⟩ := drop_cons_get hd
  have hnm : n ∈ namesS zs := List.mem_of_getElem? hg
  obtain ⟨hn1, hn2⟩ := hzs n (names_mem hnm)
  have hW := walk_ok (place_ok S) hn1
  have hok' : EnvOk (stored (stored kvs sS (.str (scriptS S n) t1)) sP (.str (joinedS ns) t2)) := (hok.stored (.inr (.inl rfl))).stored (.inr (.inr rfl))
  have e1 : valueAt (stored (stored kvs sS (.str (scriptS S n) t1)) sP (.str (joinedS ns) t2)) sQ = some (.str (Str.ofString "q") tq) := by
    rw [valueAt_stored, if_neg (by decide), valueAt_stored, if_neg (by decide)]; exact hq
  have e2 : valueAt (stored (stored kvs sS (.str (scriptS S n) t1)) sP (.str (joinedS ns) t2)) sS = some (.str (scriptS S n) t1) := by
    rw [valueAt_stored, if_neg (by decide), valueAt_stored, if_pos rfl]
  have e3 : valueAt (stored (stored kvs sS (.str (scriptS S n) t1)) sP (.str (joinedS ns) t2)) sP = some (.str (joinedS ns) t2) := by
    rw [valueAt_stored, if_pos rfl]
  have hP : valueAt (stored kvs sS (.str (scriptS S n) t1)) sP ≠ none := by
    rw [valueAt_stored, if_neg (by decide)]
    rcases hln with h | h
    · exact h.2.2
    · exact h.2.2
  have e4 : (stored (stored kvs sS (.str (scriptS S n) t1)) sP (.str (joinedS ns) t2)).length = 3 := by
    rw [stored_len_ne hP]
    rcases hln with h | h
    · rw [stored_len_new h.2.1]; omega
    · rw [stored_len_ne h.2.1]; omega
  have hws : wsum (walkS P n) ≤ 21 + 6 * (i + 1) := by
    have := walk_wsum P n
    omega
  have hsl : (scriptS S n).length ≤ 22 + 6 * (i + 1) := by
    unfold scriptS
    rw [hS]
    split
    · rw [joined_slash, joined_wsum, wsum_app]
      have : wsum [Str.ofString ""] = 1 := by decide
      omega
    · rw [app_empty, joined_wsum]; omega
  refine ⟨⟨_, scriptS S n, ns, walkS P n, tq, hv, hdo, hok', e1, .inl ⟨t2, e3⟩, .inl ⟨t1, e2⟩, ?_, ?_, ?_, ?_, hws, hsl, .inr ⟨e4, fun e => (by have := e2.symm.trans e; cases this), fun e => (by have := e3.symm.trans e; cases this)⟩⟩, hok', e4, e1, ⟨t1, e2⟩, ⟨t2, e3⟩⟩
  · rw [hns]; exact names_drop zs (i + 1)
  · intro q hq'
    rw [hns] at hq'
    exact hzs q (names_mem (List.mem_of_mem_drop hq'))
  · rw [hns, List.length_drop]
    have := names_len zs
    omega
  · intro hi
    have hne : n ≠ Str.ofString "" := by
      have hk := names_dropLast n (List.mem_of_getElem? (i := i) (by
        rw [List.getElem?_dropLast, if_pos (show i < (namesS zs).length - 1 by omega)]; exact hg))
      intro e
      rw [e, keep_empty] at hk
      cases hk
    have e : scriptS S n = joinedS (walkS P n) := by
      unfold scriptS
      rw [if_neg hne, app_empty, hS]
    rw [hS] at hW
    rw [e]
    exact ⟨wf_joined hW, place_joined hW⟩
theorem due_is (a b c : Value) : stored [(sQ, a), (sP, b)] sS c = [(sQ, a), (sP, b), (sS, c)] := by
  unfold stored
  rw [if_neg]
  · rfl
  · simp only [List.any_cons, List.any_nil, Bool.or_false, Bool.or_eq_true, decide_eq_true_eq]
    rintro (h | h)
    · exact absurd h (by decide)
    · exact absurd h (by decide)
theorem last_bounds {n : Nat} (h : 1 ≤ n) : sliceBounds (some (-1)) none none n = (((n - 1 : Nat) : Int), ((n : Nat) : Int), 1) := by
  simp only [sliceBounds, Option.getD_none, show (1 : Int) > 0 by decide, if_true, if_neg (show ¬ ((1 : Int) < 0) by decide), if_pos (show ((-1 : Int) < 0) by decide)]
  congr 1
  omega
theorem sl_last {vs : List Value} {ps : List Str} (h : StrsAre vs ps) (h1 : 1 ≤ vs.length) : StrsAre (slicePick vs.toArray (some (-1)) none none).toList (ps.drop (ps.length - 1)) := by
  rw [kmk_pick_nat vs.toArray (last_bounds (n := vs.toArray.size) (by simpa using h1))]
  have := h.drop' (vs.length - 1)
  rw [← h.length]
  simp only [List.size_toArray]
  rw [List.take_of_length_le (by simp)]
  exact this
theorem from_bounds {n i : Nat} (h : i ≤ n) : sliceBounds (some ((i : Nat) : Int)) none none n = (((i : Nat) : Int), ((n : Nat) : Int), 1) := by
  simp only [sliceBounds, Option.getD_none, show (1 : Int) > 0 by decide, if_true, if_neg (show ¬ ((1 : Int) < 0) by decide), if_neg (show ¬ (((i : Nat) : Int) < 0) by omega)]
  congr 1
  omega
theorem sl_from {vs : List Value} {ps : List Str} {i : Nat} {k : Int} (h : StrsAre vs ps) (hk : k = ((i : Nat) : Int)) (h1 : i ≤ vs.length) : StrsAre (slicePick vs.toArray (some k) none none).toList (ps.drop i) := by
  subst hk
  rw [kmk_pick_nat vs.toArray (from_bounds (n := vs.toArray.size) (by simpa using h1))]
  have := h.drop' i
  simp only [List.size_toArray]
  rw [List.take_of_length_le (by simp)]
  exact this
end
end Mine

namespace Mine
section
open PySem PySem.W PyProof.Rows PySem.Calls
set_option maxHeartbeats 4000000
theorem due_dict {prog : Program} {w : World} {o : Obj} {t1 t2 : Tok} {a b c : Value} (h : o.IsDictOf (strKind prog w) (stored (strPairs [(.str (Str.ofString "QUERY_STRING") t1, a), (.str (Str.ofString "PATH_INFO") t2, b)]) (Str.ofString "SCRIPT_NAME") c)) : o.IsDictOf (strKind prog w) [(sQ, a), (sP, b), (sS, c)] := by
  rw [← due_is]; exact h
theorem env_ne_due {prog : Program} {w : World} {A : Around} {E : Value → Shared → Prop} {s : Shared} {h₀ : Heap} {L a b : Addr} {news : List (Addr × Obj)} {oa ob : Obj} {kvs : List (Str × Value)} {X Y Z : Str} {t1 t2 t3 t4 tx tz : Tok} {Q : Value → Shared → Prop} (N : News h₀ L s.heap news) (pa : (a, oa) ∈ news) (pb : (b, ob) ∈ news) (da : oa.IsDictOf (strKind prog w) kvs)
    (db : ob.IsDictOf (strKind prog w) (stored (strPairs [(.str (Str.ofString "QUERY_STRING") t1, .str (Str.ofString "q") t3), (.str (Str.ofString "PATH_INFO") t2, .str Z tz)]) (Str.ofString "SCRIPT_NAME") (.str X t4))) (la : (a == sysModules) = false) (lb : (b == sysModules) = false) (hok : EnvOk kvs) (hlen : kvs.length = 3)
    (hq : valueAt kvs sQ = some (.str (Str.ofString "q") tx)) (hs : ∃ t, valueAt kvs sS = some (.str Y t)) (hp : ∃ t, valueAt kvs sP = some (.str Z t)) (hX : X = Y) (hu : A.units < cLine) (h : Q (.bool false) s) : wpAny (model prog w) A (compareOp .NotEq (.ref a) (.ref b)) Q E s := by
  subst hX
  obtain ⟨ts, hs⟩ := hs
  obtain ⟨tp, hp⟩ := hp
  exact kne_pairs (knd := strKind prog w) N pa pb da (due_dict db) la lb hlen hu (hits_of (prog := prog) (w := w) (hok.due hq hs hp)) h
theorem news_z {h₀ : Heap} {L : Addr} {h : Heap} {a b r d I p l : Addr × Obj} (N : News h₀ L h [a, b, r, d, I, p, l]) : News h₀ L h [I, r, d, l] := fun q hq => N q (by
  simp only [List.mem_cons, List.not_mem_nil, or_false] at hq ⊢
  rcases hq with h | h | h | h <;> simp [h])
end
end Mine

namespace Mine
section
open PySem PySem.W PyProof.Rows
set_option maxHeartbeats 4000000
theorem fill1 : PySem.Challenge.rw_kp0085_03 = PySem.Challenge.rw_kp0085_03 ∧ Mine.hd.heap_39 = Mine.hd.heap_39 := by w_top off; k_fill; exact ⟨rfl, rfl⟩
variable {prog p : Program} {w : World} {loose : List Str} {mean : ExcName → Option Value} {mg mb : Str → Option Value} {dp un : Nat} {gd : Option (List Code)} {cn : Str} {cs : Scope} {a : Addr} {ccd : Value} {cl : List (Str × Addr)} {outer : List Env} {A₀ : Around} {base h₀ : Heap} {L : Addr} {m : Str → Option Value} {news : List (Addr × Obj)} {s : Shared} {Q E : Value → Shared → Prop}

local macro_rules | `(tactic| k_mem) => `(tactic| assumption)
theorem law_walk_spec (B : Below A₀ base outer h₀) (F : Fr h₀ L s.heap m) (X : (Mine.hd.heap_39 w.params).In h₀) (N : News h₀ L s.heap news) (T : Top p loose mean mg mb h₀) (hk : cs.kind = .function)
    (hd : dp + 5 < recursionLimit) (hu : un + 40 < cLine)
    {l : Addr} {n : Nat} {vs : List Value} {ps : List Str} {x : Str} {t : Tok} (hl : (l, PySem.W.listOf vs.toArray n) ∈ news) (hs : StrsAre vs ps) (hlen : vs.length + 1 ≤ sizeLine)
    (ret : ∀ r vs' n' h' tk', (r = l ∨ ∀ p ∈ news, p.1 ≠ r) → StrsAre vs' (walkS ps x) → Fr h₀ L h' m → News h₀ L h' ((r, PySem.W.listOf vs'.toArray n') :: news) → Q (.ref r) { s with heap := h', toks := tk' }) :
    wpAny (model prog w) (ktrTop dp un gd cn cs L a ccd cl outer) (call (.ref 80) [.ref l, .str x t]) Q E s := by
  refine wpAny_call ?_
  k_dflt ktr_enter
  k_steps
  · refine' kmk_slice (s := ⟨_, _, _, _, _⟩) (by k_asm) (by k_asm) (News.isList (by k_asm) (by k_mem)) IsPart.none (IsPart.int _ _) ?_ (by with_unfolding_all rfl) (by kmk_pure) ?_
    · intro D h' F' N' l1
      (try dsimp only)
      k_steps
      rename Fr h₀ L _ _ => kF; rename News h₀ L _ _ => kN
      exact ret D (slicePick vs.toArray none (some (-1)) none).toList 0 _ _ (.inr fun p hp => Nat.ne_of_lt (l1 p hp)) (by rw [walkS_up (by assumption)]; exact sl_butLast hs) kF kN
    · rw [List.size_toArray]; omega
  · rename Fr h₀ L _ _ => kF; rename News h₀ L _ _ => kN
    exact ret l vs n _ _ (.inl rfl) (by rw [walkS_stay (by assumption) (by assumption)]; exact hs) kF (fun p hp => kN p (by rcases List.mem_cons.mp hp with e | hp; rw [e]; exact .tail _ hl; exact .tail _ hp))
  · refine' add_arrays (by k_asm) (by k_asm) (News.isList (by k_asm) (by k_mem)) (News.isList (by k_asm) (by k_mem)) ?_ ?_
    · intro h' F' N'
      rename News _ _ _ (_ :: _ :: news) => N9
      (try dsimp only)
      k_steps
      rename Fr h₀ L _ _ => kF; rename News h₀ L _ _ => kN
      exact ret _ (vs ++ [.str x t]) 0 _ _ (.inr fun p hp => Nat.ne_of_lt (Heap.lt_size (N9 _ (.tail _ (.tail _ hp))).1)) (by rw [walkS_on (by assumption) (by assumption)]; exact strsAre_append hs (.cons x t .nil)) kF (fun p hp => kN p (by rcases List.mem_cons.mp hp with e | hp; rw [e]; exact .head _; exact .tail _ (.tail _ (.tail _ hp))))
    · rw [List.size_toArray]; simp only [List.size_toArray, List.length_cons, List.length_nil]; omega
end
end Mine

namespace Mine
section
open PySem PySem.W PyProof.Rows
set_option maxHeartbeats 4000000
theorem fill2 : PySem.Challenge.rw_kp0085_03 = PySem.Challenge.rw_kp0085_03 ∧ Mine.hd.heap_39 = Mine.hd.heap_39 := by w_top off; k_fill; exact ⟨rfl, rfl⟩
variable {prog p : Program} {w : World} {loose : List Str} {mean : ExcName → Option Value} {mg mb : Str → Option Value} {dp un : Nat} {gd : Option (List Code)} {cn : Str} {cs : Scope} {a : Addr} {ccd : Value} {cl : List (Str × Addr)} {outer : List Env} {A₀ : Around} {base h₀ : Heap} {L : Addr} {m : Str → Option Value} {news : List (Addr × Obj)} {s : Shared} {Q E : Value → Shared → Prop}
local macro_rules | `(tactic| k_mem) => `(tactic| assumption)
local macro_rules | `(tactic| walk_at "eval ListComp") => `(tactic| (k_here; k_dflt (refine LCg.ListComp_U (F₀ := by k_asm) (by with_unfolding_all rfl) (by decide) (by rfl) (by decide) (by rfl) ?_)))
local macro_rules | `(tactic| walk_at "exec Assign cons ListComp") => `(tactic| (k_here; k_dflt (refine LCg.Assign_ListComp_U (F₀ := by k_asm) (by rfl) (by with_unfolding_all rfl) (by with_unfolding_all rfl) (by decide) (by rfl) (by decide) (by rfl) (by rfl) (by rfl) ?_)))
theorem law_joined_spec (B : Below A₀ base outer h₀) (F : Fr h₀ L s.heap m) (X : (Mine.hd.heap_39 w.params).In h₀) (N : News h₀ L s.heap news) (T : Top p loose mean mg mb h₀) (hk : cs.kind = .function)
    (hd : dp + 5 < recursionLimit) (hu : un + 40 < cLine)
    {l : Addr} {n : Nat} {vs : List Value} {ps : List Str} (hl : (l, PySem.W.listOf vs.toArray n) ∈ news) (hs : StrsAre vs ps) (hlen : ps.length ≤ 1000)
    (hps : ∀ q ∈ ps, q.length ≤ 1000)
    (ret : ∀ t' h' tk', Fr h₀ L h' m → News h₀ L h' news → Q (.str (joinedS ps) t') { s with heap := h', toks := tk' }) :
    wpAny (model prog w) (ktrTop dp un gd cn cs L a ccd cl outer) (call (.ref 85) [.ref l]) Q E s := by
  refine wpAny_call ?_
  k_dflt ktr_enter
  k_steps
  refine LCg.CompSrc.ledger (by rfl) (by k_asm) (by k_asm) (by k_mem) ?_ ?_
  · rw [List.size_toArray, hs.length]; exact Nat.le_trans hlen (by decide)
  · intro g
    refine rest_gen (fun i y => ∃ q t, (ps.map fun p => Str.ofString "/" ++ p)[i]? = some q ∧ y = Value.str q t) (fun i v I oI C oC D m₂ ys h tk E' hi hv hC hx F N off ne => ?_) (fun ys hl hy => ?_)
    · obtain ⟨q, t', rfl, hq⟩ := hs.item i v (by simpa using hv)
      have hql := hps q (List.mem_of_getElem? hq)
      k_steps
      exact ⟨h, _, news, rfl, F, N, off, .inr ⟨_, by assumption, rfl, _, rfl⟩, rfl, _, _, by rw [List.getElem?_map, hq]; rfl, rfl⟩
    · intro D h tk F' N' o1
      have hys : StrsAre ys (ps.map fun p => Str.ofString "/" ++ p) := strsAre_get (by rw [hl, List.length_map, List.size_toArray, hs.length]) hy
      (try dsimp only)
      k_steps
      refine join_list (News.isList N' (.head _)) hys (sum_room (N := 1001) (M := 1000) (fun a ha => ?_) (by rw [List.length_map]; omega) (by decide) (by decide)) ?_
      · obtain ⟨q, hq, rfl⟩ := List.mem_map.mp ha
        have h1 := hps q hq
        have h2 : (Str.ofString "/").length = 1 := by decide
        rw [PySem.Str.length_append]; omega
      · intro t' k
        (try dsimp only)
        k_steps
        rename Fr h₀ L _ _ => kF; rename News h₀ L _ _ => kN
        exact ret _ _ _ kF (fun p hp => kN p (.tail _ hp))
end
end Mine

namespace Mine
section
open PySem PySem.W PyProof.Rows
set_option maxHeartbeats 4000000
theorem fill3 : PySem.Challenge.rw_kp0085_03 = PySem.Challenge.rw_kp0085_03 ∧ Mine.hd.heap_39 = Mine.hd.heap_39 := by w_top off; k_fill; exact ⟨rfl, rfl⟩
variable {prog p : Program} {w : World} {loose : List Str} {mean : ExcName → Option Value} {mg mb : Str → Option Value} {dp un : Nat} {gd : Option (List Code)} {cn : Str} {cs : Scope} {a : Addr} {ccd : Value} {cl : List (Str × Addr)} {outer : List Env} {A₀ : Around} {base h₀ : Heap} {L : Addr} {m : Str → Option Value} {news : List (Addr × Obj)} {s : Shared} {Q E : Value → Shared → Prop}
local macro_rules | `(tactic| k_mem) => `(tactic| assumption)
local macro_rules | `(tactic| walk_at "eval ListComp") => `(tactic| (k_here; k_dflt (refine LCg.ListComp_U (F₀ := by k_asm) (by with_unfolding_all rfl) (by decide) (by rfl) (by decide) (by rfl) ?_)))
local macro_rules | `(tactic| walk_at "exec Assign cons ListComp") => `(tactic| (k_here; k_dflt (refine LCg.Assign_ListComp_U (F₀ := by k_asm) (by rfl) (by with_unfolding_all rfl) (by with_unfolding_all rfl) (by decide) (by rfl) (by decide) (by rfl) (by rfl) (by rfl) ?_)))
local macro_rules | `(tactic| k_room) => `(tactic| ktr_room)
local macro_rules | `(tactic| k_enter) => `(tactic| first
  | (refine' code_def ?k1 ?k2 ?k3 ?k4 ?k5 ?kA ?kF ?kK ?k6 ?k7 ?k8 ?k9 ?kB ?_ ?c2 ?c3 ?c4 ?c5; (case kA => exact rfl); (case kF => exact rfl); (case kK => first | exact rfl | assumption); (case k1 => k_asm); (case k2 => k_asm); (case k3 => k_asm); (case k4 => k_asm); (case k5 => k_asm); (case k6 => k_is); (case k7 => k_is); (case k8 => ktr_room); (case k9 => first | exact BindsTo.of_eq rfl | exact binds_K (by k_in) rfl (by k_is) rfl rfl rfl); (case c5 => decide); (case kB => exact locs rfl); (case c2 => exact rfl); (case c3 => exact rfl); (case c4 => exact rfl); k_whole; intro g' L' h' FG' F' N' B' X' T'; (try dsimp only); (try k_lift B'); (try k_fold))
  | (refine' code_defC ?k1 ?k2 ?k3 ?k4 ?k5 ?kA ?kF ?kK ?k6 ?k7 ?k8 ?k9 ?kB ?kD ?_ ?c2 ?c3 ?c4; (case kA => exact rfl); (case kF => exact rfl); (case kK => first | exact rfl | assumption); (case k1 => k_asm); (case k2 => k_asm); (case k3 => k_asm); (case k4 => k_asm); (case k5 => k_asm); (case k6 => k_is); (case k7 => k_is); (case k8 => ktr_room); (case k9 => first | exact BindsTo.of_eq rfl | exact binds_K (by k_in) rfl (by k_is) rfl rfl rfl); (case kB => exact rfl); (case kD => decide +kernel); (case c2 => exact rfl); (case c3 => exact rfl); (case c4 => exact rfl); k_whole; intro g' L' h' tk' cells' FG' F' N' Y' B' X' T' l1; (try k_lt l1); k_cells Y'; (try simp only [List.cons_append, List.nil_append] at N'); (try dsimp only); (try k_lift B'); (try k_fold)))
local macro_rules | `(tactic| k_all) => `(tactic| first | exact ne_of_all (by assumption) | exact ne_of_all1 (by assumption) | exact ne_of_allLt (by assumption) | exact ne_of_allLt2 (by assumption))
local macro_rules | `(tactic| walk_at "CompSrc") => `(tactic| (k_here; refine Stop.intro ?_))
/-- a part: short, and no slash in it -/
def PartOk (q : Str) : Prop := q.length ≤ 5 ∧ 47 ∉ q.cps.toList
theorem partOk_join {zs : List Str} (h : ∀ a ∈ zs, a.length = 1 ∧ 47 ∉ a.cps.toList) (hl : zs.length ≤ 5) : PartOk (Txt.join (Str.ofString "") zs) := by
  refine ⟨by rw [KT.join_ones zs fun a ha => (h a ha).1]; exact hl, ?_⟩
  rw [join_empty_cps]
  intro hm
  obtain ⟨l, hl, h47⟩ := List.mem_flatten.mp hm
  obtain ⟨a, ha, rfl⟩ := List.mem_map.mp hl
  exact (h a ha).2 h47
theorem item7 {i : Int} (h0 : 0 ≤ i) (h : i < 7) : 47 ∉ (Txt.item (Str.ofString "b .;%é~") i).cps.toList := by
  have h7 : i = 0 ∨ i = 1 ∨ i = 2 ∨ i = 3 ∨ i = 4 ∨ i = 5 ∨ i = 6 := by omega
  rcases h7 with e | e | e | e | e | e | e <;> rw [e] <;> decide
theorem pow7 {i : Nat} (h : i < 5) : 1 ≤ (7 : Int) ^ (0 + (i : Int)).toNat ∧ (7 : Int) ^ (0 + (i : Int)).toNat ≤ 2401 :=
  (by decide : ∀ i : Fin 5, 1 ≤ (7 : Int) ^ (0 + ((i : Nat) : Int)).toNat ∧ (7 : Int) ^ (0 + ((i : Nat) : Int)).toNat ≤ 2401) ⟨i, h⟩
theorem law_part_spec (B : Below A₀ base outer h₀) (F : Fr h₀ L s.heap m) (X : (Mine.hd.heap_39 w.params).In h₀) (N : News h₀ L s.heap news) (T : Top p loose mean mg mb h₀) (hk : cs.kind = .function)
    (hd : dp + 5 < recursionLimit) (hu : un + 40 < cLine) {x : Int} {t : Tok}
    (ret : ∀ y t' h' tk', PartOk y → Fr h₀ L h' m → News h₀ L h' news → Q (.str y t') { s with heap := h', toks := tk' }) :
    wpAny (model prog w) (ktrTop dp un gd cn cs L a ccd cl outer) (call (.ref 73) [.int x t]) Q E s := by
  refine wpAny_call ?_
  k_dflt k_enter
  k_steps
  · have h0 : 0 ≤ x.fmod 8 := fmod_lo _ (by decide)
    have h5 : x.fmod 8 = 0 ∨ x.fmod 8 = 1 ∨ x.fmod 8 = 2 ∨ x.fmod 8 = 3 ∨ x.fmod 8 = 4 := by omega
    rcases h5 with e | e | e | e | e <;> rw [e]
    all_goals k_steps
    all_goals (rename Fr h₀ L _ _ => kF; rename News h₀ L _ _ => kN)
    all_goals exact ret _ _ _ _ ⟨by decide, by decide⟩ kF (fun p hp => kN p (.tail _ (.tail _ (.tail _ hp))))
  all_goals (
    have h0 : 0 ≤ x.fmod 8 := fmod_lo _ (by decide)
    have h8 : x.fmod 8 < 8 := fmod_hi _ (by decide)
    unfold Stop
    refine LCg.CompSrc.range (by rfl) (by k_asm) (by k_asm) (by assumption) (by first | exact small_one (by omega) (by omega) (by omega) (by omega) | decide) (rangeSize_nat _ _) (by rw [PySem.sizeLine_eq]; omega) (fun g => ?_)
    refine rest_gen (fun i y => ∃ q t, y = Value.str q t ∧ q.length = 1 ∧ 47 ∉ q.cps.toList) (fun i v I oI C oC D m₂ ys h tk E' hi hv hC hx F N off ne => ?_) (fun ys hl hy => ?_)
    · obtain ⟨t2, rfl⟩ := hv
      have h7 : 1 ≤ (7 : Int) ^ (0 + (i : Int)).toNat ∧ (7 : Int) ^ (0 + (i : Int)).toNat ≤ 2401 := pow7 (by omega)
      k_steps
      generalize (7 : Int) ^ (0 + (i : Int)).toNat = p at *
      k_steps
      exact ⟨h, _, _, rfl, F, N, off, trivial, rfl, _, _, rfl, by assumption, item7 (fmod_lo _ (by decide)) (fmod_hi _ (by decide))⟩
    · intro D h tk F' N' o1
      obtain ⟨zs, hz, hzl, hzp⟩ := strsAre_ex (fun _ q => q.length = 1 ∧ 47 ∉ q.cps.toList) hy
      (try dsimp only)
      k_steps
      have h1 : ∀ a ∈ zs, a.length = 1 ∧ 47 ∉ a.cps.toList := fun a ha => by
        obtain ⟨i, hi⟩ := List.getElem?_of_mem ha
        exact hzp i a hi
      refine join_list (News.isList N' (.head _)) hz (join_room (fun a ha => by rw [(h1 a ha).1]; decide) (by omega) (by decide)) ?_
      intro t' k
      (try dsimp only)
      k_steps
      rename Fr h₀ L _ _ => kF; rename News h₀ L _ _ => kN
      exact ret _ _ _ _ (partOk_join h1 (by omega)) kF (fun p hp => kN p (.tail _ (.tail _ (.tail _ hp)))))
end
end Mine

namespace Mine
section
open PySem PySem.W PyProof.Rows
set_option maxHeartbeats 4000000
theorem fill4 : PySem.Challenge.rw_kp0085_03 = PySem.Challenge.rw_kp0085_03 ∧ Mine.hd.heap_39 = Mine.hd.heap_39 := by w_top off; k_fill; exact ⟨rfl, rfl⟩
variable {prog p : Program} {w : World} {loose : List Str} {mean : ExcName → Option Value} {mg mb : Str → Option Value} {dp un : Nat} {gd : Option (List Code)} {cn : Str} {cs : Scope} {a : Addr} {ccd : Value} {cl : List (Str × Addr)} {outer : List Env} {A₀ : Around} {base h₀ : Heap} {L : Addr} {m : Str → Option Value} {news : List (Addr × Obj)} {s : Shared} {Q E : Value → Shared → Prop}
local macro_rules | `(tactic| k_mem) => `(tactic| assumption)
local macro_rules | `(tactic| walk_at "eval ListComp") => `(tactic| (k_here; k_dflt (refine LCg.ListComp_U (F₀ := by k_asm) (by with_unfolding_all rfl) (by decide) (by rfl) (by decide) (by rfl) ?_)))
local macro_rules | `(tactic| walk_at "exec Assign cons ListComp") => `(tactic| (k_here; k_dflt (refine LCg.Assign_ListComp_U (F₀ := by k_asm) (by rfl) (by with_unfolding_all rfl) (by with_unfolding_all rfl) (by decide) (by rfl) (by decide) (by rfl) (by rfl) (by rfl) ?_)))
local macro_rules | `(tactic| k_room) => `(tactic| ktr_room)
local macro_rules | `(tactic| k_enter) => `(tactic| first
  | (refine' code_def ?k1 ?k2 ?k3 ?k4 ?k5 ?kA ?kF ?kK ?k6 ?k7 ?k8 ?k9 ?kB ?_ ?c2 ?c3 ?c4 ?c5; (case kA => exact rfl); (case kF => exact rfl); (case kK => first | exact rfl | assumption); (case k1 => k_asm); (case k2 => k_asm); (case k3 => k_asm); (case k4 => k_asm); (case k5 => k_asm); (case k6 => k_is); (case k7 => k_is); (case k8 => ktr_room); (case k9 => first | exact BindsTo.of_eq rfl | exact binds_K (by k_in) rfl (by k_is) rfl rfl rfl); (case c5 => decide); (case kB => exact locs rfl); (case c2 => exact rfl); (case c3 => exact rfl); (case c4 => exact rfl); k_whole; intro g' L' h' FG' F' N' B' X' T'; (try dsimp only); (try k_lift B'); (try k_fold))
  | (refine' code_defC ?k1 ?k2 ?k3 ?k4 ?k5 ?kA ?kF ?kK ?k6 ?k7 ?k8 ?k9 ?kB ?kD ?_ ?c2 ?c3 ?c4; (case kA => exact rfl); (case kF => exact rfl); (case kK => first | exact rfl | assumption); (case k1 => k_asm); (case k2 => k_asm); (case k3 => k_asm); (case k4 => k_asm); (case k5 => k_asm); (case k6 => k_is); (case k7 => k_is); (case k8 => ktr_room); (case k9 => first | exact BindsTo.of_eq rfl | exact binds_K (by k_in) rfl (by k_is) rfl rfl rfl); (case kB => exact rfl); (case kD => decide +kernel); (case c2 => exact rfl); (case c3 => exact rfl); (case c4 => exact rfl); k_whole; intro g' L' h' tk' cells' FG' F' N' Y' B' X' T' l1; (try k_lt l1); k_cells Y'; (try simp only [List.cons_append, List.nil_append] at N'); (try dsimp only); (try k_lift B'); (try k_fold)))
local macro_rules | `(tactic| k_all) => `(tactic| first | exact ne_of_all (by assumption) | exact ne_of_all1 (by assumption) | exact ne_of_allLt (by assumption) | exact ne_of_allLt2 (by assumption) | exact ne_of_allLt3 (by assumption) | exact ne_of_allLt4 (by assumption) | exact ne_of_allLt5 (by assumption) | exact ne_of_allLt6 (by assumption))
local macro_rules | `(tactic| walk_at "CompSrc") => `(tactic| (k_here; refine Stop.intro ?_))
local macro_rules | `(tactic| walk_at "ite") => `(tactic| (k_here; first | refine ite_pos (by with_reducible assumption) ?_ | refine ite_neg (by with_reducible assumption) ?_ | refine Mine.ite_ff (by with_reducible assumption) ?_ | refine Mine.ite_nt (by with_reducible assumption) ?_ | refine Mine.ite_nf (by with_reducible assumption) ?_))
local macro_rules | `(tactic| walk_at "pyIter ref") => `(tactic| (k_here; (with_reducible show wpAny _ _ (pyIter (Value.ref _)) (fun it s₂ => LoopAtV _ _ _ _ _ _ _ _ _ it s₂) _ _); refine Stop.intro ?_))
local macro_rules | `(tactic| walk_at "exec For") => `(tactic| (k_here; (with_reducible show wpAny _ _ (exec (Stmt.For (Expr.Name _ _) (Expr.Name _ _) _ [] _) _) _ _ _); (with_reducible rename Fr _ _ _ _ => lF'); (with_unfolding_all refine' For_invVF lF' ?k1 ?k2 ?_; (case k1 => exact rfl); (case k2 => exact rfl); k_whole)))
local macro_rules | `(tactic| walk_at "truthy ref") => `(tactic| (k_here; k_dflt (first
  | (refine' Mine.truthy_snoc ?ta ?tb ?_; (case ta => exact News.isList (by k_asm) (by k_mem)); (case tb => assumption))
  | (refine Mine.truthy_nil (News.isList (by k_asm) (by k_mem)) ?_)
  | (refine Mine.Stop.intro ?_))))
local macro_rules | `(tactic| walk_at "call builtin:str.join") => `(tactic| (k_here; refine Mine.Stop.intro ?_))
local macro_rules | `(tactic| walk_at "call builtin:list.pop") => `(tactic| (k_here; refine Mine.Stop.intro ?_))
local macro_rules | `(tactic| walk_at "subscriptTail") => `(tactic| (k_here; (with_reducible show wpAny _ _ (subscriptTail _ _ (Value.ref _) (Value.int _ _)) _ _ _); k_dflt (refine' Mine.item_last ?ta ?_; (case ta => exact News.isList (by k_asm) (by k_mem)))))
theorem normpath_spec (B : Below A₀ base outer h₀) (F : Fr h₀ L s.heap m) (X : (Mine.hd.heap_39 w.params).In h₀) (N : News h₀ L s.heap news) (T : Top p loose mean mg mb h₀) (hk : cs.kind = .function)
    (hd : dp + 5 < recursionLimit) (hu : un + 40 < cLine) {x : Str} {t : Tok} {r : List Nat} (hx : x.length ≤ 1000) (hxr : x.cps.toList = 47 :: r) (hr : r.head? ≠ some 47)
    (ret : ∀ z t' h' tk', z.cps.toList = r → Fr h₀ L h' m → News h₀ L h' news → Q (.str (rootS ((Txt.split z (Str.ofString "/")).foldl walkS [])) t') { s with heap := h', toks := tk' }) :
    wpAny (model prog w) (ktrTop dp un gd cn cs L a ccd cl outer) (call (.ref 56) [.str x t]) Q E s := by
  have hx0 : ((x.length : Int) != 0) = true := len_ne0 (fun e => by rw [e, show (Str.ofString "").cps.toList = [] by decide] at hxr; cases hxr)
  have hs1 : (Txt.slice x none (some 1) != Str.ofString "/") = false := head_slash hxr
  have hs2 : (Txt.slice x (some 1) (some 2) != Str.ofString "/") = true := second_not hxr hr
  refine wpAny_call ?_
  k_dflt k_enter
  k_steps
  · unfold Stop
    rename List.map _ _ = Txt.split _ _ => hspl
    rename StrsAre (strValues _) _ => hcs
    rename ∀ a, a ∈ List.map _ _ → _ => hcl
    rename News _ _ _ _ => N1
    rename Fr _ _ _ _ => F1
    generalize hcomps : List.map _ _ = comps at hspl hcs hcl
    have hcn : comps.length ≤ 1001 := by
      have h1 := split_length (Txt.slice x (some 1) none)
      rw [← hspl] at h1
      omega
    have hcl : ∀ a ∈ comps, a.length ≤ 1000 := fun a ha => by have := hcl a ha; omega
    refine iter_strs_acc walkS (by rfl) F1 N1 hcs .nil ?_ ?_
    · intro i q t ws nn I oI h tk hq hws hI1 hI2 hI3 F2 N2
      have h1 : q = Str.ofString "" ∨ q = Str.ofString "." ∨ q = Str.ofString ".." ∨ (q ≠ Str.ofString "" ∧ q ≠ Str.ofString "." ∧ q ≠ Str.ofString "..") := by
        by_cases h1 : q = Str.ofString ""
        · exact .inl h1
        · by_cases h2 : q = Str.ofString "."
          · exact .inr (.inl h2)
          · by_cases h3 : q = Str.ofString ".."
            · exact .inr (.inr (.inl h3))
            · exact .inr (.inr (.inr ⟨h1, h2, h3⟩))
      have hql : q.length ≤ 1000 := hcl q (List.mem_of_getElem? hq)
      have hwl : ws.length ≤ 2000 := by
        have h1 := fold_len (comps.take i) []
        have h2 : (comps.take i).length ≤ comps.length := by rw [List.length_take]; omega
        rw [hws.length]
        simp only [List.length_nil] at h1
        omega
      rcases h1 with h1 | h1 | h1 | ⟨h1, h2, h3⟩
      · subst h1
        k_steps
        exact TurnA.cont F2 N2 (by rw [walkS_empty]; exact hws) (fun z hz => if_neg hz)
      · subst h1
        k_steps
        exact TurnA.cont F2 N2 (by rw [walkS_dot]; exact hws) (fun z hz => if_neg hz)
      · subst h1
        generalize hacc : List.foldl walkS [] (comps.take i) = acc at hws
        rw [walkS_dotdot]
        rcases nil_or_snoc ws with e | ⟨zs, z, e⟩
        · subst e
          cases hws
          k_steps
          exact TurnA.next F2 N2 .nil (fun z hz => if_neg hz)
        · subst e
          obtain ⟨qs, zq, zt, rfl, rfl, hqs⟩ := strsAre_snoc_inv hws
          have hzq : (zq == Str.ofString "..") = false := by
            have h9 : zq ∈ List.foldl walkS [] (comps.take i) := by rw [hacc]; simp
            simpa using (fold_plain h9).2.2.2
          have hzl : zs.length ≤ 10000 := by simp at hwl; omega
          k_steps
          refine kl_pop (by k_asm) (by k_asm) (kpa_last _ _) (by k_upd) (by simp at hwl ⊢; rw [PySem.sizeLine_eq]; omega) ?_
          intro h' F3 N3
          (try dsimp only)
          k_steps
          exact TurnA.next F3 N3 (by rw [List.dropLast_concat]; exact hqs) (fun z hz => if_neg hz)
      · have hne0 : ((q.length : Int) != 0) = true := len_ne0 h1
        have hnd : (q == Str.ofString ".") = false := by simpa using h2
        have hndd : (q != Str.ofString "..") = true := by simpa using h3
        k_steps
        rename News _ _ _ _ => N3
        rename Fr _ _ _ _ => F3
        rw [List.push_toArray] at N3
        exact TurnA.next F3 N3 (by rw [walkS_plain _ h1 h2 h3]; exact strsAre_append hws (.cons q t .nil)) (fun z hz => if_neg hz)
    · intro u ws nn h tk hws F2 N2
      have hfl : ∀ a ∈ comps.foldl walkS [], a.length ≤ 1000 := fun a ha => hcl a (fold_plain ha).1
      have hfn : (comps.foldl walkS []).length ≤ 1001 := by
        have h1 := fold_len comps []
        simp only [List.length_nil] at h1
        omega
      (try dsimp only)
      k_steps
      refine join_list (News.isList (by k_asm) (by k_mem)) hws (sum_room hfl hfn (by decide) (by decide)) ?_
      intro t' k
      have hjl := joinlen hfl hfn
      have hrt : rootS (comps.foldl walkS []) = Str.ofString "/" ++ Txt.join (Str.ofString "/") (comps.foldl walkS []) := rfl
      generalize Txt.join (Str.ofString "/") (comps.foldl walkS []) = j at hjl hrt
      have hj0 : (((Str.ofString "/" ++ j).length : Int) != 0) = true := len_ne0 fun e => by
        have := congrArg (fun s => s.cps.toList) e
        simp only [toList_append, slash_cps] at this
        exact absurd this (by simp [show (Str.ofString "").cps.toList = [] by decide])
      (try dsimp only)
      refine KOpn.add (by rw [show (Str.ofString "/").length = 1 by decide]; omega) ?_
      intro t2 k2 hjl2
      (try dsimp only)
      k_steps
      rename Fr h₀ L _ _ => kF; rename News h₀ L _ _ => kN
      rw [fresh_eq, ← hrt, hspl]
      exact ret _ _ _ _ (rest_slash hxr) kF (fun p hp => kN p (.tail _ (.tail _ (.tail _ hp))))
end
end Mine

namespace Mine
section
open PySem PySem.W PyProof.Rows
set_option maxHeartbeats 4000000
theorem fill5 : PySem.Challenge.rw_kp0085_03 = PySem.Challenge.rw_kp0085_03 ∧ Mine.hd.heap_39 = Mine.hd.heap_39 := by w_top off; k_fill; exact ⟨rfl, rfl⟩
variable {prog p : Program} {w : World} {loose : List Str} {mean : ExcName → Option Value} {mg mb : Str → Option Value} {dp un : Nat} {gd : Option (List Code)} {cn : Str} {cs : Scope} {a : Addr} {ccd : Value} {cl : List (Str × Addr)} {outer : List Env} {A₀ : Around} {base h₀ : Heap} {L : Addr} {m : Str → Option Value} {news : List (Addr × Obj)} {s : Shared} {Q E : Value → Shared → Prop}
local macro_rules | `(tactic| k_mem) => `(tactic| assumption)
local macro_rules | `(tactic| walk_at "eval ListComp") => `(tactic| (k_here; k_dflt (refine LCg.ListComp_U (F₀ := by k_asm) (by with_unfolding_all rfl) (by decide) (by rfl) (by decide) (by rfl) ?_)))
local macro_rules | `(tactic| walk_at "exec Assign cons ListComp") => `(tactic| (k_here; k_dflt (refine LCg.Assign_ListComp_U (F₀ := by k_asm) (by rfl) (by with_unfolding_all rfl) (by with_unfolding_all rfl) (by decide) (by rfl) (by decide) (by rfl) (by rfl) (by rfl) ?_)))
local macro_rules | `(tactic| k_room) => `(tactic| ktr_room)
local macro_rules | `(tactic| k_enter) => `(tactic| first
  | (refine' code_def ?k1 ?k2 ?k3 ?k4 ?k5 ?kA ?kF ?kK ?k6 ?k7 ?k8 ?k9 ?kB ?_ ?c2 ?c3 ?c4 ?c5; (case kA => exact rfl); (case kF => exact rfl); (case kK => first | exact rfl | assumption); (case k1 => k_asm); (case k2 => k_asm); (case k3 => k_asm); (case k4 => k_asm); (case k5 => k_asm); (case k6 => k_is); (case k7 => k_is); (case k8 => ktr_room); (case k9 => first | exact BindsTo.of_eq rfl | exact binds_K (by k_in) rfl (by k_is) rfl rfl rfl); (case c5 => decide); (case kB => exact locs rfl); (case c2 => exact rfl); (case c3 => exact rfl); (case c4 => exact rfl); k_whole; intro g' L' h' FG' F' N' B' X' T'; (try dsimp only); (try k_lift B'); (try k_fold))
  | (refine' code_defC ?k1 ?k2 ?k3 ?k4 ?k5 ?kA ?kF ?kK ?k6 ?k7 ?k8 ?k9 ?kB ?kD ?_ ?c2 ?c3 ?c4; (case kA => exact rfl); (case kF => exact rfl); (case kK => first | exact rfl | assumption); (case k1 => k_asm); (case k2 => k_asm); (case k3 => k_asm); (case k4 => k_asm); (case k5 => k_asm); (case k6 => k_is); (case k7 => k_is); (case k8 => ktr_room); (case k9 => first | exact BindsTo.of_eq rfl | exact binds_K (by k_in) rfl (by k_is) rfl rfl rfl); (case kB => exact rfl); (case kD => decide +kernel); (case c2 => exact rfl); (case c3 => exact rfl); (case c4 => exact rfl); k_whole; intro g' L' h' tk' cells' FG' F' N' Y' B' X' T' l1; (try k_lt l1); k_cells Y'; (try simp only [List.cons_append, List.nil_append] at N'); (try dsimp only); (try k_lift B'); (try k_fold)))
local macro_rules | `(tactic| k_all) => `(tactic| first | assumption | exact ne_of_all (by assumption) | exact ne_of_all1 (by assumption) | exact ne_of_allLt (by assumption) | exact ne_of_allLt2 (by assumption) | exact ne_of_allLt3 (by assumption) | exact ne_of_allLt4 (by assumption) | exact ne_of_allLt5 (by assumption) | exact ne_of_allLt6 (by assumption))
local macro_rules | `(tactic| walk_at "CompSrc") => `(tactic| (k_here; refine Stop.intro ?_))
local macro_rules | `(tactic| walk_at "ite") => `(tactic| (k_here; first | refine ite_pos (by with_reducible assumption) ?_ | refine ite_neg (by with_reducible assumption) ?_ | refine Mine.ite_ff (by with_reducible assumption) ?_ | refine Mine.ite_nt (by with_reducible assumption) ?_ | refine Mine.ite_nf (by with_reducible assumption) ?_))
local macro_rules | `(tactic| walk_at "pyIter ref") => `(tactic| (k_here; (with_reducible show wpAny _ _ (pyIter (Value.ref _)) (fun it s₂ => LoopAtV _ _ _ _ _ _ _ _ _ it s₂) _ _); refine Stop.intro ?_))
local macro_rules | `(tactic| walk_at "exec For") => `(tactic| (k_here; (with_reducible show wpAny _ _ (exec (Stmt.For (Expr.Name _ _) (Expr.Name _ _) _ [] _) _) _ _ _); (with_reducible rename Fr _ _ _ _ => lF'); (with_unfolding_all refine' For_invVF lF' ?k1 ?k2 ?_; (case k1 => exact rfl); (case k2 => exact rfl); k_whole)))
local macro_rules | `(tactic| walk_at "getMethod ref") => `(tactic| (k_here; (with_reducible show wpAny _ _ (getMethod (Value.ref _) (Str.ofString "get") _) _ _ _); k_dflt (refine' Mine.d_getMethod PySem.F.slot_dict_get PySem.F.type_dict_get ?ta ?tb ?tc ?_; (case ta => k_asm); (case tb => k_mem); (case tc => assumption))))
local macro_rules | `(tactic| walk_at "call builtin:dict.get") => `(tactic| (k_here; (with_reducible show wpAny _ _ (call (Value.builtin _) [Value.ref _, Value.str _ _, _]) _ _ _); k_dflt (refine' Mine.d_gets ?ta ?tb ?tc ?td ?te ?_; (case ta => k_asm); (case tb => k_mem); (case tc => assumption); (case td => assumption); (case te => assumption)); intro t' k'))
local macro_rules | `(tactic| walk_at "eval ListComp") => `(tactic| (k_here; (with_reducible show wpAny _ _ (eval (PySem.Expr.ListComp _ [PySem.Comprehension.mk _ _ [_] _] _ _) _) _ _ _); k_dflt (refine LCt.ListComp_T (F₀ := by k_asm) (by with_unfolding_all rfl) (by decide) (by rfl) (by decide) (by rfl) ?_)))
local macro_rules | `(tactic| walk_at "CompSrcT") => `(tactic| (k_here; refine Mine.Stop.intro ?_))
local macro_rules | `(tactic| walk_at "setItem ref ref") => `(tactic| (k_here; refine Mine.Stop.intro ?_))
local macro_rules | `(tactic| walk_at "call builtin:str.split") => `(tactic| (k_here; (with_reducible show wpAny _ _ (call (Value.builtin "str.split") [Value.str _ _, Value.str _ _]) _ _ _); k_dflt (refine' KSpl.split1 ?ta ?tb ?tc ?_ ?td; (case ta => k_asm); (case tb => k_asm); (case tc => decide); (case td => (rw [PySem.sizeLine_eq]; omega))); intro D' l' h' k' e' a' F' N' l1; (try k_lt l1)))
local macro_rules | `(tactic| walk_at "subscriptTail Name Slice ref ref") => `(tactic| (k_here; (with_reducible show wpAny _ _ (subscriptTail _ (PySem.Expr.Slice _ _ none _) (Value.ref _) (Value.ref _)) _ _ _); k_dflt (refine' kmk_slice (s := ⟨_, _, _, _, _⟩) ?ta ?tb ?tc ?td ?te ?_ ?tf ?tg ?th; (case ta => k_asm); (case tb => k_asm); (case tc => exact News.isList (by k_asm) (by k_mem)); (case td => kmk_part); (case te => kmk_part); (case tf => with_unfolding_all rfl); (case tg => kmk_pure); (case th => (rw [List.size_toArray, PySem.sizeLine_eq]; omega))); intro D' h' F' N' l1; (try k_lt l1)))
local macro_rules | `(tactic| walk_at "call ref") => `(tactic| (k_here; (with_reducible show wpAny _ _ (call (Value.ref 56) [Value.str _ _]) _ _ _); refine Mine.Stop.intro ?_))
local macro_rules | `(tactic| walk_at "delItem ref int") => `(tactic| (k_here; k_dflt (refine' Mine.del_1 ?F ?N ?U ?z ?_; (case F => k_asm); (case N => k_asm); (case U => k_updF); (case z => assumption)); intro h' F' N'; (try dsimp only [List.nil_append, List.cons_append] at N')))
local macro_rules | `(tactic| walk_at "subscriptTail") => `(tactic| (k_here; (with_reducible show wpAny _ _ (subscriptTail _ _ (Value.ref _) (Value.int 1 _)) _ _ _); k_dflt (refine' Mine.item_1 ?ta ?_; (case ta => exact News.isList (by k_asm) (by k_mem)))))
local macro_rules | `(tactic| walk_at "call builtin:str.join") => `(tactic| (k_here; (with_reducible show wpAny _ _ (call (Value.builtin "str.join") [Value.str _ _, Value.ref _]) _ _ _); k_dflt (refine' join_list (News.isList (by k_asm) (by k_mem)) ?a ?b ?_; (case a => assumption); (case b => assumption)); intro t' k'; rw [Mine.join_parts]))
local macro_rules | `(tactic| walk_at "setItem ref str") => `(tactic| (k_here; k_dflt (refine' Mine.d_setItem ?F ?N ?U ?hd ?hz ?_; (case F => k_asm); (case N => k_asm); (case U => k_updF); (case hd => assumption); (case hz => first | omega | (refine Nat.le_trans Mine.stored_le ?_; omega))); intro h' o' F' N' hd'; (try dsimp only [List.nil_append, List.cons_append] at N')))
theorem shift_spec (B : Below A₀ base outer h₀) (F : Fr h₀ L s.heap m) (X : (Mine.hd.heap_39 w.params).In h₀) (T : Top p loose mean mg mb h₀) (hk : cs.kind = .function)
    (hd : dp + 15 < recursionLimit) (hu : un + 140 < cLine)
    {d : Addr} {o : Obj} {kvs : List (Str × Value)} {ps ns : List Str} {n S : Str} (N : News h₀ L s.heap ((d, o) :: news)) (hlt : ∀ p ∈ news, p.1 ≠ d) (hdo : o.IsDictOf (strKind prog w) kvs) (lo : (d == sysModules) = false) (hkl : kvs.length ≤ 10)
    (hps : ∀ q ∈ ps, noSl q ∧ q.length ≤ 5) (hpl : ps.length ≤ 100) (hns : namesS ps = n :: ns) (hS : WfS S) (hSl : S.length ≤ 600)
    (hp : GetsS kvs (Str.ofString "PATH_INFO") (joinedS ps)) (hs : GetsS kvs (Str.ofString "SCRIPT_NAME") S)
    (ret : ∀ v h' tk' o' kvs', Fr h₀ L h' m → News h₀ L h' ((d, o') :: news) → ShiftV n v → o'.IsDictOf (strKind prog w) kvs' → ShiftD S n ns kvs kvs' → Q v { s with heap := h', toks := tk' }) :
    wpAny (model prog w) (ktrTop dp un gd cn cs L a ccd cl outer) (call (.ref 68) [.ref d]) Q E s := by
  have hne : ps ≠ [] := names_ne (by rw [hns]; simp)
  have hpne : (((joinedS ps).length : Int) != 0) = true := len_ne0 (joined_ne hne)
  have hpl2 : (joinedS ps).length ≤ 600 := by
    have := joined_len ps fun q hq => (hps q hq).2
    omega
  have hnm : n ∈ ps := names_mem (by rw [hns]; simp)
  obtain ⟨r, hr1, hr2⟩ := pathS_head hS (hps n hnm).1
  refine wpAny_call ?_
  k_dflt k_enter
  k_steps
  · unfold Stop
    rename List (Str × Tok) => l9
    rename List.map _ _ = Txt.split _ _ => hspl
    rename StrsAre (strValues _) _ => hcs
    rename News _ _ _ _ => N1
    rename Fr _ _ _ _ => F1
    rw [split_joined fun q hq => (hps q hq).1] at hspl
    rw [hspl] at hcs
    have hvl : (strValues l9).length = ps.length + 1 := by rw [hcs.length]; rfl
    have hp1 : 1 ≤ ps.length := List.length_pos_iff.mpr hne
    have h2 : 2 ≤ (strValues l9).length := by omega
    rw [mid_pick h2] at N1
    have hqs : StrsAre (((strValues l9).drop 1).take ((strValues l9).length - 1 - 1)) ps.dropLast := by
      have := (hcs.drop' 1).take' ((strValues l9).length - 1 - 1)
      rw [hcs.length] at this ⊢
      simpa [List.dropLast_eq_take] using this
    generalize hqv : List.take _ (List.drop 1 (strValues l9)) = qv at N1 hqs
    rename News _ _ _ ((_, PySem.W.listOf (List.toArray (strValues _)) _) :: _) => N0
    have l3 : ∀ p ∈ (d, o) :: news, p.1 ≠ _ := fun p hp => Nat.ne_of_lt (ktn_ltOf (l := (d, o) :: news) (by assumption) p hp)
    have l2 := Nat.ne_of_gt (Nat.lt_succ_of_lt (Heap.lt_size (N0 _ (.head _)).1))
    refine LCt.CompSrcT.ledger (by rfl) F1 N1 (.head _) (by rw [List.size_toArray, hqs.length, List.length_dropLast, PySem.sizeLine_eq]; omega) (fun g => ?_)
    refine restT_gen (fun ys i => StrsAre ys ((ps.dropLast.take i).filter keepS)) .nil (fun i v I oI C oC D m₂ ys h tk E' hi hv hR hC hx F2 N2 off ne => ?_) (fun ys hy => ?_)
    · obtain ⟨q, t', rfl, hq⟩ := hqs.item i v (by simpa using hv)
      have hf := filter_take_succ (f := keepS) hq
      have hql : q.length ≤ 5 := (hps q (List.dropLast_subset _ (List.mem_of_getElem? hq))).2
      by_cases h1 : q = Str.ofString ""
      · subst h1
        k_steps
        exact ⟨_, _, _, rfl, F2, N2, off, .inr ⟨_, .head _, rfl, _, rfl⟩, rfl, by rw [hf, keep_empty]; simpa using hR⟩
      · have hne0 : ((q.length : Int) != 0) = true := len_ne0 h1
        by_cases h2 : q = Str.ofString "."
        · subst h2
          k_steps
          exact ⟨_, _, _, rfl, F2, N2, off, .inr ⟨_, .head _, rfl, _, rfl⟩, rfl, by rw [hf, keep_dot]; simpa using hR⟩
        · have hnd : (q != Str.ofString ".") = true := by simpa using h2
          k_steps
          exact ⟨_, _, _, rfl, F2, N2, off, .inr ⟨_, .head _, rfl, _, rfl⟩, rfl, by rw [hf, keep_on h1 h2]; exact strsAre_append hR (.cons q t' .nil)⟩
    · intro D h tk F2 N2 o1
      (try dsimp only)
      k_steps
      unfold Stop
      have hyl : ys.length ≤ 100 := by
        rw [hy.length]
        refine Nat.le_trans (List.length_filter_le ..) ?_
        rw [List.length_take, List.length_dropLast]
        omega
      obtain ⟨o2, o3⟩ := o1.2
      refine setItem_mid (s := ⟨_, _, _, _, _⟩) (F2.push _) (N2.pushKeep _) (.tail o1.2.1.symm (.tail l2 (.head l3))) (Heap.IsSliceOf.new ..) ?_ ?_ (News.isList (N2.pushKeep _) (.head _)) o1.2.1 h2 (by omega) ?_
      · kmk_part
      · kmk_part
      intro h6 k6 F6 N6
      have hz : StrsAre (List.take 1 (strValues l9) ++ ys ++ List.drop ((strValues l9).length - 1) (strValues l9)) (Str.ofString "" :: n :: ns) := by
        have e1 : StrsAre (List.take 1 (strValues l9)) [Str.ofString ""] := by simpa using hcs.take' 1
        have e2 : StrsAre ys (ps.dropLast.filter keepS) := by
          rw [List.take_of_length_le (by rw [List.size_toArray, hqs.length]; exact Nat.le_refl _)] at hy
          exact hy
        have e3 : StrsAre (List.drop ((strValues l9).length - 1) (strValues l9)) (ps.drop (ps.length - 1)) := by
          have := hcs.drop' ((strValues l9).length - 1)
          rw [hvl] at this ⊢
          rw [show ps.length + 1 - 1 = (ps.length - 1) + 1 by omega, List.drop_succ_cons] at this
          rw [show ps.length + 1 - 1 = (ps.length - 1) + 1 by omega]
          exact this
        rw [← hns]
        exact (e1.append' e2).append' e3
      clear hy hqv hqs hspl hcs N1 N2
      generalize List.take 1 (strValues l9) ++ ys ++ List.drop ((strValues l9).length - 1) (strValues l9) = zv at N6 hz
      cases hz with
      | cons _ t0 hz =>
      cases hz with
      | cons _ t1 hz =>
      rename_i tl
      have N7 := fun p hp => N6 p (.tail _ (.tail _ hp))
      have N7 : News _ _ _ _ := N7
      clear N6
      have hnsl : ns.length ≤ 100 := by
        have := names_len ps
        rw [hns] at this
        simp at this
        omega
      have hzl : tl.length ≤ 10000 := by rw [hz.length]; omega
      have hz2 : StrsAre (.str (Str.ofString "") t0 :: tl) (Str.ofString "" :: ns) := .cons _ t0 hz
      have hroom : ((Str.ofString "" :: ns).map (·.length)).sum + (Str.ofString "" :: ns).length * (Str.ofString "/").length ≤ 16777216 := join_room (fun a ha => by
        rcases List.mem_cons.mp ha with rfl | ha
        · decide
        · exact Nat.le_trans (hps a (names_mem (by rw [hns]; exact .tail _ ha))).2 (by decide)) (by rw [List.length_cons]; omega) (by decide)
      have hnl : n.length ≤ 5 := (hps n hnm).2
      clear hvl h2
      k_steps
      unfold Stop
      k_dflt (refine' Mine.normpath_spec ?B ?F ?X ?N ?T ?hk ?hd ?hu ?hx hr1 hr2 ?ret)
      case B => k_asm
      case F => k_asm
      case X => k_asm
      case N => k_asm
      case T => k_asm
      case hk => rfl
      case hd => ktr_room
      case hu => ktr_units
      case hx => exact pathS_len (by omega) (by omega)
      intro z t' h8 k8 hz8 F8 N8
      rw [place_path hS (hps n hnm).1 (by rw [hr1, hz8])]
      (try dsimp only)
      have hW := walk_ok (place_ok S) (hps n hnm).1
      have hWe := joined_ends hW
      have hWl : (joinedS (walkS (placeS S) n)).length ≤ 1000 := walked_len hSl hnl
      have hsc : scriptS S n = joinedS (walkS (placeS S) n) ++ (if n = Str.ofString "" then Str.ofString "/" else Str.ofString "") := rfl
      generalize walkS (placeS S) n = W at hW hWe hWl hsc ⊢
      by_cases h0 : W = []
      · subst h0
        have e1 : Txt.endswith (rootS []) (Str.ofString "/") = true := by rw [root_nil]; decide
        have e2 : Txt.endswith (Txt.slice (rootS []) none (some (-1))) (Str.ofString "/") = false := by rw [slice_root]; decide
        have e3 : (rootS []).length = 1 := by rw [root_nil]; decide
        k_steps
        all_goals (rename Fr h₀ L _ _ => kF; rename News h₀ L _ _ => kN; rename PySem.Obj.IsDictOf _ _ _ => kD)
        all_goals (refine ret _ _ _ _ _ kF (fun p hp => kN p (.tail _ (.tail _ (.tail _ hp)))) ?_ kD ?_)
        all_goals first
          | exact shiftV_none (by assumption)
          | exact shiftV_str (by assumption)
          | exact shiftD_of (sc_ne0 hsc (by assumption))
          | exact shiftD_of (sc_e0 hsc (by assumption))
          | exact shiftD_of (sc_ne hsc (by assumption))
          | exact shiftD_of (sc_e hsc (by assumption))
      · rw [rootS_joined h0]
        k_steps
        all_goals (rename Fr h₀ L _ _ => kF; rename News h₀ L _ _ => kN; rename PySem.Obj.IsDictOf _ _ _ => kD)
        all_goals (refine ret _ _ _ _ _ kF (fun p hp => kN p (.tail _ (.tail _ (.tail _ hp)))) ?_ kD ?_)
        all_goals first
          | exact shiftV_none (by assumption)
          | exact shiftV_str (by assumption)
          | exact shiftD_of (sc_ne0 hsc (by assumption))
          | exact shiftD_of (sc_e0 hsc (by assumption))
          | exact shiftD_of (sc_ne hsc (by assumption))
          | exact shiftD_of (sc_e hsc (by assumption))
end
end Mine

namespace Mine
section
open PySem PySem.W PyProof.Rows
set_option maxHeartbeats 4000000
theorem fill6 : PySem.Challenge.rw_kp0085_03 = PySem.Challenge.rw_kp0085_03 ∧ Mine.hd.heap_39 = Mine.hd.heap_39 := by w_top off; k_fill; exact ⟨rfl, rfl⟩
variable {prog p : Program} {w : World} {loose : List Str} {mean : ExcName → Option Value} {mg mb : Str → Option Value} {dp un : Nat} {gd : Option (List Code)} {cn : Str} {cs : Scope} {a : Addr} {ccd : Value} {cl : List (Str × Addr)} {outer : List Env} {A₀ : Around} {base h₀ : Heap} {L : Addr} {m : Str → Option Value} {news : List (Addr × Obj)} {s : Shared} {Q E : Value → Shared → Prop}
local macro_rules | `(tactic| k_mem) => `(tactic| assumption)
local macro_rules | `(tactic| walk_at "eval ListComp") => `(tactic| (k_here; k_dflt (refine LCg.ListComp_U (F₀ := by k_asm) (by with_unfolding_all rfl) (by decide) (by rfl) (by decide) (by rfl) ?_)))
local macro_rules | `(tactic| walk_at "exec Assign cons ListComp") => `(tactic| (k_here; k_dflt (refine LCg.Assign_ListComp_U (F₀ := by k_asm) (by rfl) (by with_unfolding_all rfl) (by with_unfolding_all rfl) (by decide) (by rfl) (by decide) (by rfl) (by rfl) (by rfl) ?_)))
local macro_rules | `(tactic| k_room) => `(tactic| ktr_room)
local macro_rules | `(tactic| k_enter) => `(tactic| first
  | (refine' code_def ?k1 ?k2 ?k3 ?k4 ?k5 ?kA ?kF ?kK ?k6 ?k7 ?k8 ?k9 ?kB ?_ ?c2 ?c3 ?c4 ?c5; (case kA => exact rfl); (case kF => exact rfl); (case kK => first | exact rfl | assumption); (case k1 => k_asm); (case k2 => k_asm); (case k3 => k_asm); (case k4 => k_asm); (case k5 => k_asm); (case k6 => k_is); (case k7 => k_is); (case k8 => ktr_room); (case k9 => first | exact BindsTo.of_eq rfl | exact binds_K (by k_in) rfl (by k_is) rfl rfl rfl); (case c5 => decide); (case kB => exact locs rfl); (case c2 => exact rfl); (case c3 => exact rfl); (case c4 => exact rfl); k_whole; intro g' L' h' FG' F' N' B' X' T'; (try dsimp only); (try k_lift B'); (try k_fold))
  | (refine' code_defC ?k1 ?k2 ?k3 ?k4 ?k5 ?kA ?kF ?kK ?k6 ?k7 ?k8 ?k9 ?kB ?kD ?_ ?c2 ?c3 ?c4; (case kA => exact rfl); (case kF => exact rfl); (case kK => first | exact rfl | assumption); (case k1 => k_asm); (case k2 => k_asm); (case k3 => k_asm); (case k4 => k_asm); (case k5 => k_asm); (case k6 => k_is); (case k7 => k_is); (case k8 => ktr_room); (case k9 => first | exact BindsTo.of_eq rfl | exact binds_K (by k_in) rfl (by k_is) rfl rfl rfl); (case kB => exact rfl); (case kD => decide +kernel); (case c2 => exact rfl); (case c3 => exact rfl); (case c4 => exact rfl); k_whole; intro g' L' h' tk' cells' FG' F' N' Y' B' X' T' l1; (try k_lt l1); k_cells Y'; (try simp only [List.cons_append, List.nil_append] at N'); (try dsimp only); (try k_lift B'); (try k_fold)))
local macro_rules | `(tactic| k_all) => `(tactic| first | exact ne_of_all (by assumption) | exact ne_of_all1 (by assumption) | exact ne_of_allLt (by assumption) | exact ne_of_allLt2 (by assumption) | exact ne_of_allLt3 (by assumption) | exact ne_of_allLt4 (by assumption) | exact ne_of_allLt5 (by assumption) | exact ne_of_allLt6 (by assumption))
local macro_rules | `(tactic| walk_at "CompSrc") => `(tactic| (k_here; refine Stop.intro ?_))
local macro_rules | `(tactic| walk_at "ite") => `(tactic| (k_here; first | refine ite_pos (by with_reducible assumption) ?_ | refine ite_neg (by with_reducible assumption) ?_ | refine Mine.ite_ff (by with_reducible assumption) ?_ | refine Mine.ite_nt (by with_reducible assumption) ?_ | refine Mine.ite_nf (by with_reducible assumption) ?_))
local macro_rules | `(tactic| walk_at "pyIter ref") => `(tactic| (k_here; (with_reducible show wpAny _ _ (pyIter (Value.ref _)) (fun it s₂ => LoopAtV _ _ _ _ _ _ _ _ _ it s₂) _ _); refine Stop.intro ?_))
local macro_rules | `(tactic| walk_at "exec For") => `(tactic| (k_here; (with_reducible show wpAny _ _ (exec (Stmt.For (Expr.Name _ _) (Expr.Name _ _) _ [] _) _) _ _ _); (with_reducible rename Fr _ _ _ _ => lF'); (with_unfolding_all refine' For_invVF lF' ?k1 ?k2 ?_; (case k1 => exact rfl); (case k2 => exact rfl); k_whole)))
local macro_rules | `(tactic| walk_at "getMethod ref") => `(tactic| (k_here; (with_reducible show wpAny _ _ (getMethod (Value.ref _) (Str.ofString "get") _) _ _ _); k_dflt (refine' Mine.d_getMethod PySem.F.slot_dict_get PySem.F.type_dict_get ?ta ?tb ?tc ?_; (case ta => k_asm); (case tb => k_mem); (case tc => assumption))))
local macro_rules | `(tactic| walk_at "call builtin:dict.get") => `(tactic| (k_here; (with_reducible show wpAny _ _ (call (Value.builtin _) [Value.ref _, Value.str _ _, _]) _ _ _); k_dflt (refine' Mine.d_gets ?ta ?tb ?tc ?td ?te ?_; (case ta => k_asm); (case tb => k_mem); (case tc => assumption); (case td => assumption); (case te => assumption)); intro t' k'))
local macro_rules | `(tactic| walk_at "eval ListComp") => `(tactic| (k_here; (with_reducible show wpAny _ _ (eval (PySem.Expr.ListComp _ [PySem.Comprehension.mk _ _ [_] _] _ _) _) _ _ _); k_dflt (refine LCt.ListComp_T (F₀ := by k_asm) (by with_unfolding_all rfl) (by decide) (by rfl) (by decide) (by rfl) ?_)))
local macro_rules | `(tactic| walk_at "CompSrcT") => `(tactic| (k_here; refine Mine.Stop.intro ?_))
local macro_rules | `(tactic| walk_at "setItem ref ref") => `(tactic| (k_here; refine Mine.Stop.intro ?_))
local macro_rules | `(tactic| walk_at "call builtin:str.split") => `(tactic| (k_here; (with_reducible show wpAny _ _ (call (Value.builtin "str.split") [Value.str _ _, Value.str _ _]) _ _ _); k_dflt (refine' KSpl.split1 ?ta ?tb ?tc ?_ ?td; (case ta => k_asm); (case tb => k_asm); (case tc => decide); (case td => (rw [PySem.sizeLine_eq]; omega))); intro D' l' h' k' e' a' F' N' l1; (try k_lt l1)))
local macro_rules | `(tactic| walk_at "subscriptTail Name Slice ref ref") => `(tactic| (k_here; (with_reducible show wpAny _ _ (subscriptTail _ (PySem.Expr.Slice _ _ none _) (Value.ref _) (Value.ref _)) _ _ _); k_dflt (refine' kmk_slice (s := ⟨_, _, _, _, _⟩) ?ta ?tb ?tc ?td ?te ?_ ?tf ?tg ?th; (case ta => k_asm); (case tb => k_asm); (case tc => exact News.isList (by k_asm) (by k_mem)); (case td => kmk_part); (case te => kmk_part); (case tf => with_unfolding_all rfl); (case tg => kmk_pure); (case th => (rw [List.size_toArray, PySem.sizeLine_eq]; omega))); intro D' h' F' N' l1; (try k_lt l1)))
local macro_rules | `(tactic| walk_at "call type:dict") => `(tactic| (k_here; (with_reducible show wpAny _ _ (call (Value.type "dict") [Value.ref _]) _ _ _); k_dflt (refine' Mine.d_copy ?F ?N ?b ?a ?d ?l ?z ?_; (case F => k_asm); (case N => k_asm); (case b => exact Top.nolimit (by k_asm)); (case a => k_mem); (case d => assumption); (case l => assumption); (case z => assumption)); intro D' h' o' F' N' l1 lo' hd'))
theorem shift_none (B : Below A₀ base outer h₀) (F : Fr h₀ L s.heap m) (X : (Mine.hd.heap_39 w.params).In h₀) (T : Top p loose mean mg mb h₀) (hk : cs.kind = .function)
    (hd : dp + 15 < recursionLimit) (hu : un + 140 < cLine)
    {d : Addr} {o : Obj} {kvs : List (Str × Value)} (N : News h₀ L s.heap news) (hm : (d, o) ∈ news) (hdo : o.IsDictOf (strKind prog w) kvs) (lo : (d == sysModules) = false)
    (hp : GetsS kvs (Str.ofString "PATH_INFO") (Str.ofString ""))
    (ret : ∀ h' tk', Fr h₀ L h' m → News h₀ L h' news → Q .none { s with heap := h', toks := tk' }) :
    wpAny (model prog w) (ktrTop dp un gd cn cs L a ccd cl outer) (call (.ref 68) [.ref d]) Q E s := by
  refine wpAny_call ?_
  k_dflt k_enter
  k_steps
  rename Fr h₀ L _ _ => kF; rename News h₀ L _ _ => kN
  exact ret _ _ kF (fun p hp => kN p hp)
local macro_rules | `(tactic| walk_at "call ref") => `(tactic| (k_here; (with_reducible show wpAny _ _ (call (Value.ref 68) [Value.ref _]) _ _ _); refine Mine.Stop.intro ?_))
local macro_rules | `(tactic| walk_at "compareOp Eq ref ref") => `(tactic| (k_here; refine Mine.Stop.intro ?_))
theorem still_spec (B : Below A₀ base outer h₀) (F : Fr h₀ L s.heap m) (X : (Mine.hd.heap_39 w.params).In h₀) (T : Top p loose mean mg mb h₀) (hk : cs.kind = .function)
    (hd : dp + 20 < recursionLimit) (hu : un + 200 < cLine)
    {d : Addr} {o : Obj} {kvs : List (Str × Value)} (N : News h₀ L s.heap news) (hm : (d, o) ∈ news) (hdo : o.IsDictOf (strKind prog w) kvs) (lo : (d == sysModules) = false)
    (hkl : kvs.length ≤ 1000) (hok : EnvOk kvs)
    (hp : GetsS kvs (Str.ofString "PATH_INFO") (Str.ofString ""))
    (ret : ∀ h' tk', Fr h₀ L h' m → News h₀ L h' news → Q (.bool true) { s with heap := h', toks := tk' }) :
    wpAny (model prog w) (ktrTop dp un gd cn cs L a ccd cl outer) (call (.ref 92) [.ref d]) Q E s := by
  refine wpAny_call ?_
  k_dflt k_enter
  k_steps
  unfold Stop
  k_dflt (refine' Mine.shift_none ?B ?F ?X ?T ?hk ?hd ?hu ?N ?hm ?hdo ?lo hp ?ret)
  case B => k_asm
  case F => k_asm
  case X => k_asm
  case N => k_asm
  case T => k_asm
  case hk => rfl
  case hd => ktr_room
  case hu => ktr_units
  case hm => exact .tail _ hm
  case hdo => exact hdo
  case lo => exact lo
  intro h8 k8 F8 N8
  (try dsimp only)
  k_steps
  unfold Stop
  refine keq_pairs (knd := PySem.strKind _ _) N8 (.tail _ hm) (.head _) hdo (by assumption) lo (by assumption) rfl (by ktr_units) (hits_of (prog := prog) (w := w) hok.self) ?_
  k_steps
  rename Fr h₀ L _ _ => kF; rename News h₀ L _ _ => kN
  exact ret _ _ kF (fun p hp => kN p (.tail _ hp))
end
end Mine

namespace Mine
section
open PySem PySem.W PyProof.Rows
set_option maxHeartbeats 4000000
def Cut : Prop := True
def LenAt : Prop := True
theorem fill7 : PySem.Challenge.rw_kp0085_03 = PySem.Challenge.rw_kp0085_03 ∧ Mine.hd.heap_39 = Mine.hd.heap_39 := by w_top off; k_fill; exact ⟨rfl, rfl⟩
variable {prog p : Program} {w : World} {loose : List Str} {mean : ExcName → Option Value} {mg mb : Str → Option Value} {dp un : Nat} {gd : Option (List Code)} {cn : Str} {cs : Scope} {a : Addr} {ccd : Value} {cl : List (Str × Addr)} {outer : List Env} {A₀ : Around} {base h₀ : Heap} {L : Addr} {m : Str → Option Value} {news : List (Addr × Obj)} {s : Shared} {Q E : Value → Shared → Prop}
local macro_rules | `(tactic| k_mem) => `(tactic| assumption)
local macro_rules | `(tactic| walk_at "eval ListComp") => `(tactic| (k_here; k_dflt (refine LCg.ListComp_U (F₀ := by k_asm) (by with_unfolding_all rfl) (by decide) (by rfl) (by decide) (by rfl) ?_)))
local macro_rules | `(tactic| walk_at "exec Assign cons ListComp") => `(tactic| (k_here; k_dflt (refine LCg.Assign_ListComp_U (F₀ := by k_asm) (by rfl) (by with_unfolding_all rfl) (by with_unfolding_all rfl) (by decide) (by rfl) (by decide) (by rfl) (by rfl) (by rfl) ?_)))
local macro_rules | `(tactic| k_room) => `(tactic| ktr_room)
local macro_rules | `(tactic| k_enter) => `(tactic| first
  | (refine' code_def ?k1 ?k2 ?k3 ?k4 ?k5 ?kA ?kF ?kK ?k6 ?k7 ?k8 ?k9 ?kB ?_ ?c2 ?c3 ?c4 ?c5; (case kA => exact rfl); (case kF => exact rfl); (case kK => first | exact rfl | assumption); (case k1 => k_asm); (case k2 => k_asm); (case k3 => k_asm); (case k4 => k_asm); (case k5 => k_asm); (case k6 => k_is); (case k7 => k_is); (case k8 => ktr_room); (case k9 => first | exact BindsTo.of_eq rfl | exact binds_K (by k_in) rfl (by k_is) rfl rfl rfl); (case c5 => decide); (case kB => exact locs rfl); (case c2 => exact rfl); (case c3 => exact rfl); (case c4 => exact rfl); k_whole; intro g' L' h' FG' F' N' B' X' T'; (try dsimp only); (try k_lift B'); (try k_fold))
  | (refine' code_defC ?k1 ?k2 ?k3 ?k4 ?k5 ?kA ?kF ?kK ?k6 ?k7 ?k8 ?k9 ?kB ?kD ?_ ?c2 ?c3 ?c4; (case kA => exact rfl); (case kF => exact rfl); (case kK => first | exact rfl | assumption); (case k1 => k_asm); (case k2 => k_asm); (case k3 => k_asm); (case k4 => k_asm); (case k5 => k_asm); (case k6 => k_is); (case k7 => k_is); (case k8 => ktr_room); (case k9 => first | exact BindsTo.of_eq rfl | exact binds_K (by k_in) rfl (by k_is) rfl rfl rfl); (case kB => exact rfl); (case kD => decide +kernel); (case c2 => exact rfl); (case c3 => exact rfl); (case c4 => exact rfl); k_whole; intro g' L' h' tk' cells' FG' F' N' Y' B' X' T' l1; (try k_lt l1); k_cells Y'; (try simp only [List.cons_append, List.nil_append] at N'); (try dsimp only); (try k_lift B'); (try k_fold)))
local macro_rules | `(tactic| k_all) => `(tactic| first | exact ne_of_all (by assumption) | exact ne_of_all1 (by assumption) | exact ne_of_allLt (by assumption) | exact ne_of_allLt2 (by assumption) | exact ne_of_allLt3 (by assumption) | exact ne_of_allLt4 (by assumption) | exact ne_of_allLt5 (by assumption) | exact ne_of_allLt6 (by assumption))
local macro_rules | `(tactic| walk_at "CompSrc") => `(tactic| (k_here; refine Stop.intro ?_))
local macro_rules | `(tactic| walk_at "ite") => `(tactic| (k_here; first | refine ite_pos (by with_reducible assumption) ?_ | refine ite_neg (by with_reducible assumption) ?_ | refine Mine.ite_ff (by with_reducible assumption) ?_ | refine Mine.ite_nt (by with_reducible assumption) ?_ | refine Mine.ite_nf (by with_reducible assumption) ?_))
local macro_rules | `(tactic| walk_at "pyIter ref") => `(tactic| (k_here; (with_reducible show wpAny _ _ (pyIter (Value.ref _)) (fun it s₂ => LoopAtV _ _ _ _ _ _ _ _ _ it s₂) _ _); refine Stop.intro ?_))
local macro_rules | `(tactic| walk_at "exec For") => `(tactic| (k_here; (with_reducible show wpAny _ _ (exec (Stmt.For (Expr.Name _ _) _ _ [] _) _) _ _ _); (with_reducible rename Fr _ _ _ _ => lF'); (with_unfolding_all refine' For_invVF lF' ?k1 ?k2 ?_; (case k1 => exact rfl); (case k2 => exact rfl); k_whole)))
local macro_rules | `(tactic| walk_at "getMethod ref") => `(tactic| (k_here; (with_reducible show wpAny _ _ (getMethod (Value.ref _) (Str.ofString "get") _) _ _ _); k_dflt (refine' Mine.d_getMethod PySem.F.slot_dict_get PySem.F.type_dict_get ?ta ?tb ?tc ?_; (case ta => k_asm); (case tb => k_mem); (case tc => assumption))))
local macro_rules | `(tactic| walk_at "call builtin:dict.get") => `(tactic| (k_here; (with_reducible show wpAny _ _ (call (Value.builtin _) [Value.ref _, Value.str _ _, _]) _ _ _); k_dflt (refine' Mine.d_gets ?ta ?tb ?tc ?td ?te ?_; (case ta => k_asm); (case tb => k_mem); (case tc => assumption); (case td => assumption); (case te => assumption)); intro t' k'))
local macro_rules | `(tactic| walk_at "eval ListComp") => `(tactic| (k_here; (with_reducible show wpAny _ _ (eval (PySem.Expr.ListComp _ [PySem.Comprehension.mk _ _ [_] _] _ _) _) _ _ _); k_dflt (refine LCt.ListComp_T (F₀ := by k_asm) (by with_unfolding_all rfl) (by decide) (by rfl) (by decide) (by rfl) ?_)))
local macro_rules | `(tactic| walk_at "CompSrcT") => `(tactic| (k_here; refine Mine.Stop.intro ?_))
local macro_rules | `(tactic| walk_at "setItem ref ref") => `(tactic| (k_here; refine Mine.Stop.intro ?_))
local macro_rules | `(tactic| walk_at "call builtin:str.split") => `(tactic| (k_here; (with_reducible show wpAny _ _ (call (Value.builtin "str.split") [Value.str _ _, Value.str _ _]) _ _ _); k_dflt (refine' KSpl.split1 ?ta ?tb ?tc ?_ ?td; (case ta => k_asm); (case tb => k_asm); (case tc => decide); (case td => (rw [PySem.sizeLine_eq]; omega))); intro D' l' h' k' e' a' F' N' l1; (try k_lt l1)))
local macro_rules | `(tactic| walk_at "subscriptTail Name Slice ref ref") => `(tactic| (k_here; (with_reducible show wpAny _ _ (subscriptTail _ (PySem.Expr.Slice _ _ none _) (Value.ref _) (Value.ref _)) _ _ _); k_dflt (refine' kmk_slice (s := ⟨_, _, _, _, _⟩) ?ta ?tb ?tc ?td ?te ?_ ?tf ?tg ?th; (case ta => k_asm); (case tb => k_asm); (case tc => exact News.isList (by k_asm) (by k_mem)); (case td => kmk_part); (case te => kmk_part); (case tf => with_unfolding_all rfl); (case tg => kmk_pure); (case th => (rw [List.size_toArray, PySem.sizeLine_eq]; omega))); intro D' h' F' N' l1; (try k_lt l1)))
local macro_rules | `(tactic| walk_at "call builtin:len") => `(tactic| (k_here; (with_reducible show wpAny _ _ (call (Value.builtin "len") [Value.ref _]) _ _ _); (with_reducible rename Mine.LenAt => hlen'); refine Mine.Stop.intro ?_))
local macro_rules | `(tactic| walk_at "call type:dict") => `(tactic| (k_here; (with_reducible show wpAny _ _ (call (Value.type "dict") [Value.ref _]) _ _ _); k_dflt (refine' Mine.d_copy ?F ?N ?b ?a ?d ?l ?z ?_; (case F => k_asm); (case N => k_asm); (case b => exact Top.nolimit (by k_asm)); (case a => k_mem); (case d => assumption); (case l => assumption); (case z => first | assumption | omega | decide)); intro D' h' o' F' N' l1 lo' hd'; (try k_lt l1)))
local macro_rules | `(tactic| walk_at "call ref") => `(tactic| (k_here; (with_reducible show wpAny _ _ (call (Value.ref _) _) _ _ _); refine Mine.Stop.intro ?_))
local macro_rules | `(tactic| walk_at "binaryOp Add ref ref") => `(tactic| (k_here; refine Mine.Stop.intro ?_))
local macro_rules | `(tactic| walk_at "compareOp NotEq ref ref") => `(tactic| (k_here; refine Mine.Stop.intro ?_))
local macro_rules | `(tactic| walk_at "subscriptTail") => `(tactic| (k_here; (with_reducible show wpAny _ _ (subscriptTail (PySem.Expr.Tuple _ _ _) _ (Value.ref _) (Value.int _ _)) _ _ _); refine Mine.Stop.intro ?_))
local macro_rules | `(tactic| walk_at "subscriptTail Name Name ref int") => `(tactic| (k_here; (with_reducible show wpAny _ _ (subscriptTail (PySem.Expr.Name _ _) (PySem.Expr.Name _ _) (Value.ref _) (Value.int _ _)) _ _ _); k_dflt (refine' Mine.item_at ?a ?b ?c ?d ?_; (case a => exact News.isList (by k_asm) (by k_mem)); (case d => assumption); (case b => omega); (case c => omega))))
local macro_rules | `(tactic| walk_at "setItem ref str") => `(tactic| (k_here; k_dflt (refine' Mine.d_setItem ?F ?N ?U ?hd ?hz ?_; (case F => k_asm); (case N => k_asm); (case U => k_updF); (case hd => assumption); (case hz => first | assumption | omega | decide | (refine Nat.le_trans Mine.stored_le ?_; omega))); intro h' o' F' N' hd'; (try dsimp only [List.nil_append, List.cons_append] at N')))
local macro_rules | `(tactic| walk_at "exec If") => `(tactic| (k_here; (with_reducible show wpAny _ _ (exec (Stmt.If (PySem.Expr.Compare (PySem.Expr.Name _ _) [CmpOp.IsNot] _ _) _ _ _) _) _ _ _); (fail_if_success (with_reducible rename Mine.Cut => hcut)); refine Mine.Stop.intro ?_))
theorem walk7 : PySem.Challenge.rw_kp0085_03.Holds := hd (by
  k_go0
  (all_goals try k_fold)
  k_steps
  unfold Stop
  rename IntsAre _ _ => hI
  rename List Int => ns
  rename PySem.Heap.IsList _ _ _ => hLs
  rename News _ _ _ _ => N1
  rename Fr _ _ _ _ => F1
  have hn : ns.length ≤ 63 := by omega
  refine add_arrays_ints (hsz := by rw [PySem.sizeLine_eq]; simp; omega) F1 N1 (hLs.at fun o e => F1.keep _ o e) (News.isList N1 (.head _)) hI (.cons _ _ .nil) ?_
  intro h2 F2 N2 hI2
  (try dsimp only)
  have hl2 : ∀ a b : List Value, IntsAre (a ++ b) (ns ++ [(ns.length : Int)]) → (a ++ b).length ≤ 64 := fun a b h => by rw [h.length]; simp; omega
  have hl2 := hl2 _ _ hI2
  generalize hxs : ns ++ [(ns.length : Int)] = xs at hI2
  refine LCg.CompSrc.ledger (by rfl) F2 N2 (.head _) (by rw [List.size_toArray, PySem.sizeLine_eq]; omega) (fun g => ?_)
  generalize (_ ++ _ : List Value) = src at N2 hI2 hl2 ⊢
  refine rest_gen (fun i y => ∃ q t, y = Value.str q t ∧ PartOk q) (fun i v I oI C oC D m₂ ys h tk E' hi hv hC hx F3 N3 off ne => ?_) (fun ys hl hy => ?_)
  · obtain ⟨k, t, rfl⟩ : ∃ k t, v = Value.int k t := hI2.allInts v (Array.mem_of_getElem? hv)
    k_steps
    unfold Stop
    k_dflt (refine' Mine.law_part_spec ?B ?F ?X ?N ?T ?hk ?hd ?hu ?ret)
    case B => k_asm
    case F => k_asm
    case X => k_asm
    case N => k_asm
    case T => k_asm
    case hk => rfl
    case hd => ktr_room
    case hu => ktr_units
    intro y t' h4 k4 hy4 F4 N4
    (try dsimp only)
    k_steps
    exact ⟨_, _, _, rfl, F4, N4, off, .inr ⟨_, .head _, rfl, _, rfl⟩, rfl, y, t', rfl, hy4⟩
  · intro D h tk F3 N3 o1
    (try dsimp only)
    obtain ⟨zs, hz, hzl, hzp⟩ := strsAre_ex (fun _ q => PartOk q) hy
    have hsl : ys.length ≤ 64 := by rw [hl, List.size_toArray]; exact hl2
    have hne : 1 ≤ ys.length := by rw [hl, List.size_toArray, hI2.length, ← hxs]; simp
    have hparts : ∀ q ∈ zs, PartOk q := fun q hq => by
      obtain ⟨i, hi⟩ := List.getElem?_of_mem hq
      exact hzp i q hi
    have N4 : News _ _ h [(D, LCg.lst ys)] := fun p hp => by
      rcases List.mem_cons.mp hp with e | hp
      · rw [e]; exact N3 _ (.head _)
      · cases hp
    clear hy hl N3 N2 N1 hI2 hl2 hxs F1 F2 o1
    have l9 : True := trivial
    k_steps
    unfold Stop
    rename News _ _ _ _ => N5
    refine item_tupP (StartV) (News.isTup N5 (.head _)) (fmod_lo _ (by decide)) (fmod_hi _ (by decide)) (by simp) ?_ ?_
    · intro v hv
      simp only [List.mem_cons, List.not_mem_nil, or_false] at hv
      rcases hv with rfl | rfl | rfl | rfl | rfl | rfl | rfl | rfl
      · exact .inl rfl
      all_goals exact startV_str (by simp)
    · intro start hst
      (try dsimp only)
      k_steps
      unfold Stop
      rename News _ _ _ _ => N6
      rename Fr _ _ _ _ => F6
      rename PySem.Obj.IsDictOf _ _ _ => hdE
      rename (_ == sysModules) = false => loE
      rename Shared => s₁
      rename World => w
      refine cut_at F6 loE (fun d => Mid PySem.Challenge.rw_kp0085_03.row.prog w s₁.heap s₁.heap.objs.size D d ys s₁) ?_ ?_
      · have hcut : Cut := trivial
        rcases hst with rfl | ⟨x, t, rfl, hwf, hxl⟩
        · k_steps
          exact ⟨rfl, _, _, _, _, _, _, _, _, _, _, rfl, mid_none F6 (by rfl) N6 hdE loE⟩
        · k_steps
          unfold Stop
          rename List (Str × Tok) => l9
          rename List.map _ _ = Txt.split _ _ => e9
          rename StrsAre (strValues _) _ => a9
          rename News _ _ _ _ => N7
          rename Fr _ _ _ _ => F7
          rename PySem.Obj.IsDictOf _ _ (stored _ _ _) => hdF
          rw [e9] at a9
          have hcl : (Txt.split x (Str.ofString "/")).length ≤ 21 := by
            have := split_length x
            omega
          refine iter_place (by rfl) F7 (by rfl) (news_b N7) (.head _) a9 (fun i q t pl ws nn I oI h tk hq hws hI hrest F9 N9 => ?_) (fun u pl ws nn h tk hs F9 N9 => ?_)
          · have hwl : ws.length ≤ 100 := by
              have h1 := fold_len ((Txt.split x (Str.ofString "/")).take i) []
              have h2 : ((Txt.split x (Str.ofString "/")).take i).length ≤ (Txt.split x (Str.ofString "/")).length := by rw [List.length_take]; omega
              rw [hws.length]
              simp only [List.length_nil] at h1
              omega
            k_steps
            unfold Stop
            k_dflt (refine' Mine.law_walk_spec ?B2 ?F2 ?X2 ?N2 ?T2 ?hk2 ?hd2 ?hu2 ?hl2 hws ?hlen2 ?ret2)
            case B2 => k_asm
            case F2 => k_asm
            case X2 => k_asm
            case N2 => k_asm
            case T2 => k_asm
            case hk2 => rfl
            case hd2 => ktr_room
            case hu2 => ktr_units
            case hl2 => exact .tail _ (.head _)
            case hlen2 => (rw [PySem.sizeLine_eq]; omega)
            intro r vs' n' h' tk' hr hs' F10 N10
            (try dsimp only)
            k_steps
            rename Fr _ _ _ _ => F11
            rename News _ _ _ _ => N11
            exact ⟨_, _, _, r, vs', n', _, rfl, F11, upd2p, news_swap N11, (by
              rcases hr with rfl | hr
              · exact hI
              · exact (hr _ (.head _)).symm), hs'⟩
          · (try dsimp only)
            k_steps
            exact ⟨rfl, _, _, _, _, _, _, _, _, _, _, rfl, mid_str F9 N9 hs hdF loE hwf hxl⟩
      · rintro fl s' ⟨rfl, h7, k7, u, pl, ws, nn, o7, kvs, S0, tq, rfl, Z⟩
        obtain ⟨F8, N8, hsa, hdd, hlo, hok, hgs, hnp, hvq, hwf, hsl0, hln⟩ := Z
        have hkl : kvs.length ≤ 10 := by rcases hln with h | h <;> omega
        clear hst N6 F6 hdE
        have hpd := ne_dict N8 (.head _) rfl (.tail _ (.head _)) hdd
        (try dsimp only)
        k_steps
        unfold Stop
        k_dflt (refine' Mine.still_spec ?B3 ?F3 ?X3 ?T3 ?hk3 ?hd3 ?hu3 ?N3 ?hm3 ?hdo3 ?lo3 ?hkl3 hok (.inr ⟨hnp, rfl⟩) ?ret3)
        case B3 => k_asm
        case F3 => k_asm
        case X3 => k_asm
        case N3 => k_asm
        case T3 => k_asm
        case hk3 => rfl
        case hd3 => ktr_room
        case hu3 => ktr_units
        case hm3 => exact .head _
        case hdo3 => assumption
        case lo3 => assumption
        case hkl3 => omega
        intro h8 k8 F9 N9
        (try dsimp only)
        k_steps
        unfold Stop
        rename PySem.Obj.IsDictOf _ _ (stored kvs _ _) => hdG
        k_dflt (refine' Mine.still_spec ?B4 ?F4 ?X4 ?T4 ?hk4 ?hd4 ?hu4 ?N4 ?hm4 hdG ?lo4 ?hkl4 ?hok4 ?hp4 ?ret4)
        case B4 => k_asm
        case F4 => k_asm
        case X4 => k_asm
        case N4 => k_asm
        case T4 => k_asm
        case hk4 => rfl
        case hd4 => ktr_room
        case hu4 => ktr_units
        case hm4 => exact .tail _ (.tail _ (.head _))
        case lo4 => assumption
        case hkl4 => refine Nat.le_trans stored_le ?_; omega
        case hok4 => exact hok.stored (.inr (.inr rfl))
        case hp4 => exact .inl ⟨_, by rw [valueAt_stored]; exact if_pos rfl⟩
        intro h9 k9 F10 N10
        (try dsimp only)
        k_steps
        unfold Stop
        k_dflt (refine' Mine.law_joined_spec ?B5 ?F5 ?X5 ?N5 ?T5 ?hk5 ?hd5 ?hu5 ?hl5 hz ?hlen5 ?hps5 ?ret5)
        case B5 => k_asm
        case F5 => k_asm
        case X5 => k_asm
        case N5 => k_asm
        case T5 => k_asm
        case hk5 => rfl
        case hd5 => ktr_room
        case hu5 => ktr_units
        case hl5 => exact .tail _ (.tail _ (.tail _ (.head _)))
        case hlen5 => omega
        case hps5 => exact fun q hq => Nat.le_trans (hparts q hq).1 (by decide)
        intro t' h10 k10 F11 N11
        (try dsimp only)
        k_steps
        unfold Stop
        rename PySem.Obj.IsDictOf _ _ (stored (stored kvs _ _) _ _) => hdH
        rename News _ _ _ _ => N12
        rename Fr _ _ _ _ => F12
        have hqs := sl_butLast hz
        have hqn : (slicePick ys.toArray none (some (-1)) none).size ≤ 64 := by
          rw [← Array.length_toList, hqs.length, List.length_dropLast]; omega
        refine LCt.CompSrcT.ledger (by rfl) F12 N12 (.head _) (by rw [PySem.sizeLine_eq]; omega) (fun g => ?_)
        refine restT_gen (fun ys i => StrsAre ys ((zs.dropLast.take i).filter keepS)) .nil (fun i v I oI C oC D m₂ ys' h tk E' hi hv hR hC hx F2 N2 off ne => ?_) (fun ys' hy => ?_)
        · obtain ⟨q, t', rfl, hq⟩ := hqs.item i v (by simpa using hv)
          have hf := filter_take_succ (f := keepS) hq
          have hql : q.length ≤ 5 := (hparts q (List.dropLast_subset _ (List.mem_of_getElem? hq))).1
          k_steps
          all_goals (rename Fr _ _ _ _ => kF; rename News _ _ _ _ => kN)
          · exact ⟨_, _, _, rfl, kF, fun p hp => kN p (.tail _ hp), off, .inr ⟨_, .head _, rfl, _, rfl⟩, rfl, by rw [hf, keep_any (by assumption)]; simpa using hR⟩
          · exact ⟨_, _, _, rfl, kF, fun p hp => kN p (.tail _ hp), off, .inr ⟨_, .head _, rfl, _, rfl⟩, rfl, by rw [hf, keep_any (by assumption)]; exact strsAre_append hR (.cons q t' .nil)⟩
        · intro D h tk F2 N2 o1
          (try dsimp only)
          have hyn : StrsAre ys' (zs.dropLast.filter keepS) := by
            rw [List.take_of_length_le (by rw [← Array.length_toList, hqs.length]; exact Nat.le_refl _)] at hy
            exact hy
          have hynl : ys'.length ≤ 64 := by
            rw [hyn.length]
            refine Nat.le_trans (List.length_filter_le ..) ?_
            rw [List.length_dropLast]; omega
          clear hy hqs hqn N12 F12
          k_steps
          unfold Stop
          have hqs := sl_last hz hne
          have hqn : (slicePick ys.toArray (some (-1)) none none).size ≤ 64 := by
            rw [← Array.length_toList, hqs.length, List.length_drop]; omega
          refine add_arrays (by k_asm) (by k_asm) (News.isList (by k_asm) (.tail _ (.head _))) (News.isList (by k_asm) (.head _)) ?_ ?_
          rotate_left
          · show (List.toArray ys').size + (slicePick ys.toArray (some (-1)) none none).size ≤ _
            rw [PySem.sizeLine_eq, List.size_toArray]; omega
          intro h12 F12 N12
          have hnm : StrsAre (ys' ++ (slicePick ys.toArray (some (-1)) none none).toList) (namesS zs) := strsAre_append hyn hqs
          have hnl : (ys' ++ (slicePick ys.toArray (some (-1)) none none).toList).length ≤ 128 := by
            have hqn2 : (slicePick ys.toArray (some (-1)) none none).toList.length ≤ 64 := by rw [hqs.length, List.length_drop]; omega
            rw [List.length_append]; omega
          (try dsimp only)
          generalize (ys' ++ (slicePick ys.toArray (some (-1)) none none).toList) = nv at N12 hnm hnl
          have hlenAt : LenAt := trivial
          k_steps
          unfold Stop
          refine PySem.Calls.call_len_list (News.isList (by k_asm) (.head _)) ?_ ?_
          · rw [List.size_toArray]; omega
          (rename LenAt => hlenAt; clear hlenAt)
          (try dsimp only)
          k_steps
          unfold Stop
          rename IsRange _ _ _ _ _ _ _ _ => hrg
          rename News _ _ _ _ => N13
          rename Fr _ _ _ _ => F13
          have hpz : ∀ q ∈ zs, noSl q ∧ q.length ≤ 5 := fun q hq => ⟨(hparts q hq).2, (hparts q hq).1⟩
          have hzl2 : zs.length ≤ 100 := by omega
          have hzn : (namesS zs).length = nv.length := hnm.length.symm
          refine iter_main (N := nv.length) (LawR PySem.Challenge.rw_kp0085_03.row.prog w (namesS zs)) (by rfl) hrg (by first | exact small_one (by omega) (by omega) (by omega) (by omega) | decide) ((rangeSize_nat _ _).trans (by omega)) F13 (by rfl) (news_m N13) (law_start hsa hok hvq hgs hnp hwf hsl0 hln hpz hzl2 hdH) (fun i ti u2 u3 pl ws nn o I oI h tk hi hR hIp hId hIr F2 N2 => ?_) (fun u1 u2 u3 pl ws nn o h tk hR F2 N2 => ?_)
          · obtain ⟨kvs, S, ps, P, tq, hws, hdo, hok, hq, hgp, hgs, hnn, hps, hpl, hwf, hwm, hSl, hln⟩ := hR
            obtain ⟨hwf, hplc⟩ := hwf (by omega)
            obtain ⟨n, ns, hd⟩ : ∃ n ns, (namesS zs).drop i = n :: ns := by
              cases e : (namesS zs).drop i with
              | nil => rw [List.drop_eq_nil_iff] at e; omega
              | cons n ns => exact ⟨n, ns, rfl⟩
            have hkl : kvs.length ≤ 10 := by rcases hln with h | h <;> omega
            have hpd := ne_dict N2 (.tail _ (.head _)) rfl (.tail _ (.tail _ (.head _))) hdo
            have hnd := ne_dict N2 (.tail _ (.tail _ (.tail _ (.head _)))) rfl (.tail _ (.tail _ (.head _))) hdo
            have hil : i < 64 := by
              have := names_len zs
              omega
            obtain ⟨hni, hnsd⟩ := drop_cons_get hd
            obtain ⟨tn, hnv⟩ := hnm.get i n hni
            have hnz := hpz n (names_mem (List.mem_of_getElem? hni))
            have hnl5 : n.length ≤ 5 := hnz.2
            k_steps
            unfold Stop
            k_dflt (refine' Mine.shift_spec ?B6 ?F6 ?X6 ?T6 ?hk6 ?hd6 ?hu6 (news_t N2) ?hlt6 hdo ?lo6 hkl hps hpl (hnn.trans hd) hwf ?hSl6 hgp hgs ?ret6)
            case B6 => k_asm
            case F6 => k_asm
            case X6 => k_asm
            case T6 => k_asm
            case hk6 => rfl
            case hd6 => ktr_room
            case hu6 => ktr_units
            case hlt6 =>
              intro p hp
              simp only [List.mem_cons, List.not_mem_nil, or_false] at hp
              rcases hp with rfl | rfl | rfl
              · exact hId.symm
              · exact hpd
              · exact hnd
            case lo6 => assumption
            case hSl6 => omega
            intro v h13 k13 o13 kvs13 F13 N13 hV hdo13 hD
            (try dsimp only)
            k_steps
            unfold Stop
            k_dflt (refine' Mine.law_walk_spec ?B7 ?F7 ?X7 ?N7 ?T7 ?hk7 ?hd7 ?hu7 ?hl7 hws ?hlen7 ?ret7)
            case B7 => k_asm
            case F7 => k_asm
            case X7 => k_asm
            case N7 => k_asm
            case T7 => k_asm
            case hk7 => rfl
            case hd7 => ktr_room
            case hu7 => ktr_units
            case hl7 => exact .tail _ (.tail _ (.head _))
            case hlen7 =>
              have := len_wsum P
              rw [PySem.sizeLine_eq, hws.length]; omega
            intro r vs' n' h14 k14 hr hv' F14 N14
            (try dsimp only)
            k_steps
            unfold Stop
            have hsf : StrsAre (slicePick nv.toArray (some (0 + (i : Int) + 1)) none none).toList ns := by
              rw [hnsd]
              exact sl_from hnm (by omega) (by omega)
            have hnsm : ∀ q ∈ ns, q.length ≤ 5 := fun q hq => by
              rw [hnsd] at hq
              exact (hpz q (names_mem (List.mem_of_mem_drop hq))).2
            have hnsl : ns.length ≤ 100 := by
              have h1 := names_len zs
              rw [hnsd, List.length_drop]; omega
            k_dflt (refine' Mine.law_joined_spec ?B8 ?F8 ?X8 ?N8 ?T8 ?hk8 ?hd8 ?hu8 (.head _) hsf ?hlen8 ?hps8 ?ret8)
            case B8 => k_asm
            case F8 => k_asm
            case X8 => k_asm
            case N8 => k_asm
            case T8 => k_asm
            case hk8 => rfl
            case hd8 => ktr_room
            case hu8 => ktr_units
            case hlen8 => omega
            case hps8 => exact fun q hq => Nat.le_trans (hnsm q hq) (by decide)
            intro tj h15 k15 F15 N15
            (try dsimp only)
            k_steps
            unfold Stop
            have hwW : wsum (walkS P n) ≤ 1000 := by
              have := walk_wsum P n
              omega
            k_dflt (refine' Mine.law_joined_spec ?B9 ?F9 ?X9 ?N9 ?T9 ?hk9 ?hd9 ?hu9 (.tail _ (.tail _ (.head _))) hv' ?hlen9 ?hps9 ?ret9)
            case B9 => k_asm
            case F9 => k_asm
            case X9 => k_asm
            case N9 => k_asm
            case T9 => k_asm
            case hk9 => rfl
            case hd9 => ktr_room
            case hu9 => ktr_units
            case hlen9 =>
              have := len_wsum (walkS P n)
              omega
            case hps9 =>
              intro q hq
              have := mem_wsum hq
              omega
            intro tj2 h16 k16 F16 N16
            (try dsimp only)
            obtain ⟨hR', hok', hlen3, hq', ⟨ts, hs'⟩, ⟨tp, hp'⟩⟩ := law_next hok hq hpz hzl2 hplc hwm hln hd hD hdo13 hv'
            have hjW : (joinedS (walkS P n)).length ≤ 1000 := by rw [joined_wsum]; exact hwW
            have hsc : scriptS S n = joinedS (walkS P n) ++ (if n = Str.ofString "" then Str.ofString "/" else Str.ofString "") := by
              unfold scriptS
              rw [hplc]
            have hself : (n != n) = false := by simp
            clear hD
            rcases hV with ⟨rfl, rfl⟩ | ⟨hnd2, tv, rfl⟩
            · k_steps
              unfold Stop
              rename PySem.Obj.IsDictOf _ _ (stored (strPairs _) _ _) => hdD
              rename News _ _ _ _ => kN
              refine env_ne_due kN (.tail _ (.tail _ (.tail _ (.head _)))) (.tail _ (.head _)) hdo13 hdD (by assumption) (by assumption) hok' hlen3 hq' ⟨_, hs'⟩ ⟨_, hp'⟩ (by rw [hsc, if_neg (by decide)]) (by ktr_units) ?_
              (try dsimp only)
              k_steps
              rename Fr _ _ _ _ => kF
              rename News _ _ _ _ => kN
              exact ⟨_, _, _, r, vs', n', o13, _, _, _, rfl, kF, upd4, news_z kN, (by
                rcases hr with e | e
                · rw [e]; exact hIp
                · exact (e _ (.tail _ (.head _))).symm), hR'⟩
            · by_cases hne2 : n = Str.ofString ""
              · subst hne2
                k_steps
                unfold Stop
                rename PySem.Obj.IsDictOf _ _ (stored (strPairs _) _ _) => hdD
                rename News _ _ _ _ => kN
                refine env_ne_due kN (.tail _ (.tail _ (.tail _ (.head _)))) (.tail _ (.head _)) hdo13 hdD (by assumption) (by assumption) hok' hlen3 hq' ⟨_, hs'⟩ ⟨_, hp'⟩ (by rw [hsc, if_pos rfl]) (by ktr_units) ?_
                (try dsimp only)
                k_steps
                rename Fr _ _ _ _ => kF
                rename News _ _ _ _ => kN
                exact ⟨_, _, _, r, vs', n', o13, _, _, _, rfl, kF, upd4, news_z kN, (by
                  rcases hr with e | e
                  · rw [e]; exact hIp
                  · exact (e _ (.tail _ (.head _))).symm), hR'⟩
              · have hb1 : (n == Str.ofString "") = false := beq_eq_false_iff_ne.mpr hne2
                have hb2 : (n == Str.ofString ".") = false := beq_eq_false_iff_ne.mpr hnd2
                k_steps
                unfold Stop
                rename PySem.Obj.IsDictOf _ _ (stored (strPairs _) _ _) => hdD
                rename News _ _ _ _ => kN
                refine env_ne_due kN (.tail _ (.tail _ (.tail _ (.head _)))) (.tail _ (.head _)) hdo13 hdD (by assumption) (by assumption) hok' hlen3 hq' ⟨_, hs'⟩ ⟨_, hp'⟩ (by rw [hsc, if_neg hne2]) (by ktr_units) ?_
                (try dsimp only)
                k_steps
                rename Fr _ _ _ _ => kF
                rename News _ _ _ _ => kN
                exact ⟨_, _, _, r, vs', n', o13, _, _, _, rfl, kF, upd4, news_z kN, (by
                  rcases hr with e | e
                  · rw [e]; exact hIp
                  · exact (e _ (.tail _ (.head _))).symm), hR'⟩
          · obtain ⟨kvs, S, ps, P, tq, hws, hdo, hok, hq, hgp, hgs, hnn, hps, hpl, hwf, hwm, hSl, hln⟩ := hR
            rw [← hzn, List.drop_length] at hnn
            have hpe := names_empty hnn
            subst hpe
            have hkl : kvs.length ≤ 10 := by rcases hln with h | h <;> omega
            (try dsimp only)
            k_steps
            unfold Stop
            rw [joined_nil] at hgp
            k_dflt (refine' Mine.still_spec ?Ba ?Fa ?Xa ?Ta ?hka ?hda ?hua ?Na ?hma hdo ?loa ?hkla hok hgp ?reta)
            case Ba => k_asm
            case Fa => k_asm
            case Xa => k_asm
            case Na => k_asm
            case Ta => k_asm
            case hka => rfl
            case hda => ktr_room
            case hua => ktr_units
            case hma => exact .tail _ (.head _)
            case loa => assumption
            case hkla => omega
            intro h17 k17 F17 N17
            (try dsimp only)
            k_steps)
end
end Mine

set_option maxRecDepth 100000 in
theorem PySem.Challenge.cw_kp0085_03_holds : PySem.Challenge.rw_kp0085_03.Holds :=
  Mine.walk7
