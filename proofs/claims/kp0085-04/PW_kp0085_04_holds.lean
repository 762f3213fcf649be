import PyProof.Rows.All
import Wide.All
import OpenK.AllK
import Wide.FinOn
import PySem.Challenge.RW_kp0085_04
set_option Elab.async false
set_option maxRecDepth 100000
set_option linter.unusedVariables false
set_option linter.unusedSimpArgs false

section
open PySem PySem.W PyProof.Rows
namespace Mine
theorem ne_of_all {d : Addr} {l : List (Addr × Obj)} (h : ∀ p ∈ l, p.1 < d) : ∀ p ∈ l, p.1 ≠ d := fun p hp => Nat.ne_of_lt (h p hp)
theorem ne_of_all1 {d : Addr} {l : List (Addr × Obj)} (h : ∀ p ∈ l, p.1 < d) : ∀ p ∈ l, p.1 ≠ d + 1 := fun p hp => Nat.ne_of_lt (Nat.lt_succ_of_lt (h p hp))
theorem ne_of_allLt {d : Addr} {l : List (Addr × Obj)} (h : AllLt d l) : ∀ p ∈ l, p.1 ≠ d := fun p hp => Nat.ne_of_lt (ktn_ltOf h p hp)
theorem ne_of_allLt2 {d : Addr} {P : Prop} {l : List (Addr × Obj)} (h : P ∧ AllLt d l) : ∀ p ∈ l, p.1 ≠ d := ne_of_allLt h.2
/-- the walk stands still before such a goal -/
def Stop (P : Prop) : Prop := P
theorem Stop.intro {P : Prop} (h : Stop P) : P := h
theorem Stop.out {P : Prop} (h : P) : Stop P := h
theorem ne_of_allLt3 {d : Addr} {P P2 : Prop} {l : List (Addr × Obj)} (h : P ∧ P2 ∧ AllLt d l) : ∀ p ∈ l, p.1 ≠ d := ne_of_allLt h.2.2
theorem ne_of_allLt4 {d : Addr} {P P2 P3 : Prop} {l : List (Addr × Obj)} (h : P ∧ P2 ∧ P3 ∧ AllLt d l) : ∀ p ∈ l, p.1 ≠ d := ne_of_allLt h.2.2.2
theorem ne_of_allLt5 {d : Addr} {P P2 P3 P4 : Prop} {l : List (Addr × Obj)} (h : P ∧ P2 ∧ P3 ∧ P4 ∧ AllLt d l) : ∀ p ∈ l, p.1 ≠ d := ne_of_allLt h.2.2.2.2
theorem ne_of_allLt6 {d : Addr} {P P2 P3 P4 P5 : Prop} {l : List (Addr × Obj)} (h : P ∧ P2 ∧ P3 ∧ P4 ∧ P5 ∧ AllLt d l) : ∀ p ∈ l, p.1 ≠ d := ne_of_allLt h.2.2.2.2.2
theorem ite_ff {c : Bool} {a b : Prop} (h : c = false) (hb : b) : if c = true then a else b := by rw [if_neg (by rw [h]; decide)]; exact hb
theorem ite_nt {c : Bool} {a b : Prop} (h : c = true) (hb : b) : if (!c) = true then a else b := by rw [if_neg (by rw [h]; decide)]; exact hb
theorem ite_nf {c : Bool} {a b : Prop} (h : c = false) (ha : a) : if (!c) = true then a else b := by rw [if_pos (by rw [h]; rfl)]; exact ha
section loops
variable {prog : Program} {w : World} {A : Around} {E : Value → Shared → Prop} {s : Shared} {env : Env} {h₀ : Heap} {x : Str} {body : List Stmt} {Q : Flow → Shared → Prop}
/-- what a turn has to give: a return, a break, or the state behind it -/
def TurnP (h₀ : Heap) (L : Addr) (J : (Str → Option Value) → List (Addr × Obj) → Prop) (I : Addr) (oI : Obj) (s₁ : Shared) (Q : Flow → Shared → Prop) (f : Flow) (s₂ : Shared) : Prop :=
  match f with
  | .ret v => Q (.ret v) s₂
  | .brk => Q .next s₂
  | _ => ∃ h' tk m' nx, s₂ = { s₁ with heap := h', toks := tk } ∧ Fr h₀ L h' m' ∧ News h₀ L h' ((I, oI) :: nx) ∧ (∀ p ∈ nx, p.1 ≠ I) ∧ J m' nx
theorem iter_rng {r : Addr} {a₀ b₀ : Int} {t₀ u₀ v₀ : Tok} {n : Nat} {m₀ : Str → Option Value} {news : List (Addr × Obj)} (J : Nat → (Str → Option Value) → List (Addr × Obj) → Prop)
    (hh : A.handled = none) (hr : IsRange s.heap r a₀ b₀ 1 t₀ u₀ v₀) (hsmall : Builtin.Range.small a₀ b₀ 1 = true) (hn : Builtin.Range.rangeSize a₀ b₀ 1 = (n : Int))
    (F : Fr h₀ env.locals s.heap m₀) (N : News h₀ env.locals s.heap news) (hj : J 0 m₀ news)
    (turn : ∀ i t m₁ nx I oI h tk, i < n → J i m₁ nx → (∀ p ∈ nx, p.1 ≠ I) → Fr h₀ env.locals h (fun y => if y = x then some (.int (a₀ + (i : Nat)) t) else m₁ y) → News h₀ env.locals h ((I, oI) :: nx) →
      wpAny (model prog w) A (execs body env) (TurnP h₀ env.locals (J (i + 1)) I oI { s with heap := h, toks := tk } Q) E { s with heap := h, toks := tk })
    (done : ∀ m₁ nx h tk, J n m₁ nx → Fr h₀ env.locals h m₁ → News h₀ env.locals h nx → Q .next { s with heap := h, toks := tk }) :
    wpAny (model prog w) A (pyIter (.ref r)) (fun it s₂ => LoopAtV prog w A h₀ env x body Q E it s₂) E s := by
  refine wpAny_pyIter_range hr hsmall ?_
  have W : Walks prog w A s.heap.objs.size [s.heap.objs.size] [s.heap.objs.size] n (fun i v => i < n ∧ ∃ t, v = .int (a₀ + i * 1) t)
      (fun i h => IsRangeIter h s.heap.objs.size (a₀ + (i : Nat) * 1) ((n : Int) - (i : Nat)) 1) := (Walks.range hh _ a₀ 1 n).bound
  refine ⟨_, _, _, n, _, _, m₀, news, J, rfl, W, ?_, ?_, ?_, (by show IsRangeIter _ _ _ _ _; rw [hn]; simpa using Heap.get?_push_size _ rfl), F.push _, (fun p hp => ⟨Heap.get?_push_of_some _ (N p hp).1, (N p hp).2⟩), hj, ?_, ?_⟩
  · intro hm
    exact absurd F.ns.lt ((List.mem_singleton.mp hm) ▸ Nat.lt_irrefl _)
  · intro b hb
    rw [List.mem_singleton.mp hb]
    exact next_is_new F
  · intro p hp hI
    exact absurd (Heap.lt_size (N p hp).1) ((List.mem_singleton.mp hI) ▸ Nat.lt_irrefl _)
  · rintro i v m₁ news₁ s₁ own ⟨hh', tk', rfl⟩ hin hP hJi hoff hown hget hall hst F₁ N₁
    obtain ⟨oi, hoi⟩ : ∃ oi, hh'.get? s.heap.objs.size = some oi := ⟨_, hst⟩
    have hI : (s.heap.objs.size, oi) ∈ own := hall _ (.head _) (next_is_new F) oi hoi
    have hoffI : ∀ p ∈ news₁, p.1 ≠ s.heap.objs.size := fun p hp e => hoff p hp (List.mem_singleton.mpr e)
    have ownOf : ∀ p ∈ own, p = (s.heap.objs.size, oi) := by
      intro p hp
      have hg := hget p hp
      have e := List.mem_singleton.mp (hown p hp)
      have e2 : p.2 = oi := by rw [e, hoi] at hg; exact (Option.some.inj hg).symm
      exact Prod.ext e e2
    have N₂ : News h₀ env.locals hh' ((s.heap.objs.size, oi) :: news₁) := fun p hp => by
      rcases List.mem_cons.mp hp with e | hp
      · rw [e]; exact N₁ _ (List.mem_append_left _ hI)
      · exact N₁ _ (List.mem_append_right _ hp)
    obtain ⟨_, t, rfl⟩ := hP
    rw [Int.mul_one] at F₁
    refine wpAny_mono (turn i t m₁ news₁ s.heap.objs.size oi hh' tk' hin hJi hoffI F₁ N₂) (fun f s₂ p => ?_) fun _ _ e => e
    have fin : (∃ h' tk m' nx, s₂ = { ({ s with heap := hh', toks := tk' } : Shared) with heap := h', toks := tk } ∧ Fr h₀ env.locals h' m' ∧ News h₀ env.locals h' ((s.heap.objs.size, oi) :: nx) ∧ (∀ p ∈ nx, p.1 ≠ s.heap.objs.size) ∧ J (i + 1) m' nx) →
        LoopStepU h₀ env.locals [s.heap.objs.size] own (J (i + 1)) { s with heap := hh', toks := tk' } .next s₂ := by
      rintro ⟨h', tk, m', nx, e, F', N', ho, hj'⟩
      refine ⟨rfl, h', tk, m', nx, e, F', fun p hp => ?_, fun p hp hq => ho p hp (List.mem_singleton.mp hq), hj'⟩
      rcases List.mem_append.mp hp with hp | hp
      · rw [ownOf p hp]; exact N' _ (.head _)
      · exact N' p (.tail _ hp)
    cases f with
    | ret v => exact .ret p
    | brk => exact .brk p
    | next => exact .next (fin p)
    | cont => exact .cont (fin p)
  · rintro h' tk m' news' F' N' _ hJ'
    exact done m' news' h' tk hJ' F' N'
theorem fr_norm {L : Addr} {h : Heap} {m₀ m₁ : Str → Option Value} {v : Option Value} (F : Fr h₀ L h (fun y => if y = x then v else m₁ y)) (hm : ∀ z, z ≠ x → m₁ z = m₀ z) : Fr h₀ L h (fun y => if y = x then v else m₀ y) := by
  have e : (fun y => if y = x then v else m₁ y) = fun y => if y = x then v else m₀ y := by
    funext y
    by_cases hy : y = x
    · simp [hy]
    · simp only [if_neg hy]; exact hm y hy
  rw [← e]; exact F
theorem fr_norm' {L : Addr} {h : Heap} {m₀ m₁ : Str → Option Value} (F : Fr h₀ L h m₁) (hm : ∀ z, z ≠ x → m₁ z = m₀ z) : Fr h₀ L h (fun y => if y = x then m₁ x else m₀ y) := by
  have e : m₁ = fun y => if y = x then m₁ x else m₀ y := by
    funext y
    by_cases hy : y = x
    · simp [hy]
    · simp only [if_neg hy]; exact hm y hy
  rw [← e]; exact F
end loops

section comps
variable {prog : Program} {w : World} {A : Around} {h₀ : Heap} {L : Addr} {m : Str → Option Value} {env : Env} {ct elt : Expr} {x : Str} {scope : Scope} {cl : List (Str × Addr)} {s : Shared} {S : List (Addr × Obj) → Prop} {P : Nat → Value → Prop} {Fin : List Value → List (Addr × Obj) → Prop} {news : List (Addr × Obj)}
/-- a comprehension with a test, its items texts: they stay as they are -/
theorem restT_gen {n : Nat} (R : List Value → Nat → Prop) (h0 : R [] 0)
    (turn : ∀ i v I oI C oC D m₂ ys h tk (E' : Value → Shared → Prop), i < n → P i v → R ys i → LCg.NsObj oC m₂ → m₂ x = some v → Fr h₀ L h m → News h₀ L h ((I, oI) :: (C, oC) :: (D, LCg.lst ys) :: news) → LCg.Off3 I C D news → ((@Ne Nat I C) ∧ (@Ne Nat I D) ∧ (@Ne Nat C D)) →
      wpAny (model prog w) A (isTrue ct (compEnvC scope cl C env) (eval ct (compEnvC scope cl C env))) (fun ok s' => if ok = true then
        wpAny (model prog w) A (eval elt (compEnvC scope cl C env)) (LCg.CompEnd h₀ L m { s with heap := h, toks := tk } I oI C oC D (LCg.lst ys) S (fun y news' => news' = news ∧ R (ys ++ [y]) (i + 1))) E' s'
        else LCg.CompEnd h₀ L m { s with heap := h, toks := tk } I oI C oC D (LCg.lst ys) S (fun _ news' => news' = news ∧ R ys (i + 1)) Value.none s') E' { s with heap := h, toks := tk })
    (fin : ∀ ys : List Value, R ys n → Fin ys news) : LCt.CompRestT prog w A h₀ L m env ct elt x scope cl s S P Fin n 0 [] news := by
  have key : ∀ (j i : Nat) (ys : List Value), i + j = n → R ys i → LCt.CompRestT prog w A h₀ L m env ct elt x scope cl s S P Fin j i ys news := by
    intro j
    induction j with
    | zero =>
      intro i ys hi hy
      have e : i = n := by omega
      subst e
      exact LCt.CompRestT.zero (fin ys hy)
    | succ j ih =>
      intro i ys hi hy
      refine LCt.CompRestT.succ ?_
      intro v I oI C oC D m₂ h tk E' hv hC hx F N off ne
      refine wpAny_mono (turn i v I oI C oC D m₂ ys h tk E' (by omega) hv hy hC hx F N off ne) (fun ok s₂ hq => ?_) fun _ _ e => e
      by_cases hok : ok = true
      · rw [if_pos hok] at hq ⊢
        refine wpAny_mono hq (fun y s₃ hq => ?_) fun _ _ e => e
        obtain ⟨h', tk', nw, e, F', N', off', hS, hn, hR⟩ := hq
        rw [hn] at N' off' hS
        exact ⟨h', tk', news, e, F', N', off', hS, ih (i + 1) _ (by omega) hR⟩
      · rw [if_neg hok] at hq ⊢
        obtain ⟨h', tk', nw, e, F', N', off', hS, hn, hR⟩ := hq
        rw [hn] at N' off' hS
        exact ⟨h', tk', news, e, F', N', off', hS, ih (i + 1) _ (by omega) hR⟩
  exact key n 0 [] (by omega) h0
end comps
theorem strsAre_get : ∀ {ys : List Value} {zs : List Str}, ys.length = zs.length → (∀ (i : Nat) (y : Value), ys[i]? = some y → ∃ q t, zs[i]? = some q ∧ y = Value.str q t) → StrsAre ys zs
  | [], [], _, _ => .nil
  | [], _ :: _, h, _ => by cases h
  | _ :: _, [], h, _ => by cases h
  | y :: ys, z :: zs, h, k => by
    obtain ⟨q, t, e, rfl⟩ := k 0 y rfl
    cases e
    exact .cons _ t (strsAre_get (Nat.succ.inj h) fun i y e => by
      have := k (i + 1) y (by simpa using e)
      simpa using this)
theorem strsAre_ex (P : Nat → Str → Prop) : ∀ {ys : List Value}, (∀ (i : Nat) (y : Value), ys[i]? = some y → ∃ q t, y = Value.str q t ∧ P i q) → ∃ zs : List Str, StrsAre ys zs ∧ zs.length = ys.length ∧ ∀ i q, zs[i]? = some q → P i q
  | [], _ => ⟨[], .nil, rfl, fun i q h => by simp at h⟩
  | y :: ys, k => by
    obtain ⟨q, t, rfl, hq⟩ := k 0 y rfl
    obtain ⟨zs, hz, hl, hp⟩ := strsAre_ex (fun i => P (i + 1)) (ys := ys) fun i y e => k (i + 1) y (by simpa using e)
    refine ⟨q :: zs, .cons _ t hz, by simp [hl], fun i r hr => ?_⟩
    cases i with
    | zero => simp at hr; subst hr; exact hq
    | succ i => exact hp i r (by simpa using hr)
section items
variable {prog : Program} {w : World} {A : Around} {E : Value → Shared → Prop} {s : Shared}
end items
end Mine
end

section
open PySem PySem.W PyProof.Rows
namespace Mine
section
variable {prog : Program} {w : World} {A : Around} {E : Value → Shared → Prop} {s : Shared} {h₀ : Heap} {L d : Addr} {m : Str → Option Value} {news : List (Addr × Obj)} {o : Obj} {kvs : List (Str × Value)} {x : Str} {t : Tok} {v dflt : Value} {Q : Value → Shared → Prop}
theorem dat (N : News h₀ L s.heap news) (hm : (d, o) ∈ news) (hd : o.IsDictOf (strKind prog w) kvs) : s.heap.DictOf (strKind prog w) d kvs := Heap.dictOf_iff.mpr ⟨o, (N _ hm).1, hd⟩
theorem d_get (N : News h₀ L s.heap news) (hm : (d, o) ∈ news) (hd : o.IsDictOf (strKind prog w) kvs) (lo : (d == sysModules) = false) (hv : valueAt kvs x = some v) (h : Q v { s with toks := s.toks + 1 }) :
    wpAny (model prog w) A (call (.builtin "dict.get") [.ref d, .str x t, dflt]) Q E s :=
  have hD := dat N hm hd
  call_meetsIn PySem.F.slot_dict_get hD.typeIs PySem.F.entry_dict_get (PySem.F.args_dict_get_3 _ _ _) (meets_dict_get_default (strKind prog w) d (strKind_is prog w x t) lo dflt) ⟨_, hD.mapOf, by rw [hv]; exact h⟩
theorem d_get_none (N : News h₀ L s.heap news) (hm : (d, o) ∈ news) (hd : o.IsDictOf (strKind prog w) kvs) (lo : (d == sysModules) = false) (hv : valueAt kvs x = none) (h : Q dflt { s with toks := s.toks + 1 }) :
    wpAny (model prog w) A (call (.builtin "dict.get") [.ref d, .str x t, dflt]) Q E s :=
  have hD := dat N hm hd
  call_meetsIn PySem.F.slot_dict_get hD.typeIs PySem.F.entry_dict_get (PySem.F.args_dict_get_3 _ _ _) (meets_dict_get_default (strKind prog w) d (strKind_is prog w x t) lo dflt) ⟨_, hD.mapOf, by rw [hv]; exact h⟩
theorem d_getMethod {name : Str} {id : String} {pl : Sem Bool} {Q : Value × List Value → Shared → Prop} (slot : Slot "dict" name id) (ty : typeOf (.builtin id) = pure (.type "method_descriptor")) (N : News h₀ L s.heap news) (hm : (d, o) ∈ news) (hd : o.IsDictOf (strKind prog w) kvs)
    (h : Q (.builtin id, [.ref d]) s) : wpAny (model prog w) A (getMethod (.ref d) name pl) Q E s := kdl_method slot ty N hm hd h
theorem d_setItem {g : Obj → List (Addr × Obj)} {Q : Unit → Shared → Prop} (F : Fr h₀ L s.heap m) (N : News h₀ L s.heap news) (U : UpdF d o news g) (hd : o.IsDictOf (strKind prog w) kvs) (hz : kvs.length ≤ 1000)
    (h : ∀ h' o', Fr h₀ L h' m → News h₀ L h' (g o') → o'.IsDictOf (strKind prog w) (stored kvs x v) → Q () { s with heap := h', toks := s.toks + 1 }) :
    wpAny (model prog w) A (setItem (.ref d) (.str x t) v) Q E s := by
  obtain ⟨pre, post, rfl, hg, a, b⟩ := U.split
  have hm := N (d, o) (List.mem_append_right _ (.head _))
  refine wpAny_setItem_pairs (hsz := by rw [PySem.sizeLine_eq]; omega) (strKind_is prog w x t) (Heap.dictOf_iff.mpr ⟨o, hm.1, hd⟩) fun h' hmm hs => ?_
  obtain ⟨o', ho', hd'⟩ := Heap.dictOf_iff.mp hmm
  exact h h' o' (F.change hs hm.2.1 hm.2.2) (hg o' ▸ N.setIn a b hs ho') hd'
theorem d_copy (F : Fr h₀ L s.heap m) (N : News h₀ L s.heap news) (hbig : h₀.NoLimit) (hm : (d, o) ∈ news) (hd : o.IsDictOf (strKind prog w) kvs) (lo : (d == sysModules) = false) (hz : kvs.length ≤ 1000)
    (k : ∀ D h' o', Fr h₀ L h' m → News h₀ L h' ((D, o') :: news) → (∀ p ∈ news, p.1 < D) → (D == sysModules) = false → o'.IsDictOf (strKind prog w) kvs → Q (.ref D) { s with heap := h' }) :
    wpAny (model prog w) A (call (.type "dict") [.ref d]) Q E s := by
  refine kt_call_dict lo (dat N hm hd) (by rw [PySem.sizeLine_eq]; omega) fun h' hm' hs => ?_
  obtain ⟨o', ho', hd'⟩ := Heap.dictOf_iff.mp hm'
  have N1 := News.push F N { cls := .type "dict", data := .dict #[] }
  exact k _ h' o' ((F.push _).change hs (N1 _ (.head _)).2.1 (N1.fresh (.head _))) (N1.setHead N.apart hs ho') (fun p hp => Heap.lt_size (N p hp).1) (F.notModules (modules_low hbig)) hd'
end
/-! plain facts of pairs -/
theorem valueAt_stored {kvs : List (Str × Value)} {k j : Str} {v : Value} : valueAt (stored kvs k v) j = if j = k then some v else valueAt kvs j := by
  unfold stored valueAt
  split
  · rename_i h
    induction kvs with
    | nil => simp at h
    | cons p r ih =>
      obtain ⟨a, b⟩ := p
      by_cases ha : a = k
      · subst ha
        by_cases hj : j = a
        · subst hj; simp
        · rw [if_neg hj]
          have e : ∀ r : List (Str × Value), ((r.map fun kv => if kv.1 = a then (kv.1, v) else kv).find? fun kv => decide (kv.1 = j)).map (·.2) = (r.find? fun kv => decide (kv.1 = j)).map (·.2) := by
            intro r
            induction r with
            | nil => rfl
            | cons q r ih2 =>
              obtain ⟨c, d⟩ := q
              by_cases hc : c = a
              · subst hc
                simp only [List.map_cons, if_true, List.find?_cons]
                have : decide (c = j) = false := decide_eq_false (Ne.symm hj)
                simp only [this]; exact ih2
              · simp only [List.map_cons, if_neg hc, List.find?_cons]
                by_cases hcj : c = j
                · simp [hcj]
                · simp only [decide_eq_false hcj]; exact ih2
          exact e ((a, b) :: r)
      · have h' : (r.any fun kv => decide (kv.1 = k)) = true := by simpa [ha] using h
        have ih' := ih h'
        simp only [List.map_cons, if_neg ha, List.find?_cons]
        by_cases haj : a = j
        · subst haj
          rw [if_neg ha]
          simp
        · simp only [decide_eq_false haj]
          exact ih'
  · rename_i h
    rw [List.find?_append]
    by_cases hj : j = k
    · subst hj
      have e : (kvs.find? fun kv => decide (kv.1 = j)) = none := by
        rw [List.find?_eq_none]
        intro p hp
        simp only [List.any_eq_true, not_exists] at h
        exact fun e => h p ⟨hp, e⟩
      simp [e]
    · rw [if_neg hj]
      cases e : kvs.find? fun kv => decide (kv.1 = j) with
      | some p => simp
      | none => simp [Ne.symm hj]
theorem stored_len_in {kvs : List (Str × Value)} {k : Str} {v u : Value} (h : valueAt kvs k = some u) : (stored kvs k v).length = kvs.length := by
  unfold stored
  rw [if_pos]
  · simp
  · unfold valueAt at h
    obtain ⟨p, hp, _⟩ := Option.map_eq_some_iff.mp h
    exact List.any_eq_true.mpr ⟨p, List.mem_of_find?_eq_some hp, by simpa using List.find?_some hp⟩
theorem stored_len_new {kvs : List (Str × Value)} {k : Str} {v : Value} (h : valueAt kvs k = none) : (stored kvs k v).length = kvs.length + 1 := by
  unfold stored
  rw [if_neg]
  · simp
  · intro ha
    obtain ⟨p, hp, e⟩ := List.any_eq_true.mp ha
    unfold valueAt at h
    rw [Option.map_eq_none_iff] at h
    exact absurd e (by have := List.find?_eq_none.mp h p hp; simpa using this)
end Mine
end

section
open PySem PySem.W PyProof.Rows
namespace Mine
section
variable {prog : Program} {w : World} {A : Around} {E : Value → Shared → Prop} {s : Shared} {h₀ : Heap} {L l d : Addr} {m : Str → Option Value} {news : List (Addr × Obj)} {o : Obj} {kvs : List (Str × Value)} {x : Str} {t : Tok}
theorem item_at {value slice : PySem.Expr} {v : Value} {its : List Value} {k : Int} {i : Nat} {u : Tok} {Q : Value → Shared → Prop}
    (hl : s.heap.IsList l its.toArray) (hk : k = (i : Int)) (hz : its.length ≤ 1000) (hv : its[i]? = some v) (h : Q v s)
    (hs : subscripted slice false (.ref l) (.int k u) = operate [.ref l, .int k u] (getItem (.ref l) (.int k u)) := by with_unfolding_all rfl) :
    wpAny (model prog w) A (subscriptTail value slice (.ref l) (.int k u)) Q E s := by
  subst hk
  have hi : i < its.length := by
    rcases Nat.lt_or_ge i its.length with h | h
    · exact h
    · rw [List.getElem?_eq_none h] at hv; cases hv
  exact tail_any hl.typeIs slot_list_getitem.lookup (PySem.wpAny_getItem_list hl (by omega) (by omega) (by simpa using hv) h) hs
end
end Mine
end

section
open PySem PySem.W PyProof.Rows PySem.Calls
namespace Mine
/-! the logic over stacks that bear no decoder -/
def isDec : Code → Bool
  | .builtin id _ => PySem.Builtin.Bytes.decodersThatHold.contains id
  | _ => false
def Clean (l : List (Code × Pos)) : Prop := ∀ q ∈ l, isDec q.1 = false
theorem Clean.cons {c : Code} {p : Pos} {l : List (Code × Pos)} (h : isDec c = false) (k : Clean l) : Clean ((c, p) :: l) := fun q hq => by
  rcases List.mem_cons.mp hq with rfl | hq
  · exact h
  · exact k q hq
def wpR {α : Type} (M : Model) (A : Around) (t : Sem α) (Q : α → Shared → Prop) (E : Value → Shared → Prop) (s : Shared) : Prop :=
  ∀ Γ p, Γ.In A → isDec Γ.code = false → Clean Γ.below → Sem.wp M Γ t (fun a _ s' => Q a s') (fun e _ s' => E e s') p s
def codeR (M : Model) (A : Around) (c : Code) (R : Result → Shared → Prop) (s : Shared) : Prop :=
  ∀ Γ p, Γ.code = c → Γ.Below A → Clean Γ.below → wpCode M Γ R p s
section
variable {α β : Type} {M : Model} {A : Around} {E : Value → Shared → Prop} {s : Shared}
theorem wpR_of {t : Sem α} {Q : α → Shared → Prop} (h : wpAny M A t Q E s) : wpR M A t Q E s := fun Γ p hΓ _ _ => h Γ p hΓ
theorem codeR_of {c : Code} {R : Result → Shared → Prop} (h : codeAny M A c R s) : codeR M A c R s := fun Γ p hc hΓ _ => h Γ p hc hΓ
theorem wpR_pure {a : α} {Q : α → Shared → Prop} (h : Q a s) : wpR M A (pure a) Q E s := fun _ _ _ _ _ => h
theorem wpR_mono {t : Sem α} {Q Q' : α → Shared → Prop} {E' : Value → Shared → Prop} (h : wpR M A t Q E s) (hQ : ∀ a s, Q a s → Q' a s) (hE : ∀ e s, E e s → E' e s) : wpR M A t Q' E' s :=
  fun Γ p hΓ hd hc => Sem.wp_mono M Γ t (fun a _ s => hQ a s) (fun e _ s => hE e s) p s (h Γ p hΓ hd hc)
theorem wpR_bind {m : Sem α} {f : α → Sem β} {Q : β → Shared → Prop} (h : wpR M A m (fun a s' => wpR M A (f a) Q E s') E s) : wpR M A (m >>= f) Q E s := fun Γ p hΓ hd hc => by
  rw [Sem.wp_bind']
  exact Sem.wp_mono M Γ m (fun a p' s' h' => h' Γ p' hΓ hd hc) (fun _ _ _ h' => h') p s (h Γ p hΓ hd hc)
theorem wpR_map {m : Sem α} {f : α → β} {Q : β → Shared → Prop} (h : wpR M A m (fun a s' => Q (f a) s') E s) : wpR M A (f <$> m) Q E s := fun Γ p hΓ hd hc => by rw [Sem.wp_map]; exact h Γ p hΓ hd hc
theorem wpR_tryCatch {m : Sem α} {k : Value → Sem α} {Q : α → Shared → Prop} (h : wpR M A m Q (fun e s' => wpR M A (k e) Q E s') s) : wpR M A (tryCatch m k) Q E s := fun Γ p hΓ hd hc => by
  rw [Sem.wp_tryCatch']
  exact Sem.wp_mono M Γ m (fun _ _ _ h' => h') (fun e p' s' h' => h' Γ p' hΓ hd hc) p s (h Γ p hΓ hd hc)
theorem wpR_onRaise {m : Sem α} {k : Value → Sem Unit} {Q : α → Shared → Prop} (h : wpR M A m Q (fun e s' => wpR M A (k e) (fun _ s'' => E e s'') E s') s) : wpR M A (m.onRaise k) Q E s := fun Γ p hΓ hd hc => by
  rw [Sem.wp_onRaise]
  exact Sem.wp_mono M Γ m (fun _ _ _ h' => h') (fun e p' s' h' => h' Γ p' hΓ hd hc) p s (h Γ p hΓ hd hc)
theorem wpR_attempt {m : Sem α} {Q : Except Value α → Shared → Prop} (h : wpR M A m (fun a => Q (.ok a)) (fun e => Q (.error e)) s) : wpR M A m.attempt Q E s := fun Γ p hΓ hd hc => by rw [Sem.wp_attempt]; exact h Γ p hΓ hd hc
theorem wpR_holding {vs : List Value} {m : Sem α} {Q : α → Shared → Prop} (h : wpR M A m Q E s) : wpR M A (holding vs m) Q E s := fun Γ p hΓ hd hc => by rw [Sem.wp_holding]; exact h Γ p hΓ hd hc
theorem codeR_mono {c : Code} {R R' : Result → Shared → Prop} (h : codeR M A c R s) (hR : ∀ r s, R r s → R' r s) : codeR M A c R' s := fun Γ p hc hΓ hk => wpCode_mono hR (h Γ p hc hΓ hk)
theorem wpR_run {c : Code} {h : Option Value} {Q : Flow → Shared → Prop} (hc : codeR M (A.mark h) c (fun r s' => match r with | .ok f => Q f s' | .error e => E e s') s) (hnb : h ≠ some byPass := by intro x; cases x) : wpR M A (run c h) Q E s :=
  fun Γ p hΓ hd hk => by rw [Sem.wp_run]; exact hc _ p rfl (hΓ.enter c h p hnb) (hk.cons hd)
theorem wpR_runValue {c : Code} {Q : Value → Shared → Prop} (hc : codeR M A c (fun r s' => match r with | .ok (.ret v) => Q v s' | .ok _ => False | .error e => E e s') s) : wpR M A (runValue c) Q E s :=
  fun Γ p hΓ hd hk => by rw [Sem.wp_runValue]; exact hc _ p rfl (hΓ.enter c none p (by intro x; cases x)) (hk.cons hd)
theorem wpR_call {f : Value} {pos : List Value} {kw : List (Str × Value)} {Q : Value → Shared → Prop} (hc : codeR M A (.call f ⟨pos, kw⟩) (fun r s' => match r with | .ok (.ret v) => Q v s' | .ok _ => False | .error e => E e s') s) : wpR M A (call f pos kw) Q E s := wpR_runValue hc
theorem codeR_of_tree {c : Code} {R : Result → Shared → Prop} (hd : isDec c = false) (h : wpR M (A.under c) (M.den c) (fun fin s' => match fin with | .done f => R (.ok f) s' | .again c' => c'.quiet = true ∧ codeR M A c' R s') (fun e s' => R (.error e) s') s) : codeR M A c R s := fun Γ p hc hΓ hk => by
  rw [wpCode_iff_wp, hc]
  refine Sem.wp_mono M Γ _ (fun fin p' s' h' => ?_) (fun _ _ _ h' => h') p s (h Γ p (hc ▸ hΓ.in) (hc ▸ hd) hk)
  cases fin with
  | done f => exact h'
  | again c' => exact ⟨h'.1, h'.2 (Γ.goto c') p' rfl (hΓ.goto c') hk⟩
theorem codeR_loop {c : Code} {R : Result → Shared → Prop} (hd : isDec c = false) (hq : c.quiet = true) (I : Nat → Shared → Prop)
    (turn : ∀ n s, I n s → wpR M (A.under c) (M.den c) (fun fin s' => match fin with | .done f => R (.ok f) s' | .again c' => c' = c ∧ ∃ m, m < n ∧ I m s') (fun e s' => R (.error e) s') s)
    (n : Nat) (h : I n s) : codeR M A c R s := by
  induction n using Nat.strongRecOn generalizing s with
  | ind n ih =>
    refine codeR_of_tree hd (wpR_mono (turn n s h) (fun fin s' hf => ?_) fun _ _ h' => h')
    cases fin with
    | done f => exact hf
    | again c' => obtain ⟨rfl, m, hm, hI⟩ := hf; exact ⟨hq, ih m hm hI⟩
theorem wpR_units_le {t : Sem α} {Q : α → Shared → Prop} {u : Nat} (h : wpR M A t Q E s) (hu : u ≤ A.units) : wpR M { A with units := u } t Q E s := fun Γ p hΓ hd hc => h Γ p (hΓ.units_le hu) hd hc
theorem wpR_of_in1 {t : Sem α} {Q : α → Shared → Prop} (h : wpR M A.in1 t Q E s) : wpR M A t Q E s := fun Γ p hΓ hd hc => h Γ p ⟨hΓ.1, hΓ.2.1, hΓ.2.2.1, hΓ.2.2.2.1, Nat.le_succ_of_le hΓ.2.2.2.2⟩ hd hc
/-- the stack bears no guard and no decoder: what asks it for them hears no -/
theorem wpR_stackAny_false {f : Code × Pos → Bool} {Q : Bool → Shared → Prop} (hg : A.guards = some []) (hf : ∀ c p, c.isGuard = false → isDec c = false → f (c, p) = false) (h : Q false s) :
    wpR M A (do return (← stack).any f) Q E s := fun Γ p hΓ hd hc => by
  show Q (((Γ.code, p) :: Γ.below).any f) s
  have hn : guardsOf ((Γ.code, p) :: Γ.below) = [] := by rw [guardsOf_cons]; exact hΓ.2.2.2.1 _ hg
  have e : ((Γ.code, p) :: Γ.below).any f = false := by
    rw [List.any_eq_false]
    intro q hq
    obtain ⟨c, p'⟩ := q
    have h1 : c.isGuard = false := by
      cases hg' : c.isGuard with
      | false => rfl
      | true =>
        have : c ∈ guardsOf ((Γ.code, p) :: Γ.below) := by
          unfold guardsOf
          exact List.mem_filter.mpr ⟨List.mem_map.mpr ⟨_, hq, rfl⟩, hg'⟩
        rw [hn] at this
        cases this
    have h2 : isDec c = false := by
      rcases List.mem_cons.mp hq with e | hq
      · cases e; exact hd
      · exact hc _ hq
    rw [hf c p' h1 h2]; decide
  rw [e]; exact h
end
section
variable {prog : Program} {w : World} {A : Around} {E : Value → Shared → Prop} {s : Shared} {R : Result → Shared → Prop}
theorem codeR_builtin {id : String} {args : Args} {b : Builtin} (hd : isDec (.builtin id args) = false) (hb : entryFor table id = some b)
    (h : wpR (model prog w) (A.under (.builtin id args)) (b args) (fun fin s' => match fin with | .done f => R (.ok f) s' | .again c' => c'.quiet = true ∧ codeR (model prog w) A c' R s') (fun e s' => R (.error e) s') s) :
    codeR (model prog w) A (.builtin id args) R s := by
  refine codeR_of_tree hd ?_
  show wpR _ _ (match entryFor table id with | some b => b args | none => unsupported ((withoutEnding? id "#data").getD id)) _ _ s
  rw [hb]; exact h
theorem codeR_call_builtin_at {id : String} {args : Args} {b : Builtin} (hd : isDec (.builtin id args) = false) (hq : (Code.builtin id args).quiet = true) (hb : entryFor table id = some b)
    (h : wpAny (model prog w) A.in1 (checkBuiltinCall id args) (fun _ s₁ => wpR (model prog w) (A.under (.builtin id args)) (b args)
      (fun fin s' => match fin with | .done f => R (.ok f) s' | .again c' => c'.quiet = true ∧ codeR (model prog w) A c' R s') (fun e s' => R (.error e) s') s₁) (fun e s' => R (.error e) s') s) : codeR (model prog w) A (.call (.builtin id) args) R s := by
  refine codeR_of_tree rfl ?_
  show wpR _ A.in1 (do checkBuiltinCall id args; again (.builtin id args)) _ _ s
  exact wpR_bind (wpR_mono (wpR_of h) (fun _ s₁ h₁ => wpR_pure (And.intro hq (codeR_builtin hd hb h₁))) fun _ _ h' => h')
end
theorem guards_under {A : Around} {c : Code} (h : c.isGuard = false) (hg : A.guards = some []) : (A.under c).guards = some [] := by
  show pushGuards c.guards A.guards = some []
  rw [show c.guards = [] by simp [Code.guards, h], hg]; rfl
theorem isDec_id {id : String} {args : Args} (h : PySem.Builtin.Bytes.decodersThatHold.contains id = false) : isDec (.builtin id args) = false := h
theorem notGuard_id {id : String} {args : Args} (h : guardIds.contains id = false) : (Code.builtin id args).isGuard = false := h
end Mine
end

section
open PySem PySem.W PyProof.Rows PySem.Calls
set_option maxRecDepth 100000
namespace Mine
section
variable {prog p : Program} {w : World} {loose : List Str} {mean : ExcName → Option Value} {mg mb : Str → Option Value} {A₀ A : Around} {s : Shared} {base h₀ : Heap} {outer : List Env} {L : Addr} {m : Str → Option Value} {env : Env} {news : List (Addr × Obj)} {K : Frag} {R : Result → Shared → Prop}
theorem codeR_func {body : List Stmt} (h : wpR (model prog w) (A.deeper env) (execs body env) (fun f s' => R (.ok (.ret (match f with | .ret v => v | _ => .none))) s') (fun _ _ => False) s) : codeR (model prog w) A (.func body env) R s := by
  refine codeR_of_tree rfl ?_
  show wpR _ (A.deeper env) (do point; match ← (execs body env).onRaise (leaving env) with | .ret v => ret v | _ => ret .none) _ _ s
  refine wpR_bind (wpR_of (wpAny_point (wpR_bind (wpR_onRaise (wpR_mono h (fun f s' h' => ?_) fun _ _ h' => h'.elim)))))
  cases f <;> exact wpR_pure h'
theorem codeR_call_function {a : Addr} {args : Args} {o : Obj} {fd : FuncData} {body : List Stmt} (hroom : A.depth < recursionLimit) (ho : s.heap.get? a = some o) (hd' : o.data = .func fd) (hco : fd.scope.isCoroutine = false)
    (hgen : fd.scope.isGenerator = false) (hbody : fd.body = .stmts body) (hcd : s.heap.CodeRec fd.code fd.qualname)
    (h : wpAny (model prog w) A.in1 (bindArgs fd args) (fun binds s₁ => wpAny (model prog w) A.in1 (newFunctionEnv fd.scope fd.globals fd.closure binds (fd.qualname ++ ".<locals>.") (some a) fd.code none fd.builtins)
        (fun env s₂ => s₂.heap.NoLimit ∧ codeR (model prog w) A (.func body env) R s₂) (fun e s' => R (.error e) s') s₁) (fun e s' => R (.error e) s') s) :
    codeR (model prog w) A (.call (.ref a) args) R s := by
  refine codeR_of_tree rfl (wpR_of ?_)
  show wpAny _ A.in1 (callAny (.ref a) args) _ _ s
  simp only [callAny]
  refine wpAny_bind (wpAny_load ho ?_)
  obtain ⟨c, oc, vs, tq, hc, hoc, hdc, hq⟩ := hcd
  simp only [hd', callFunction, hco, hgen, hbody, hc]
  rw [hc] at h
  refine wpAny_bind (m := field (.ref c) 1) (wpAny_field hoc hdc hq (wpAny_bind (wpAny_pure ?_)))
  exact wpAny_bind (wpAny_mono h (fun binds s₁ h₁ => wpAny_bind (wpAny_mono h₁ (fun env s₂ h₂ => wpAny_bind (wpAny_enterFrame h₂.1 hroom
    (wpAny_pure (And.intro rfl h₂.2)))) fun _ _ h' => h')) fun _ _ h' => h')
variable {name qual : Str} {params : Arguments} {body : List Stmt} {scope : Scope} {dV kV doc pm cdv ct oc : Value} {an od : Option Addr} {osl : Array (Option Value)} {f : Addr} {args : Args} {binds : List (Str × Value)}
theorem codeR_def (B : Below A₀ base outer h₀) (F : Fr h₀ L s.heap m) (X₀ : K.In h₀) (N : News h₀ L s.heap news) (T : Top p loose mean mg mb h₀) (hA : A.frames = some (env :: outer)) (hf : env.frame = some L) (hke : env.scope.kind = .function)
    (ho : K.lookup f = some ⟨oc, od, .func (fnOf name qual params body scope dV kV doc pm an cdv ct), osl⟩) (hcd : codeIn K cdv qual = true) (hroom : A.depth < recursionLimit)
    (hbind : BindsTo s (fnOf name qual params body scope dV kV doc pm an cdv ct) args binds) (hloc : ∀ y ∈ binds, scope.names.lookup y.1 = some .local)
    (h : ∀ g L' h₁, Fr h₀ L g m → Fr g L' h₁ (fun y => binds.reverse.lookup y) → News g L' h₁ news → Below A base (env :: outer) g → K.In g → Top p loose mean mg mb g →
      wpR (model prog w) (A.deeper (envOf qual scope L' f cdv)) (execs body (envOf qual scope L' f cdv)) (fun fl s' => LeaveK h₀ L m g R (match fl with | .ret v => v | _ => .none) s') (fun _ _ => False) { s with heap := h₁, toks := s.toks + binds.length })
    (hco : scope.isCoroutine = false) (hgen : scope.isGenerator = false) (hk : scope.kind = .function) (hcell : ∀ x ∈ scope.names, x.2 ≠ .cell) : codeR (model prog w) A (.call (.ref f) args) R s := by
  obtain ⟨FG, BG, st, lv⟩ := groundX (R := R) B F N hA hf hke
  refine codeR_call_function hroom ((X₀.keeps F.keep) _ _ ho) rfl hco hgen rfl (codeRec_of (X₀.keeps F.keep) hcd) (hbind _ _ _ _ ?_)
  refine wpAny_newFunctionEnv hcell hloc (fun h₁ hns₁ hsb₁ => ⟨(T.nolimit.keeps F.keep).fresh _ hsb₁, codeR_func ?_⟩) hk
  have hk₁ : ∀ b o, s.heap.get? b = some o → h₁.get? b = some o := fun b o e => hsb₁.extBut b o (Nat.ne_of_lt (Heap.lt_size e)) (Heap.get?_push_of_some _ e)
  exact wpR_mono (h _ s.heap.objs.size h₁ FG ⟨hns₁, fun b o e => hk₁ b o (of_hideAll _ e), Nat.le_of_eq (hideAll_size _ _)⟩
    (fun p hp => ⟨hk₁ _ _ (N p hp).1, Nat.ne_of_lt (Heap.lt_size (N p hp).1), hideAll_none _ (List.mem_map_of_mem hp)⟩) BG (X₀.keeps st) (T.keeps st)) (fun fl s' hl => lv _ _ hl) fun _ _ y => y
theorem codeR_defC (B : Below A₀ base outer h₀) (F : Fr h₀ L s.heap m) (X₀ : K.In h₀) (N : News h₀ L s.heap news) (T : Top p loose mean mg mb h₀) (hA : A.frames = some (env :: outer)) (hf : env.frame = some L) (hke : env.scope.kind = .function)
    (ho : K.lookup f = some ⟨oc, od, .func (fnOf name qual params body scope dV kV doc pm an cdv ct), osl⟩) (hcd : codeIn K cdv qual = true) (hroom : A.depth < recursionLimit)
    (hbind : BindsTo s (fnOf name qual params body scope dV kV doc pm an cdv ct) args binds) (hkind : (binds.all fun y => scope.names.lookup y.1 == some .local || scope.names.lookup y.1 == some .cell) = true)
    (hnd : ((cellsFrom 0 scope.names []).map (·.1)).Nodup)
    (h : ∀ g L' h₁ tk cells, Fr h₀ L g m → Fr g L' h₁ (bindL (envOfC qual scope L' f cdv).kindOf binds fun _ => none) → News g L' h₁ (cells ++ news) →
      CellsAre (bindC (envOfC qual scope L' f cdv).kindOf binds fun _ => none) (cellsFrom (L' + 1) scope.names []) cells → Below A base (env :: outer) g → K.In g → Top p loose mean mg mb g → (∀ p ∈ news, p.1 < L') →
      wpR (model prog w) (A.deeper (envOfC qual scope L' f cdv)) (execs body (envOfC qual scope L' f cdv)) (fun fl s' => LeaveK h₀ L m g R (match fl with | .ret v => v | _ => .none) s') (fun _ _ => False) { s with heap := h₁, toks := tk })
    (hco : scope.isCoroutine = false) (hgen : scope.isGenerator = false) (hk : scope.kind = .function) : codeR (model prog w) A (.call (.ref f) args) R s := by
  obtain ⟨FG, BG, st, lv⟩ := groundX (R := R) B F N hA hf hke
  refine codeR_call_function hroom ((X₀.keeps F.keep) _ _ ho) rfl hco hgen rfl (codeRec_of (X₀.keeps F.keep) hcd) (hbind _ _ _ _ ?_)
  refine wpAny_newFunctionEnv_cells hk (kindsX hkind _) fun env' he s' x => ?_
  subst he
  refine ⟨(T.nolimit.keeps F.keep).keeps x.toInCall.keep, codeR_func ?_⟩
  obtain ⟨h₁, tk, rfl, _⟩ := x.done
  have hk₁ := x.toInCall.keep
  obtain ⟨cells, NC, Y⟩ := Cl.news (h₀ := s.heap) (Nat.le_refl _) fun n c hm => ⟨x.cell n c (lookup_of_mem_nodup (cellsFrom_names scope.names 0 (s.heap.objs.size + 1) [] [] rfl ▸ hnd) hm), x.above n c hm⟩
  refine wpR_mono (h _ s.heap.objs.size h₁ tk cells FG ⟨x.toInCall.ns, fun b o e => hk₁ b o (of_hideAll _ e), Nat.le_of_eq (hideAll_size _ _)⟩ (fun p hp => ?_) Y BG (X₀.keeps st) (T.keeps st) (fun p hp => Heap.lt_size (N p hp).1)) (fun fl s' hl => lv _ _ hl) fun _ _ y => y
  rcases List.mem_append.mp hp with hp | hp
  · refine ⟨(NC p hp).1, (NC p hp).2.1, ?_⟩
    cases q : (hideAll s.heap (news.map (·.1))).get? p.1 with
    | none => rfl
    | some o => have := of_hideAll _ q; rw [(NC p hp).2.2] at this; cases this
  · exact ⟨hk₁ _ _ (N p hp).1, Nat.ne_of_lt (Heap.lt_size (N p hp).1), hideAll_none _ (List.mem_map_of_mem hp)⟩
end
end Mine
end

section
open PySem PySem.W PyProof.Rows PySem.Calls
set_option maxRecDepth 100000
set_option maxHeartbeats 1000000
namespace Mine
namespace BA
theorem lookup_new : typeLookup (.type "bytearray") "__new__" = pure (some (.builtin "bytearray.__new__")) := by rw [typeLookup_type, builtinLookup_eq_fast]; kernel_rfl
theorem mro : mroOf (.type "bytearray") = pure [.type "bytearray", .type "object"] := by rw [mroOf_type]; kernel_rfl
theorem slot_init : Slot "bytearray" "__init__" "bytearray.__init__" :=
  .of (owner := "bytearray") (n := "__init__") (by rw [typeLookup_type, builtinLookup_eq_fast]; kernel_rfl) (by decide +kernel) (by decide +kernel) (by decide +kernel)
    (by first | exact .inl (by decide +kernel) | exact .inr (by decide +kernel)) (by rw [isSubtype_type]; kernel_rfl)
theorem called : TypeCalled "bytearray" "bytearray.__new__" "bytearray.__init__" :=
  ⟨by decide +kernel, by decide +kernel, ⟨_, _, mro⟩, madeBy_type mro lookup_new (by decide +kernel), by decide +kernel, by rw [isSubtype_type]; kernel_rfl, slot_init⟩
theorem typeCall : checkTypeCall "bytearray" ⟨[], []⟩ = pure () := by kernel_rfl
theorem newCall : checkBuiltinCall "bytearray.__new__" ⟨[.type "bytearray"], []⟩ = pure () := by kernel_rfl
theorem entry_new : entryFor table "bytearray.__new__" = some Builtin.«list.__new__» := entryFor_alias (id' := "list.__new__") (by kernel_rfl) rfl (by decide +kernel) (by kernel_rfl)
theorem entry_init : entryFor table "bytearray.__init__" = some Builtin.«bytearray.__init__» := entryFor_of_tree (by kernel_rfl)
theorem plain_new : plainId "bytearray.__new__" = true := by decide +kernel
set_option maxRecDepth 1000000 in
set_option maxHeartbeats 4000000 in
theorem owner_new : ("bytearray.__new__".splitOn ".__new__").headD "" = "bytearray" := by simp +decide [String.splitOn, String.splitOnAux]
theorem sub_self : isSubtype (.type "bytearray") (.type "bytearray") = pure true := by rw [isSubtype_type]; kernel_rfl
theorem args_init (a : Value) : argsOk "bytearray.__init__" ⟨[a], []⟩ := by unfold argsOk; kernel_rfl
end BA
section
variable {prog : Program} {w : World} {A : Around} {E : Value → Shared → Prop} {s : Shared}
theorem code_ba_new {Q₁ : Value → Shared → Prop} (h : Q₁ (.ref s.heap.objs.size) { s with heap := s.heap.push { cls := .type "bytearray", data := .bytearray #[] } }) :
    codeAny (model prog w) A (.call (.builtin "bytearray.__new__") ⟨[.type "bytearray"], []⟩) (wants Q₁ E) s := by
  refine codeAny_of_tree ?_
  show wpAny _ A.in1 (do checkBuiltinCall "bytearray.__new__" ⟨[.type "bytearray"], []⟩; again (.builtin "bytearray.__new__" ⟨[.type "bytearray"], []⟩)) _ _ s
  refine wpAny_bind (wpAny_of_eq BA.newCall (wpAny_pure ⟨plainId_quiet BA.plain_new _, codeAny_builtin_stack BA.entry_new rfl fun p st => ?_⟩))
  rw [Around.under_plainId BA.plain_new _]
  have hsub := BA.sub_self
  have hown := BA.owner_new
  obtain ⟨hp, g, d, tk, os⟩ := s
  simp only [hown]
  wp_walk
  exact h
theorem ba_release {a : Addr} {Q : Bool → Shared → Prop} (hT : s.TypeIs (.ref a) "bytearray") (h : Q false s) : wpAny (model prog w) A (Builtin.Bytes.ownRelease (.ref a)) Q E s := by
  unfold Builtin.Bytes.ownRelease Builtin.Bytes.slotIsOwn
  have hl : typeLookup (.type "bytearray") "__release_buffer__" = pure (some (.builtin "bytearray.__release_buffer__")) := by rw [typeLookup_type, builtinLookup_eq_fast]; kernel_rfl
  refine wpAny_bind (wpAny_bind (wpAny_specialOf hT hl ?_))
  dsimp only
  rw [if_neg (by decide +kernel), show ("bytearray.__release_buffer__".dropRight ("__release_buffer__".length + 1)) = "bytearray" from by decide +kernel]
  exact wpAny_isInstance hT BA.sub_self (wpAny_pure h)
theorem ba_exported {v : Value} {Q : Bool → Shared → Prop} (hg : A.guards = some []) (h : Q false s) : wpR (model prog w) A (Builtin.Bytes.exported v) Q E s := by
  unfold Builtin.Bytes.exported
  refine wpR_stackAny_false hg (fun c p hc hd => ?_) h
  split
  · rename_i heq; cases heq; simp [Code.isGuard, guardIds] at hc
  · rename_i heq; cases heq; simp [Code.isGuard, guardIds] at hc
  · rename_i heq; cases heq; simp [Code.isGuard, guardIds] at hc
  · rename_i heq; cases heq; simp [Code.isGuard, guardIds] at hc
  · rename_i heq; cases heq; simp [Code.isGuard, guardIds] at hc
  · rename_i heq; cases heq
    have hd' : PySem.Builtin.Bytes.decodersThatHold.contains _ = false := hd
    rw [hd', Bool.and_false]
  · rfl
theorem ba_init {a : Addr} {Q : Fin → Shared → Prop} (hg : A.guards = some []) (ho : s.heap.get? a = some { cls := .type "bytearray", data := .bytearray #[] })
    (h : ∀ h', Heap.SameBut a s.heap h' → h'.get? a = some { cls := .type "bytearray", data := .bytearray #[] } → Q (.done (.ret .none)) { s with heap := h' }) : wpR (model prog w) A (Builtin.«bytearray.__init__» ⟨[.ref a], []⟩) Q E s := by
  have hT : s.TypeIs (.ref a) "bytearray" := ⟨_, ho, rfl⟩
  unfold Builtin.«bytearray.__init__»
  dsimp only
  refine wpR_bind (wpR_of (ba_release hT ?_))
  rw [if_neg Bool.false_ne_true]
  rw [show Builtin.Bytes.bindOptional "bytearray.__init__" "bytearray" ["source", "encoding", "errors"] [] [] = pure [none, none, none] from by kernel_rfl]
  refine wpR_bind (wpR_pure ?_)
  dsimp only
  refine wpR_bind (wpR_of (wpAny_pure (a := ()) ?_))
  refine wpR_bind (wpR_of (wpAny_pure (a := ()) ?_))
  refine wpR_bind (wpR_bind (ba_exported hg ?_))
  show wpR _ _ (Builtin.Bytes.exportsOf (.ref a) >>= fun n => pure (decide (n > 0))) _ _ _
  refine wpR_of (wpAny_bind ?_)
  unfold Builtin.Bytes.exportsOf
  refine wpAny_bind (wpAny_load ho ?_)
  dsimp only
  refine wpAny_pure (wpAny_pure ?_)
  rw [if_neg (by decide)]
  refine wpR_of (wpAny_bind ?_)
  show wpAny _ _ (updateBytearray a fun _ => #[]) _ _ _
  unfold updateBytearray
  refine wpAny_bind (wpAny_load ho ?_)
  dsimp only
  refine wpAny_bind (wpAny_update ho ?_)
  have hu := Heap.get?_update_self (Obj.mapBytearray fun _ => #[]) ho rfl
  refine wpAny_lookBehind hu rfl ?_
  refine wpAny_bind (wpAny_pure ?_)
  exact wpAny_pure (h _ (Heap.SameBut.update ..) hu)
theorem ba_call {Q : Value → Shared → Prop} (hg : A.guards = some [])
    (h : ∀ D h', D = s.heap.objs.size → (∀ b o, s.heap.get? b = some o → h'.get? b = some o) → h'.get? D = some { cls := .type "bytearray", data := .bytearray #[] } → Q (.ref D) { s with heap := h' }) : wpR (model prog w) A (call (.type "bytearray") []) Q E s := by
  refine wpR_call (codeR_of_tree rfl ?_)
  show wpR _ _ (callAny (.type "bytearray") _) _ _ _
  refine wpR_pure ⟨Code.quiet_builtin _ (by decide +kernel), codeR_builtin (by decide +kernel) PySem.F.entry_type_call ?_⟩
  unfold Builtin.«type.__call__»
  dsimp only
  rw [if_neg (by decide +kernel)]
  rw [if_neg (by rw [show _ = false from BA.called.canCreate]; decide)]
  refine wpR_bind (wpR_of (wpAny_of_eq BA.typeCall ?_))
  refine wpR_bind (wpR_of (wpAny_of_eq BA.mro ?_))
  rw [if_neg (by decide)]
  refine wpR_bind (wpR_of (wpAny_of_eq BA.called.made ?_))
  dsimp only
  refine wpR_bind (wpR_pure ?_)
  refine wpR_bind (wpR_holding (wpR_of (wpAny_call (codeAny_mono (code_ba_new (Q₁ := fun obj s₁ => obj = .ref s.heap.objs.size ∧ s₁ = { s with heap := s.heap.push { cls := .type "bytearray", data := .bytearray #[] } }) (E := fun _ _ => False) ⟨rfl, rfl⟩) fun r s' hr => ?_))))
  rcases r with e | (v | _ | _ | _) <;> first | exact hr.elim | skip
  obtain ⟨rfl, rfl⟩ := hr
  dsimp only
  have ho : (s.heap.push { cls := .type "bytearray", data := .bytearray #[] }).get? s.heap.objs.size = some { cls := .type "bytearray", data := .bytearray #[] } := Heap.get?_push_size _ rfl
  have hT : Shared.TypeIs { s with heap := s.heap.push { cls := .type "bytearray", data := .bytearray #[] } } (.ref s.heap.objs.size) "bytearray" := ⟨_, ho, rfl⟩
  refine wpR_bind (wpR_of (wpAny_isInstance hT BA.sub_self ?_))
  rw [if_neg (by decide)]
  refine wpR_bind (wpR_holding ?_)
  unfold callSpecial?
  refine wpR_bind (wpR_of (wpAny_specialOf hT BA.slot_init.lookup ?_))
  dsimp only
  refine wpR_holding (wpR_bind (wpR_of (wpAny_of_eq (BA.slot_init.bind _) ?_)))
  dsimp only
  refine wpR_bind (wpR_call (codeR_call_builtin_at (isDec_id (by decide +kernel)) (plainId_quiet BA.slot_init.plain _) BA.entry_init (BA.slot_init.check _ _ _ _ _ _ _ _ hT (BA.args_init _) ?_)))
  refine ba_init (guards_under (notGuard_id (by decide +kernel)) (guards_under (notGuard_id (by decide +kernel)) hg)) ho fun h' hs' ho' => ?_
  refine wpR_pure ?_
  show wpR _ _ (if (Value.none != Value.none) = true then _ else _) _ _ _
  rw [if_neg (by decide)]
  refine wpR_pure (h _ h' rfl (fun b o e => ?_) ho')
  rw [hs'.2 b (Nat.ne_of_lt (Heap.lt_size e))]
  exact Heap.get?_push_of_some _ e
end
end Mine
end

section
open PySem PySem.W PyProof.Rows PySem.Calls
set_option maxRecDepth 100000
namespace Mine
section
variable {M : Model} {A : Around} {E : Value → Shared → Prop} {s : Shared} {env : Env}
theorem execsR_cons {st : Stmt} {rest : List Stmt} {Q : Flow → Shared → Prop} (h : wpR M A (exec st env) (fun fl s' => match fl with | .next => wpR M A (execs rest env) Q E s' | f => Q f s') E s) : wpR M A (execs (st :: rest) env) Q E s := by
  rw [execs_cons]
  refine wpR_bind (wpR_mono h (fun fl s' h' => ?_) fun _ _ e => e)
  cases fl <;> first | exact h' | exact wpR_pure h'
theorem execsR_append {ys : List Stmt} {Q : Flow → Shared → Prop} : ∀ {xs : List Stmt} {s : Shared}, wpR M A (execs xs env) (fun fl s' => match fl with | .next => wpR M A (execs ys env) Q E s' | f => Q f s') E s → wpR M A (execs (xs ++ ys) env) Q E s
  | [], s, h => by
    intro Γ p hΓ hd hc
    have h0 : wpR M A (execs ys env) Q E s := by
      have h1 : wpR M A (pure Flow.next) (fun fl s' => match fl with | .next => wpR M A (execs ys env) Q E s' | f => Q f s') E s := h
      exact fun Γ p a b c => h1 Γ p a b c Γ p a b c
    exact h0 Γ p hΓ hd hc
  | x :: xs, s, h => by
    show wpR M A (execs (x :: (xs ++ ys)) env) Q E s
    rw [execs_cons]
    have h1 : wpR M A (exec x env >>= fun fl => match fl with | .next => execs xs env | f => pure f) (fun fl s' => match fl with | .next => wpR M A (execs ys env) Q E s' | f => Q f s') E s := h
    intro Γ p hΓ hd hc
    have h2 := h1 Γ p hΓ hd hc
    rw [Sem.wp_bind'] at h2 ⊢
    refine Sem.wp_mono M Γ _ (fun fl p' s' h' => ?_) (fun _ _ _ e => e) p s h2
    cases fl with
    | next =>
      refine execsR_append' (xs := xs) h' hΓ hd hc
    | _ => exact h'
where
  execsR_append' {ys : List Stmt} {Q : Flow → Shared → Prop} {xs : List Stmt} {s : Shared} {Γ : Ctx} {p : Pos} (h : Sem.wp M Γ (execs xs env) (fun fl _ s' => match fl with | .next => wpR M A (execs ys env) Q E s' | f => Q f s') (fun e _ s' => E e s') p s)
      (hΓ : Γ.In A) (hd : isDec Γ.code = false) (hc : Clean Γ.below) : Sem.wp M Γ (execs (xs ++ ys) env) (fun fl _ s' => Q fl s') (fun e _ s' => E e s') p s := by
    induction xs generalizing s p with
    | nil =>
      have h1 : Sem.wp M Γ (pure Flow.next) (fun fl _ s' => match fl with | .next => wpR M A (execs ys env) Q E s' | f => Q f s') (fun e _ s' => E e s') p s := h
      exact h1 Γ p hΓ hd hc
    | cons x xs ih =>
      show Sem.wp M Γ (execs (x :: (xs ++ ys)) env) _ _ p s
      rw [execs_cons, Sem.wp_bind']
      have h1 : Sem.wp M Γ (exec x env >>= fun fl => match fl with | .next => execs xs env | f => pure f) (fun fl _ s' => match fl with | .next => wpR M A (execs ys env) Q E s' | f => Q f s') (fun e _ s' => E e s') p s := h
      rw [Sem.wp_bind'] at h1
      refine Sem.wp_mono M Γ _ (fun fl p' s' h' => ?_) (fun _ _ _ e => e) p s h1
      cases fl with
      | next => exact ih h'
      | _ => exact h'
theorem ifR {test : PySem.Expr} {body orelse : List Stmt} {pos : Pos} {Q : Flow → Shared → Prop} (h : wpR M A (isTrue test env (eval test env)) (fun b s₂ => wpR M A (if b = true then execs body env else execs orelse env) Q E s₂) E s) : wpR M A (exec (.If test body orelse pos) env) Q E s := by
  rw [exec_If]
  exact wpR_bind (wpR_of (wpAny_standAt (wpR_bind h)))
theorem orR {x : PySem.Expr} {rest : List PySem.Expr} {pos : Pos} {whole : Sem Value} {Q : Bool → Shared → Prop} (h : wpR M A (isTrue x env (eval x env)) (fun b s₂ => if b = true then Q true s₂ else wpR M A (allTrue .Or rest env) Q E s₂) E s) :
    wpR M A (isTrue (.BoolOp .Or (x :: rest) pos) env whole) Q E s := by
  show wpR M A (allTrue .Or (x :: rest) env) Q E s
  have e : allTrue .Or (x :: rest) env = (isTrue x env (eval x env) >>= fun b => if b = true then pure true else allTrue .Or rest env) := by
    show (isTrue x env (eval x env) >>= fun b => match BoolOp.Or, b with | .And, false => pure false | .Or, true => pure true | _, _ => allTrue .Or rest env) = _
    congr 1
    funext b
    cases b <;> rfl
  rw [e]
  refine wpR_bind (wpR_mono h (fun b s₂ h₂ => ?_) fun _ _ e => e)
  cases b with
  | true => exact wpR_pure h₂
  | false => exact h₂
theorem testR {l r : PySem.Expr} {op : CmpOp} {pos : Pos} {whole : Sem Value} {Q : Bool → Shared → Prop}
    (h : wpR M A (eval l env) (fun a s₂ => wpAny M A (do let b ← holding [a] (markedBehindIn op r (eval r env)); standAt pos; let c ← operate [a, b] (compareOp op a b); holding [c] (truthy c)) Q E s₂) E s) : wpR M A (isTrue (.Compare l [op] [r] pos) env whole) Q E s := by
  rw [isTrue_Compare1]
  exact wpR_bind (wpR_mono h (fun a s₂ h₂ => wpR_of h₂) fun _ _ e => e)
theorem compareR {l r : PySem.Expr} {op : CmpOp} {pos : Pos} {Q : Value → Shared → Prop}
    (h : wpR M A (eval l env) (fun a s₂ => wpAny M A (do let b ← holding [a] (markedBehindIn op r (eval r env)); standAt pos; operate [a, b] (compareOp op a b)) Q E s₂) E s) : wpR M A (eval (.Compare l [op] [r] pos) env) Q E s := by
  rw [eval_Compare1]
  exact wpR_bind (wpR_mono h (fun a s₂ h₂ => wpR_of h₂) fun _ _ e => e)
theorem returnR {e : PySem.Expr} {pos : Pos} {Q : Flow → Shared → Prop} (h : wpR M A (eval e env) (fun v s₂ => Q (.ret v) s₂) E s) : wpR M A (exec (.Return (some e) pos) env) Q E s := by
  rw [exec_Return_some]
  exact wpR_bind (wpR_of (wpAny_standAt (wpR_bind (wpR_mono h (fun v s₂ h₂ => wpR_pure h₂) fun _ _ e => e))))
theorem exprR {e : PySem.Expr} {pos : Pos} {Q : Flow → Shared → Prop} (h : wpR M A (eval e env) (fun v s₂ => wpAny M A (dropValue e pos v) Q E s₂) E s) (hi : interactive env = false := by rfl) (hs : swapsWith e none pos.line env = pure false := by rfl) : wpR M A (exec (.Expr e pos) env) Q E s := by
  rw [exec_Expr env e pos hi hs]
  exact wpR_bind (wpR_of (wpAny_standAt (wpR_bind (wpR_mono h (fun v s₂ h₂ => wpR_of h₂) fun _ _ e => e))))
theorem notR {x : PySem.Expr} {pos : Pos} {whole : Sem Value} {Q : Bool → Shared → Prop} (h : wpR M A (isTrue x env (eval x env)) (fun b s₂ => Q (!b) s₂) E s) : wpR M A (isTrue (.UnaryOp .Not x pos) env whole) Q E s := by
  show wpR M A (do return !(← isTrue x env (eval x env))) Q E s
  exact wpR_bind (wpR_mono h (fun b s₂ h₂ => wpR_pure h₂) fun _ _ e => e)
theorem isTrue_callR {f : PySem.Expr} {args : List PySem.Expr} {kws : List Keyword} {pos : Pos} {whole : Sem Value} {Q : Bool → Shared → Prop} (h : wpR M A whole (fun v s₂ => wpAny M A (truthy v) Q E s₂) E s) : wpR M A (isTrue (.Call f args kws pos) env whole) Q E s := by
  show wpR M A (do let v ← whole; standAt _; holding [v] (truthy v)) Q E s
  exact wpR_bind (wpR_mono h (fun v s₂ h₂ => wpR_bind (wpR_of (wpAny_standAt (wpR_holding (wpR_of h₂))))) fun _ _ e => e)
theorem callNameR {x : Str} {px : Pos} {args : List PySem.Expr} {kws : List Keyword} {pos : Pos} {Q : Value → Shared → Prop}
    (h : wpAny M A (eval (.Name x px) env) (fun f s₂ => wpR M A (callWith pos f [] (backTo pos (starEach args env)) (backToKw pos (keywordEach kws env))) Q E s₂) E s) : wpR M A (eval (.Call (.Name x px) args kws pos) env) Q E s := by
  show wpR M A (do callWith pos (← eval (.Name x px) env) [] (backTo pos (starEach args env)) (backToKw pos (keywordEach kws env))) Q E s
  exact wpR_bind (wpR_of h)
theorem callWithR {f : Value} {first : List Value} {pos : Pos} {args : List (Bool × Sem Value)} {P : Heap → Prop} {Q : Value → Shared → Prop} (hst : args.any (·.1) = false)
    (hk : ∀ h, P h → ∃ k, (k = Keeper.frame ∨ k = Keeper.machine) ∧ Looks M h (keeperOf f) k)
    (h : wpR M A (evalArgs f true args []) (fun a s₁ => P s₁.heap ∧ wpR M A (call f (first ++ a.pos) a.kw) Q E s₁) E s) : wpR M A (callWith pos f first args []) Q E s := by
  unfold callWith
  refine wpR_bind (wpR_holding (wpR_mono h (fun a s₁ h₁ => wpR_bind (wpR_of (wpAny_standAt ?_))) fun _ _ x => x))
  obtain ⟨k, hk', L⟩ := hk _ h₁.1
  simp only [hst, Bool.false_or, List.any_nil]
  refine wpR_bind (wpR_of (L.here ?_))
  have tail : ∀ {t : Sem Value}, wpR M A t Q E s₁ → wpR M A (t >>= fun r => holding [r] point >>= fun _ => pure r) Q E s₁ :=
    fun ht => wpR_bind (wpR_mono ht (fun r s₂ hr => wpR_bind (wpR_holding (wpR_of (wpAny_point (wpR_pure hr))))) fun _ _ x => x)
  have marked (mk : Value) : wpR M A (callMarked mk f (first ++ a.pos) a.kw) Q E s₁ := fun Γ p hΓ hd hc => by unfold callMarked; rw [Sem.wp_keep]; exact h₁.2 Γ p hΓ hd hc
  rcases hk' with rfl | rfl
  · dsimp only
    split
    · exact tail h₁.2
    · exact tail (marked _)
  · exact tail h₁.2
theorem argsR {f : Value} {args : List (Bool × Sem Value)} {Q : Args → Shared → Prop} (hst : args.any (·.1) = false) (h : wpR M A (spliced args) (fun vs s₁ => Q ⟨vs, []⟩ s₁) E s) : wpR M A (evalArgs f true args []) Q E s := by
  have e : evalArgs f true args [] = (spliced args >>= fun vs => holding (vs ++ []) (pure ⟨vs, []⟩)) := by
    cases args with
    | nil => rfl
    | cons a r =>
      obtain ⟨b, x⟩ := a
      cases b with
      | true => simp at hst
      | false => rfl
  rw [e]
  exact wpR_bind (wpR_mono h (fun vs s₁ h₁ => wpR_holding (wpR_pure h₁)) fun _ _ x => x)
theorem splicedR_cons {x : Sem Value} {rest : List (Bool × Sem Value)} {Q : List Value → Shared → Prop} (h : wpR M A x (fun v s₁ => wpR M A (spliced rest) (fun vs s₂ => Q (v :: vs) s₂) E s₁) E s) : wpR M A (spliced ((false, x) :: rest)) Q E s := by
  rw [spliced]
  refine wpR_bind (wpR_mono h (fun v s₁ h₁ => ?_) fun _ _ x => x)
  show wpR M A (holding [v] (spliced rest) >>= fun r => pure ([v] ++ r)) Q E s₁
  exact wpR_bind (wpR_holding (wpR_mono h₁ (fun vs s₂ h₂ => wpR_pure h₂) fun _ _ x => x))
theorem splicedR_nil {Q : List Value → Shared → Prop} (h : Q [] s) : wpR M A (spliced []) Q E s := wpR_of (Calls.spliced_nil h)
end
end Mine
end

section
open PySem PySem.W PyProof.Rows PySem.Calls
set_option maxRecDepth 100000
set_option maxHeartbeats 1000000
namespace Mine
section
variable {M : Model} {A : Around} {E : Value → Shared → Prop} {s : Shared} {env : Env}
theorem compR {e : PySem.Expr} {scope : Scope} {pos : Pos} {newAcc first : Sem Value} {g : Comprehension} {gs : List Comprehension} {cl : List (Str × Addr)} {Q : Value → Shared → Prop}
    (hcl : clausesOf e = g :: gs) (hs : ∀ x, foldedSetIterable g.iter env x = pure x) (hclos : closureFor scope env = pure cl)
    (hkind : scope.kind = .function) (hnames : ∀ x ∈ scope.names, x.2 = .local → scope.names.lookup x.1 = some .local)
    (h : wpAny M A first (fun x s₁ => wpAny M A (pyIter x) (fun it s₂ => wpAny M A newAcc (fun acc s₃ =>
      wpAny M A (newFunctionEnv scope env.globals cl [] env.qual none .none (some env)) (fun cenv s₄ =>
        codeR M A (.compStart e 0 it acc { cenv with scope := relabel scope env }) (fun r s' => ∃ f, r = .ok f ∧ ∃ m, s'.heap.Ns cenv.locals m ∧ ∀ h', Heap.SameBut cenv.locals s'.heap h' → Q acc { s' with heap := h' }) s₄) E s₃) E s₂) E s₁) E s) :
    wpR M A (comprehension e scope env pos newAcc false first none) Q E s := by
  unfold comprehension
  rw [hclos, hcl]
  refine wpR_bind (wpR_mono (wpR_of h) (fun x s₁ h₁ => wpR_bind (wpR_of (wpAny_standAt (wpR_bind (wpR_of (wpAny_of_eq (hs x) (wpR_bind (wpR_holding (wpR_mono (wpR_of h₁) (fun it s₂ h₂ => ?_)
      fun _ _ h' => h')))))))) ) fun _ _ h' => h')
  show wpR _ _ (newAcc >>= _) _ _ _
  refine wpR_bind (wpR_mono (wpR_of h₂) (fun acc s₃ h₃ => wpR_bind (wpR_pure (wpR_bind (wpR_mono (wpR_of h₃) (fun cenv s₄ h₄ => ?_) fun _ _ h' => h')))) fun _ _ h' => h')
  dsimp only
  have hv : ∀ x ∈ (scope.names.filter fun x => (x.2 == .local || x.2 == .cell) && x.1 != (".0" : Str)).reverse, x.2 = .local →
      Env.kindOf { cenv with scope := relabel scope env } x.1 = some .local := fun x hx hl => lookup_relabel_local (hnames x (List.mem_filter.mp (List.mem_reverse.mp hx)).1 hl)
  refine wpR_holding (wpR_bind (wpR_attempt (wpR_holding (wpR_run (codeR_mono h₄ fun r s' hr => ?_)))))
  obtain ⟨f, rfl, m, hn, hr⟩ := hr
  exact wpR_of (wpAny_bind (wpAny_holding (wpAny_comp_letGo (cenv := { cenv with scope := relabel scope env }) hkind _ s' m hv hn fun h' m' _ hs' => wpAny_pure (hr h' hs'))))
end
section
variable {prog : Program} {w : World} {A : Around} {s : Shared} {R : Result → Shared → Prop}
theorem codeR_compStart {elt target iter : PySem.Expr} {ifs : List PySem.Expr} {rest : List Comprehension} {scope : Scope} {pos : Pos} {it acc : Value} {env : Env}
    (h0 : codeR (model prog w) A (.compLoop (.ListComp elt (⟨target, iter, ifs, 0⟩ :: rest) scope pos) 0 it acc env) R s)
    (h : wpAny (model prog w) A (pyIter it) (fun it' s' => codeR (model prog w) A (.compLoop (.ListComp elt (⟨target, iter, ifs, 0⟩ :: rest) scope pos) 0 it' acc env) R s') (fun _ _ => False) s) :
    codeR (model prog w) A (.compStart (.ListComp elt (⟨target, iter, ifs, 0⟩ :: rest) scope pos) 0 it acc env) R s := by
  refine codeR_of_tree rfl ?_
  show wpR _ _ ((compStart (.ListComp elt (⟨target, iter, ifs, 0⟩ :: rest) scope pos) 0 it acc env).onRaise (fun x => do noteFrame x env; standAt theWindowsPlace)) _ _ s
  refine wpR_onRaise (wpR_mono (Q := fun fin s' => match fin with | .done f => R (.ok f) s' | .again c' => c'.quiet = true ∧ codeR (model prog w) A c' R s') (E := fun _ _ => False) ?_ (fun _ _ q => q) fun _ _ hx => hx.elim)
  unfold compStart
  show wpR _ _ (ask >>= _) _ _ s
  refine wpR_bind (wpR_of (wpAny_askSetting ?_))
  split
  · first
      | exact wpR_bind (wpR_pure (wpR_pure (And.intro rfl h0)))
      | exact wpR_pure (And.intro rfl h0)
  · first
      | exact wpR_bind (wpR_of (wpAny_rule (wpR_bind (wpR_of (wpAny_standAt (wpR_bind (wpR_mono (wpR_of h) (fun it' s' h' => wpR_pure (And.intro rfl h')) fun _ _ x => x)))))))
      | (refine wpR_bind (wpR_of (wpAny_rule ?_)); show wpR _ _ (standAt iter.pos >>= _) _ _ s; exact wpR_bind (wpR_of (wpAny_standAt (wpR_bind (wpR_mono (wpR_of h) (fun it' s' h' => wpR_pure (And.intro rfl h')) fun _ _ x => x)))))
/-- a comprehension with one test that never takes an item -/
theorem codeR_compLoop_none {elt target iter ct : PySem.Expr} {scope : Scope} {pos : Pos} {it acc : Value} {env : Env} (I : Nat → Shared → Prop)
    (turn : ∀ n s, I n s → wpAny (model prog w) A (pyNext it) (fun r s₁ => match r with
      | none => R (.ok .next) s₁
      | some v => wpAny (model prog w) A (assign target env v) (fun _ s₂ => wpR (model prog w) A (isTrue ct env (eval ct env)) (fun ok s₃ => ok = false ∧ ∃ m, m < n ∧ I m s₃) (fun _ _ => False) s₂) (fun _ _ => False) s₁) (fun _ _ => False) s)
    (n : Nat) (h : I n s) (ht : ∀ v, letOwnedTupleGo target it v = pure () := by intro _; rfl) :
    codeR (model prog w) A (.compLoop (.ListComp elt [⟨target, iter, [ct], 0⟩] scope pos) 0 it acc env) R s := by
  refine codeR_loop rfl rfl I (fun n s hI => ?_) n h
  show wpR _ A ((compTurn (.ListComp elt [⟨target, iter, [ct], 0⟩] scope pos) 0 it acc env).onRaise (fun x => do noteFrame x env; theTreesLotGoes x)) _ _ s
  refine wpR_onRaise (wpR_mono (Q := fun fin s' => match fin with | .done f => R (.ok f) s' | .again c' => c' = .compLoop (.ListComp elt [⟨target, iter, [ct], 0⟩] scope pos) 0 it acc env ∧ ∃ m, m < n ∧ I m s') (E := fun _ _ => False) ?_ (fun _ _ q => q) fun _ _ hx => hx.elim)
  rw [compTurn_list]
  refine wpR_bind (wpR_of (wpAny_standAt (wpR_bind (wpR_mono (wpR_of (turn n s hI)) (fun r s₁ h₁ => ?_) fun _ _ h' => h'))))
  cases r with
  | none => exact wpR_pure h₁
  | some v =>
    refine wpR_bind (wpR_of (wpAny_of_eq (ht v) ?_))
    refine wpR_bind (wpR_mono (wpR_of h₁) (fun _ s₂ h₂ => ?_) fun _ _ h' => h')
    have h₃ : wpR (model prog w) A (forIn [ct] true fun c r => if r = true then do let ok ← isTrue c env (eval c env); pure (ForInStep.yield ok) else pure (ForInStep.yield r)) (fun ok s₃ => ok = false ∧ ∃ m, m < n ∧ I m s₃) (fun _ _ => False) s₂ := by
      simp only [List.forIn_cons, List.forIn_nil, if_true]
      exact wpR_bind (wpR_bind (wpR_mono h₂ (fun b s' hb => wpR_pure (wpR_pure hb)) fun _ _ x => x))
    refine wpR_bind (wpR_mono h₃ (fun ok s₃ h₃ => ?_) fun _ _ h' => h')
    obtain ⟨rfl, h₃⟩ := h₃
    exact wpR_pure ⟨rfl, h₃⟩
variable {h₀ : Heap} {L : Addr} {m : Str → Option Value} {env : Env}
theorem lawCompR {ct elt iter : PySem.Expr} {x : Str} {px : Pos} {scope : Scope} {cl : List (Str × Addr)} {pos : Pos} {Q : Value → Shared → Prop} (hh : A.handled = none)
    (hclos : closureFor scope env = pure cl) (hcell : ∀ y ∈ scope.names, y.2 ≠ .cell) (hkind : scope.kind = .function)
    (hnames : ∀ y ∈ scope.names, y.2 = .local → scope.names.lookup y.1 = some .local) (hx : scope.names.lookup x = some .local)
    (h : wpAny (model prog w) A (eval iter env) (fun xv s₁ => ∃ (ax : Addr) (its : Array Value) (k : Nat) (news : List (Addr × Obj)) (h1 : Heap) (tk1 : Nat), xv = .ref ax ∧ s₁ = { s with heap := h1, toks := tk1 } ∧ Fr h₀ L h1 m ∧ News h₀ L h1 news ∧ (ax, ({ cls := .type "list", data := .seq its k } : Obj)) ∈ news ∧ its.size ≤ sizeLine ∧
      (∀ (i : Nat) (v : Value) (I : Addr) (oI : Obj) (C : Addr) (oC : Obj) (D : Addr) (m₂ : Str → Option Value) (h : Heap) (tk : Nat) (dr : Drawn), its[i]? = some v → LCg.NsObj oC m₂ → m₂ x = some v → Fr h₀ L h m → News h₀ L h ((I, oI) :: (C, oC) :: (D, LCg.lst []) :: news) → LCg.Off3 I C D news → ((@Ne Nat I C) ∧ (@Ne Nat I D) ∧ (@Ne Nat C D)) →
        wpR (model prog w) A (isTrue ct (compEnvC scope cl C env) (eval ct (compEnvC scope cl C env))) (fun ok s' => ok = false ∧ ∃ (h' : Heap) (tk' : Nat) (dr' : Drawn), s' = { s with heap := h', toks := tk', drawn := dr' } ∧ Fr h₀ L h' m ∧ News h₀ L h' ((I, oI) :: (C, oC) :: (D, LCg.lst []) :: news)) (fun _ _ => False) { s with heap := h, toks := tk, drawn := dr }) ∧
      (∀ (D : Addr) (h : Heap) (tk : Nat) (dr : Drawn), Fr h₀ L h m → News h₀ L h ((D, LCg.lst []) :: news) → LCg.Off1 D news → Q (.ref D) { s with heap := h, toks := tk, drawn := dr })) (fun _ _ => False) s)
    (hs : ∀ x, foldedSetIterable iter env x = pure x := by intro _; rfl) :
    wpR (model prog w) A (eval (.ListComp elt [⟨.Name x px, iter, [ct], 0⟩] scope pos) env) Q (fun _ _ => False) s := by
  rw [eval_ListComp]
  refine compR rfl hs hclos hkind hnames (wpAny_mono h (fun xv s₁ h₁ => ?_) fun _ _ e => e)
  obtain ⟨ax, its, k, news, h1, tk1, rfl, rfl, F, N, hm, hsz, hturn, hfin⟩ := h₁
  have hl : h1.IsList ax its := ⟨_, (N _ hm).1, rfl, k, rfl⟩
  have hlt : ax < h1.objs.size := by obtain ⟨_, e, _⟩ := hl; exact Heap.lt_size e
  refine wpAny_pyIter_list hl ?_
  dsimp only
  have up : ∀ b o, h1.get? b = some o → (h1.push { cls := .type "list_iterator", data := .fields #[.ref ax, .int 0 0] }).get? b = some o := fun b o e => Heap.get?_push_of_some _ e
  have W := Walks.list (prog := prog) (w := w) hh h1.objs.size ax (Nat.ne_of_lt hlt) its
  generalize hI : h1.objs.size = I at W ⊢
  have hst : (h1.push { cls := .type "list_iterator", data := .fields #[.ref ax, .int 0 0] }).IsListIter I ax 0 ∧ (h1.push { cls := .type "list_iterator", data := .fields #[.ref ax, .int 0 0] }).IsList ax its := ⟨⟨_, hI ▸ Heap.get?_push_size _ rfl, rfl, rfl⟩, hl.push _⟩
  have F2 := F.keeps up
  have N2 := N.grown up
  have hIL : L ≠ I := hI ▸ Nat.ne_of_lt F.ns.lt
  have hI₀ : h₀.get? I = none := hI ▸ next_is_new F
  have off : ∀ p ∈ news, p.1 ≠ I := fun p hp => hI ▸ Nat.ne_of_lt (Heap.lt_size (N p hp).1)
  have hsize : (h1.push { cls := .type "list_iterator", data := .fields #[.ref ax, .int 0 0] }).objs.size = I + 1 := by rw [Heap.size_push, hI]
  generalize (h1.push { cls := .type "list_iterator", data := .fields #[.ref ax, .int 0 0] }) = H1 at hst F2 N2 hsize ⊢
  have hIlt : I < H1.objs.size := by rw [hsize]; exact Nat.lt_succ_self _
  have hfp : ∀ b ∈ [I, ax], b < H1.objs.size := fun b hb => by
    rcases List.mem_cons.mp hb with rfl | hb
    · exact hIlt
    · rw [List.mem_singleton.mp hb]; rw [hI] at hlt; exact Nat.lt_trans hlt hIlt
  refine wpAny_newObj_type (wpAny_newFunctionEnv hcell (by intro y hy; simp at hy) (fun h₁ hns₁ hsb₁ => ?_) hkind)
  dsimp only at hns₁ hsb₁ ⊢
  generalize hH2 : H1.push { cls := .type "list", dict := none, data := .seq ([] : List Value).toArray } = H2 at hns₁ hsb₁ ⊢
  have hC : H2.objs.size = H1.objs.size + 1 := by rw [← hH2, Heap.size_push]
  have hDC : H1.objs.size ≠ H2.objs.size := by rw [hC]; exact Nat.ne_of_lt (Nat.lt_succ_self _)
  have below : ∀ b, b < H1.objs.size → b ≠ H2.objs.size ∧ b ≠ H1.objs.size := fun b hb => ⟨by rw [hC]; exact Nat.ne_of_lt (Nat.lt_succ_of_lt hb), Nat.ne_of_lt hb⟩
  have hDf : H1.objs.size ∉ [I, ax] := fun hm => Nat.lt_irrefl _ (hfp _ hm)
  have hCf : H2.objs.size ∉ [I, ax] := fun hm => by have := hfp _ hm; rw [hC] at this; exact Nat.lt_irrefl _ (Nat.lt_of_succ_lt this)
  have old : ∀ b o, H1.get? b = some o → h₁.get? b = some o := fun b o e => hsb₁.extBut b o (below b (Heap.lt_size e)).1 (Heap.get?_push_of_some _ (hH2 ▸ Heap.get?_push_of_some _ e))
  have hacc : h₁.get? H1.objs.size = some (LCg.lst []) := hsb₁.extBut _ _ hDC (Heap.get?_push_of_some _ (hH2 ▸ Heap.get?_push_size _ rfl))
  have hst₁ := W.frame _ _ _ hst fun b _ o e => old b o e
  have fresh : ∀ a, H1.objs.size ≤ a → H1.get? a = none := fun a ha => by
    cases e : H1.get? a with
    | none => rfl
    | some o' => exact absurd (Heap.lt_size e) (Nat.not_lt.mpr ha)
  have fresh₀ : ∀ a, H1.objs.size ≤ a → h₀.get? a = none := fun a ha => by
    cases e : h₀.get? a with
    | none => rfl
    | some o' => have := F2.keep a o' e; rw [fresh a ha] at this; cases this
  have hD₀ : h₀.get? H1.objs.size = none := fresh₀ _ (Nat.le_refl _)
  have hC₀ : h₀.get? H2.objs.size = none := fresh₀ _ (by rw [hC]; exact Nat.le_succ _)
  have hLlt : L < H1.objs.size := F2.ns.lt
  have hDL : H1.objs.size ≠ L := Ne.symm (below L hLlt).2
  have hCL : H2.objs.size ≠ L := Ne.symm (below L hLlt).1
  have hCI : I ≠ H2.objs.size := (below I hIlt).1
  have hDI : I ≠ H1.objs.size := (below I hIlt).2
  have off₀ : LCg.Off3 I H2.objs.size H1.objs.size news := LCg.Off3.of fun p hp => ⟨off p hp, (below _ (Heap.lt_size (N2 p hp).1)).1, (below _ (Heap.lt_size (N2 p hp).1)).2⟩
  have off3 := off₀.mem
  generalize hD : H1.objs.size = D at *
  generalize hCC : H2.objs.size = C at *
  have loop : ∀ tk, codeR (model prog w) A (.compLoop (.ListComp elt [⟨.Name x px, iter, [ct], 0⟩] scope pos) 0 (.ref I) (.ref D) (compEnvC scope cl C env))
        (fun r s' => ∃ f, r = .ok f ∧ ∃ m, s'.heap.Ns C m ∧ ∀ h', Heap.SameBut C s'.heap h' → Q (.ref D) { s' with heap := h' }) { s with heap := h₁, toks := tk } := by
    intro tk
    refine codeR_compLoop_none
      (fun j s' => ∃ h' tk dr i m', s' = { s with heap := h', toks := tk, drawn := dr } ∧ i ≤ its.size ∧ j = its.size + 1 - i ∧ (h'.IsListIter I ax i ∧ h'.IsList ax its) ∧ Fr h₀ L h' m ∧ h'.Ns C m' ∧ News h₀ L h' ((D, LCg.lst []) :: news)) ?_ (its.size + 1)
      ⟨h₁, tk, s.drawn, 0, _, rfl, Nat.zero_le _, rfl, hst₁, F2.keeps old, hns₁, fun p hp => ?_⟩
    · rintro j s' ⟨h', tk, dr, i, m', rfl, hi, rfl, hst', F', hn', N'⟩
      by_cases hlt : i < its.size
      · refine W.item i _ _ _ hlt hst' fun v h₂ tk₂ hPv hst₂ hk₂ => ?_
        dsimp only at hk₂ ⊢
        refine wpAny_assign_Name (wpAny_storeName_local (lookup_relabel_local hx) (hn'.at' fun o e => hk₂ _ o (by simpa using Ne.symm hCI) e) (fun h₃ hn₃ hs₃ => ?_) (by simp [compEnvC, relabel, hkind]))
        have hst₃ := W.frame _ _ h₃ hst₂ fun b hb o e => hs₃.extBut b o (fun q => hCf (by have q' : b = C := q; rw [← q']; exact hb)) e
        obtain ⟨oI, heI⟩ : ∃ o, h₃.get? I = some o := by obtain ⟨o, e, _⟩ := hst₃.1; exact ⟨o, e⟩
        obtain ⟨oC, heC, hoC⟩ := LCg.ns_obj hn₃
        have F₃ : Fr h₀ L h₃ m := (LCg.fr_but F' hk₂ hIL hI₀).change hs₃ hCL hC₀
        have N₂ : News h₀ L h₂ ((D, LCg.lst []) :: news) := LCg.news_but N' hk₂ fun p hp => by
          rcases List.mem_cons.mp hp with rfl | hp
          · exact Ne.symm hDI
          · exact (off3 p hp).1
        have N₃ : News h₀ L h₃ ((I, oI) :: (C, oC) :: (D, LCg.lst []) :: news) := fun p hp => by
          rcases List.mem_cons.mp hp with rfl | hp
          · exact ⟨heI, Ne.symm hIL, hI₀⟩
          · rcases List.mem_cons.mp hp with rfl | hp
            · exact ⟨heC, hCL, hC₀⟩
            · have z := N₂ p hp
              refine ⟨hs₃.extBut _ _ ?_ z.1, z.2⟩
              rcases List.mem_cons.mp hp with rfl | hp
              · exact hDC
              · exact (off3 p hp).2.1
        refine wpR_mono (hturn i v I oI C oC D _ h₃ _ _ hPv hoC (by simp) F₃ N₃ off₀ ⟨hCI, hDI, Ne.symm hDC⟩) (fun ok s₄ h₄ => ?_) fun _ _ e => e
        obtain ⟨rfl, h₄, tk₄, dr₄, rfl, F₄, N₄⟩ := h₄
        refine ⟨rfl, its.size + 1 - (i + 1), by omega, h₄, tk₄, dr₄, i + 1, _, rfl, hlt, rfl, ?_, F₄, hoC.ns (N₄ (C, oC) (.tail _ (.head _))).1, fun p hp => N₄ p (.tail _ (.tail _ hp))⟩
        have zI := (N₄ (I, oI) (.head _)).1
        refine ⟨by obtain ⟨o', q, r⟩ := hst₃.1; rw [heI] at q; cases q; exact ⟨oI, zI, r⟩, ?_⟩
        exact ⟨_, (N₄ _ (.tail _ (.tail _ (.tail _ hm)))).1, rfl, k, rfl⟩
      · obtain rfl : i = its.size := Nat.le_antisymm hi (Nat.not_lt.mp hlt)
        refine W.done _ _ _ hst' fun h₂ tk₂ hk₂ => ?_
        dsimp only at hk₂ ⊢
        have F₂ : Fr h₀ L h₂ m := LCg.fr_but F' hk₂ hIL hI₀
        have N₂ : News h₀ L h₂ ((D, LCg.lst []) :: news) := LCg.news_but N' hk₂ fun p hp => by
          rcases List.mem_cons.mp hp with rfl | hp
          · exact Ne.symm hDI
          · exact (off3 p hp).1
        refine ⟨_, rfl, m', hn'.at' fun o e => hk₂ _ o (by simpa using Ne.symm hCI) e, fun h'' hs'' => hfin D h'' _ _ (F₂.change hs'' hCL hC₀) (fun p hp => ?_) off₀.one⟩
        refine ⟨hs''.extBut _ _ ?_ (N₂ p hp).1, (N₂ p hp).2⟩
        rcases List.mem_cons.mp hp with rfl | hp
        · exact hDC
        · exact (off3 p hp).2.1
    · rcases List.mem_cons.mp hp with rfl | hp
      · exact ⟨hacc, hDL, hD₀⟩
      · exact ⟨old _ _ (N2 p hp).1, (N2 p hp).2⟩
  exact codeR_compStart (loop _) (W.self 0 _ _ _ hst₁ (loop _))
end
end Mine
end

section
open PySem PySem.W PyProof.Rows PySem.Calls
set_option maxRecDepth 100000
namespace Mine
section
variable {M : Model} {A : Around} {E : Value → Shared → Prop} {s : Shared} {env : Env}
theorem assignAttrR {o attr pos' value pos} {Q : Flow → Shared → Prop} (h : wpR M A (eval value env) (fun v s₁ => wpAny M A (assign (.Attribute o attr pos') env v) (fun _ s₂ => Q .next s₂) E s₁) E s)
    (hs : swapsWith value (some (.Attribute o attr pos')) pos.line env = pure false := by rfl) : wpR M A (exec (.Assign [.Attribute o attr pos'] value pos) env) Q E s := by
  rw [plainObj_exec_Assign_Attribute o attr pos' value pos hs]
  refine wpR_bind (wpR_of (wpAny_standAt ?_))
  refine wpR_bind (wpR_mono h (fun v s₁ h₁ => wpR_of ?_) fun _ _ x => x)
  exact wpAny_bind (wpAny_mono h₁ (fun _ _ x => wpAny_pure x) fun _ _ x => x)
theorem ifExpR {test body orelse pos} {Q : Value → Shared → Prop} (h : wpAny M A (isTrue test env (eval test env)) (fun c s₂ => if c = true then wpR M A (eval body env) Q E s₂ else wpR M A (eval orelse env) Q E s₂) E s) :
    wpR M A (eval (.IfExp test body orelse pos) env) Q E s := by
  rw [eval_IfExp]
  refine wpR_bind (wpR_of (wpAny_mono h (fun c s₂ h₂ => ?_) fun _ _ x => x))
  cases c <;> exact h₂
theorem methodR {o : PySem.Expr} {name : Str} {apos pos : Pos} {args : List PySem.Expr} {kws : List Keyword} {Q : Value → Shared → Prop}
    (h : wpAny M A (eval o env) (fun ov s₁ => wpAny M A (getMethod ov name (do return (← importBound o env).getD true)) (fun fv s₂ => wpR M A (callWith pos fv.1 fv.2 (backTo pos (starEach args env)) (backToKw pos (keywordEach kws env))) Q E s₂) E s₁) E s)
    (hab : attributeBase o name env (eval o env) = eval o env := by rfl)
    (hf : methodCallForm (args.length + kws.length) (backTo pos (starEach args env)) (backToKw pos (keywordEach kws env)) = true := by rfl) (hp : (apos.endLine == pos.line) = true := by rfl) :
    wpR M A (eval (.Call (.Attribute o name apos) args kws pos) env) Q E s := by
  show wpR M A (do
    let ov ← attributeBase o name env (eval o env)
    standAt apos.atName
    methodCall o name apos pos env ov (args.length + kws.length) (backTo pos (starEach args env)) (backToKw pos (keywordEach kws env))) Q E s
  rw [hab]
  refine wpR_bind (wpR_of (wpAny_mono h (fun ov s₁ h₁ => ?_) fun _ _ x => x))
  refine wpR_bind (wpR_of (wpAny_standAt ?_))
  unfold methodCall calleeOf methodCallPos
  rw [hf]
  refine wpR_bind (wpR_holding (wpR_of (wpAny_mono h₁ (fun fv s₂ h₂ => ?_) fun _ _ x => x)))
  refine wpR_bind (wpR_of ?_)
  rw [if_pos (by rw [hp]; rfl)]
  exact wpAny_pure h₂
theorem testR2 {l r : PySem.Expr} {op : CmpOp} {pos : Pos} {whole : Sem Value} {Q : Bool → Shared → Prop}
    (h : wpR M A (eval l env) (fun a s₂ => wpAny M A (eval r env) (fun b s₃ => wpAny M A (compareOp op a b) (fun c s₄ => wpAny M A (truthy c) Q E s₄) E s₃) E s₂) E s)
    (hm : behindInMarks op r = false := by with_unfolding_all rfl) : wpR M A (isTrue (.Compare l [op] [r] pos) env whole) Q E s := by
  refine testR (wpR_mono h (fun a s₂ h₂ => ?_) fun _ _ e => e)
  rw [markedBehindIn_of_false hm]
  refine wpAny_bind (wpAny_holding (wpAny_mono h₂ (fun b s₃ h₃ => ?_) fun _ _ e => e))
  refine wpAny_bind (wpAny_standAt (wpAny_bind (wpAny_operate' (wpAny_mono h₃ (fun c s₄ h₄ => ?_) fun _ _ e => e))))
  exact wpAny_holding h₄
theorem compareR2 {l r : PySem.Expr} {op : CmpOp} {pos : Pos} {Q : Value → Shared → Prop}
    (h : wpR M A (eval l env) (fun a s₂ => wpAny M A (eval r env) (fun b s₃ => wpAny M A (compareOp op a b) Q E s₃) E s₂) E s)
    (hm : behindInMarks op r = false := by with_unfolding_all rfl) : wpR M A (eval (.Compare l [op] [r] pos) env) Q E s := by
  refine compareR (wpR_mono h (fun a s₂ h₂ => ?_) fun _ _ e => e)
  rw [markedBehindIn_of_false hm]
  refine wpAny_bind (wpAny_holding (wpAny_mono h₂ (fun b s₃ h₃ => ?_) fun _ _ e => e))
  exact wpAny_bind (wpAny_standAt (wpAny_operate' h₃))
theorem genR {α : Type} {t : Sem α} {Q : α → Shared → Prop} {h : Heap} {g : Array GenState} {d : Drawn} {os : OsState} {n : Nat} (H : ∀ tk : Nat, wpR M A t Q E ⟨h, g, d, tk, os⟩) : wpR M A t Q E ⟨h, g, d, n, os⟩ := H n
theorem genR1 {α : Type} {t : Sem α} {Q : α → Shared → Prop} {h : Heap} {g : Array GenState} {d : Drawn} {os : OsState} {n : Nat} (H : ∀ tk : Nat, 1 ≤ tk → wpR M A t Q E ⟨h, g, d, tk, os⟩) : wpR M A t Q E ⟨h, g, d, n + 1, os⟩ := H (n + 1) (Nat.succ_le_succ (Nat.zero_le n))
end
end Mine
end

section
open PySem PySem.W PyProof.Rows PySem.Calls
set_option maxRecDepth 100000
namespace Mine
theorem enter_callR {M : Model} {A : Around} {s : Shared} {f : Value} {pos : List Value} {kw : List (Str × Value)} {c : ClaimW} {cl : Str → Option Addr} {mean : ExcName → Option Value} {args : List WData} {s₁ : Shared}
    (h : codeR M A (.call f ⟨pos, kw⟩) (GoodWG c cl mean args s₁) s) : wpR M A (PySem.call f pos kw) (fun v s' => GoodWG c cl mean args s₁ (.ok (.ret v)) s') (fun e s' => GoodWG c cl mean args s₁ (.error e) s') s :=
  wpR_call (codeR_mono h fun res s' g => by rcases g.1 with ⟨v, _, _, rfl, _⟩ | ⟨e, _, _, rfl, _⟩ <;> exact g)
theorem call_fullR {prog : Program} {w : World} {A : Around} {R : Result → Shared → Prop} {s : Shared} {name : Str} {params : Arguments} {body : List Stmt} {scope : Scope}
    {dV kV pm cd doc : Value} {a : Addr} {o : Obj} {args : Args} {binds : List (Str × Value)}
    (hroom : A.depth < recursionLimit) (ho : s.heap.get? a = some o) (hdata : o.data = .func { docDef name params body scope pm cd doc with defaults := dV, kwdefaults := kV }) (hlim : s.heap.NoLimit) (hcd : s.heap.CodeRec cd name)
    (hbind : BindsTo s { docDef name params body scope pm cd doc with defaults := dV, kwdefaults := kV } args binds)
    (hloc : ∀ x ∈ binds, scope.names.lookup x.1 = some .local)
    (h : ∀ h₁, Fr s.heap s.heap.objs.size h₁ (fun x => binds.reverse.lookup x) →
      wpR (model prog w) (A.deeper (envOf name scope s.heap.objs.size a cd)) (execs body (envOf name scope s.heap.objs.size a cd))
        (fun f s' => R (.ok (.ret (match f with | .ret v => v | _ => .none))) s') (fun _ _ => False) { s with heap := h₁, toks := s.toks + binds.length })
    (hco : scope.isCoroutine = false := by rfl) (hgen : scope.isGenerator = false := by rfl) (hk : scope.kind = .function := by rfl)
    (hcell : ∀ x ∈ scope.names, x.2 ≠ .cell := by decide) : codeR (model prog w) A (.call (.ref a) args) R s := by
  refine codeR_call_function hroom ho hdata hco hgen rfl hcd (hbind _ _ _ _ ?_)
  refine wpAny_newFunctionEnv hcell hloc (fun h₁ hns₁ hsb₁ => ⟨hlim.fresh _ hsb₁, codeR_func (h h₁ ⟨hns₁, fun b o e => ?_, Nat.le_refl _⟩)⟩) hk
  exact hsb₁.extBut b o (Nat.ne_of_lt (Heap.lt_size e)) (Heap.get?_push_of_some _ e)
end Mine
end

section
open PySem PySem.W PyProof.Rows PySem.Calls
set_option maxRecDepth 100000
namespace Mine
def sdef (kvs : List (Str × Value)) (k : Str) (v : Value) : List (Str × Value) := if (valueAt kvs k).isSome then kvs else stored kvs k v
section
variable {prog : Program} {w : World} {A : Around} {E : Value → Shared → Prop} {s : Shared} {h₀ : Heap} {L d : Addr} {m : Str → Option Value} {news : List (Addr × Obj)} {o : Obj} {kvs : List (Str × Value)} {x : Str} {t : Tok} {v dflt : Value} {Q : Value → Shared → Prop}
theorem d_setdefault {g : Obj → List (Addr × Obj)} (F : Fr h₀ L s.heap m) (N : News h₀ L s.heap news) (U : UpdF d o news g) (hd : o.IsDictOf (strKind prog w) kvs) (lo : (d == sysModules) = false) (hz : kvs.length ≤ 1000)
    (h : ∀ h' o', Fr h₀ L h' m → News h₀ L h' (g o') → o'.IsDictOf (strKind prog w) (sdef kvs x v) → Q ((valueAt kvs x).getD v) { s with heap := h', toks := s.toks + 1 }) :
    wpAny (model prog w) A (call (.builtin "dict.setdefault") [.ref d, .str x t, v]) Q E s := by
  obtain ⟨pre, post, rfl, hg, a, b⟩ := U.split
  have hm := N (d, o) (List.mem_append_right _ (.head _))
  have hD : s.heap.DictOf (strKind prog w) d kvs := Heap.dictOf_iff.mpr ⟨o, hm.1, hd⟩
  refine call_meetsIn PySem.F.slot_dict_setdefault hD.typeIs PySem.F.entry_dict_setdefault (PySem.F.args_dict_setdefault_3 _ _ _) (kt_meets_setdefault (strKind prog w) d (strKind_is prog w x t) lo v)
    ⟨kvs, hD, by rw [PySem.sizeLine_eq]; omega, fun u hu => ?_, fun hn h' hmm hs => ?_⟩
  · have z := h s.heap o F (hg o ▸ N) (by unfold sdef; rw [hu]; exact hd)
    rw [hu] at z
    exact z
  · obtain ⟨o', ho', hd'⟩ := Heap.dictOf_iff.mp hmm
    have z := h h' o' (F.change hs hm.2.1 hm.2.2) (hg o' ▸ N.setIn a b hs ho') (by unfold sdef; rw [hn]; exact hd')
    rw [hn] at z
    exact z
theorem d_in {kx : Value} (N : News h₀ L s.heap news) (hm : (d, o) ∈ news) (hd : o.IsDictOf (strKind prog w) kvs) (lo : (d == sysModules) = false) (h : Q (.bool (valueAt kvs x).isSome) { s with toks := s.toks + 1 }) :
    wpAny (model prog w) A (compareOp .In (.str x t) (.ref d)) Q E s := wpAny_in_of (strKind_is prog w x t) lo (dat N hm hd).mapOf h
theorem d_notIn (N : News h₀ L s.heap news) (hm : (d, o) ∈ news) (hd : o.IsDictOf (strKind prog w) kvs) (lo : (d == sysModules) = false) (h : Q (.bool (!(valueAt kvs x).isSome)) { s with toks := s.toks + 1 }) :
    wpAny (model prog w) A (compareOp .NotIn (.str x t) (.ref d)) Q E s := wpAny_notIn_of (strKind_is prog w x t) lo (dat N hm hd).mapOf h
theorem d_get1 (N : News h₀ L s.heap news) (hm : (d, o) ∈ news) (hd : o.IsDictOf (strKind prog w) kvs) (lo : (d == sysModules) = false) (h : Q ((valueAt kvs x).getD .none) { s with toks := s.toks + 1 }) :
    wpAny (model prog w) A (call (.builtin "dict.get") [.ref d, .str x t]) Q E s :=
  have hD := dat N hm hd
  call_meetsIn PySem.F.slot_dict_get hD.typeIs PySem.F.entry_dict_get (PySem.F.args_dict_get_2 _ _) (meets_dict_get (strKind prog w) d (strKind_is prog w x t) lo) ⟨_, hD.mapOf, h⟩
theorem d_get2 (N : News h₀ L s.heap news) (hm : (d, o) ∈ news) (hd : o.IsDictOf (strKind prog w) kvs) (lo : (d == sysModules) = false) (h : Q ((valueAt kvs x).getD dflt) { s with toks := s.toks + 1 }) :
    wpAny (model prog w) A (call (.builtin "dict.get") [.ref d, .str x t, dflt]) Q E s :=
  have hD := dat N hm hd
  call_meetsIn PySem.F.slot_dict_get hD.typeIs PySem.F.entry_dict_get (PySem.F.args_dict_get_3 _ _ _) (meets_dict_get_default (strKind prog w) d (strKind_is prog w x t) lo dflt) ⟨_, hD.mapOf, h⟩
theorem d_item {value slice : PySem.Expr} (N : News h₀ L s.heap news) (hm : (d, o) ∈ news) (hd : o.IsDictOf (strKind prog w) kvs) (hv : valueAt kvs x = some v) (h : Q v { s with toks := s.toks + 1 })
    (hs : subscripted slice false (.ref d) (.str x t) = operate [.ref d, .str x t] (getItem (.ref d) (.str x t)) := by with_unfolding_all rfl) : wpAny (model prog w) A (subscriptTail value slice (.ref d) (.str x t)) Q E s :=
  tail_any (dat N hm hd).typeIs PySem.F.slot_dict_getitem.lookup (kdt_getItem N hm hd (strKind_is prog w x t) hv h) hs
end
/-! plain facts -/
theorem valueAt_sdef {kvs : List (Str × Value)} {k j : Str} {v : Value} : valueAt (sdef kvs k v) j = if j = k then some ((valueAt kvs k).getD v) else valueAt kvs j := by
  unfold sdef
  cases h : valueAt kvs k with
  | some u =>
    simp only [Option.isSome_some, if_true, Option.getD_some]
    split
    · rename_i e; rw [e, h]
    · rfl
  | none =>
    simp only [Option.isSome_none, Bool.false_eq_true, if_false, Option.getD_none]
    exact valueAt_stored
theorem sdef_le {kvs : List (Str × Value)} {k : Str} {v : Value} : (sdef kvs k v).length ≤ kvs.length + 1 := by
  unfold sdef
  split
  · exact Nat.le_succ _
  · unfold stored
    split <;> simp
theorem key_iff {kvs : List (Str × Value)} {k : Str} : k ∈ kvs.map (·.1) ↔ (valueAt kvs k).isSome = true := by
  unfold valueAt
  rw [Option.isSome_map, List.find?_isSome, List.mem_map]
  constructor
  · rintro ⟨p, hp, rfl⟩; exact ⟨p, hp, by simp⟩
  · rintro ⟨p, hp, e⟩; exact ⟨p, hp, by simpa using e⟩
theorem pair_value {kvs : List (Str × Value)} {k : Str} {v : Value} (hn : (kvs.map (·.1)).Nodup) (h : (k, v) ∈ kvs) : valueAt kvs k = some v := by
  unfold valueAt
  induction kvs with
  | nil => cases h
  | cons p r ih =>
    obtain ⟨a, b⟩ := p
    rw [List.map_cons, List.nodup_cons] at hn
    rcases List.mem_cons.mp h with e | h
    · cases e; simp
    · have : a ≠ k := fun e => hn.1 (e ▸ List.mem_map.mpr ⟨_, h, rfl⟩)
      rw [List.find?_cons_of_neg (by simpa using this)]
      exact ih hn.2 h
theorem dict_nodup {prog : Program} {w : World} {o : Obj} {kvs : List (Str × Value)} (h : o.IsDictOf (strKind prog w) kvs) : (kvs.map (·.1)).Nodup := by
  obtain ⟨_, _, _, _, _, _, hn⟩ := h
  exact hn
end Mine
end

section
open PySem PySem.W PyProof.Rows PyProof.V PySem.Calls PySem.Spec
set_option maxRecDepth 100000
set_option maxHeartbeats 2000000
namespace Mine
def SameOk : Value → Prop
  | .none | .ref _ => True
  | .str _ t | .int _ t => t ≠ 0
  | _ => False
section
variable {prog : Program} {w : World} {A : Around} {E : Value → Shared → Prop} {s : Shared}
theorem isNot_self {v : Value} {Q : Value → Shared → Prop} (hv : SameOk v) (h : Q (.bool false) s) : wpAny (model prog w) A (compareOp .IsNot v v) Q E s := by
  show wpAny _ A (do return .bool (!(← isSame v v))) Q E s
  cases v with
  | none => exact wpAny_isNot_self rfl h
  | ref a => exact wpAny_isNot_ref_self h
  | str x t =>
    have ht : t ≠ 0 := hv
    refine wpAny_bind ?_
    show wpAny _ A (isSame.created (x == x) t t) _ E s
    unfold isSame.created
    rw [if_neg (by simp [ht]), if_pos (by simp)]
    exact wpAny_pure (wpAny_pure h)
  | int x t =>
    have ht : t ≠ 0 := hv
    refine wpAny_bind ?_
    show wpAny _ A (if (x == x && smallInt x) = true then isSame.cachedInt t t else isSame.created (x == x) t t) _ E s
    split
    · unfold isSame.cachedInt
      rw [if_neg (by simp [ht])]
      exact wpAny_bind (wpAny_rule (wpAny_pure (wpAny_pure h)))
    · unfold isSame.created
      rw [if_neg (by simp [ht]), if_pos (by simp)]
      exact wpAny_pure (wpAny_pure h)
  | _ => exact hv.elim
end
section
variable {prog : Program} {w : World} {A : Around} {E : Value → Shared → Prop} {s : Shared} {h₀ : Heap} {L : Addr} {m : Str → Option Value} {env : Env} {ct elt iter : PySem.Expr} {x : Str} {px : Pos} {scope : Scope} {cl : List (Str × Addr)} {pos : Pos} {Q : Value → Shared → Prop}
def NoTurn (prog : Program) (w : World) (A : Around) (h₀ : Heap) (L : Addr) (m : Str → Option Value) (env : Env) (ct : PySem.Expr) (x : Str) (scope : Scope) (cl : List (Str × Addr)) (news : List (Addr × Obj)) (s₁ : Shared) (v : Value) : Prop :=
  ∀ (I : Addr) (oI : Obj) (C : Addr) (oC : Obj) (D : Addr) (m₂ : Str → Option Value) (h : Heap) (tk : Nat), LCg.NsObj oC m₂ → m₂ x = some v → Fr h₀ L h m → News h₀ L h ((I, oI) :: (C, oC) :: (D, LCg.lst []) :: news) → LCg.Off3 I C D news → ((@Ne Nat I C) ∧ (@Ne Nat I D) ∧ (@Ne Nat C D)) →
    wpAny (model prog w) A (isTrue ct (compEnvC scope cl C env) (eval ct (compEnvC scope cl C env))) (fun ok s' => ok = false ∧ ∃ (h' : Heap) (tk' : Nat), s' = { s₁ with heap := h', toks := tk' } ∧ Fr h₀ L h' m ∧ News h₀ L h' ((I, oI) :: (C, oC) :: (D, LCg.lst []) :: news)) (fun _ _ => False) { s₁ with heap := h, toks := tk }
theorem restT_none {n : Nat} {P : Nat → Value → Prop} {S : List (Addr × Obj) → Prop} {Fin : List Value → List (Addr × Obj) → Prop} {news : List (Addr × Obj)} (hS : S news) (turn : ∀ i v, i < n → P i v → NoTurn prog w A h₀ L m env ct x scope cl news s v) (fin : Fin [] news) :
    LCt.CompRestT prog w A h₀ L m env ct elt x scope cl s S P Fin n 0 [] news := by
  refine restT_gen (fun ys _ => ys = []) rfl ?_ (fun ys e => e ▸ fin)
  intro i v I oI C oC D m₂ ys h tk E' hi hP e hC hx F N off ne
  subst e
  refine wpAny_mono (turn i v hi hP I oI C oC D m₂ h tk hC hx F N off ne) (fun ok s' hq => ?_) (fun _ _ x => x.elim)
  obtain ⟨rfl, h', tk', rfl, F', N'⟩ := hq
  rw [if_neg (by decide)]
  exact ⟨h', tk', news, rfl, F', N', off, hS, rfl, rfl⟩
theorem list_comp_none (F₀ : Fr h₀ L s.heap m)
    (hclos : closureFor scope env = pure cl) (hcell : ∀ y ∈ scope.names, y.2 ≠ .cell) (hkind : scope.kind = .function)
    (hnames : ∀ y ∈ scope.names, y.2 = .local → scope.names.lookup y.1 = some .local) (hx : scope.names.lookup x = some .local)
    (h : wpAny (model prog w) A (eval iter env) (fun xv s₁ => ∃ (ax : Addr) (vs : List Value) (k : Nat) (news : List (Addr × Obj)), xv = .ref ax ∧ A.handled = none ∧ Fr h₀ L s₁.heap m ∧ News h₀ L s₁.heap news ∧ (ax, listOf vs.toArray k) ∈ news ∧ vs.length ≤ sizeLine ∧
      (∀ g (i : Nat) (v : Value), vs[i]? = some v → NoTurn prog w A h₀ L m env ct x scope cl news { s₁ with heap := g } v) ∧
      (∀ (D : Addr) (h : Heap) (tk : Nat), Fr h₀ L h m → News h₀ L h ((D, LCg.lst []) :: news) → LCg.Off1 D news → Q (.ref D) { s₁ with heap := h, toks := tk })) E s)
    (hs : ∀ x, foldedSetIterable iter env x = pure x := by intro _; rfl) :
    wpAny (model prog w) A (eval (.ListComp elt [⟨.Name x px, iter, [ct], 0⟩] scope pos) env) Q E s := by
  refine LCt.ListComp_T F₀ hclos hcell hkind hnames hx (wpAny_mono h (fun xv s₁ h₁ => ?_) fun _ _ e => e) hs
  obtain ⟨ax, vs, k, news, rfl, hh, F, N, hm, hsz, turn, fin⟩ := h₁
  refine LCt.CompSrcT.ledger (k := k) (its := vs.toArray) hh F N hm (by simpa using hsz) fun g => ?_
  refine restT_none (.inr ⟨_, hm, rfl, _, rfl⟩) (fun i v hi hv => turn g i v (by simpa using hv)) ?_
  exact fun D h tk F' N' o1 => fin D h tk F' N' o1
theorem dict_comp_none (F₀ : Fr h₀ L s.heap m)
    (hclos : closureFor scope env = pure cl) (hcell : ∀ y ∈ scope.names, y.2 ≠ .cell) (hkind : scope.kind = .function)
    (hnames : ∀ y ∈ scope.names, y.2 = .local → scope.names.lookup y.1 = some .local) (hx : scope.names.lookup x = some .local)
    (h : wpAny (model prog w) A (eval iter env) (fun xv s₁ => ∃ (d : Addr) (o : Obj) (kvs : List (Str × Value)) (news : List (Addr × Obj)), xv = .ref d ∧ A.handled = none ∧ Fr h₀ L s₁.heap m ∧ News h₀ L s₁.heap news ∧ (d, o) ∈ news ∧ o.IsDictOf (PySem.strKind prog w) kvs ∧ (d == sysModules) = false ∧ kvs.length ≤ sizeLine ∧
      (∀ g (i : Nat) (q : Str) (u : Value) (t : Tok), kvs[i]? = some (q, u) → NoTurn prog w A h₀ L m env ct x scope cl news { s₁ with heap := g } (.str q t)) ∧
      (∀ (D : Addr) (h : Heap) (tk : Nat), Fr h₀ L h m → News h₀ L h ((D, LCg.lst []) :: news) → LCg.Off1 D news → Q (.ref D) { s₁ with heap := h, toks := tk })) E s)
    (hs : ∀ x, foldedSetIterable iter env x = pure x := by intro _; rfl) :
    wpAny (model prog w) A (eval (.ListComp elt [⟨.Name x px, iter, [ct], 0⟩] scope pos) env) Q E s := by
  rw [eval_ListComp]
  refine wpAny_comprehension_free (use := none) rfl hs hclos hkind hnames (wpAny_mono h (fun xv s₁ h₁ => ?_) fun _ _ e => e)
  obtain ⟨d, o, kvs, news, rfl, hh, F, N, hm, hd, lo, hsz, turn, fin⟩ := h₁
  obtain ⟨ep, hat⟩ := (kda_dict N hm hd).dictAt
  have hod := (N _ hm).1
  have hlt : d < s₁.heap.objs.size := Heap.lt_size hod
  refine wpAny_pyIter_dict lo hat ?_
  have up : ∀ b o', s₁.heap.get? b = some o' → (s₁.heap.push { cls := .type "dict_keyiterator", data := .fields #[.ref d, .int 0 0, .int kvs.length 0, .int ep 0] }).get? b = some o' := fun b o' e => Heap.get?_push_of_some _ e
  refine LCt.block_T (S := fun nw => (d, o) ∈ nw) (Walks.dictKeys (knd := PySem.strKind prog w) hh s₁.heap.objs.size d (Nat.ne_of_lt hlt) kvs ep) hsz (fun i h st => by obtain ⟨o', e, _⟩ := st.1; exact ⟨o', e⟩)
    (fun i h h' o' nw st e e' hk N' hS => ⟨by obtain ⟨o'', e'', r⟩ := st.1; rw [e] at e''; cases e''; exact ⟨_, e', r⟩, hat.at' fun o₂ e₂ => by rw [hod] at e₂; cases e₂; exact (N' _ hS).1⟩)
    hcell hkind hx ⟨⟨_, Heap.get?_push_size _ rfl, rfl, rfl⟩, hat.push _⟩ (fun b hb => ?_)
    (F.keeps up) (N.grown up) (Nat.ne_of_lt F.ns.lt) (next_is_new F) (fun p hp => Nat.ne_of_lt (Heap.lt_size (N p hp).1)) hm
    (Fin := fun ys nw => ∀ (D : Addr) (h : Heap) (tk : Nat), Fr h₀ L h m → News h₀ L h ((D, LCg.lst ys) :: nw) → LCg.Off1 D nw → Q (.ref D) { s₁ with heap := h, toks := tk })
    (restT_none hm (fun i v hi hv => by obtain ⟨q, u, hq, hk⟩ := hv; obtain ⟨t, rfl⟩ := Value.isStrOf_shape hk; exact turn _ i q u t hq) fin) ?_
  · show b < (s₁.heap.push _).objs.size
    rw [Heap.size_push]
    rcases List.mem_cons.mp hb with rfl | hb
    · exact Nat.lt_succ_self _
    · rw [List.mem_singleton.mp hb]; exact Nat.lt_succ_of_lt hlt
  · intro D C h tk m' ys news' F' N' o1 hn hC₀ hD₀ hCL hDL hCD offC fin
    refine ⟨m', hn, fun h'' hs'' => fin D h'' tk (F'.change hs'' hCL hC₀) (fun p hp => ?_) o1⟩
    refine ⟨hs''.extBut _ _ ?_ (N' p hp).1, (N' p hp).2⟩
    rcases List.mem_cons.mp hp with rfl | hp
    · exact Ne.symm hCD
    · exact offC p hp
end
end Mine
end

section
open PySem PySem.W PyProof.Rows PySem.Calls PySem.Spec
set_option maxRecDepth 100000
namespace Mine
def addS (σ : List Str) (k : Str) : List Str := if k ∈ σ then σ else σ ++ [k]
theorem addS_mem {σ : List Str} {k j : Str} : j ∈ addS σ k ↔ j ∈ σ ∨ j = k := by
  unfold addS
  split
  · rename_i h; exact ⟨.inl, fun x => x.elim id fun e => e ▸ h⟩
  · simp
theorem addS_nodup {σ : List Str} {k : Str} (h : σ.Nodup) : (addS σ k).Nodup := by
  unfold addS
  split
  · exact h
  · rename_i hk
    rw [List.nodup_append]
    refine ⟨h, by simp, fun a ha b hb => ?_⟩
    rw [List.mem_singleton] at hb
    exact fun e => hk (hb ▸ e ▸ ha)
theorem addS_len {σ : List Str} {k : Str} : (addS σ k).length ≤ σ.length + 1 := by
  unfold addS
  split
  · exact Nat.le_succ _
  · simp
theorem relay_plain {t : SetTable} {es : Array (Int × Value)} {n : Nat} (h : t.plain = false) : (relayAll t es n).2.1.plain = false := by
  unfold relayAll
  split
  · rename_i t' order e
    dsimp only
    split
    · unfold SetTable.relaid SetTable.laid at e
      simp only [Option.bind_eq_bind, Option.bind_eq_some_iff, Option.pure_def, Option.some.injEq, Prod.mk.injEq] at e
      obtain ⟨x, _, e1, _⟩ := e
      rw [← e1]; exact h
    · rfl
  · rfl
section
variable {prog : Program} {w : World} {A : Around} {E : Value → Shared → Prop} {s : Shared}
def PSet (prog : Program) (w : World) (h : Heap) (a : Addr) (σ : List Str) : Prop :=
  ∃ o es ep t, h.get? a = some o ∧ o.ExactSet ∧ o.data = .set es ep t ∧ ElemsOf (strKind prog w) es.toList ∧ (∀ k, k ∈ σ ↔ ∃ e ∈ es.toList, (strKind prog w).is k e.2 = true) ∧ es.size < scanBound ∧ t.fits es.size = true ∧ es.size = σ.length ∧ (σ = [] ∨ t.plain = false)
theorem PSet.at {h h' : Heap} {a : Addr} {σ : List Str} (x : PSet prog w h a σ) (e : ∀ o, h.get? a = some o → h'.get? a = some o) : PSet prog w h' a σ := let ⟨o, es, ep, t, ho, r⟩ := x; ⟨o, es, ep, t, e _ ho, r⟩
theorem PSet.typeIs {a : Addr} {σ : List Str} (x : PSet prog w s.heap a σ) : s.TypeIs (.ref a) "set" := let ⟨o, _, _, _, ho, hc, _⟩ := x; ⟨o, ho, hc.1⟩
theorem PSet.store {h : Heap} {a : Addr} {o : Obj} {es : Array (Int × Value)} {ep : Nat} {t : SetTable} (ho : h.get? a = some o) (hex : o.ExactSet) (hd : o.data = .set es ep t) {es' : Array (Int × Value)} {t' : SetTable} {σ : List Str}
    (hel : ElemsOf (strKind prog w) es'.toList) (hmem : ∀ k, k ∈ σ ↔ ∃ e ∈ es'.toList, (strKind prog w).is k e.2 = true) (hb : es'.size < scanBound) (hf : t'.fits es'.size = true) (hn : es'.size = σ.length) (hp : t'.plain = false) :
    (h.update a (Obj.putSet es' t')).get? a = some { o with data := .set es' (ep + 1) t' } ∧ PSet prog w (h.update a (Obj.putSet es' t')) a σ := by
  have hg : (h.update a (Obj.putSet es' t')).get? a = some { o with data := .set es' (ep + 1) t' } := by
    have := Heap.get?_update_self (Obj.putSet es' t') ho (by rw [putSet_of es' t' hd]; rfl)
    rw [putSet_of es' t' hd] at this; exact this
  exact ⟨hg, _, es', ep + 1, t', hg, hex, rfl, hel, hmem, hb, hf, hn, .inr hp⟩
theorem pset_tail {g : Bool → Sem Unit} (hg : ∀ (b : Bool) (s₁ : Shared) (Q' : Unit → Shared → Prop), Q' () s₁ → wpAny (model prog w) A (g b) Q' E s₁)
    {a : Addr} {o : Obj} {es : Array (Int × Value)} {ep : Nat} {t : SetTable} (ho : s.heap.get? a = some o) (hex : o.ExactSet) (hd : o.data = .set es ep t)
    {es1 : Array (Int × Value)} {t2 : SetTable} {σ : List Str} (hel1 : ElemsOf (strKind prog w) es1.toList) (hmem1 : ∀ k', k' ∈ σ ↔ ∃ e ∈ es1.toList, (strKind prog w).is k' e.2 = true)
    (hb1 : es1.size < scanBound) (hf2 : t2.fits es1.size = true) (hn : es1.size = σ.length) (hp2 : t2.plain = false) {wasDummy : Bool} {R : Option Bool → Shared → Prop}
    (h : ∀ h', Heap.SameBut a s.heap h' → PSet prog w h' a σ → R (some true) { s with heap := h' }) :
    wpAny (model prog w) A (do
        storeSet a es1 t2
        if (!wasDummy && t2.tooFull) = true then do
            g (relayAll t2 es1 (SetTable.grown es1.size)).2.2
            storeSet a (relayAll t2 es1 (SetTable.grown es1.size)).1 (relayAll t2 es1 (SetTable.grown es1.size)).2.1
            pure (some true)
          else pure (some true)) R E s := by
  refine wpAny_bind (wpAny_storeSet_of ho hd ?_ (fits_of_scanBound hb1))
  obtain ⟨ho1, hS1⟩ := PSet.store (prog := prog) (w := w) ho hex hd hel1 hmem1 hb1 hf2 hn hp2
  have hsb1 := Heap.SameBut.update s.heap a (Obj.putSet es1 t2)
  split
  · have hp := relayAll_perm t2 es1 (SetTable.grown es1.size)
    have hfr := relayAll_fits t2 es1 (SetTable.grown es1.size)
    have hpl := relay_plain (es := es1) (n := SetTable.grown es1.size) hp2
    generalize hRl : relayAll t2 es1 (SetTable.grown es1.size) = Rl at hp hfr hpl ⊢
    obtain ⟨es2, t3, gave2⟩ := Rl
    dsimp only at hp hfr hpl ⊢
    have hel2 := hel1.perm hp
    have hmem2 : ∀ k', k' ∈ σ ↔ ∃ e ∈ es2.toList, (strKind prog w).is k' e.2 = true := fun k' => (hmem1 k').trans ⟨fun ⟨e, he, q⟩ => ⟨e, hp.mem_iff.mpr he, q⟩, fun ⟨e, he, q⟩ => ⟨e, hp.mem_iff.mp he, q⟩⟩
    have hsz : es2.size = es1.size := by rw [← Array.length_toList, hp.length_eq, Array.length_toList]
    have hb2 : es2.size < scanBound := by rw [hsz]; exact hb1
    refine wpAny_bind (hg _ _ _ ?_)
    refine wpAny_bind (wpAny_storeSet_of ho1 rfl ?_ (fits_of_scanBound hb2))
    obtain ⟨_, hS2⟩ := PSet.store (prog := prog) (w := w) ho1 hex rfl hel2 hmem2 hb2 hfr (hsz.trans hn) hpl
    exact wpAny_pure (h _ (hsb1.trans (Heap.SameBut.update _ a _)) hS2)
  · exact wpAny_pure (h _ hsb1 hS1)
theorem pset_add {a : Addr} {σ : List Str} {k : Str} {tk : Tok} {Q : Bool → Shared → Prop} (hS : PSet prog w s.heap a σ) (hroom : σ.length + 1 < scanBound)
    (h : ∀ h' b, Heap.SameBut a s.heap h' → PSet prog w h' a (addS σ k) → Q b { s with heap := h' }) : wpAny (model prog w) A (setAddHashed a (.str k tk) ((strKind prog w).hash k)) Q E s := by
  have hkey := strKind_is prog w k tk
  have hsc : (Value.str k tk).scannable = true := rfl
  obtain ⟨o, es, ep, t, ho, hex, hd, hel, hmem, hb, hf, hn, hpl⟩ := hS
  have hb1 : es.size + 1 < scanBound := by rw [hn]; exact hroom
  unfold setAddHashed setAddHashedIn
  refine wpAny_holding (wpAny_bind (wpAny_setState_of ho hd hf ?_))
  dsimp only
  rw [byScan_of hsc hb hel]
  simp only [↓reduceIte]
  unfold setAddByScan
  refine wpAny_bind ?_
  refine wpAny_bind (wpAny_rule ?_)
  refine wpAny_bind (wpAny_setScan_of hkey ho hd hf hel ?_)
  cases hr : List.findIdx? (fun e => (strKind prog w).is k e.2) es.toList with
  | some j =>
    dsimp only
    obtain ⟨hj, hpj, _⟩ := List.findIdx?_eq_some_iff_getElem.mp hr
    have hSk : k ∈ σ := (hmem k).mpr ⟨es.toList[j], List.getElem_mem hj, hpj⟩
    refine wpAny_pure (wpAny_pure ?_)
    exact h s.heap _ (Heap.SameBut.refl a s.heap) (by unfold addS; rw [if_pos hSk]; exact ⟨o, es, ep, t, ho, hex, hd, hel, hmem, hb, hf, hn, hpl⟩)
  | none =>
    dsimp only
    have hSk : ¬ k ∈ σ := fun hk => by
      obtain ⟨e, he, hp⟩ := (hmem k).mp hk
      have := List.findIdx?_eq_none_iff.mp hr e he
      rw [hp] at this; exact Bool.noConfusion this
    have hgw : ∀ (b : Bool) {s₁ : Shared} {Q' : Unit → Shared → Prop}, Q' () s₁ → wpAny (model prog w) A (match b with | true => rule "set.scan.the-table-gave-way" | false => pure ()) Q' E s₁ :=
      fun b s₁ Q' hq => by cases b <;> first | exact wpAny_pure hq | exact wpAny_rule hq
    have hperm := layNew_perm t es ((strKind prog w).hash k) (.str k tk)
    have hfits := layNew_fits t es ((strKind prog w).hash k) (.str k tk)
    generalize hL : layNew t es ((strKind prog w).hash k) (.str k tk) = L at hperm hfits ⊢
    obtain ⟨es1, t1, wasDummy, gave⟩ := L
    dsimp only at hperm hfits ⊢
    rw [Array.toList_push] at hperm
    have hel1 : ElemsOf (strKind prog w) es1.toList := (hel.push hkey hsc).perm hperm
    have hmem1 : ∀ k', k' ∈ addS σ k ↔ ∃ e ∈ es1.toList, (strKind prog w).is k' e.2 = true := by
      intro k'
      have := mem_push_iff (S := fun j => decide (j ∈ σ)) hkey (fun j => by rw [decide_eq_true_eq]; exact hmem j) hperm k'
      rw [Bool.or_eq_true, decide_eq_true_eq, decide_eq_true_eq] at this
      rw [addS_mem]; exact this
    have hb1' : es1.size < scanBound := by rw [← Array.length_toList, hperm.length_eq, List.length_append, Array.length_toList]; simpa using hb1
    have hsz1 : es1.size = (addS σ k).length := by
      rw [← Array.length_toList, hperm.length_eq, List.length_append, Array.length_toList, hn]
      unfold addS; rw [if_neg hSk, List.length_append]; rfl
    refine wpAny_bind (hgw _ ?_)
    split
    · refine wpAny_bind ?_
      rw [hashByValue_scannable 8 hsc]
      refine wpAny_pure ?_
      refine pset_tail ?_ ho hex hd hel1 hmem1 hb1' ?_ hsz1 ?_ ?_
      · intro b s₁ Q' hq; cases b <;> first | exact wpAny_pure hq | exact wpAny_rule hq
      · exact SetTable.fits_plain_off hfits
      · rfl
      · intro h' hsb hS'; dsimp only; exact wpAny_pure (h h' _ hsb hS')
    · rename_i hnp
      refine wpAny_bind (wpAny_pure ?_)
      simp only [↓reduceIte]
      refine pset_tail ?_ ho hex hd hel1 hmem1 hb1' hfits hsz1 (by simpa using hnp) ?_
      · intro b s₁ Q' hq; cases b <;> first | exact wpAny_pure hq | exact wpAny_rule hq
      · intro h' hsb hS'; dsimp only; exact wpAny_pure (h h' _ hsb hS')
end
end Mine
end

section
open PySem PySem.W PyProof.Rows PySem.Calls PySem.Spec
set_option maxRecDepth 100000
set_option maxHeartbeats 4000000
namespace Mine
def foldS (ss : List Str) : List Str := ss.foldl addS []
theorem foldS_snoc (ss : List Str) (q : Str) : foldS (ss ++ [q]) = addS (foldS ss) q := by unfold foldS; rw [List.foldl_append]; rfl
theorem foldS_take {ss : List Str} {i : Nat} {q : Str} (h : ss[i]? = some q) : foldS (ss.take (i + 1)) = addS (foldS (ss.take i)) q := by rw [List.take_add_one, h]; exact foldS_snoc _ _
theorem foldS_mem : ∀ {ss : List Str} {k : Str}, k ∈ foldS ss ↔ k ∈ ss := by
  have key : ∀ (ss σ : List Str) (k : Str), k ∈ ss.foldl addS σ ↔ k ∈ σ ∨ k ∈ ss := by
    intro ss
    induction ss with
    | nil => intro σ k; simp
    | cons a r ih =>
      intro σ k
      rw [List.foldl_cons, ih, addS_mem, List.mem_cons, or_assoc]
  intro ss k
  unfold foldS
  rw [key]; simp
theorem foldS_nodup (ss : List Str) : (foldS ss).Nodup := by
  have key : ∀ (ss σ : List Str), σ.Nodup → (ss.foldl addS σ).Nodup := by
    intro ss
    induction ss with
    | nil => intro σ h; exact h
    | cons a r ih => intro σ h; exact ih _ (addS_nodup h)
  exact key ss [] List.nodup_nil
theorem foldS_len (ss : List Str) : (foldS ss).length ≤ ss.length := by
  have key : ∀ (ss σ : List Str), (ss.foldl addS σ).length ≤ σ.length + ss.length := by
    intro ss
    induction ss with
    | nil => intro σ; simp
    | cons a r ih =>
      intro σ
      have h1 := ih (addS σ a)
      have h2 := addS_len (σ := σ) (k := a)
      rw [List.foldl_cons, List.length_cons]; omega
  have := key ss []
  unfold foldS
  simpa using this
section
variable {prog : Program} {w : World} {A : Around} {R : Result → Shared → Prop} {I : Addr} {fp wr : List Addr} {G : Array GenState → Array GenState → Prop} {P : Nat → Value → Prop} {St : Nat → Shared → Prop}
theorem set_loop {ss : List Str} {n : Nat} (hn : n = ss.length) (W : WalksS prog w A.in1 I fp wr G n P St) (S : Addr) (hSf : S ∉ fp) (hval : ∀ i v, P i v → ∃ q t, ss[i]? = some q ∧ v = .str q t) (hb : n + 1 < scanBound) :
    ∀ (k i : Nat) (s : Shared), n - i = k → i ≤ n → St i s → PSet prog w s.heap S (foldS (ss.take i)) →
      (∀ s', Moved (S :: wr) G s s' → PSet prog w s'.heap S (foldS ss) → R (.ok (.ret .none)) s') →
      codeAny (model prog w) A (.builtin "set.update.loop" ⟨[.ref S, .ref I], []⟩) R s := by
  have hSw : S ∉ wr := fun h => hSf (W.sub _ h)
  have hsub : ∀ b ∈ wr, b ∈ S :: wr := fun b hb => List.mem_cons_of_mem _ hb
  intro k
  induction k with
  | zero =>
    intro i s hk hi hst hS hR
    have hin : i = n := by omega
    subst hin
    refine codeAny_builtin PyProof.Rows.F.entry_set_update_loop ?_
    rw [Around.under_plainId PyProof.Rows.F.plain_set_update_loop _]
    show wpAny _ A.in1 (pyNext (.ref I) >>= _) _ _ s
    refine wpAny_bind (W.done s _ _ hst fun s' hm => ?_)
    show wpAny _ A.in1 (ret Value.none) _ _ s'
    rw [hn, List.take_length] at hS
    exact wpAny_pure (hR s' (hm.mono hsub) (hS.at fun o e => hm.heap S _ hSw e))
  | succ k ih =>
    intro i s hk hi hst hS hR
    have hlt : i < n := by omega
    refine codeAny_builtin PyProof.Rows.F.entry_set_update_loop ?_
    rw [Around.under_plainId PyProof.Rows.F.plain_set_update_loop _]
    show wpAny _ A.in1 (pyNext (.ref I) >>= _) _ _ s
    refine wpAny_bind (W.item i s _ _ hlt hst fun v s' hP hst' hm => ?_)
    obtain ⟨q, t, hq, rfl⟩ := hval i v hP
    have hS' : PSet prog w s'.heap S (foldS (ss.take i)) := hS.at fun o e => hm.heap S _ hSw e
    show wpAny _ A.in1 (holding [Value.str q t] (setAdd S (.str q t)) >>= _) _ _ s'
    refine wpAny_bind (wpAny_holding ?_)
    unfold setAdd
    refine wpAny_holding ?_
    refine wpAny_bind ((strKind prog w).pyHash (k := q) (strKind_is _ _ _ _) ?_)
    have hroom : (foldS (ss.take i)).length + 1 < scanBound := by
      have := foldS_len (ss.take i)
      have h2 : (ss.take i).length ≤ n := by rw [List.length_take]; omega
      omega
    refine pset_add (s := { s' with toks := s'.toks + 1 }) hS' hroom fun h' b hsb hS2 => ?_
    rw [← foldS_take hq] at hS2
    refine wpAny_pure ⟨plainId_quiet PyProof.Rows.F.plain_set_update_loop _, ih (i + 1) _ (by omega) hlt (W.frame _ s' _ _ hst' (Nat.le_succ _) fun b hb o e => ?_) hS2 fun s'' hm'' hS'' => ?_⟩
    · rw [hsb.2 b (fun h : b = S => hSf (by rw [← h]; exact hb))]; exact e
    · refine hR s'' (Moved.trans W.gtrans ((hm.mono hsub).then_heap (Nat.le_succ _) fun b o hb e => ?_) hm'') hS''
      rw [hsb.2 b (fun h : b = S => hb (by rw [h]; exact List.mem_cons_self))]; exact e
end
section
variable {prog : Program} {w : World} {A : Around} {E : Value → Shared → Prop} {s : Shared}
theorem call_set_strs {l : Addr} {items : Array Value} {ss : List Str} {Q : Value → Shared → Prop} (hh : A.handled = none) (hl : s.heap.IsList l items) (hi : StrsAre items.toList ss) (hb : items.size + 1 < scanBound)
    (h : ∀ (h' : Heap) (tk : Nat), PSet prog w h' s.heap.objs.size (foldS ss) → (∀ b o, b < s.heap.objs.size → s.heap.get? b = some o → h'.get? b = some o) → Q (.ref s.heap.objs.size) { s with heap := h', toks := tk }) :
    wpAny (model prog w) A (call (.type "set") [.ref l]) Q E s := by
  obtain ⟨c, tl, hmro⟩ := PySem.F.called_set.mro
  have hmade := PySem.F.called_set.made
  have hsub := PySem.F.called_set.sub
  refine wpAny_call (codeAny_of_tree ?_)
  show wpAny _ _ (callAny (.type "set") _) _ _ _
  refine wpAny_pure ⟨Code.quiet_builtin _ (by decide +kernel), codeAny_builtin PySem.F.entry_type_call ?_⟩
  rw [Around.under_plain (weight_type_call_type "set" [.ref l] []) rfl]
  have h1 := PySem.F.called_set.notType
  have h2 := PySem.F.called_set.canCreate
  have hct := PySem.F.typeCall_set_1 (.ref l)
  repeat (any_goals (first | assumption | wp_step))
  refine codeAny_mono (code_set_new_1 (.ref l) (E := E) (Q₁ := fun obj s₁ => ∃ led : Bool, obj = .ref s.heap.objs.size ∧ s₁ = { s with heap := s.heap.push { cls := .type "set", dict := none, data := .set #[] 0 (.fresh 0 0 led) } }) fun led => ⟨led, rfl, rfl⟩) fun r s₁ hr => ?_
  cases r with
  | error e => exact hr
  | ok fl =>
    cases fl with
    | ret obj =>
      obtain ⟨led, rfl, rfl⟩ := hr
      have hS : (s.heap.push { cls := .type "set", dict := none, data := .set #[] 0 (.fresh 0 0 led) }).get? s.heap.objs.size = some { cls := .type "set", dict := none, data := .set #[] 0 (.fresh 0 0 led) } := Heap.get?_push_size _ rfl
      have hT : Shared.TypeIs { s with heap := s.heap.push { cls := .type "set", dict := none, data := .set #[] 0 (.fresh 0 0 led) } } (.ref s.heap.objs.size) "set" := ⟨_, hS, rfl⟩
      have hli := PySem.F.called_set.init.lookup
      have hbi := PySem.F.called_set.init.bind (.ref s.heap.objs.size)
      repeat (any_goals (first | assumption | wp_step))
      refine codeAny_mono (codeAny_call_builtin (R := wants (fun r s₂ => r = .none ∧ ∃ h' tk, s₂ = { s with heap := h', toks := tk } ∧ PSet prog w h' s.heap.objs.size (foldS ss) ∧
          (∀ b o, b < s.heap.objs.size → s.heap.get? b = some o → h'.get? b = some o)) E) PySem.F.called_set.init.plain PySem.F.entry_set_init (check_set_init_1 hT ?_)) fun r₂ s₂ hr₂ => ?_
      · obtain ⟨ol, hol, hcl, nl, hdl⟩ := hl
        obtain ⟨ocls, odict, odata, oslots⟩ := ol
        simp only at hcl hdl
        subst hcl; subst hdl
        have hol' : (s.heap.push { cls := .type "set", dict := none, data := .set #[] 0 (.fresh 0 0 led) }).get? l = some { cls := .type "list", dict := odict, data := .seq items nl, slots := oslots } := Heap.get?_push_of_some _ hol
        have hsls := PySem.F.sub_list_set
        have hslf := PySem.F.sub_list_frozenset
        have hne : (Value.type "list" == Value.type "dict") = false := by decide
        have hl1 : (s.heap.push { cls := .type "set", dict := none, data := .set #[] 0 (.fresh 0 0 led) }).IsList l items := ⟨_, hol', rfl, nl, rfl⟩
        unfold Builtin.«set.__init__» noKeywords Builtin.Frozenset.updateFrom
        generalize hPI : pyIter = PI
        wp_walk
        subst hPI
        refine wpAny_pyIter_list hl1 ?_
        refine wpAny_bind (wpAny_runValue ?_)
        have hlS : l < s.heap.objs.size := Heap.lt_size hol
        have hh3 : A.in1.in1.in1.handled = none := by simp [hh]
        have hneI : l ≠ (s.heap.push { cls := .type "set", dict := none, data := .set #[] 0 (.fresh 0 0 led) }).objs.size := by
          rw [Heap.size_push]; exact Nat.ne_of_lt (Nat.lt_succ_of_lt hlS)
        have hSf : s.heap.objs.size ∉ [(s.heap.push { cls := .type "set", dict := none, data := .set #[] 0 (.fresh 0 0 led) }).objs.size, l] := by
          rw [Heap.size_push]; simp only [List.mem_cons, List.mem_singleton, List.not_mem_nil, or_false, not_or]
          exact ⟨Nat.ne_of_lt (Nat.lt_succ_self _), Nat.ne_of_gt hlS⟩
        have hlen : items.size = ss.length := by rw [← Array.length_toList]; exact hi.length
        have hval : ∀ (i : Nat) (v : Value), items[i]? = some v → ∃ q t, ss[i]? = some q ∧ v = .str q t := fun i v hv => by
          obtain ⟨q, t, e, hq⟩ := hi.item i v (by rw [Array.getElem?_toList]; exact hv)
          exact ⟨q, t, hq, e⟩
        refine set_loop hlen ((Walks.list hh3 _ l hneI items).toS) s.heap.objs.size
          hSf hval hb (items.size - 0) 0 _ (by omega) (Nat.zero_le _)
          ⟨⟨_, Heap.get?_push_size _ rfl, rfl, rfl⟩, (hl1.push _)⟩ ?hS0 ?hR
        case hS0 =>
          have hget : ((s.heap.push { cls := .type "set", dict := none, data := .set #[] 0 (.fresh 0 0 led) }).push { cls := .type "list_iterator", data := .fields #[.ref l, .int 0 0] }).get? s.heap.objs.size
              = some { cls := .type "set", dict := none, data := .set #[] 0 (.fresh 0 0 led) } := Heap.get?_push_of_some _ hS
          exact ⟨_, #[], 0, _, hget, ⟨rfl, rfl, rfl⟩, rfl, fun e he => by simp at he, fun k => by simp [foldS], by decide, by rfl, rfl, .inl rfl⟩
        case hR =>
          intro s' hm hS'
          obtain ⟨h', g', d', tk', os'⟩ := s'
          have eg : g' = s.gens := hm.gens
          have ed : d' = s.drawn := hm.drawn
          have eo : os' = s.os := hm.os
          subst eg; subst ed; subst eo
          show wpAny _ _ _ _ _ _
          refine wpAny_pure ?_
          show wpAny _ _ (ret Value.none) _ _ _
          refine wpAny_pure ⟨rfl, h', tk', rfl, hS', fun b o hb e => ?_⟩
          have hb1 : b ≠ s.heap.objs.size := Nat.ne_of_lt hb
          have hb2 : b ≠ (s.heap.push { cls := .type "set", dict := none, data := .set #[] 0 (.fresh 0 0 led) }).objs.size := by
            rw [Heap.size_push]; exact Nat.ne_of_lt (Nat.lt_succ_of_lt hb)
          exact hm.heap b o (by simp only [List.mem_cons, List.mem_singleton, List.not_mem_nil, or_false, not_or]; exact ⟨hb1, hb2⟩) (Heap.get?_push_of_some _ (Heap.get?_push_of_some _ e))
      · cases r₂ with
        | error e => exact hr₂
        | ok fl₂ =>
          cases fl₂ with
          | ret r =>
            obtain ⟨rfl, h', tk, rfl, hS', hk'⟩ := hr₂
            repeat (any_goals (first | assumption | wp_step))
            exact h _ _ hS' hk'
          | _ => exact hr₂.elim
    | _ => exact hr.elim
end
end Mine
end

section
open PySem PySem.W PyProof.Rows PySem.Calls PySem.Spec
set_option maxRecDepth 100000
set_option maxHeartbeats 2000000
namespace Mine
namespace SI
theorem slot_iter : Slot "set" "__iter__" "set.__iter__" :=
  .of (owner := "set") (n := "__iter__") (by rw [typeLookup_type, builtinLookup_eq_fast]; kernel_rfl) (by decide +kernel) (by decide +kernel) (by decide +kernel)
    (by first | exact .inl (by decide +kernel) | exact .inr (by decide +kernel)) (by rw [isSubtype_type]; kernel_rfl)
theorem entry_iter : entryFor table "set.__iter__" = some Builtin.«frozenset.__iter__» := entryFor_alias (id' := "frozenset.__iter__") (by kernel_rfl) rfl (by decide +kernel) (by kernel_rfl)
theorem args_iter (a : Value) : argsOk "set.__iter__" ⟨[a], []⟩ := by unfold argsOk; kernel_rfl
theorem slot_next : Slot "set_iterator" "__next__" "set_iterator.__next__" :=
  .of (owner := "set_iterator") (n := "__next__") (by rw [typeLookup_type, builtinLookup_eq_fast]; kernel_rfl) (by decide +kernel) (by decide +kernel) (by decide +kernel)
    (by first | exact .inl (by decide +kernel) | exact .inr (by decide +kernel)) (by rw [isSubtype_type]; kernel_rfl)
theorem entry_next : entryFor table "set_iterator.__next__" = some Builtin.«set_iterator.__next__» := entryFor_of_tree (by kernel_rfl)
theorem args_next (a : Value) : argsOk "set_iterator.__next__" ⟨[a], []⟩ := by unfold argsOk; kernel_rfl
theorem slot_self : Slot "set_iterator" "__iter__" "set_iterator.__iter__" :=
  .of (owner := "set_iterator") (n := "__iter__") (by rw [typeLookup_type, builtinLookup_eq_fast]; kernel_rfl) (by decide +kernel) (by decide +kernel) (by decide +kernel)
    (by first | exact .inl (by decide +kernel) | exact .inr (by decide +kernel)) (by rw [isSubtype_type]; kernel_rfl)
end SI
theorem perm_erase {α : Type} {x : α} : ∀ {xs : List α} {i : Nat}, xs[i]? = some x → (x :: xs.eraseIdx i).Perm xs
  | [], i, h => by simp at h
  | a :: r, 0, h => by simp at h; subst h; exact .refl _
  | a :: r, i + 1, h => by
    have h' : r[i]? = some x := by simpa using h
    rw [List.eraseIdx_cons_succ]
    exact (List.Perm.swap a x _).trans (List.Perm.cons a (perm_erase h'))
theorem pick_perm {α : Type} (next : Nat → Nat) (xs : Array α) : (pickOrder next xs).toList.Perm xs.toList := by
  have key : ∀ (fuel k : Nat) (left : List α) (out : Array α), fuel = left.length → (pickOrder.go next fuel k left out).toList.Perm (out.toList ++ left) := by
    intro fuel
    induction fuel with
    | zero =>
      intro k left out h
      have : left = [] := List.length_eq_zero_iff.mp h.symm
      subst this
      simp [pickOrder.go]
    | succ fuel ih =>
      intro k left out h
      have hlt : next k % left.length < left.length := Nat.mod_lt _ (by omega)
      have hg : left[next k % left.length]? = some left[next k % left.length] := List.getElem?_eq_getElem hlt
      unfold pickOrder.go
      rw [hg]
      dsimp only
      refine (ih _ _ _ (by rw [List.length_eraseIdx_of_lt hlt]; omega)).trans ?_
      rw [Array.toList_push, List.append_assoc]
      exact List.Perm.append_left _ (perm_erase hg)
  have := key xs.size 0 xs.toList #[] (by simp)
  simpa [pickOrder] using this
section
variable {prog : Program} {w : World} {A : Around} {E : Value → Shared → Prop}
theorem wpAny_draw {α : Type} : ∀ (n : Nat) (xs : List α) (s : Shared) (Q : List α → Shared → Prop), n = xs.length → (∀ ys dr, ys.Perm xs → Q ys { s with drawn := dr }) → wpAny (model prog w) A (drawOrder n xs) Q E s
  | 0, xs, s, Q, hn, h => by
    have : xs = [] := List.length_eq_zero_iff.mp hn.symm
    subst this
    exact wpAny_pure (h [] s.drawn (.refl _))
  | n + 1, [], s, Q, hn, h => by cases hn
  | n + 1, a :: r, s, Q, hn, h => by
    show wpAny _ _ (choose .order (a :: r).length >>= fun i => match (a :: r)[i]? with | some x => do return x :: (← drawOrder n ((a :: r).eraseIdx i)) | none => unsupported "internal:drawOrder") _ _ _
    have hl : (a :: r).length ≠ 0 := by simp
    generalize a :: r = xs at *
    refine wpAny_bind (fun Γ p hΓ => ⟨hl, ?_⟩)
    generalize hi : (model prog w).w.draws .order (s.drawn.get .order) % xs.length = i
    have hlt : i < xs.length := hi ▸ Nat.mod_lt _ (by omega)
    have hg : xs[i]? = some xs[i] := List.getElem?_eq_getElem hlt
    show wpAny _ _ (match xs[i]? with | some x => do return x :: (← drawOrder n (xs.eraseIdx i)) | none => unsupported "internal:drawOrder") _ _ { s with drawn := s.drawn.bump .order }
    rw [hg]
    dsimp only
    refine wpAny_bind (wpAny_draw n (xs.eraseIdx i) _ _ (by rw [List.length_eraseIdx_of_lt hlt]; omega) fun ys dr hp => wpAny_pure (h _ dr ?_))
    exact (List.Perm.cons _ hp).trans (perm_erase hg)
end
end Mine
end

section
open PySem PySem.W PyProof.Rows PySem.Calls PySem.Spec
set_option maxRecDepth 100000
set_option maxHeartbeats 2000000
namespace Mine
/-- the iterator over a set, at the i-th of its turns -/
def SIt (h : Heap) (I a : Addr) (first : Value) (n ep i : Nat) : Prop := ∃ o, h.get? I = some o ∧ o.cls = .type "set_iterator" ∧ o.data = .fields #[first, .int i 0, .ref a, .int n 0, .int ep 0]
theorem SIt.at {h h' : Heap} {I a : Addr} {first : Value} {n ep i : Nat} (x : SIt h I a first n ep i) (e : ∀ o, h.get? I = some o → h'.get? I = some o) : SIt h' I a first n ep i := let ⟨o, ho, r⟩ := x; ⟨o, e _ ho, r⟩
def SAt (h : Heap) (a : Addr) (es : Array (Int × Value)) (ep : Nat) (t : SetTable) : Prop := ∃ o, h.get? a = some o ∧ o.cls = .type "set" ∧ o.data = .set es ep t ∧ t.fits es.size = true
theorem SAt.at {h h' : Heap} {a : Addr} {es : Array (Int × Value)} {ep : Nat} {t : SetTable} (x : SAt h a es ep t) (e : ∀ o, h.get? a = some o → h'.get? a = some o) : SAt h' a es ep t := let ⟨o, ho, r⟩ := x; ⟨o, e _ ho, r⟩
section
variable {prog : Program} {w : World} {A : Around} {E : Value → Shared → Prop} {s : Shared} {I a T : Addr} {es : Array (Int × Value)} {n ep i : Nat} {t : SetTable}
theorem SIt.typeIs {first : Value} (x : SIt s.heap I a first n ep i) : s.TypeIs (.ref I) "set_iterator" := let ⟨o, ho, hc, _⟩ := x; ⟨o, ho, hc⟩
theorem sat_state {Q : (Array (Int × Value) × Nat × SetTable) → Shared → Prop} (x : SAt s.heap a es ep t) (h : Q (es, ep, t) s) : wpAny (model prog w) A (setState a) Q E s := let ⟨o, ho, _, hd, hf⟩ := x; wpAny_setState_of ho hd hf h
theorem sat_byText {b : Bool} {Q : Bool → Shared → Prop} (hb : w.params.followText "set-order" = b) (h : Q b s) : wpAny (model prog w) A setsByText Q E s := by
  unfold setsByText
  refine wpAny_bind (wpAny_askSetting (wpAny_pure ?_))
  show Q (w.params.followText "set-order") s
  rw [hb]; exact h
theorem sat_walk {Q : Array (Int × Value) → Shared → Prop} (hb : w.params.followText "set-order" = true) (x : SAt s.heap a es ep t) (h : Q (pickOrder (w.params.setOrder a ep) es) s) : wpAny (model prog w) A (setWalk a) Q E s := by
  unfold setWalk
  refine wpAny_bind (sat_state x ?_)
  dsimp only
  refine wpAny_bind (sat_byText hb ?_)
  rw [if_pos rfl]
  exact wpAny_bind (wpAny_askSetting (wpAny_pure h))
theorem sit_text_item {e : Int × Value} {Q : Option Value → Shared → Prop} (hb : w.params.followText "set-order" = true) (hit : SIt s.heap I a (.int 0 0) es.size ep i) (hs : SAt s.heap a es ep t) (hx : (pickOrder (w.params.setOrder a ep) es)[i]? = some e)
    (hQ : ∀ h', Heap.SameBut I s.heap h' → SIt h' I a (.int 0 0) es.size ep (i + 1) → Q (some e.2) { s with heap := h' }) (hne : a ≠ I) : wpAny (model prog w) A (pyNext (.ref I)) Q E s := by
  obtain ⟨o, ho, hc, hd⟩ := id hit
  unfold pyNext
  refine wpAny_bind (wpAny_attempt (wpAny_callSpecial?_slot (name := Str.ofString "__next__") hit.typeIs SI.slot_next (wpAny_call_entry SI.slot_next hit.typeIs SI.entry_next ?_ (SI.args_next _))))
  unfold Builtin.«set_iterator.__next__»
  refine wpAny_bind (wpAny_pure (a := (Value.ref I, [])) ?_)
  dsimp only
  refine wpAny_bind (wpAny_fieldsOf ho hd ?_)
  dsimp only
  unfold setEntries
  refine wpAny_bind (wpAny_bind (sat_state hs (wpAny_pure ?_)))
  dsimp only
  rw [if_neg (by simp)]
  unfold setNext
  refine wpAny_bind (wpAny_bind (sat_state hs ?_))
  dsimp only
  refine wpAny_bind (sat_byText hb ?_)
  rw [if_pos rfl]
  rw [if_neg (by simp)]
  refine wpAny_bind (sat_walk hb hs (wpAny_pure ?_))
  rw [show ((pickOrder (w.params.setOrder a ep) es)[(i : Int).toNat]?) = some e from by rw [Int.toNat_natCast]; exact hx]
  dsimp only [Option.map]
  refine wpAny_bind (wpAny_setField ho hd (by simp) ?_)
  have hd1 : ((Obj.mapFields (·.setIfInBounds 0 (rawInt ((0 : Int).toNat : Nat))) o)).data = .fields #[.int 0 0, .int i 0, .ref a, .int es.size 0, .int ep 0] := by rw [Obj.data_mapFields hd]; simp [rawInt]
  have ho1 := Heap.get?_update_self (Obj.mapFields (·.setIfInBounds 0 (rawInt ((0 : Int).toNat : Nat)))) ho (Obj.isFreed_of_fields (Obj.data_mapFields hd _))
  refine wpAny_bind (wpAny_setField ho1 hd1 (by simp) ?_)
  have ho2 := Heap.get?_update_self (Obj.mapFields (·.setIfInBounds 1 (rawInt ((i : Int) + 1)))) ho1 (Obj.isFreed_of_fields (Obj.data_mapFields hd1 _))
  refine wpAny_pure ⟨_, rfl, ?_⟩
  refine wpAny_pure (hQ _ ((Heap.SameBut.update ..).trans (Heap.SameBut.update ..)) ⟨_, ho2, ?_, ?_⟩)
  · rw [Obj.cls_mapFields, Obj.cls_mapFields]; exact hc
  · rw [Obj.data_mapFields hd1]; simp [rawInt]
theorem sit_text_end {Q : Option Value → Shared → Prop} (hh : A.handled = none) (hb : w.params.followText "set-order" = true) (hit : SIt s.heap I a (.int 0 0) es.size ep i) (hs : SAt s.heap a es ep t) (hx : (pickOrder (w.params.setOrder a ep) es)[i]? = none)
    (hQ : ∀ h', Heap.ExtBut I s.heap h' → Q none { s with heap := h' }) : wpAny (model prog w) A (pyNext (.ref I)) Q E s := by
  obtain ⟨o, ho, hc, hd⟩ := id hit
  unfold pyNext
  refine wpAny_bind (wpAny_attempt (wpAny_callSpecial?_slot (name := Str.ofString "__next__") hit.typeIs SI.slot_next (wpAny_call_entry SI.slot_next hit.typeIs SI.entry_next ?_ (SI.args_next _))))
  unfold Builtin.«set_iterator.__next__»
  refine wpAny_bind (wpAny_pure (a := (Value.ref I, [])) ?_)
  dsimp only
  refine wpAny_bind (wpAny_fieldsOf ho hd ?_)
  dsimp only
  unfold setEntries
  refine wpAny_bind (wpAny_bind (sat_state hs (wpAny_pure ?_)))
  dsimp only
  rw [if_neg (by simp)]
  unfold setNext
  refine wpAny_bind (wpAny_bind (sat_state hs ?_))
  dsimp only
  refine wpAny_bind (sat_byText hb ?_)
  rw [if_pos rfl]
  rw [if_neg (by simp)]
  refine wpAny_bind (sat_walk hb hs (wpAny_pure ?_))
  rw [show ((pickOrder (w.params.setOrder a ep) es)[(i : Int).toNat]?) = none from by rw [Int.toNat_natCast]; exact hx]
  dsimp only [Option.map]
  refine wpAny_bind (wpAny_setField ho hd (by simp) ?_)
  show wpAny _ _ (newExc (.type "StopIteration") [] >>= _) _ _ _
  refine wpAny_bind ?_
  simp only [newExc, newTuple]
  refine wpAny_bind (wpAny_newObj_type ?_ (by size_fits))
  refine wpAny_bind (m := firstArgMember _ _) (wpAny_of_eq (a := Value.none) (by first | rfl | (simp only [firstArgMember]; rfl)) ?_)
  refine wpAny_newObj_type ?_ (by size_fits)
  simp only [raiseNew]
  refine wpAny_bind (wpAny_handled ?_)
  rw [show A.in1.handled = none from hh]
  refine wpAny_bind (wpAny_pure (wpAny_throw ?_))
  refine wpAny_bind (wpAny_isInstance (T := "StopIteration") (b := true) ⟨_, Heap.get?_push_size _ rfl, rfl⟩ isSubtype_stop ?_)
  exact wpAny_pure (hQ _ (((Heap.SameBut.update ..).extBut.push _).push _))
def TAt (h : Heap) (T : Addr) (ps : List Nat) : Prop := ∃ o k, h.get? T = some o ∧ o.cls = .type "tuple" ∧ o.data = .seq (ps.map fun (p : Nat) => rawInt p).toArray k
theorem TAt.at {h h' : Heap} {T : Addr} {ps : List Nat} (x : TAt h T ps) (e : ∀ o, h.get? T = some o → h'.get? T = some o) : TAt h' T ps := let ⟨o, k, ho, r⟩ := x; ⟨o, k, e _ ho, r⟩
theorem sit_drawn_item {ps : List Nat} {p : Nat} {e : Int × Value} {Q : Option Value → Shared → Prop} (hit : SIt s.heap I a (.ref T) es.size ep i) (hs : SAt s.heap a es ep t) (ht : TAt s.heap T ps) (hp : ps[i]? = some p) (hx : es[p]? = some e)
    (hQ : ∀ h', Heap.SameBut I s.heap h' → SIt h' I a (.ref T) es.size ep (i + 1) → Q (some e.2) { s with heap := h' }) : wpAny (model prog w) A (pyNext (.ref I)) Q E s := by
  obtain ⟨o, ho, hc, hd⟩ := id hit
  unfold pyNext
  refine wpAny_bind (wpAny_attempt (wpAny_callSpecial?_slot (name := Str.ofString "__next__") hit.typeIs SI.slot_next (wpAny_call_entry SI.slot_next hit.typeIs SI.entry_next ?_ (SI.args_next _))))
  unfold Builtin.«set_iterator.__next__»
  refine wpAny_bind (wpAny_pure (a := (Value.ref I, [])) ?_)
  dsimp only
  refine wpAny_bind (wpAny_fieldsOf ho hd ?_)
  dsimp only
  unfold setEntries
  refine wpAny_bind (wpAny_bind (sat_state hs (wpAny_pure ?_)))
  dsimp only
  rw [if_neg (by simp)]
  obtain ⟨ot, k, hot, hct, hdt⟩ := ht
  refine wpAny_bind (wpAny_seqItems hot hdt ?_)
  dsimp only
  rw [show ((ps.map fun (p : Nat) => rawInt p).toArray[(i : Int).toNat]?) = some (.int p 0) from by rw [Int.toNat_natCast]; simp [hp, rawInt]]
  dsimp only
  unfold setNextDrawn
  refine wpAny_bind (wpAny_bind (sat_state hs ?_))
  dsimp only
  rw [if_neg (by simp)]
  rw [show es[(p : Int).toNat]? = some e from by rw [Int.toNat_natCast]; exact hx]
  dsimp only
  refine wpAny_bind (wpAny_pure (wpAny_pure ?_))
  refine wpAny_bind (wpAny_setField ho hd (by simp) ?_)
  have ho1 := Heap.get?_update_self (Obj.mapFields (·.setIfInBounds 1 (rawInt ((i : Int) + 1)))) ho (Obj.isFreed_of_fields (Obj.data_mapFields hd _))
  refine wpAny_pure ⟨_, rfl, ?_⟩
  refine wpAny_pure (hQ _ (Heap.SameBut.update ..) ⟨_, ho1, ?_, ?_⟩)
  · rw [Obj.cls_mapFields]; exact hc
  · rw [Obj.data_mapFields hd]; simp [rawInt]
theorem sit_drawn_end {ps : List Nat} {Q : Option Value → Shared → Prop} (hh : A.handled = none) (hit : SIt s.heap I a (.ref T) es.size ep i) (hs : SAt s.heap a es ep t) (ht : TAt s.heap T ps) (hp : ps[i]? = none)
    (hQ : ∀ h', Heap.ExtBut I s.heap h' → Q none { s with heap := h' }) : wpAny (model prog w) A (pyNext (.ref I)) Q E s := by
  obtain ⟨o, ho, hc, hd⟩ := id hit
  unfold pyNext
  refine wpAny_bind (wpAny_attempt (wpAny_callSpecial?_slot (name := Str.ofString "__next__") hit.typeIs SI.slot_next (wpAny_call_entry SI.slot_next hit.typeIs SI.entry_next ?_ (SI.args_next _))))
  unfold Builtin.«set_iterator.__next__»
  refine wpAny_bind (wpAny_pure (a := (Value.ref I, [])) ?_)
  dsimp only
  refine wpAny_bind (wpAny_fieldsOf ho hd ?_)
  dsimp only
  unfold setEntries
  refine wpAny_bind (wpAny_bind (sat_state hs (wpAny_pure ?_)))
  dsimp only
  rw [if_neg (by simp)]
  obtain ⟨ot, k, hot, hct, hdt⟩ := ht
  refine wpAny_bind (wpAny_seqItems hot hdt ?_)
  dsimp only
  rw [show ((ps.map fun (p : Nat) => rawInt p).toArray[(i : Int).toNat]?) = none from by rw [Int.toNat_natCast]; simpa using hp]
  dsimp only
  refine wpAny_bind (wpAny_setField ho hd (by simp) ?_)
  have ho1 := Heap.get?_update_self (Obj.mapFields (·.setIfInBounds 0 (rawInt 0))) ho (Obj.isFreed_of_fields (Obj.data_mapFields hd _))
  have hd1 := Obj.data_mapFields hd (·.setIfInBounds 0 (rawInt 0))
  refine wpAny_bind (wpAny_setField ho1 hd1 (by simp) ?_)
  show wpAny _ _ (newExc (.type "StopIteration") [] >>= _) _ _ _
  refine wpAny_bind ?_
  simp only [newExc, newTuple]
  refine wpAny_bind (wpAny_newObj_type ?_ (by size_fits))
  refine wpAny_bind (m := firstArgMember _ _) (wpAny_of_eq (a := Value.none) (by first | rfl | (simp only [firstArgMember]; rfl)) ?_)
  refine wpAny_newObj_type ?_ (by size_fits)
  simp only [raiseNew]
  refine wpAny_bind (wpAny_handled ?_)
  rw [show A.in1.handled = none from hh]
  refine wpAny_bind (wpAny_pure (wpAny_throw ?_))
  refine wpAny_bind (wpAny_isInstance (T := "StopIteration") (b := true) ⟨_, Heap.get?_push_size _ rfl, rfl⟩ isSubtype_stop ?_)
  exact wpAny_pure (hQ _ ((((Heap.SameBut.update ..).trans (Heap.SameBut.update ..)).extBut.push _).push _))
end
end Mine
end

section
open PySem PySem.W PyProof.Rows PySem.Calls PySem.Spec
set_option maxRecDepth 100000
set_option maxHeartbeats 2000000
namespace Mine
namespace SI
theorem entry_self : entryFor table "set_iterator.__iter__" = some Builtin.«dict_keyiterator.__iter__» := entryFor_alias (id' := "dict_keyiterator.__iter__") (by kernel_rfl) rfl (by decide +kernel) (by kernel_rfl)
theorem args_self (a : Value) : argsOk "set_iterator.__iter__" ⟨[a], []⟩ := by unfold argsOk; kernel_rfl
end SI
theorem perm_of_nodup {α : Type} [DecidableEq α] : ∀ {σ zs : List α}, σ.Nodup → (∀ x ∈ σ, x ∈ zs) → zs.length ≤ σ.length → σ.Perm zs
  | [], zs, _, _, hl => by
    have : zs = [] := List.length_eq_zero_iff.mp (Nat.le_zero.mp hl)
    subst this; exact .refl _
  | x :: σ, zs, hn, hs, hl => by
    have hx : x ∈ zs := hs x (.head _)
    rw [List.nodup_cons] at hn
    have ih := perm_of_nodup (σ := σ) (zs := zs.erase x) hn.2 (fun y hy => (List.mem_erase_of_ne (fun (e : y = x) => hn.1 (by rw [← e]; exact hy))).mpr (hs y (.tail _ hy))) (by rw [List.length_erase_of_mem hx]; simp at hl; omega)
    exact (List.Perm.cons x ih).trans (List.perm_cons_erase hx).symm
section
variable {prog : Program} {w : World} {A : Around} {E : Value → Shared → Prop} {s : Shared}
theorem strsAre_at : ∀ {vs : List Value} {zs : List Str} {i : Nat} {v : Value}, StrsAre vs zs → vs[i]? = some v → ∃ q t, zs[i]? = some q ∧ v = .str q t
  | _, _, i, v, .nil, h => by simp at h
  | _, _, 0, v, .cons x t r, h => by simp at h; subst h; exact ⟨x, t, rfl, rfl⟩
  | _, _, i + 1, v, .cons x t r, h => by
    obtain ⟨q, t', a, b⟩ := strsAre_at (i := i) (v := v) r (by simpa using h)
    exact ⟨q, t', by simpa using a, b⟩
theorem ord_strs {es ord : List (Int × Value)} {σ : List Str} (hel : ElemsOf (PySem.strKind prog w) es) (hmem : ∀ k, k ∈ σ ↔ ∃ e ∈ es, (PySem.strKind prog w).is k e.2 = true) (hσ : σ.Nodup) (hl : es.length = σ.length) (hp : ord.Perm es) :
    ∃ zs, StrsAre (ord.map (·.2)) zs ∧ zs.Perm σ := by
  obtain ⟨zs, hz, hlen, hP⟩ := strsAre_ex (fun i q => ∃ e, ord[i]? = some e ∧ (PySem.strKind prog w).is q e.2 = true) (ys := ord.map (·.2)) (fun i y e => by
    rw [List.getElem?_map, Option.map_eq_some_iff] at e
    obtain ⟨p, hp1, rfl⟩ := e
    obtain ⟨⟨k, hk, _⟩, _⟩ := hel p (hp.mem_iff.mp (List.mem_of_getElem? hp1))
    obtain ⟨t, ht⟩ := Value.isStrOf_shape hk
    exact ⟨k, t, ht, p, hp1, hk⟩)
  refine ⟨zs, hz, (perm_of_nodup hσ (fun k hk => ?_) ?_).symm⟩
  · obtain ⟨e, he, hk'⟩ := (hmem k).mp hk
    obtain ⟨i, hi⟩ := List.getElem?_of_mem (hp.mem_iff.mpr he)
    have hi' : (ord.map (·.2))[i]? = some e.2 := by rw [List.getElem?_map, hi]; rfl
    obtain ⟨q, t, hq, hv⟩ := strsAre_at hz hi'
    obtain ⟨t', ht'⟩ := Value.isStrOf_shape hk'
    rw [hv] at ht'
    cases ht'
    exact List.mem_of_getElem? hq
  · rw [hlen, List.length_map, hp.length_eq, hl]; exact Nat.le_refl _
theorem sit_self {I a : Addr} {first : Value} {n ep i : Nat} {Q : Value → Shared → Prop} (hit : SIt s.heap I a first n ep i) (h : Q (.ref I) s) : wpAny (model prog w) A (pyIter (.ref I)) Q E s := by
  refine wpAny_pyIter_slot hit.typeIs SI.slot_self (wpAny_call_entry SI.slot_self hit.typeIs SI.entry_self ?_ (SI.args_self _))
  show wpAny _ _ (ret (.ref I)) _ _ s
  exact wpAny_pure ⟨_, rfl, "set_iterator", _, hit.typeIs, SI.slot_next.lookup, h⟩
theorem walks_text (hh : A.handled = none) {I a : Addr} (hne : a ≠ I) {es : Array (Int × Value)} {ep : Nat} {t : SetTable} (hb : w.params.followText "set-order" = true) :
    Walks prog w A I [I, a] [I] es.size (fun i v => ((pickOrder (w.params.setOrder a ep) es).toList.map (·.2))[i]? = some v) (fun i h => SIt h I a (.int 0 0) es.size ep i ∧ SAt h a es ep t) where
  sub := fun b hb => by simp at hb; simp [hb]
  frame := fun _ _ _ st hk => ⟨st.1.at fun o e => hk I (by simp) o e, st.2.at fun o e => hk a (by simp) o e⟩
  item := fun i s Q E hi st hQ => by
    have hsz : (pickOrder (w.params.setOrder a ep) es).size = es.size := by
      have := (pick_perm (w.params.setOrder a ep) es).length_eq
      simpa using this
    have hx : (pickOrder (w.params.setOrder a ep) es)[i]? = some ((pickOrder (w.params.setOrder a ep) es)[i]'(by rw [hsz]; exact hi)) := Array.getElem?_eq_getElem (by rw [hsz]; exact hi)
    refine sit_text_item hb st.1 st.2 hx (fun h' hs' hit' => ?_) hne
    exact hQ _ h' s.toks (by rw [List.getElem?_map, Array.getElem?_toList, hx]; rfl) ⟨hit', st.2.at fun o e => hs'.extBut a o (fun q => hne q) e⟩ fun b o hb e => hs'.extBut b o (fun h => hb (by simp [h])) e
  done := fun s Q E st hQ => by
    have hsz : (pickOrder (w.params.setOrder a ep) es).size = es.size := by
      have := (pick_perm (w.params.setOrder a ep) es).length_eq
      simpa using this
    refine sit_text_end hh hb st.1 st.2 (by rw [Array.getElem?_eq_none_iff, hsz]; exact Nat.le_refl _) fun h' he' => hQ h' s.toks fun b o hb e => he' b o (fun h => hb (by simp [h])) e
  self := fun _ _ _ _ st hQ => sit_self st.1 hQ
theorem walks_drawn (hh : A.handled = none) {I a T : Addr} (hne : a ≠ I) (hnT : T ≠ I) {es : Array (Int × Value)} {ep : Nat} {t : SetTable} {ps : List Nat} {ord : List (Int × Value)} (hl : ps.length = es.size) (hord : ∀ (i p : Nat), ps[i]? = some p → ∃ e, es[p]? = some e ∧ ord[i]? = some e) :
    Walks prog w A I [I, a, T] [I] es.size (fun i v => (ord.map (·.2))[i]? = some v) (fun i h => SIt h I a (.ref T) es.size ep i ∧ SAt h a es ep t ∧ TAt h T ps) where
  sub := fun b hb => by simp at hb; simp [hb]
  frame := fun _ _ _ st hk => ⟨st.1.at fun o e => hk I (by simp) o e, st.2.1.at fun o e => hk a (by simp) o e, st.2.2.at fun o e => hk T (by simp) o e⟩
  item := fun i s Q E hi st hQ => by
    have hp : ps[i]? = some (ps[i]'(by rw [hl]; exact hi)) := List.getElem?_eq_getElem (by rw [hl]; exact hi)
    obtain ⟨e, he, ho⟩ := hord i _ hp
    refine sit_drawn_item st.1 st.2.1 st.2.2 hp he (fun h' hs' hit' => ?_)
    exact hQ _ h' s.toks (by rw [List.getElem?_map, ho]; rfl) ⟨hit', st.2.1.at fun o e => hs'.extBut a o hne e, st.2.2.at fun o e => hs'.extBut T o hnT e⟩ fun b o hb e => hs'.extBut b o (fun h => hb (by simp [h])) e
  done := fun s Q E st hQ => by
    refine sit_drawn_end hh st.1 st.2.1 st.2.2 (by rw [List.getElem?_eq_none_iff, hl]; exact Nat.le_refl _) fun h' he' => hQ h' s.toks fun b o hb e => he' b o (fun h => hb (by simp [h])) e
  self := fun _ _ _ _ st hQ => sit_self st.1 hQ
theorem ord_of_places {es : Array (Int × Value)} {ps : List Nat} (hp : ps.Perm (List.range es.size)) : ∃ ord : List (Int × Value), ord.Perm es.toList ∧ ∀ (i p : Nat), ps[i]? = some p → ∃ e, es[p]? = some e ∧ ord[i]? = some e := by
  refine ⟨ps.map fun p => es.toList.getD p default, ?_, fun i p hi => ?_⟩
  · refine (hp.map _).trans ?_
    have : (List.range es.size).map (fun p => es.toList.getD p default) = es.toList := by
      apply List.ext_getElem?
      intro i
      rw [List.getElem?_map]
      by_cases h : i < es.size
      · rw [List.getElem?_range h]; simp [h]
      · rw [List.getElem?_eq_none (by simp; omega), List.getElem?_eq_none (by simp; omega)]; rfl
    rw [this]
  · have hm : p ∈ List.range es.size := hp.mem_iff.mp (List.mem_of_getElem? hi)
    rw [List.mem_range] at hm
    refine ⟨es[p], Array.getElem?_eq_getElem hm, ?_⟩
    rw [List.getElem?_map, hi]; simp [hm]
theorem pset_pyIter {a : Addr} {σ : List Str} {Q : Value → Shared → Prop} (hP : PSet prog w s.heap a σ) (hσ : σ.Nodup) (h2 : 2 ≤ σ.length)
    (h : ∀ (I : Addr) (fp : List Addr) (h' : Heap) (dr : Drawn) (vs : List Value) (zs : List Str) (St : Nat → Heap → Prop), (∀ b o, s.heap.get? b = some o → h'.get? b = some o) → (∀ b ∈ fp, b < h'.objs.size) → (∀ b ∈ fp, b = a ∨ s.heap.objs.size ≤ b) → s.heap.objs.size ≤ I → StrsAre vs zs → zs.Perm σ →
      (∀ A' : Around, A'.handled = none → Walks prog w A' I fp [I] vs.length (fun i v => vs[i]? = some v) St) → St 0 h' → Q (.ref I) { s with heap := h', drawn := dr }) :
    wpAny (model prog w) A (pyIter (.ref a)) Q E s := by
  obtain ⟨o, es, ep, t, ho, hex, hd, hel, hmem, hb, hf, hn, hpl⟩ := id hP
  have hpl : t.plain = false := hpl.resolve_left (fun e => by rw [e] at h2; exact absurd h2 (by decide))
  have hsat : SAt s.heap a es ep t := ⟨o, ho, hex.1, hd, hf⟩
  have hlt := Heap.lt_size ho
  refine wpAny_pyIter_slot hP.typeIs SI.slot_iter (wpAny_call_entry SI.slot_iter hP.typeIs SI.entry_iter ?_ (SI.args_iter _))
  unfold Builtin.«frozenset.__iter__»
  refine wpAny_bind (wpAny_pure (a := a) ?_)
  refine wpAny_bind ?_
  show wpAny _ _ (setEntries a >>= fun es => pure es.size) _ _ s
  unfold setEntries
  refine wpAny_bind (wpAny_bind (sat_state hsat (wpAny_pure (wpAny_pure ?_))))
  dsimp only
  refine wpAny_bind ?_
  unfold setDrawn
  refine wpAny_bind (sat_state hsat ?_)
  dsimp only
  cases hbt : w.params.followText "set-order" with
  | true =>
    refine wpAny_bind (sat_byText hbt (wpAny_pure ?_))
    try dsimp only [Bool.not_true, Bool.false_and]
    refine wpAny_bind ?_
    (first | rw [if_neg (by decide)] | skip)
    refine wpAny_pure ?_
    unfold setEpoch
    refine wpAny_bind (wpAny_bind (sat_state hsat (wpAny_pure ?_)))
    refine wpAny_bind (wpAny_newObj_type (wpAny_pure ⟨_, rfl, "set_iterator", _, ⟨_, Heap.get?_push_size _ rfl, rfl⟩, SI.slot_next.lookup, ?_⟩))
    obtain ⟨zs, hz, hp⟩ := ord_strs (ord := (pickOrder (w.params.setOrder a ep) es).toList) hel hmem hσ (by rw [Array.length_toList]; exact hn) (pick_perm _ _)
    have hlen : ((pickOrder (w.params.setOrder a ep) es).toList.map (·.2)).length = es.size := by
      rw [List.length_map, (pick_perm (w.params.setOrder a ep) es).length_eq, Array.length_toList]
    refine h s.heap.objs.size [s.heap.objs.size, a] _ s.drawn ((pickOrder (w.params.setOrder a ep) es).toList.map (·.2)) zs (fun i h => SIt h s.heap.objs.size a (.int 0 0) es.size ep i ∧ SAt h a es ep t) (fun b o e => Heap.get?_push_of_some _ e) ?_ ?_ (Nat.le_refl _) hz hp (fun A' hh => ?_) ?_
    · intro b hb
      rw [Heap.size_push]
      rcases List.mem_cons.mp hb with rfl | hb
      · exact Nat.lt_succ_self _
      · rw [List.mem_singleton.mp hb]; exact Nat.lt_succ_of_lt hlt
    · intro b hb
      rcases List.mem_cons.mp hb with rfl | hb
      · exact .inr (Nat.le_refl _)
      · exact .inl (List.mem_singleton.mp hb)
    · rw [hlen]; exact walks_text hh (Nat.ne_of_lt hlt) hbt
    · exact ⟨⟨_, Heap.get?_push_size _ rfl, rfl, rfl⟩, hsat.at fun o e => Heap.get?_push_of_some _ e⟩
  | false =>
    refine wpAny_bind (sat_byText hbt (wpAny_pure ?_))
    try dsimp only [Bool.not_false, Bool.true_and]
    have hdr : (!t.plain && decide (es.size > 1)) = true := by rw [hpl]; simp; omega
    refine wpAny_ite_split (fun _ => ?_) (fun hab => absurd hdr hab)
    refine wpAny_bind (wpAny_draw _ (List.range es.size) _ _ (by simp) fun ps dr hps => ?_)
    obtain ⟨ord, hord, hat⟩ := ord_of_places hps
    have hpl' : ps.length = es.size := by rw [hps.length_eq]; simp
    refine wpAny_bind (wpAny_newTuple ?_ (by rw [List.length_map, hpl', hn, ← hn]; rw [sizeLine_eq]; have : scanBound = 4096 := rfl; omega))
    have hsat1 : SAt (s.heap.push { cls := .type "tuple", data := .seq (ps.map fun (i : Nat) => rawInt i).toArray }) a es ep t := hsat.at fun o e => Heap.get?_push_of_some _ e
    unfold setEpoch
    refine wpAny_bind (wpAny_bind (sat_state hsat1 (wpAny_pure ?_)))
    refine wpAny_bind (wpAny_newObj_type (wpAny_pure ⟨_, rfl, "set_iterator", _, ⟨_, Heap.get?_push_size _ rfl, rfl⟩, SI.slot_next.lookup, ?_⟩))
    obtain ⟨zs, hz, hp⟩ := ord_strs (ord := ord) hel hmem hσ (by rw [Array.length_toList]; exact hn) hord
    have hlen : (ord.map (·.2)).length = es.size := by rw [List.length_map, hord.length_eq, Array.length_toList]
    have hsz : (s.heap.push { cls := .type "tuple", data := .seq (ps.map fun (i : Nat) => rawInt i).toArray }).objs.size = s.heap.objs.size + 1 := Heap.size_push ..
    refine h _ [s.heap.objs.size + 1, a, s.heap.objs.size] _ dr (ord.map (·.2)) zs (fun i h => SIt h (s.heap.objs.size + 1) a (.ref s.heap.objs.size) es.size ep i ∧ SAt h a es ep t ∧ TAt h s.heap.objs.size ps) (fun b o e => Heap.get?_push_of_some _ (Heap.get?_push_of_some _ e)) ?_ ?_ (by rw [hsz]; exact Nat.le_succ _) hz hp (fun A' hh => ?_) ?_
    · intro b hb
      rw [Heap.size_push, hsz]
      simp only [List.mem_cons, List.not_mem_nil, or_false] at hb
      rcases hb with rfl | rfl | rfl
      · exact Nat.lt_succ_self _
      · exact Nat.lt_succ_of_lt (Nat.lt_succ_of_lt hlt)
      · exact Nat.lt_succ_of_lt (Nat.lt_succ_self _)
    · intro b hb
      simp only [List.mem_cons, List.not_mem_nil, or_false] at hb
      rcases hb with rfl | rfl | rfl
      · exact .inr (Nat.le_succ _)
      · exact .inl rfl
      · exact .inr (Nat.le_refl _)
    · rw [hlen]; dsimp only; rw [hsz]; exact walks_drawn hh (Nat.ne_of_lt (Nat.lt_succ_of_lt hlt)) (Nat.ne_of_lt (Nat.lt_succ_self _)) hpl' hat
    · refine ⟨⟨_, hsz ▸ Heap.get?_push_size _ rfl, rfl, ?_⟩, hsat1.at fun o e => Heap.get?_push_of_some _ e, ⟨_, 0, Heap.get?_push_of_some _ (Heap.get?_push_size _ rfl), rfl, rfl⟩⟩
      simp [rawInt]
end
end Mine
end

section
open PySem PySem.W PyProof.Rows PySem.Calls PySem.Spec
set_option maxRecDepth 100000
set_option maxHeartbeats 2000000
namespace Mine
section
variable {prog : Program} {w : World} {A : Around} {E : Value → Shared → Prop} {s : Shared} {h₀ : Heap} {L : Addr} {m : Str → Option Value} {news : List (Addr × Obj)}
theorem SI.len : typeLookup (.type "set") "__len__" = pure (some (.builtin "set.__len__")) := by rw [typeLookup_type, builtinLookup_eq_fast]; kernel_rfl
theorem set_hint {r : Addr} {Q : Bool → Shared → Prop} (hT : s.TypeIs (.ref r) "set") (h : Q false s) : wpAny (model prog w) A (Builtin.List.listLengthHint (.ref r)) Q E s := by
  unfold Builtin.List.listLengthHint
  refine wpAny_bind (wpAny_specialOf hT SI.len ?_)
  generalize hid : ("set.__len__" : String) = id0
  wp_delta
  rw [show splitId id0 = some ("set", "__len__") from by subst hid; decide +kernel]
  subst hid
  refine wpAny_bind (wpAny_isInstance (T := "set") (b := true) hT (by rw [isSubtype_type]; kernel_rfl) ?_)
  refine wpAny_ite_split (fun hab => absurd hab (by decide)) (fun _ => ?_)
  refine wpAny_ite_split (fun _ => ?_) (fun hab => absurd (by decide +kernel) hab)
  refine wpAny_bind (wpAny_typeOf hT ?_)
  exact wpAny_pure h
theorem set_extend {a : Addr} {σ : List Str} {R : Result → Shared → Prop} (hh : A.handled = none) (hP : PSet prog w s.heap a σ) (hσ : σ.Nodup) (h2 : 2 ≤ σ.length) (hn : σ.length ≤ sizeLine) (S : Addr) (hSa : S ≠ a) (res : Value) (c₀ : Nat) (hS : s.heap.get? S = some { cls := .type "list", data := .seq #[] c₀ })
    (hR : ∀ h' tk dr (acc' : Array Value) c' zs, (∀ b o, b ≠ S → s.heap.get? b = some o → h'.get? b = some o) → h'.get? S = some { cls := .type "list", dict := none, data := .seq acc' c', slots := #[] } → StrsAre acc'.toList zs → zs.Perm σ → R (.ok (.ret res)) { s with heap := h', toks := tk, drawn := dr }) :
    wpAny (model prog w) A.in1 (Builtin.List.listExtendWith (.ref S) (.ref a) res)
      (fun fin s' => match fin with | .done f => R (.ok f) s' | .again c' => c'.quiet = true ∧ codeAny (model prog w) A c' R s') (fun e s' => R (.error e) s') s := by
  unfold Builtin.List.listExtendWith
  refine wpAny_bind (wpAny_typeOf (T := "set") hP.typeIs ?_)
  have h1 : Builtin.List.listSameRef (.ref S) (.ref a) = false := by simp [Builtin.List.listSameRef, hSa]
  simp only [h1, show (Value.type "set" == Value.type "list") = false from by decide, show (Value.type "set" == Value.type "tuple") = false from by decide, Bool.or_false, Bool.false_eq_true, if_false]
  refine wpAny_bind (pset_pyIter hP hσ h2 fun I fp h₁ dr vs zs St hk₁ hfl hfa hIs hz hp W st => ?_)
  have hSlt := Heap.lt_size hS
  have hSI : S ≠ I := Nat.ne_of_lt (Nat.lt_of_lt_of_le hSlt hIs)
  have hSf : S ∉ fp := fun hm => by
    rcases hfa S hm with e | e
    · exact hSa e
    · exact absurd hSlt (Nat.not_lt.mpr e)
  have hlen : vs.length = σ.length := by rw [hz.length, hp.length_eq]
  have key : ∀ (h : Heap) (c₁ tk : Nat), St 0 h → (∀ b o, b ≠ S → s.heap.get? b = some o → h.get? b = some o) →
      h.get? S = some { cls := .type "list", data := .seq #[] c₁ } → codeAny (model prog w) A (.builtin "list.extend.loop" ⟨[.ref S, .ref I, res], []⟩) R { s with heap := h, toks := tk, drawn := dr } := by
    intro h c₁ tk hst hk hS₁
    refine codeAny_extend_loopS (W A.in1 hh).toS (by rw [hlen]; exact hn) S hSf res vs.length 0 _ #[] c₁ rfl (Nat.zero_le _) hst hS₁ (ItemsOf.nil _) fun s' acc' c' hm hS' hacc => ?_
    rw [Moved.eq_with hm]
    have hz' : StrsAre acc'.toList zs := by
      have : acc'.toList = vs := by
        apply List.ext_getElem?
        intro i
        by_cases hi : i < vs.length
        · have hi' : acc'[i]? = some (acc'[i]'(by rw [hacc.1]; exact hi)) := Array.getElem?_eq_getElem (by rw [hacc.1]; exact hi)
          rw [hacc.2 i _ hi', Array.getElem?_toList]; exact hi'
        · rw [List.getElem?_eq_none (by rw [Array.length_toList, hacc.1]; omega), List.getElem?_eq_none (by omega)]
      rw [this]; exact hz
    refine hR s'.heap s'.toks _ acc' c' zs (fun b o hb e => hm.heap b o (fun hmem => ?_) (hk b o hb e)) hS' hz' hp
    rcases List.mem_cons.mp hmem with e' | hmem
    · exact hb e'
    · exact absurd (Heap.lt_size e) (by rw [List.mem_singleton.mp hmem]; exact Nat.not_lt.mpr hIs)
  have hS₁ := hk₁ _ _ hS
  refine wpAny_bind (wpAny_holding (set_hint (hP.at fun o e => hk₁ _ _ e).typeIs ?_))
  refine wpAny_ite_split (fun _ => ?_) (fun _ => wpAny_pure ⟨plainId_quiet PySem.F.plain_extend_loop _, key _ c₀ _ st (fun b o _ e => hk₁ _ _ e) hS₁⟩)
  refine wpAny_bind (wpAny_rule ?_)
  refine wpAny_bind ?_
  show wpAny _ _ (updateSeq S (·.push .none) >>= fun _ => updateSeq S (·.pop)) _ _ _
  refine wpAny_bind (wpAny_updateSeq hS₁ rfl ?_)
  have hS₂ := Heap.get?_update_self (Obj.mapSeq (·.push Value.none)) hS₁ rfl
  refine wpAny_updateSeq (hz := by seq_fits) hS₂ rfl ?_
  have hS₃ := Heap.get?_update_self (Obj.mapSeq (·.pop)) hS₂ rfl
  refine wpAny_pure ⟨plainId_quiet PySem.F.plain_extend_loop _, key _ _ _ ?_ (fun b o hb e => ?_) hS₃⟩
  · refine (W A.in1 hh).frame 0 _ _ st fun b hb o e => ?_
    have hbS : b ≠ S := fun h => hSf (h ▸ hb)
    exact (Heap.get?_update_other _ _ (Ne.symm hbS)).trans ((Heap.get?_update_other _ _ (Ne.symm hbS)).trans e)
  · exact (Heap.get?_update_other _ _ (Ne.symm hb)).trans ((Heap.get?_update_other _ _ (Ne.symm hb)).trans (hk₁ _ _ e))
theorem set_collect {a : Addr} {σ : List Str} {R : List Value → Shared → Prop} (hh : A.handled = none) (hP : PSet prog w s.heap a σ) (hσ : σ.Nodup) (h2 : 2 ≤ σ.length) (hn : σ.length ≤ sizeLine)
    (h : ∀ (h' : Heap) (tk : Nat) (dr : Drawn) (vs : List Value) (zs : List Str), (∀ b o, s.heap.get? b = some o → h'.get? b = some o) → StrsAre vs zs → zs.Perm σ → R vs { s with heap := h', toks := tk, drawn := dr }) :
    wpAny (model prog w) A (collect (.ref a)) R E s := by
  have hlt : a < s.heap.objs.size := let ⟨_, _, _, _, ho, _⟩ := hP; Heap.lt_size ho
  unfold collect
  refine wpAny_bind (wpAny_runValue (codeAny_builtin entry_proto_collect' ?_))
  rw [Around.under_plainId PySem.F.plain_proto_collect _]
  show wpAny _ A.in1 (newList [] >>= fun l => again (.builtin "list.__iadd__" ⟨[l, .ref a], []⟩)) _ _ s
  refine wpAny_bind (wpAny_newObj_type ?_)
  refine wpAny_pure ⟨plainId_quiet PySem.F.plain_list_iadd _, codeAny_builtin entry_list_iadd' ?_⟩
  rw [Around.under_plainId PySem.F.plain_list_iadd _]
  have hS₁ : (s.heap.push { cls := .type "list", data := .seq ([] : List Value).toArray }).get? s.heap.objs.size = some { cls := .type "list", data := .seq #[] } := Heap.get?_push_size _ rfl
  show wpAny _ A.in1 (Builtin.List.listExtendWith (.ref s.heap.objs.size) (.ref a) (.ref s.heap.objs.size)) _ _ _
  have key := set_extend (A := A) (s := { s with heap := s.heap.push { cls := .type "list", data := .seq ([] : List Value).toArray } })
    (R := fun (q : Result) (s' : Shared) => ∃ (h' : Heap) (tk : Nat) (dr : Drawn) (acc' : Array Value) (c' : Nat) (zs : List Str), q = .ok (.ret (.ref s.heap.objs.size)) ∧ s' = { s with heap := h', toks := tk, drawn := dr } ∧
      (∀ b o, s.heap.get? b = some o → h'.get? b = some o) ∧ h'.get? s.heap.objs.size = some { cls := .type "list", dict := none, data := .seq acc' c', slots := #[] } ∧ StrsAre acc'.toList zs ∧ zs.Perm σ)
    hh (hP.at fun o e => Heap.get?_push_of_some _ e) hσ h2 hn s.heap.objs.size (Nat.ne_of_gt hlt) (.ref s.heap.objs.size) 0 hS₁
    (fun h' tk dr acc' c' zs hk hS' hz hp => ⟨h', tk, dr, acc', c', zs, rfl, rfl, fun b o e => hk b o (Nat.ne_of_lt (Heap.lt_size e)) (Heap.get?_push_of_some _ e), hS', hz, hp⟩)
  refine wpAny_mono key (fun fin s' x => ?_) fun e s' x => ?_
  · cases fin with
    | done f =>
      obtain ⟨h', tk, dr, acc', c', zs, e, rfl, hk, hS', hz, hp⟩ := x
      cases e
      show wpAny _ A (load s.heap.objs.size >>= _) _ _ _
      refine wpAny_bind (wpAny_load hS' ?_)
      exact wpAny_pure (h h' tk dr _ zs hk hz hp)
    | again c₁ =>
      refine ⟨x.1, codeAny_mono x.2 fun q s₂ y => ?_⟩
      obtain ⟨h', tk, dr, acc', c', zs, rfl, rfl, hk, hS', hz, hp⟩ := y
      show wpAny _ A (load s.heap.objs.size >>= _) _ _ _
      refine wpAny_bind (wpAny_load hS' ?_)
      exact wpAny_pure (h h' tk dr _ zs hk hz hp)
  · obtain ⟨_, _, _, _, _, _, e', _⟩ := x
    cases e'
/-- the texts of a list put in order -/
theorem led_sort {D : Addr} {vs : List Value} {ss : List Str} {Q : Value → Shared → Prop} (F : Fr h₀ L s.heap m) (N : News h₀ L s.heap ((D, listOf vs.toArray 0) :: news)) (hoff : ∀ q ∈ news, q.1 < D) (hS : StrsAre vs ss) (h64 : vs.length < 64)
    (h : ∀ h' vs' ss' c, Fr h₀ L h' m → News h₀ L h' ((D, listOf (List.toArray vs') c) :: news) → StrsAre vs' ss' → ss'.Perm ss → sortedS ss' = true → Q .none { s with heap := h' }) :
    wpAny (model prog w) A (call (.builtin "list.sort") [.ref D]) Q E s := by
  have z := N _ (.head _)
  have ho : s.heap.get? D = some (seqObj "list" vs.toArray 0) := z.1
  refine wpAny_call_entry PyProof.Rows.slot_list_sort ⟨_, z.1, rfl⟩ PyProof.Rows.entry_list_sort (list_sort_treeK (n := 0) (vs := vs) strKind_oneLt ho hS.keysOf (fun v₁ v₂ rest e => keyKind_strs (e ▸ hS)) h64 fun st' hp hs => ⟨.none, rfl, ?_⟩) (PyProof.Rows.args_list_sort _)
  obtain ⟨ss', hS', hperm, hsort⟩ := sorted_out_str hS hp hs
  generalize ((arrOf st').map (·.2)) = out at hS' ⊢
  obtain ⟨c, hc⟩ := sortedHeap_at (vs := vs) (out := out) ho
  have F4 : Fr h₀ L (sortedHeap s.heap D vs out) m :=
    ksk_fr (((ksk_fr F (Heap.SameBut.update s.heap D (Obj.mapSeq fun _ => #[])) z.2.1 z.2.2).push (seqObj "tuple" vs.toArray 0)).push (seqObj "list" #[] 0)) (Heap.SameBut.update _ D (Obj.mapSeq fun _ => out)) z.2.1 z.2.2
  refine h _ out.toList ss' c F4 (fun p hq => ?_) hS' hperm hsort
  rcases List.mem_cons.mp hq with rfl | hq
  · exact ⟨by rw [Array.toArray_toList]; exact hc, z.2⟩
  · have y := N p (.tail _ hq)
    exact ⟨(sortedHeap_old (Nat.ne_of_lt (hoff p hq)) (Heap.lt_size y.1)).trans y.1, y.2⟩
theorem sorted_set {a : Addr} {σ : List Str} {Q : Value → Shared → Prop} (hh : A.handled = none) (F : Fr h₀ L s.heap m) (N : News h₀ L s.heap news) (hP : PSet prog w s.heap a σ) (hσ : σ.Nodup) (h2 : 2 ≤ σ.length) (h64 : σ.length < 64)
    (h : ∀ (D : Addr) h' tk dr vs' ss' c, Fr h₀ L h' m → News h₀ L h' ((D, listOf (List.toArray vs') c) :: news) → (∀ q ∈ news, q.1 < D) → StrsAre vs' ss' → ss'.Perm σ → sortedS ss' = true → Q (.ref D) { s with heap := h', toks := tk, drawn := dr }) :
    wpAny (model prog w) A (call (.builtin "sorted") [.ref a]) Q E s := by
  have hn : σ.length ≤ sizeLine := by rw [sizeLine_eq]; omega
  refine call_function_entry kind_sorted plain_sorted entry_sorted (args_sorted1 _) ?_
  unfold Builtin.«sorted»
  refine wpAny_bind (m := checkCount "sorted" 1 1 _) (wpAny_pure ?_)
  refine wpAny_bind (set_collect (A := A.in1) hh hP hσ h2 hn fun h' tk dr vs zs hk hz hp => ?_)
  have hl : vs.length = σ.length := by rw [hz.length, hp.length_eq]
  refine wpAny_bind (wpAny_newList ?_ (by rw [hl]; exact hn))
  have F1 := F.keeps hk
  have N1 : News h₀ L h' news := fun p hp => ⟨hk _ _ (N p hp).1, (N p hp).2⟩
  have hoff : ∀ q ∈ news, q.1 < h'.objs.size := fun q hq => Heap.lt_size (hk _ _ (N q hq).1)
  refine wpAny_bind (wpAny_holding ?_)
  refine led_sort (news := news) (F1.push _) (News.push F1 N1 _ rfl) hoff hz (by rw [hl]; exact h64) fun h'' vs' ss' c F2 N2 hS' hp' hs' => ?_
  exact wpAny_pure ⟨_, rfl, h _ h'' tk dr vs' ss' c F2 N2 hoff hS' (hp'.trans hp) hs'⟩
theorem sorted_dict {d : Addr} {o : Obj} {kvs : List (Str × Value)} {Q : Value → Shared → Prop} (hh : A.handled = none) (F : Fr h₀ L s.heap m) (N : News h₀ L s.heap news) (hm : (d, o) ∈ news) (hd : o.IsDictOf (PySem.strKind prog w) kvs) (lo : (d == sysModules) = false) (h64 : kvs.length < 64)
    (h : ∀ (D : Addr) h' tk vs' ss' c, Fr h₀ L h' m → News h₀ L h' ((D, listOf (List.toArray vs') c) :: news) → (∀ q ∈ news, q.1 < D) → StrsAre vs' ss' → ss'.Perm (kvs.map (·.1)) → sortedS ss' = true → Q (.ref D) { s with heap := h', toks := tk }) :
    wpAny (model prog w) A (call (.builtin "sorted") [.ref d]) Q E s := by
  obtain ⟨ep, hat⟩ := (kda_dict N hm hd).dictAt
  refine kdu_sorted (kdl_dict (knd := PySem.strKind prog w) (kvs := kvs) (ep := ep) lo) hh F N hat (by rw [sizeLine_eq]; omega) fun D h' tk vs F' N' l1 hl hv => ?_
  have hz : StrsAre vs (kvs.map (·.1)) := strsAre_get (by rw [hl, List.length_map]) fun i y e => by
    obtain ⟨k, x, hx, hk⟩ := hv i y e
    obtain ⟨t, rfl⟩ := Value.isStrOf_shape hk
    exact ⟨k, t, by rw [List.getElem?_map, hx]; rfl, rfl⟩
  exact led_sort F' N' l1 hz (by rw [hl]; exact h64) fun h'' vs' ss' c F2 N2 hS' hp' hs' => h D h'' tk vs' ss' c F2 N2 l1 hS' hp' hs'
theorem list_dict {d : Addr} {o : Obj} {kvs : List (Str × Value)} {Q : Value → Shared → Prop} (hh : A.handled = none) (F : Fr h₀ L s.heap m) (N : News h₀ L s.heap news) (hm : (d, o) ∈ news) (hd : o.IsDictOf (PySem.strKind prog w) kvs) (lo : (d == sysModules) = false) (h64 : kvs.length < 64)
    (h : ∀ (D : Addr) h' tk vs c, Fr h₀ L h' m → News h₀ L h' ((D, listOf (List.toArray vs) c) :: news) → (∀ q ∈ news, q.1 < D) → StrsAre vs (kvs.map (·.1)) → Q (.ref D) { s with heap := h', toks := tk }) :
    wpAny (model prog w) A (call (.type "list") [.ref d]) Q E s := by
  obtain ⟨ep, hat⟩ := (kda_dict N hm hd).dictAt
  refine kdl_N (kdl_dict (knd := PySem.strKind prog w) (kvs := kvs) (ep := ep) lo) hh F N hat (by rw [sizeLine_eq]; omega) fun D c h' tk vs F' N' l1 hl hv => ?_
  refine h D h' tk vs c F' N' l1 (strsAre_get (by rw [hl, List.length_map]) fun i y e => ?_)
  obtain ⟨k, x, hx, hk⟩ := hv i y e
  obtain ⟨t, rfl⟩ := Value.isStrOf_shape hk
  exact ⟨k, t, by rw [List.getElem?_map, hx]; rfl, rfl⟩
end
end Mine
end

section
open PySem PySem.W PyProof.Rows PyProof.V PySem.Calls PySem.Spec
set_option maxRecDepth 100000
set_option maxHeartbeats 2000000
namespace Mine
def leS (a b : Str) : Prop := ltCps b.cps.toList a.cps.toList = false
theorem leS_trans {a b c : Str} (h : leS a b) (k : leS b c) : leS a c := by
  unfold leS at *
  rw [ltCps_eq, decide_eq_false_iff_not] at *
  exact List.le_trans h k
theorem leS_antisymm {a b : Str} (h : leS a b) (k : leS b a) : a = b := by
  unfold leS at *
  rw [ltCps_eq, decide_eq_false_iff_not] at *
  have e : a.cps.toList = b.cps.toList := List.le_antisymm h k
  cases a; cases b
  simp only at e
  rw [Array.toList_inj] at e
  rw [e]
theorem rising_pairwise : ∀ (p : Str) (l : List Str), risingS p l = true → (p :: l).Pairwise leS
  | p, [], _ => List.pairwise_singleton _ _
  | p, x :: r, h => by
    unfold risingS at h
    rw [Bool.and_eq_true] at h
    have ih := rising_pairwise x r h.2
    have hpx : leS p x := by unfold leS; simpa using h.1
    refine List.pairwise_cons.mpr ⟨fun y hy => ?_, ih⟩
    rcases List.mem_cons.mp hy with rfl | hy
    · exact hpx
    · exact leS_trans hpx ((List.pairwise_cons.mp ih).1 y hy)
theorem sorted_pairwise : ∀ {l : List Str}, sortedS l = true → l.Pairwise leS
  | [], _ => List.Pairwise.nil
  | x :: r, h => rising_pairwise x r h
theorem leS_refl (a : Str) : leS a a := by
  unfold leS
  rw [ltCps_eq, decide_eq_false_iff_not]
  exact List.lt_irrefl _
theorem sorted_unique : ∀ {l k : List Str}, l.Pairwise leS → k.Pairwise leS → l.Perm k → l = k
  | [], k, _, _, h => (List.nil_perm.mp h).symm
  | x :: r, [], _, _, h => absurd h.length_eq (by simp)
  | x :: r, y :: t, hl, hk, h => by
    have hxy : leS x y := by
      rcases List.mem_cons.mp (h.mem_iff.mpr (List.mem_cons_self ..) : y ∈ x :: r) with e | hm
      · rw [e]; exact leS_refl _
      · exact (List.pairwise_cons.mp hl).1 y hm
    have hyx : leS y x := by
      rcases List.mem_cons.mp (h.mem_iff.mp (List.mem_cons_self ..) : x ∈ y :: t) with e | hm
      · rw [e]; exact leS_refl _
      · exact (List.pairwise_cons.mp hk).1 x hm
    have e := leS_antisymm hxy hyx
    subst e
    rw [sorted_unique (List.pairwise_cons.mp hl).2 (List.pairwise_cons.mp hk).2 (List.Perm.cons_inv h)]
theorem sorted_eq {l k σ τ : List Str} (hl : sortedS l = true) (hk : sortedS k = true) (h₁ : l.Perm σ) (h₂ : k.Perm τ) (hn : σ.Nodup) (hm : τ.Nodup) (h : ∀ x, x ∈ σ ↔ x ∈ τ) : l = k :=
  sorted_unique (sorted_pairwise hl) (sorted_pairwise hk) (h₁.trans (((List.perm_ext_iff_of_nodup hn hm).mpr h).trans h₂.symm))
theorem se_depthAll : ∀ ns : List Str, PyData.depthAll (ns.map PyData.str) = 0
  | [] => rfl
  | _ :: r => by simp [PyData.depthAll, PyData.depth, se_depthAll r]
theorem se_shaped {ns : List Str} (h : ∀ x ∈ ns, PyData.strOk x = true) : SeqAt.shaped (.list (ns.map PyData.str)) = true := by
  simp [SeqAt.shaped, PyData.canLay0, PyData.depth, se_depthAll]
  rw [canLayAll_strs']; exact List.all_eq_true.mpr h
theorem se_sameAll : ∀ ns ms : List Str, PySem.Spec.sameAll (ns.map PyData.str) (ms.map PyData.str) = decide (ns = ms)
  | [], [] => by simp [PySem.Spec.sameAll]
  | [], _ :: _ => by simp [PySem.Spec.sameAll]
  | _ :: _, [] => by simp [PySem.Spec.sameAll]
  | a :: r, b :: t => by
    simp only [List.map_cons, PySem.Spec.sameAll, PySem.Spec.same, se_sameAll r t]
    by_cases h : a = b <;> by_cases h' : r = t <;> simp [h, h']
theorem se_same (ns ms : List Str) : PySem.Spec.same (.list (ns.map PyData.str)) (.list (ms.map PyData.str)) = decide (ns = ms) := by
  simp only [PySem.Spec.same]; exact se_sameAll ns ms
theorem se_carried : ∀ {vs : List Value} {ns : List Str}, StrsAre vs ns → CarriedAll vs (ns.map PyData.str)
  | _, _, .nil => .nil
  | _, _, .cons _ t r => .cons (.str _ t) (se_carried r)
section
variable {prog : Program} {w : World} {A : Around} {E : Value → Shared → Prop} {s : Shared} {a b : Addr} {xs ys : List Value} {ns ms : List Str} {Q : Value → Shared → Prop}
theorem se_eq (ha : s.heap.IsList a xs.toArray) (hb : s.heap.IsList b ys.toArray) (hi : StrsAre xs ns) (hj : StrsAre ys ms) (ho : ∀ x ∈ ns, PyData.strOk x = true) (hp : ∀ x ∈ ms, PyData.strOk x = true) (hu : A.units + 64 < cLine) (h : Q (.bool (decide (ns = ms))) s) :
    wpAny (model prog w) A (compareOp .Eq (.ref a) (.ref b)) Q E s :=
  eq_dataH_same (reads_newData ha (se_carried hi)) (reads_newData hb (se_carried hj)) (se_shaped ho) (se_shaped hp) hu (SeqAt.noMix_of_shape (.list .str) rfl _ _ (list_map_has fun _ => rfl) (list_map_has fun _ => rfl)) (by rw [se_same]; exact h)
theorem se_ne (ha : s.heap.IsList a xs.toArray) (hb : s.heap.IsList b ys.toArray) (hi : StrsAre xs ns) (hj : StrsAre ys ms) (ho : ∀ x ∈ ns, PyData.strOk x = true) (hp : ∀ x ∈ ms, PyData.strOk x = true) (hu : A.units + 64 < cLine) (h : Q (.bool (!decide (ns = ms))) s) :
    wpAny (model prog w) A (compareOp .NotEq (.ref a) (.ref b)) Q E s :=
  ne_dataH_same (reads_newData ha (se_carried hi)) (reads_newData hb (se_carried hj)) (se_shaped ho) (se_shaped hp) hu (SeqAt.noMix_of_shape (.list .str) rfl _ _ (list_map_has fun _ => rfl) (list_map_has fun _ => rfl)) (by rw [se_same]; exact h)
end
end Mine
end

section
open PySem PySem.W PyProof.Rows PyProof.V PySem.Calls PySem.Spec
set_option maxRecDepth 100000
namespace Mine
section
variable {prog : Program} {w : World} {A : Around} {E : Value → Shared → Prop} {s : Shared} {h₀ : Heap} {L : Addr} {m : Str → Option Value} {env : Env} {ct elt iter : PySem.Expr} {x : Str} {px : Pos} {scope : Scope} {cl : List (Str × Addr)} {pos : Pos} {Q : Value → Shared → Prop}
/-- what a comprehension over a dict asks of what it goes through -/
def DSrc (prog : Program) (w : World) (A : Around) (h₀ : Heap) (L : Addr) (m : Str → Option Value) (env : Env) (ct : PySem.Expr) (x : Str) (scope : Scope) (cl : List (Str × Addr)) (Q : Value → Shared → Prop) (xv : Value) (s₁ : Shared) : Prop :=
  ∃ (d : Addr) (o : Obj) (kvs : List (Str × Value)) (news : List (Addr × Obj)), xv = .ref d ∧ A.handled = none ∧ Fr h₀ L s₁.heap m ∧ News h₀ L s₁.heap news ∧ (d, o) ∈ news ∧ o.IsDictOf (PySem.strKind prog w) kvs ∧ (d == sysModules) = false ∧ kvs.length ≤ sizeLine ∧
      (∀ g (i : Nat) (q : Str) (u : Value) (t : Tok), kvs[i]? = some (q, u) → NoTurn prog w A h₀ L m env ct x scope cl news { s₁ with heap := g } (.str q t)) ∧
      (∀ (D : Addr) (h : Heap) (tk : Nat), Fr h₀ L h m → News h₀ L h ((D, LCg.lst []) :: news) → LCg.Off1 D news → Q (.ref D) { s₁ with heap := h, toks := tk })
def LSrc (prog : Program) (w : World) (A : Around) (h₀ : Heap) (L : Addr) (m : Str → Option Value) (env : Env) (ct : PySem.Expr) (x : Str) (scope : Scope) (cl : List (Str × Addr)) (Q : Value → Shared → Prop) (xv : Value) (s₁ : Shared) : Prop :=
  ∃ (ax : Addr) (vs : List Value) (k : Nat) (news : List (Addr × Obj)), xv = .ref ax ∧ A.handled = none ∧ Fr h₀ L s₁.heap m ∧ News h₀ L s₁.heap news ∧ (ax, listOf vs.toArray k) ∈ news ∧ vs.length ≤ sizeLine ∧
      (∀ g (i : Nat) (v : Value), vs[i]? = some v → NoTurn prog w A h₀ L m env ct x scope cl news { s₁ with heap := g } v) ∧
      (∀ (D : Addr) (h : Heap) (tk : Nat), Fr h₀ L h m → News h₀ L h ((D, LCg.lst []) :: news) → LCg.Off1 D news → Q (.ref D) { s₁ with heap := h, toks := tk })
theorem dict_comp2 (F₀ : Fr h₀ L s.heap m)
    (hclos : closureFor scope env = pure cl) (hcell : ∀ y ∈ scope.names, y.2 ≠ .cell) (hkind : scope.kind = .function)
    (hnames : ∀ y ∈ scope.names, y.2 = .local → scope.names.lookup y.1 = some .local) (hx : scope.names.lookup x = some .local)
    (h : wpAny (model prog w) A (eval iter env) (DSrc prog w A h₀ L m env ct x scope cl Q) E s)
    (hs : ∀ x, foldedSetIterable iter env x = pure x := by intro _; rfl) :
    wpAny (model prog w) A (eval (.ListComp elt [⟨.Name x px, iter, [ct], 0⟩] scope pos) env) Q E s := dict_comp_none F₀ hclos hcell hkind hnames hx h hs
theorem list_comp2 (F₀ : Fr h₀ L s.heap m)
    (hclos : closureFor scope env = pure cl) (hcell : ∀ y ∈ scope.names, y.2 ≠ .cell) (hkind : scope.kind = .function)
    (hnames : ∀ y ∈ scope.names, y.2 = .local → scope.names.lookup y.1 = some .local) (hx : scope.names.lookup x = some .local)
    (h : wpAny (model prog w) A (eval iter env) (LSrc prog w A h₀ L m env ct x scope cl Q) E s)
    (hs : ∀ x, foldedSetIterable iter env x = pure x := by intro _; rfl) :
    wpAny (model prog w) A (eval (.ListComp elt [⟨.Name x px, iter, [ct], 0⟩] scope pos) env) Q E s := list_comp_none F₀ hclos hcell hkind hnames hx h hs
end
end Mine
end

section
open PySem PySem.W PyProof.Rows PyProof.V PySem.Calls PySem.Spec
set_option maxRecDepth 100000
namespace Mine
theorem strsAre_append : ∀ {vs ws : List Value} {ss ts : List Str}, StrsAre vs ss → StrsAre ws ts → StrsAre (vs ++ ws) (ss ++ ts)
  | _, _, _, _, .nil, h => h
  | _, _, _, _, .cons x t r, h => .cons x t (strsAre_append r h)
section
variable {prog : Program} {w : World} {A : Around} {E : Value → Shared → Prop} {s : Shared} {h₀ : Heap} {L : Addr} {m : Str → Option Value} {news : List (Addr × Obj)} {Q : Value → Shared → Prop}
theorem led_add {l b : Addr} {vs ws : List Value} {n n2 : Nat} {ss ts : List Str} (F : Fr h₀ L s.heap m) (N : News h₀ L s.heap news) (hl : (l, PySem.W.listOf vs.toArray n) ∈ news) (hb : (b, PySem.W.listOf ws.toArray n2) ∈ news) (hi : StrsAre vs ss) (hj : StrsAre ws ts) (hz : vs.length + ws.length ≤ 1000)
    (h : ∀ (D : Addr) h' us, Fr h₀ L h' m → News h₀ L h' ((D, PySem.W.listOf (List.toArray us) 0) :: news) → (∀ p ∈ news, p.1 < D) → StrsAre us (ss ++ ts) → Q (.ref D) { s with heap := h' }) :
    wpAny (model prog w) A (binaryOp .Add (.ref l) (.ref b)) Q E s :=
  add_arrays F N (News.isList N hl) (News.isList N hb) (fun h' F' N' => h _ h' (vs ++ ws) F' (by simpa using N') (fun p hp => Heap.lt_size (N p hp).1) (strsAre_append hi hj)) (by rw [List.size_toArray, List.size_toArray, sizeLine_eq]; omega)
theorem led_set {l : Addr} {vs : List Value} {n : Nat} {ss : List Str} (hh : A.handled = none) (F : Fr h₀ L s.heap m) (N : News h₀ L s.heap news) (hl : (l, PySem.W.listOf vs.toArray n) ∈ news) (hi : StrsAre vs ss) (hz : vs.length ≤ 1000)
    (h : ∀ (S : Addr) h' tk, Fr h₀ L h' m → News h₀ L h' news → PSet prog w h' S (foldS ss) → Q (.ref S) { s with heap := h', toks := tk }) :
    wpAny (model prog w) A (call (.type "set") [.ref l]) Q E s := by
  refine call_set_strs hh (News.isList N hl) (by simpa using hi) (by rw [List.size_toArray]; have : scanBound = 4096 := rfl; omega) fun h' tk hP hk => ?_
  have hk' : ∀ b o, s.heap.get? b = some o → h'.get? b = some o := fun b o e => hk b o (Heap.lt_size e) e
  exact h _ h' tk (F.keeps hk') (fun p hp => ⟨hk' _ _ (N p hp).1, (N p hp).2⟩) hP
theorem two_le {ss : List Str} {a b : Str} (ha : a ∈ ss) (hb : b ∈ ss) (h : a ≠ b) : 2 ≤ ss.length := by
  rcases ss with _ | ⟨x, _ | ⟨y, r⟩⟩
  · cases ha
  · exact absurd ((List.mem_singleton.mp ha).trans (List.mem_singleton.mp hb).symm) h
  · simp
end
end Mine
end

section
open PySem PySem.W PyProof.Rows PyProof.V PySem.Calls PySem.Spec
set_option maxRecDepth 100000
namespace Mine
theorem gen_toks {α : Type} {M : Model} {A : Around} {t : Sem α} {Q : α → Shared → Prop} {E : Value → Shared → Prop} {h : Heap} {g : Array GenState} {d : Drawn} {os : OsState} {n : Nat}
    (H : ∀ tk : Nat, 1 ≤ tk → wpAny M A t Q E ⟨h, g, d, tk, os⟩) : wpAny M A t Q E ⟨h, g, d, n + 1, os⟩ := H (n + 1) (Nat.succ_le_succ (Nat.zero_le n))
theorem gen_toks2 {α : Type} {M : Model} {A : Around} {t : Sem α} {Q : α → Shared → Prop} {E : Value → Shared → Prop} {h : Heap} {g : Array GenState} {d : Drawn} {os : OsState} {n : Nat}
    (H : ∀ tk : Nat, 1 ≤ tk → wpAny M A t Q E ⟨h, g, d, tk, os⟩) : wpAny M A t Q E ⟨h, g, d, n + 1 + 1, os⟩ := gen_toks H
theorem tok_pos {t : Nat} (h : 1 ≤ t) : t ≠ 0 := by omega
theorem below_size {h₀ h : Heap} {L : Addr} {news : List (Addr × Obj)} (N : News h₀ L h news) {D : Addr} (hD : D = h.objs.size) : ∀ p ∈ news, p.1 < D := fun p hp => hD ▸ Heap.lt_size (N p hp).1
end Mine
end

section
open PySem PySem.W PyProof.Rows PyProof.V PySem.Calls PySem.Spec
set_option maxRecDepth 100000
namespace Mine
section
variable {prog : Program} {w : World} {A : Around} {E : Value → Shared → Prop} {s : Shared} {h₀ : Heap} {L D b : Addr} {m : Str → Option Value} {news news' : List (Addr × Obj)} {Q : Value → Shared → Prop}
theorem led_iadd {its its2 : Array Value} {n n2 : Nat} {l : List Value} (F : Fr h₀ L s.heap m) (N : News h₀ L s.heap news) (hb : (b, PySem.W.listOf its2 n2) ∈ news) (e : its.toList ++ its2.toList = l) (hne : its2.toList.length ≠ 0)
    (U : Upd D (PySem.W.listOf its n) (PySem.W.listOf l.toArray (n + 1)) news news') (hz : its.size + its2.size ≤ 10000)
    (h : ∀ h', Fr h₀ L h' m → News h₀ L h' news' → Q (.ref D) { s with heap := h' }) : wpAny (model prog w) A (inplaceOp .Add (.ref D) (.ref b)) Q E s := by
  obtain ⟨pre, post, rfl, rfl, a, c⟩ := U.split
  have z := N (D, PySem.W.listOf its n) (List.mem_append.mpr (.inr (.head _)))
  have hl : s.TypeIs (.ref D) "list" := ⟨_, z.1, rfl⟩
  have hbt : s.TypeIs (.ref b) "list" := ⟨_, (N _ hb).1, rfl⟩
  have hs : sizeLine = 16777216 := PySem.sizeLine_eq
  unfold inplaceOp
  refine wpAny_holding ?_
  refine wpAny_bind (wpAny_typeOf hl (wpAny_bind (wpAny_of_eq (a := false) (by kernel_rfl) ?_)))
  dsimp only
  rw [if_neg Bool.false_ne_true]
  refine wpAny_bind (wpAny_binaryOp1_none (nm := "add") hl hbt noFill_list_add ?_)
  dsimp only
  refine wpAny_bind (wpAny_of_eq (a := some (.builtin "list.__iadd__")) (by kernel_rfl) ?_)
  dsimp only
  refine wpAny_bind (wpAny_rule ?_)
  refine call_meets PySem.F.slot_list_iadd hl PySem.F.entry_list_iadd (PySem.F.args_list_iadd_2 _ _) (PySem.AutoSeq1.list___iadd___list_list_0 D its n b its2 n2 (by simp [Builtin.List.listTooLong]; intro _; omega) (by omega) (by omega)) ⟨z.1, (N _ hb).1, h _ (F.change (Heap.SameBut.update ..) z.2.1 z.2.2) (kl_turn _ N a c ?_ ?_)⟩
  · subst e
    apply Array.toList_inj.mp
    simp
  · subst e
    simp at hne ⊢
    exact hne
end
end Mine
end

section
open PySem PySem.W PyProof.Rows PyProof.V PySem.Calls PySem.Spec
set_option maxRecDepth 100000
namespace Mine
/-! plain facts of what is given -/
def namesL : List Str := ["SERVER_NAME", "SERVER_PROTOCOL", "HTTP_HOST", "REQUEST_METHOD", "SCRIPT_NAME", "PATH_INFO", "SERVER_PORT", "wsgi.version", "wsgi.run_once", "wsgi.multithread", "wsgi.multiprocess", "wsgi.input", "wsgi.errors"]
def namesAll : List Str := namesL ++ [Str.ofString "wsgi.url_scheme", Str.ofString "HTTPS"]
def ServerOk (v : Option Value) (l : Addr) (ol : Obj) : Prop :=
  v = none ∨ v = some .none ∨ (∃ t, v = some (.str (Str.ofString "") t)) ∨ (∃ t, v = some (.int 0 t)) ∨ (v = some (.ref l) ∧ ∃ q t x u c, ol = PySem.W.listOf #[Value.str q t, Value.int x u] c ∧ PyData.strOk q = true)
def SchemeOk (v : Option Value) : Prop := v = none ∨ ∃ q t, v = some (.str q t) ∧ (q = Str.ofString "http" ∨ q = Str.ofString "https" ∨ q = Str.ofString "ftp")
theorem mem_stored {kvs : List (Str × Value)} {k q : Str} {v u : Value} (h : (q, u) ∈ stored kvs k v) : (q, u) ∈ kvs ∨ (q = k ∧ u = v) := by
  unfold stored at h
  split at h
  · obtain ⟨p, hp, e⟩ := List.mem_map.mp h
    split at e
    · rename_i hk
      cases e
      exact .inr ⟨hk, rfl⟩
    · subst e; exact .inl hp
  · rcases List.mem_append.mp h with h | h
    · exact .inl h
    · have := List.mem_singleton.mp h
      cases this; exact .inr ⟨rfl, rfl⟩
theorem stored_len {kvs : List (Str × Value)} {k : Str} {v : Value} : (stored kvs k v).length ≤ kvs.length + 1 := by
  unfold stored
  split <;> simp
theorem news_sub {h₀ h : Heap} {L : Addr} {all : List (Addr × Obj)} (N : News h₀ L h all) {x y z : Addr} {ox oy oz : Obj} {rest : List (Addr × Obj)} (hx : (x, ox) ∈ all) (hy : (y, oy) ∈ all) (hz : (z, oz) ∈ all) (hr : ∀ p ∈ rest, p ∈ all) :
    News h₀ L h ((x, ox) :: (y, oy) :: (z, oz) :: rest) := fun p hp => by
  rcases List.mem_cons.mp hp with rfl | hp
  · exact N _ hx
  · rcases List.mem_cons.mp hp with rfl | hp
    · exact N _ hy
    · rcases List.mem_cons.mp hp with rfl | hp
      · exact N _ hz
      · exact N _ (hr _ hp)
/-- what the law's given environ is like -/
structure GivenI (kvs : List (Str × Value)) (names : List Str) (l : Addr) (ol : Obj) : Prop where
  keys : ∀ q u, (q, u) ∈ kvs → q ∈ names
  same : ∀ q u, (q, u) ∈ kvs → SameOk u
  server : ServerOk (valueAt kvs (Str.ofString "SERVER_NAME")) l ol
  scheme : SchemeOk (valueAt kvs (Str.ofString "wsgi.url_scheme"))
  https : valueAt kvs (Str.ofString "HTTPS") = none ∨ ∃ q t, valueAt kvs (Str.ofString "HTTPS") = some (.str q t) ∧ q ∈ (["yes", "on", "1", "YES", "0", ""] : List Str)
theorem GivenI.nil (names : List Str) (l : Addr) (ol : Obj) : GivenI [] names l ol := ⟨fun _ _ h => absurd h List.not_mem_nil, fun _ _ h => absurd h List.not_mem_nil, Or.inl rfl, Or.inl rfl, Or.inl rfl⟩
theorem GivenI.put {kvs : List (Str × Value)} {names : List Str} {l l' : Addr} {ol ol' : Obj} {q : Str} {v : Value} (g : GivenI kvs names l ol) (hq : q ∈ names) (hv : SameOk v) (h1 : q ≠ Str.ofString "wsgi.url_scheme") (h2 : q ≠ Str.ofString "HTTPS")
    (hs : if q = Str.ofString "SERVER_NAME" then ServerOk (some v) l' ol' else l' = l ∧ ol' = ol) : GivenI (stored kvs q v) names l' ol' where
  keys := fun k u h => by
    rcases mem_stored h with h | ⟨rfl, _⟩
    · exact g.keys _ _ h
    · exact hq
  same := fun k u h => by
    rcases mem_stored h with h | ⟨_, rfl⟩
    · exact g.same _ _ h
    · exact hv
  server := by
    rw [valueAt_stored]
    by_cases e : q = Str.ofString "SERVER_NAME"
    · rw [if_pos e.symm]; rw [if_pos e] at hs; exact hs
    · rw [if_neg (Ne.symm e)]; rw [if_neg e] at hs; rw [hs.1, hs.2]; exact g.server
  scheme := by rw [valueAt_stored, if_neg (Ne.symm h1)]; exact g.scheme
  https := by rw [valueAt_stored, if_neg (Ne.symm h2)]; exact g.https
theorem GivenI.putScheme {kvs : List (Str × Value)} {l : Addr} {ol : Obj} {q : Str} {tk : Tok} (g : GivenI kvs namesAll l ol) (hv : tk ≠ 0) (hq : q = Str.ofString "http" ∨ q = Str.ofString "https" ∨ q = Str.ofString "ftp") : GivenI (stored kvs (Str.ofString "wsgi.url_scheme") (.str q tk)) namesAll l ol where
  keys := fun k u h => by
    rcases mem_stored h with h | ⟨rfl, _⟩
    · exact g.keys _ _ h
    · exact List.mem_append_right _ (.head _)
  same := fun k u h => by
    rcases mem_stored h with h | ⟨_, rfl⟩
    · exact g.same _ _ h
    · exact hv
  server := by rw [valueAt_stored, if_neg (by decide)]; exact g.server
  scheme := by rw [valueAt_stored, if_pos rfl]; exact .inr ⟨_, _, rfl, hq⟩
  https := by rw [valueAt_stored, if_neg (by decide)]; exact g.https
theorem GivenI.putHttps {kvs : List (Str × Value)} {l : Addr} {ol : Obj} {q : Str} {tk : Tok} (g : GivenI kvs namesAll l ol) (hv : tk ≠ 0) (hq : q ∈ (["yes", "on", "1", "YES", "0", ""] : List Str)) : GivenI (stored kvs (Str.ofString "HTTPS") (.str q tk)) namesAll l ol where
  keys := fun k u h => by
    rcases mem_stored h with h | ⟨rfl, _⟩
    · exact g.keys _ _ h
    · exact List.mem_append_right _ (.tail _ (.head _))
  same := fun k u h => by
    rcases mem_stored h with h | ⟨_, rfl⟩
    · exact g.same _ _ h
    · exact hv
  server := by rw [valueAt_stored, if_neg (by decide)]; exact g.server
  scheme := by rw [valueAt_stored, if_neg (by decide)]; exact g.scheme
  https := by rw [valueAt_stored, if_pos rfl]; exact .inr ⟨_, _, rfl, hq⟩
theorem names_plain : ∀ q ∈ namesL, q ≠ Str.ofString "wsgi.url_scheme" ∧ q ≠ Str.ofString "HTTPS" := by decide +kernel
theorem namesL_sub : ∀ q ∈ namesL, q ∈ namesAll := fun q h => List.mem_append_left _ h
section
variable {prog : Program} {w : World} {A : Around} {E : Value → Shared → Prop} {s : Shared}
theorem tup_pick {value slice : PySem.Expr} {T : Addr} {items : Array Value} {z : Int} {u : Tok} {Q : Value → Shared → Prop} (ht : IsTup s.heap T items) (h0 : 0 ≤ z) (h1 : z < items.size) (hsz : items.size ≤ 1000) (h : ∀ v, v ∈ items.toList → Q v s)
    (hs : subscripted slice false (.ref T) (.int z u) = operate [.ref T, .int z u] (getItem (.ref T) (.int z u)) := by with_unfolding_all rfl) :
    wpAny (model prog w) A (subscriptTail value slice (.ref T) (.int z u)) Q E s := by
  obtain ⟨i, rfl⟩ : ∃ i : Nat, z = (i : Int) := ⟨z.toNat, by omega⟩
  have hi : i < items.size := by omega
  refine tail_any ht.typeIs PyProof.Rows.slot_tuple_getitem.lookup (getItem_tuple (j := i) (x := items[i]) ht (by omega) (by omega) ?_ (by simp [hi]) (h _ (by simp))) hs
  unfold seqIndex?
  simp
  omega
end
theorem names_pack {h₀ h : Heap} {L : Addr} {all : List (Addr × Obj)} {G : Prop} {d nm : Addr} {o : Obj} {vs : List Value} {c : Nat} {news : List (Addr × Obj)} (N : News h₀ L h all) (hd : (d, o) ∈ all) (hn : (nm, PySem.W.listOf vs.toArray c) ∈ all) (hr : ∀ p ∈ news, p ∈ all)
    (hS : StrsAre vs namesL) (hdn : d ≠ nm) (hdr : ∀ p ∈ news, p.1 ≠ d)
    (K : ∀ vs c, StrsAre vs namesL → d ≠ nm → (∀ p ∈ news, p.1 ≠ d) → News h₀ L h ((d, o) :: (nm, PySem.W.listOf vs.toArray c) :: (nm, PySem.W.listOf vs.toArray c) :: news) → G) : G := K vs c hS hdn hdr (news_sub N hd hn hn hr)
end Mine
end

section
open PySem PySem.W PyProof.Rows PyProof.V PySem.Calls PySem.Spec
set_option maxRecDepth 100000
namespace Mine
def isHttps (v : Option Value) : Bool := match v with
  | some (.str q _) => q == Str.ofString "yes" || q == Str.ofString "on" || q == Str.ofString "1"
  | _ => false
def HttpsOk (v : Option Value) : Prop := v = none ∨ ∃ q t, v = some (.str q t) ∧ q ∈ (["yes", "on", "1", "YES", "0", ""] : List Str)
def guessOf (kvs : List (Str × Value)) : Str := if isHttps (valueAt kvs (Str.ofString "HTTPS")) = true then Str.ofString "https" else Str.ofString "http"
def schemeV (v : Option Value) (z : Str) : Str := match v with
  | some (.str q _) => q
  | _ => z
def schemeOf (kvs : List (Str × Value)) : Str := schemeV (valueAt kvs (Str.ofString "wsgi.url_scheme")) (guessOf kvs)
def bothLack (kvs : List (Str × Value)) : Bool := !(valueAt kvs (Str.ofString "SCRIPT_NAME")).isSome && !(valueAt kvs (Str.ofString "PATH_INFO")).isSome
def portOf (q : Str) : Option Str := if q = Str.ofString "http" then some (Str.ofString "80") else if q = Str.ofString "https" then some (Str.ofString "443") else none
/-- the dict of what is due -/
def DueL (kvs kvd : List (Str × Value)) (tv : Addr) : Prop := ∃ t1 t2 t3 t5 t6 t9 ta tb tc, kvd =
  [(Str.ofString "SERVER_NAME", Value.str (Str.ofString "127.0.0.1") t1), (Str.ofString "SERVER_PROTOCOL", .str (Str.ofString "HTTP/1.0") t2), (Str.ofString "REQUEST_METHOD", .str (Str.ofString "GET") t3), (Str.ofString "wsgi.version", .ref tv),
   (Str.ofString "HTTP_HOST", (valueAt kvs (Str.ofString "SERVER_NAME")).getD (.str (Str.ofString "127.0.0.1") t5)), (Str.ofString "wsgi.run_once", .int 0 t6), (Str.ofString "wsgi.multithread", .int 0 t6), (Str.ofString "wsgi.multiprocess", .int 0 t6),
   (Str.ofString "wsgi.url_scheme", .str (guessOf kvs) t9)] ++
  (if bothLack kvs = true then [(Str.ofString "SCRIPT_NAME", .str (Str.ofString "") ta), (Str.ofString "PATH_INFO", .str (Str.ofString "/") tb)] else []) ++
  (match portOf (schemeOf kvs) with | some pt => [(Str.ofString "SERVER_PORT", .str pt tc)] | none => [])
section
variable {prog : Program} {w : World} {A : Around} {E : Value → Shared → Prop} {s : Shared}
theorem https_in {l : Addr} {v : Option Value} {t t1 t2 t3 : Tok} {Q : Value → Shared → Prop} (hl : s.heap.IsList l #[.str (Str.ofString "1") t1, .str (Str.ofString "on") t2, .str (Str.ofString "yes") t3]) (hH : HttpsOk v)
    (h : Q (.bool (isHttps v)) s) : wpAny (model prog w) A (compareOp .In (v.getD (.str (Str.ofString "no") t)) (.ref l)) Q E s := by
  have hs : StrsAre (#[Value.str (Str.ofString "1") t1, .str (Str.ofString "on") t2, .str (Str.ofString "yes") t3] : Array Value).toList [Str.ofString "1", Str.ofString "on", Str.ofString "yes"] := .cons _ _ (.cons _ _ (.cons _ _ .nil))
  rcases hH with rfl | ⟨q, t, rfl, hq⟩
  · exact in_list_strs hl hs (by have e : isHttps none = ([Str.ofString "1", Str.ofString "on", Str.ofString "yes"].any (· == Str.ofString "no")) := by decide
                                 rw [← e]; exact h)
  · refine in_list_strs hl hs ?_
    have e : ∀ q ∈ (["yes", "on", "1", "YES", "0", ""] : List Str), (q == Str.ofString "yes" || q == Str.ofString "on" || q == Str.ofString "1") = ([Str.ofString "1", Str.ofString "on", Str.ofString "yes"].any (· == q)) := by decide
    rw [← e q hq]; exact h
end
theorem news_two {h₀ h : Heap} {L : Addr} {all : List (Addr × Obj)} (N : News h₀ L h all) {x y : Addr} {ox oy : Obj} {rest : List (Addr × Obj)} (hx : (x, ox) ∈ all) (hy : (y, oy) ∈ all) (hr : ∀ p ∈ rest, p ∈ all) : News h₀ L h ((x, ox) :: (y, oy) :: rest) := fun p hp => by
  rcases List.mem_cons.mp hp with rfl | hp
  · exact N _ hx
  · rcases List.mem_cons.mp hp with rfl | hp
    · exact N _ hy
    · exact N _ (hr _ hp)
theorem guess_t {kvs : List (Str × Value)} (h : isHttps (valueAt kvs (Str.ofString "HTTPS")) = true) : guessOf kvs = Str.ofString "https" := by unfold guessOf; rw [h]; rfl
theorem guess_f {kvs : List (Str × Value)} (h : isHttps (valueAt kvs (Str.ofString "HTTPS")) = false) : guessOf kvs = Str.ofString "http" := by unfold guessOf; rw [h]; rfl
theorem both_1 {kvs : List (Str × Value)} (h : (valueAt kvs (Str.ofString "SCRIPT_NAME")).isSome = true) : bothLack kvs = false := by unfold bothLack; rw [h]; rfl
theorem both_2 {kvs : List (Str × Value)} (h : (valueAt kvs (Str.ofString "PATH_INFO")).isSome = true) : bothLack kvs = false := by unfold bothLack; rw [h]; simp
theorem both_3 {kvs : List (Str × Value)} (h : (valueAt kvs (Str.ofString "SCRIPT_NAME")).isSome = false) (h2 : (valueAt kvs (Str.ofString "PATH_INFO")).isSome = false) : bothLack kvs = true := by unfold bothLack; rw [h, h2]; rfl
theorem scheme_get {v : Option Value} {z : Str} {t : Tok} {sv : Value} (h : SchemeOk v) (e : v.getD (.str z t) = sv) (hz : z = Str.ofString "http" ∨ z = Str.ofString "https") :
    ∃ q t', sv = .str q t' ∧ schemeV v z = q ∧ (q = Str.ofString "http" ∨ q = Str.ofString "https" ∨ q = Str.ofString "ftp") := by
  subst e
  rcases h with rfl | ⟨q, t', rfl, hq⟩
  · exact ⟨z, t, rfl, rfl, hz.elim .inl fun h => .inr (.inl h)⟩
  · exact ⟨q, t', rfl, rfl, hq⟩
end Mine
end

section
open PySem PySem.W PyProof.Rows PyProof.V PySem.Calls PySem.Spec
set_option maxRecDepth 100000
namespace Mine
def setAll (kvs l : List (Str × Value)) : List (Str × Value) := l.foldl (fun a p => sdef a p.1 p.2) kvs
theorem setAll_snoc {kvs l : List (Str × Value)} {x : Str} {v : Value} : setAll kvs (l ++ [(x, v)]) = sdef (setAll kvs l) x v := by unfold setAll; rw [List.foldl_append]; rfl
def lookV (l : List (Str × Value)) (q : Str) : Option Value := (l.find? fun p => decide (p.1 = q)).map (·.2)
theorem valueAt_setAll : ∀ {l kvs : List (Str × Value)} {q : Str}, valueAt (setAll kvs l) q = (match valueAt kvs q with | some u => some u | none => lookV l q)
  | [], kvs, q => by
    show valueAt kvs q = _
    cases valueAt kvs q <;> rfl
  | (k, v) :: r, kvs, q => by
    show valueAt (setAll (sdef kvs k v) r) q = _
    rw [valueAt_setAll, valueAt_sdef]
    by_cases h : q = k
    · subst h
      rw [if_pos rfl]
      cases e : valueAt kvs q with
      | none => simp [lookV]
      | some u => simp
    · rw [if_neg h]
      cases e : valueAt kvs q with
      | none => simp only [lookV]; rw [List.find?_cons_of_neg (by simpa using Ne.symm h)]
      | some u => rfl
theorem setAll_len : ∀ {l kvs : List (Str × Value)}, (setAll kvs l).length ≤ kvs.length + l.length
  | [], kvs => Nat.le_refl _
  | (k, v) :: r, kvs => by
    have h1 := setAll_len (l := r) (kvs := sdef kvs k v)
    have h2 := sdef_le (kvs := kvs) (k := k) (v := v)
    show (setAll (sdef kvs k v) r).length ≤ _
    rw [List.length_cons]; omega
theorem valueAt_has {kvs l : List (Str × Value)} {q : Str} {u : Value} (h : valueAt kvs q = some u) : valueAt (setAll kvs l) q = some u := by rw [valueAt_setAll, h]
theorem valueAt_not {kvs l : List (Str × Value)} {q : Str} (h : lookV l q = none) : valueAt (setAll kvs l) q = valueAt kvs q := by
  rw [valueAt_setAll, h]
  cases valueAt kvs q <;> rfl
theorem look_get {v : Option Value} {l : List (Str × Value)} {q : Str} {u : Value} (h : lookV l q = some u) : (match v with | some u => some u | none => lookV l q) = some (v.getD u) := by
  rw [h]; cases v <;> rfl
section
variable {prog : Program} {w : World} {A : Around} {E : Value → Shared → Prop} {s : Shared} {h₀ : Heap} {L d : Addr} {m : Str → Option Value} {news : List (Addr × Obj)} {o : Obj} {kvs l : List (Str × Value)} {x : Str} {t : Tok} {v : Value} {Q : Value → Shared → Prop}
theorem d_sd {g : Obj → List (Addr × Obj)} (F : Fr h₀ L s.heap m) (N : News h₀ L s.heap news) (U : UpdF d o news g) (hd : o.IsDictOf (PySem.strKind prog w) (setAll kvs l)) (lo : (d == sysModules) = false) (hk : kvs.length ≤ 100) (hl : l.length ≤ 100)
    (h : ∀ h' o', Fr h₀ L h' m → News h₀ L h' (g o') → o'.IsDictOf (PySem.strKind prog w) (setAll kvs (l ++ [(x, v)])) → Q ((valueAt (setAll kvs l) x).getD v) { s with heap := h', toks := s.toks + 1 }) :
    wpAny (model prog w) A (call (.builtin "dict.setdefault") [.ref d, .str x t, v]) Q E s := by
  have h1 := setAll_len (l := l) (kvs := kvs)
  exact d_setdefault F N U hd lo (by omega) fun h' o' F' N' hd' => h h' o' F' N' (by rw [setAll_snoc]; exact hd')
def condL (c : Bool) (ta tb : Tok) : List (Str × Value) := if c = true then [(Str.ofString "SCRIPT_NAME", .str (Str.ofString "") ta), (Str.ofString "PATH_INFO", .str (Str.ofString "/") tb)] else []
def portL (v : Option Str) (tp : Tok) : List (Str × Value) := match v with | some p => [(Str.ofString "SERVER_PORT", .str p tp)] | none => []
/-- what the environ is after the defaults are set -/
def SetupRel (kvs kve : List (Str × Value)) (tv xb xe : Addr) : Prop := ∃ t1 t2 t3 t4 t5 t6 ta tb tg tp : Nat, (t1 ≠ 0 ∧ t2 ≠ 0 ∧ t3 ≠ 0 ∧ t4 ≠ 0 ∧ t5 ≠ 0 ∧ t6 ≠ 0 ∧ ta ≠ 0 ∧ tb ≠ 0 ∧ tg ≠ 0 ∧ tp ≠ 0) ∧
  kve = setAll (setAll (setAll kvs ([(Str.ofString "SERVER_NAME", Value.str (Str.ofString "127.0.0.1") t1), (Str.ofString "SERVER_PROTOCOL", .str (Str.ofString "HTTP/1.0") t2), (Str.ofString "HTTP_HOST", (valueAt kvs (Str.ofString "SERVER_NAME")).getD (.str (Str.ofString "127.0.0.1") t1)), (Str.ofString "REQUEST_METHOD", .str (Str.ofString "GET") t3)] ++ condL (bothLack kvs) ta tb))
    [(Str.ofString "wsgi.version", .ref tv), (Str.ofString "wsgi.run_once", .int 0 t4), (Str.ofString "wsgi.multithread", .int 0 t5), (Str.ofString "wsgi.multiprocess", .int 0 t6), (Str.ofString "wsgi.input", .ref xb), (Str.ofString "wsgi.errors", .ref xe), (Str.ofString "wsgi.url_scheme", .str (guessOf kvs) tg)])
    (portL (portOf (schemeOf kvs)) tp)
theorem port_http {kvs : List (Str × Value)} {tp : Tok} (h : schemeOf kvs = Str.ofString "http") : portL (portOf (schemeOf kvs)) tp = [(Str.ofString "SERVER_PORT", .str (Str.ofString "80") tp)] := by rw [h]; rfl
theorem port_https {kvs : List (Str × Value)} {tp : Tok} (h : schemeOf kvs = Str.ofString "https") : portL (portOf (schemeOf kvs)) tp = [(Str.ofString "SERVER_PORT", .str (Str.ofString "443") tp)] := by rw [h]; rfl
theorem port_ftp {kvs : List (Str × Value)} {tp : Tok} (h : schemeOf kvs = Str.ofString "ftp") : portL (portOf (schemeOf kvs)) tp = [] := by rw [h]; rfl
theorem setup_rel {kvs kvs1 kvs2 pl : List (Str × Value)} {gz : Str} {tv xb xe : Addr} {t1 t2 t3 t4 t5 t6 ta tb tg tp : Nat}
    (hk1 : setAll kvs ([(Str.ofString "SERVER_NAME", Value.str (Str.ofString "127.0.0.1") t1), (Str.ofString "SERVER_PROTOCOL", .str (Str.ofString "HTTP/1.0") t2), (Str.ofString "HTTP_HOST", (valueAt kvs (Str.ofString "SERVER_NAME")).getD (.str (Str.ofString "127.0.0.1") t1)), (Str.ofString "REQUEST_METHOD", .str (Str.ofString "GET") t3)] ++ condL (bothLack kvs) ta tb) = kvs1)
    (hk2 : setAll kvs1 [(Str.ofString "wsgi.version", .ref tv), (Str.ofString "wsgi.run_once", .int 0 t4), (Str.ofString "wsgi.multithread", .int 0 t5), (Str.ofString "wsgi.multiprocess", .int 0 t6), (Str.ofString "wsgi.input", .ref xb), (Str.ofString "wsgi.errors", .ref xe), (Str.ofString "wsgi.url_scheme", .str gz tg)] = kvs2)
    (hgz : gz = guessOf kvs) (h1 : t1 ≠ 0) (h2 : t2 ≠ 0) (h3 : t3 ≠ 0) (h4 : t4 ≠ 0) (h5 : t5 ≠ 0) (h6 : t6 ≠ 0) (hta : ta ≠ 0) (htb : tb ≠ 0) (htg : tg ≠ 0) (htp : tp ≠ 0) (hp : portL (portOf (schemeOf kvs)) tp = pl) : SetupRel kvs (setAll kvs2 pl) tv xb xe := by
  subst hp hgz hk2 hk1
  exact ⟨t1, t2, t3, t4, t5, t6, ta, tb, tg, tp, ⟨h1, h2, h3, h4, h5, h6, hta, htb, htg, htp⟩, rfl⟩
theorem guess_cases (kvs : List (Str × Value)) : guessOf kvs = Str.ofString "http" ∨ guessOf kvs = Str.ofString "https" ∨ guessOf kvs = Str.ofString "ftp" := by
  unfold guessOf
  split
  · exact .inr (.inl rfl)
  · exact .inl rfl
theorem scheme_now {kvs kvs1 kvs2 l : List (Str × Value)} {gz : Str} {tg : Tok} (hS : SchemeOk (valueAt kvs (Str.ofString "wsgi.url_scheme"))) (hS1 : valueAt kvs1 (Str.ofString "wsgi.url_scheme") = valueAt kvs (Str.ofString "wsgi.url_scheme")) (hgz : gz = guessOf kvs) (hk2 : setAll kvs1 l = kvs2) (hl : lookV l (Str.ofString "wsgi.url_scheme") = some (.str gz tg)) :
    ∃ q tq, valueAt kvs2 (Str.ofString "wsgi.url_scheme") = some (.str q tq) ∧ schemeOf kvs = q ∧ (q = Str.ofString "http" ∨ q = Str.ofString "https" ∨ q = Str.ofString "ftp") := by
  subst hk2
  subst hgz
  rw [valueAt_setAll, hS1]
  rcases hS with e | ⟨q, t, e, hq⟩
  · rw [e]; exact ⟨guessOf kvs, tg, hl, by unfold schemeOf; rw [e]; rfl, guess_cases kvs⟩
  · rw [e]; exact ⟨q, t, rfl, by unfold schemeOf; rw [e]; rfl, hq⟩
def CutP (prog : Program) (w : World) (g : Heap) (L' : Addr) (m' : Str → Option Value) (d : Addr) (news : List (Addr × Obj)) (base : Shared) (kvs l : List (Str × Value)) (fl : Flow) (s' : Shared) : Prop :=
  fl = .next ∧ ∃ h' tk' o' ta tb, s' = { base with heap := h', toks := tk' } ∧ 1 ≤ tk' ∧ ta ≠ 0 ∧ tb ≠ 0 ∧ Fr g L' h' m' ∧ News g L' h' ((d, o') :: news) ∧ o'.IsDictOf (PySem.strKind prog w) (setAll kvs (l ++ condL (bothLack kvs) ta tb))
theorem cut_if {t : Sem Flow} {g : Heap} {L' : Addr} {m' : Str → Option Value} {o : Obj} {news : List (Addr × Obj)} {Q : Flow → Shared → Prop} (kF : Fr g L' s.heap m') (kN : News g L' s.heap ((d, o) :: news)) (hd : o.IsDictOf (PySem.strKind prog w) (setAll kvs l))
    (h1 : wpAny (model prog w) A t (CutP prog w g L' m' d news s kvs l) E s) (h2 : ∀ fl s', CutP prog w g L' m' d news s kvs l fl s' → Q fl s') : wpAny (model prog w) A t Q E s := wpAny_mono h1 h2 fun _ _ e => e
end
end Mine
end

section
open PySem PySem.W PyProof.Rows PyProof.V PySem.Calls PySem.Spec
set_option maxRecDepth 100000
namespace Mine
/-! the plain law -/
def keysOf (l : List (Str × Value)) : List Str := l.map (·.1)
theorem lookV_some {l : List (Str × Value)} {q : Str} : (lookV l q).isSome = true ↔ q ∈ keysOf l := by
  unfold lookV keysOf
  rw [Option.isSome_map, List.find?_isSome, List.mem_map]
  constructor
  · rintro ⟨p, hp, e⟩; exact ⟨p, hp, of_decide_eq_true e⟩
  · rintro ⟨p, hp, rfl⟩; exact ⟨p, hp, by simp⟩
theorem mem_setAll {kvs l : List (Str × Value)} {q : Str} : q ∈ keysOf (setAll kvs l) ↔ q ∈ keysOf kvs ∨ q ∈ keysOf l := by
  unfold keysOf
  rw [key_iff, valueAt_setAll, key_iff]
  cases valueAt kvs q with
  | some u => simp
  | none => simp only [Option.isSome_none, Bool.false_eq_true, false_or]; exact lookV_some
theorem setup_keys {kvs kve kvd : List (Str × Value)} {tv tv2 xb xe : Addr} (hr : SetupRel kvs kve tv xb xe) (hd : DueL kvs kvd tv2) {q : Str} :
    q ∈ keysOf kve ↔ q ∈ foldS (keysOf kvs ++ keysOf kvd ++ [Str.ofString "wsgi.input", Str.ofString "wsgi.errors"]) := by
  obtain ⟨t1, t2, t3, t4, t5, t6, ta, tb, tg, tp, _, rfl⟩ := hr
  obtain ⟨s1, s2, s3, s5, s6, s9, sa, sb, sc, rfl⟩ := hd
  rw [foldS_mem, mem_setAll, mem_setAll, mem_setAll]
  have hp : portOf (schemeOf kvs) = none ∨ ∃ pt, portOf (schemeOf kvs) = some pt := by cases portOf (schemeOf kvs) with
    | none => exact .inl rfl
    | some pt => exact .inr ⟨pt, rfl⟩
  cases bothLack kvs with
  | true =>
    rcases hp with e | ⟨pt, e⟩
    · rw [e]; simp only [condL, portL, keysOf, if_true, List.map_cons, List.map_nil, List.map_append, List.mem_append, List.mem_cons, List.not_mem_nil, or_false]; constructor <;> intro h <;> simp only [or_assoc] at h ⊢ <;> grind
    · rw [e]; simp only [condL, portL, keysOf, if_true, List.map_cons, List.map_nil, List.map_append, List.mem_append, List.mem_cons, List.not_mem_nil, or_false]; constructor <;> intro h <;> simp only [or_assoc] at h ⊢ <;> grind
  | false =>
    rcases hp with e | ⟨pt, e⟩
    · rw [e]; simp only [condL, portL, keysOf, Bool.false_eq_true, if_false, List.map_cons, List.map_nil, List.map_append, List.mem_append, List.mem_cons, List.not_mem_nil, or_false]; constructor <;> intro h <;> simp only [or_assoc] at h ⊢ <;> grind
    · rw [e]; simp only [condL, portL, keysOf, Bool.false_eq_true, if_false, List.map_cons, List.map_nil, List.map_append, List.mem_append, List.mem_cons, List.not_mem_nil, or_false]; constructor <;> intro h <;> simp only [or_assoc] at h ⊢ <;> grind
theorem ne_cells2 {d : Addr} {o1 : Obj} {l : List (Addr × Obj)} (h : ∀ p ∈ l, p.1 < d) : ∀ p ∈ (d + 1, o1) :: l, p.1 ≠ d + 1 + 1 := fun p hp => by
  rcases List.mem_cons.mp hp with rfl | hp
  · exact Nat.ne_of_lt (Nat.lt_succ_self _)
  · exact Nat.ne_of_lt (Nat.lt_succ_of_lt (Nat.lt_succ_of_lt (h p hp)))
theorem ne_cells3 {d : Addr} {o1 o2 : Obj} {l : List (Addr × Obj)} (h : ∀ p ∈ l, p.1 < d) : ∀ p ∈ (d + 1 + 1, o2) :: (d + 1, o1) :: l, p.1 ≠ d + 1 + 1 + 1 := fun p hp => by
  rcases List.mem_cons.mp hp with rfl | hp
  · exact Nat.ne_of_lt (Nat.lt_succ_self _)
  · rcases List.mem_cons.mp hp with rfl | hp
    · exact Nat.ne_of_lt (Nat.lt_succ_of_lt (Nat.lt_succ_self _))
    · exact Nat.ne_of_lt (Nat.lt_succ_of_lt (Nat.lt_succ_of_lt (Nat.lt_succ_of_lt (h p hp))))
theorem ne_cells4 {d : Addr} {o1 o2 o3 : Obj} {l : List (Addr × Obj)} (h : ∀ p ∈ l, p.1 < d) : ∀ p ∈ (d + 1 + 1 + 1, o3) :: (d + 1 + 1, o2) :: (d + 1, o1) :: l, p.1 ≠ d + 1 + 1 + 1 + 1 := fun p hp => by
  rcases List.mem_cons.mp hp with rfl | hp
  · exact Nat.ne_of_lt (Nat.lt_succ_self _)
  · rcases List.mem_cons.mp hp with rfl | hp
    · exact Nat.ne_of_lt (Nat.lt_succ_of_lt (Nat.lt_succ_self _))
    · rcases List.mem_cons.mp hp with rfl | hp
      · exact Nat.ne_of_lt (Nat.lt_succ_of_lt (Nat.lt_succ_of_lt (Nat.lt_succ_self _)))
      · exact Nat.ne_of_lt (Nat.lt_succ_of_lt (Nat.lt_succ_of_lt (Nat.lt_succ_of_lt (Nat.lt_succ_of_lt (h p hp)))))
theorem news_rot3 {h₀ h : Heap} {L : Addr} {a b c x : Addr × Obj} {r : List (Addr × Obj)} (N : News h₀ L h (a :: b :: c :: x :: r)) : News h₀ L h (x :: a :: b :: c :: r) := fun p hp => N p (by
  simp only [List.mem_cons] at hp ⊢
  rcases hp with h | h | h | h | h
  · exact .inr (.inr (.inr (.inl h)))
  · exact .inl h
  · exact .inr (.inl h)
  · exact .inr (.inr (.inl h))
  · exact .inr (.inr (.inr (.inr h))))
theorem orLast {M : Model} {A : Around} {E : Value → Shared → Prop} {s : Shared} {env : Env} {x : PySem.Expr} {Q : Bool → Shared → Prop} (h : wpAny M A (isTrue x env (eval x env)) Q E s) : wpAny M A (allTrue .Or [x] env) Q E s := by
  show wpAny M A (isTrue x env (eval x env) >>= fun b => match BoolOp.Or, b with | .And, false => pure false | .Or, true => pure true | _, _ => allTrue .Or [] env) Q E s
  refine wpAny_bind (wpAny_mono h (fun b s₂ h₂ => ?_) fun _ _ e => e)
  cases b <;> exact wpAny_pure h₂
theorem setup_keeps {kvs kve : List (Str × Value)} {tv xb xe : Addr} {q : Str} {u : Value} (hr : SetupRel kvs kve tv xb xe) (h : valueAt kvs q = some u) : valueAt kve q = some u := by
  obtain ⟨t1, t2, t3, t4, t5, t6, ta, tb, tg, tp, _, rfl⟩ := hr
  exact valueAt_has (valueAt_has (valueAt_has h))
theorem due_scheme {kvs kvd : List (Str × Value)} {tv : Addr} (h : DueL kvs kvd tv) : ∃ t, valueAt kvd (Str.ofString "wsgi.url_scheme") = some (.str (guessOf kvs) t) := by
  obtain ⟨t1, t2, t3, t5, t6, t9, ta, tb, tc, rfl⟩ := h
  exact ⟨t9, rfl⟩
theorem due_len {kvs kvd : List (Str × Value)} {tv : Addr} (h : DueL kvs kvd tv) : kvd.length ≤ 12 := by
  obtain ⟨t1, t2, t3, t5, t6, t9, ta, tb, tc, rfl⟩ := h
  cases bothLack kvs <;> cases portOf (schemeOf kvs) <;> simp
end Mine
end

section
open PySem PySem.W PyProof.Rows PyProof.V PySem.Calls PySem.Spec
set_option maxRecDepth 100000
namespace Mine
/-! the plain law: done again it changes nothing; what is due is what is there -/
theorem sdef_has {kvs : List (Str × Value)} {k : Str} {v : Value} (h : (valueAt kvs k).isSome = true) : sdef kvs k v = kvs := by unfold sdef; rw [if_pos h]
theorem setAll_id : ∀ {l kvs : List (Str × Value)}, (∀ p ∈ l, (valueAt kvs p.1).isSome = true) → setAll kvs l = kvs
  | [], kvs, _ => rfl
  | p :: r, kvs, h => by
    show setAll (sdef kvs p.1 p.2) r = kvs
    rw [sdef_has (h p (.head _))]
    exact setAll_id fun q hq => h q (.tail _ hq)
theorem has_setAll {kvs l : List (Str × Value)} {q : Str} : (valueAt (setAll kvs l) q).isSome = true ↔ (valueAt kvs q).isSome = true ∨ q ∈ keysOf l := by
  rw [← key_iff, ← key_iff]; exact mem_setAll
theorem val3 {kvs l1 l2 l3 : List (Str × Value)} {q : Str} (h : valueAt kvs q = none) : valueAt (setAll (setAll (setAll kvs l1) l2) l3) q = (lookV l1 q).or ((lookV l2 q).or (lookV l3 q)) := by
  rw [valueAt_setAll, valueAt_setAll, valueAt_setAll, h]
  cases lookV l1 q with
  | some u => rfl
  | none => cases lookV l2 q <;> rfl
theorem both_after {kvs kve : List (Str × Value)} {tv xb xe : Addr} (hr : SetupRel kvs kve tv xb xe) : bothLack kve = false := by
  obtain ⟨t1, t2, t3, t4, t5, t6, ta, tb, tg, tp, _, rfl⟩ := hr
  cases h : bothLack kvs with
  | true =>
    refine both_1 (has_setAll.mpr (.inl (has_setAll.mpr (.inl (has_setAll.mpr (.inr ?_))))))
    show Str.ofString "SCRIPT_NAME" ∈ _
    unfold keysOf condL
    rw [if_pos rfl]
    simp
  | false =>
    cases h1 : (valueAt kvs (Str.ofString "SCRIPT_NAME")).isSome with
    | true => exact both_1 (has_setAll.mpr (.inl (has_setAll.mpr (.inl (has_setAll.mpr (.inl h1))))))
    | false =>
      cases h2 : (valueAt kvs (Str.ofString "PATH_INFO")).isSome with
      | true => exact both_2 (has_setAll.mpr (.inl (has_setAll.mpr (.inl (has_setAll.mpr (.inl h2))))))
      | false => rw [both_3 h1 h2] at h; cases h
theorem scheme_after {kvs kve : List (Str × Value)} {tv xb xe : Addr} (hr : SetupRel kvs kve tv xb xe) (hS : SchemeOk (valueAt kvs (Str.ofString "wsgi.url_scheme"))) :
    ∃ t, valueAt kve (Str.ofString "wsgi.url_scheme") = some (.str (schemeOf kvs) t) ∧ (schemeOf kvs = Str.ofString "http" ∨ schemeOf kvs = Str.ofString "https" ∨ schemeOf kvs = Str.ofString "ftp") := by
  obtain ⟨t1, t2, t3, t4, t5, t6, ta, tb, tg, tp, _, rfl⟩ := hr
  rcases hS with e | ⟨q, t, e, hq⟩
  · refine ⟨tg, ?_, ?_⟩
    · rw [val3 e]
      have e1 : lookV ([(Str.ofString "SERVER_NAME", Value.str (Str.ofString "127.0.0.1") t1), (Str.ofString "SERVER_PROTOCOL", .str (Str.ofString "HTTP/1.0") t2), (Str.ofString "HTTP_HOST", (valueAt kvs (Str.ofString "SERVER_NAME")).getD (.str (Str.ofString "127.0.0.1") t1)), (Str.ofString "REQUEST_METHOD", .str (Str.ofString "GET") t3)] ++ condL (bothLack kvs) ta tb) (Str.ofString "wsgi.url_scheme") = none := by
        cases bothLack kvs <;> rfl
      rw [e1]
      have e2 : schemeOf kvs = guessOf kvs := by unfold schemeOf; rw [e]; rfl
      rw [e2]; rfl
    · have e2 : schemeOf kvs = guessOf kvs := by unfold schemeOf; rw [e]; rfl
      rw [e2]; exact guess_cases kvs
  · have e2 : schemeOf kvs = q := by unfold schemeOf; rw [e]; rfl
    refine ⟨t, ?_, e2 ▸ hq⟩
    rw [e2]
    exact valueAt_has (valueAt_has (valueAt_has e))
theorem scheme_same {kvs kve : List (Str × Value)} {tv xb xe : Addr} (hr : SetupRel kvs kve tv xb xe) (hS : SchemeOk (valueAt kvs (Str.ofString "wsgi.url_scheme"))) : schemeOf kve = schemeOf kvs := by
  obtain ⟨t, e, _⟩ := scheme_after hr hS
  conv => lhs; unfold schemeOf
  rw [e]; rfl
theorem schemeOk_after {kvs kve : List (Str × Value)} {tv xb xe : Addr} (hr : SetupRel kvs kve tv xb xe) (hS : SchemeOk (valueAt kvs (Str.ofString "wsgi.url_scheme"))) : SchemeOk (valueAt kve (Str.ofString "wsgi.url_scheme")) := by
  obtain ⟨t, e, h⟩ := scheme_after hr hS
  exact .inr ⟨_, t, e, h⟩
theorem httpsOk_after {kvs kve : List (Str × Value)} {tv xb xe : Addr} (hr : SetupRel kvs kve tv xb xe) (hH : HttpsOk (valueAt kvs (Str.ofString "HTTPS"))) : HttpsOk (valueAt kve (Str.ofString "HTTPS")) := by
  obtain ⟨t1, t2, t3, t4, t5, t6, ta, tb, tg, tp, _, rfl⟩ := hr
  rw [valueAt_not (by unfold portL; split <;> rfl), valueAt_not (by rfl), valueAt_not (by unfold condL; split <;> rfl)]
  exact hH
theorem port_len (v : Option Str) (tp : Tok) : (portL v tp).length ≤ 1 := by cases v <;> simp [portL]
theorem cond_len (c : Bool) (ta tb : Tok) : (condL c ta tb).length ≤ 2 := by cases c <;> simp [condL]
theorem setup_len {kvs kve : List (Str × Value)} {tv xb xe : Addr} (hr : SetupRel kvs kve tv xb xe) : kve.length ≤ kvs.length + 14 := by
  obtain ⟨t1, t2, t3, t4, t5, t6, ta, tb, tg, tp, _, rfl⟩ := hr
  refine Nat.le_trans setAll_len ?_
  have h1 := port_len (portOf (schemeOf kvs)) tp
  have h2 := cond_len (bothLack kvs) ta tb
  refine Nat.le_trans (Nat.add_le_add setAll_len h1) ?_
  refine Nat.le_trans (Nat.add_le_add_right (Nat.add_le_add_right setAll_len _) _) ?_
  rw [List.length_append]
  simp only [List.length_cons, List.length_nil]
  omega
theorem setup_again {kvs kve kve2 : List (Str × Value)} {tv xb xe tv2 xb2 xe2 : Addr} (hr : SetupRel kvs kve tv xb xe) (hS : SchemeOk (valueAt kvs (Str.ofString "wsgi.url_scheme"))) (hr2 : SetupRel kve kve2 tv2 xb2 xe2) : kve2 = kve := by
  have hB := both_after hr
  have hC := scheme_same hr hS
  obtain ⟨s1, s2, s3, s4, s5, s6, sa, sb, sg, sp, _, rfl⟩ := hr2
  rw [hB, hC]
  obtain ⟨t1, t2, t3, t4, t5, t6, ta, tb, tg, tp, _, e⟩ := hr
  have k1 : ∀ q, q ∈ ([Str.ofString "SERVER_NAME", Str.ofString "SERVER_PROTOCOL", Str.ofString "HTTP_HOST", Str.ofString "REQUEST_METHOD"] : List Str) → (valueAt kve q).isSome = true := fun q h => by
    rw [e]
    refine has_setAll.mpr (.inl (has_setAll.mpr (.inl (has_setAll.mpr (.inr ?_)))))
    unfold keysOf
    rw [List.map_append]
    exact List.mem_append_left _ h
  have k2 : ∀ q, q ∈ ([Str.ofString "wsgi.version", Str.ofString "wsgi.run_once", Str.ofString "wsgi.multithread", Str.ofString "wsgi.multiprocess", Str.ofString "wsgi.input", Str.ofString "wsgi.errors", Str.ofString "wsgi.url_scheme"] : List Str) → (valueAt kve q).isSome = true := fun q h => by
    rw [e]
    exact has_setAll.mpr (.inl (has_setAll.mpr (.inr h)))
  have k3 : ∀ p ∈ portL (portOf (schemeOf kvs)) sp, (valueAt kve p.1).isSome = true := fun p h => by
    rw [e]
    refine has_setAll.mpr (.inr ?_)
    cases hp : portOf (schemeOf kvs) with
    | none => rw [hp] at h; cases h
    | some pt =>
      rw [hp] at h
      cases List.mem_singleton.mp h
      exact .head _
  rw [setAll_id (kvs := kve) (l := _ ++ _), setAll_id (kvs := kve), setAll_id k3]
  · intro p hp
    refine k2 _ ?_
    exact List.mem_map_of_mem (f := (·.1)) hp
  · intro p hp
    have hp' : p ∈ _ ++ [] := hp
    rw [List.append_nil] at hp'
    refine k1 _ ?_
    exact List.mem_map_of_mem (f := (·.1)) hp'
theorem mem_sdef {kvs : List (Str × Value)} {k q : Str} {v u : Value} (h : (q, u) ∈ sdef kvs k v) : (q, u) ∈ kvs ∨ (q, u) = (k, v) := by
  unfold sdef at h
  split at h
  · exact .inl h
  · rcases mem_stored h with h | ⟨rfl, rfl⟩
    · exact .inl h
    · exact .inr rfl
theorem pair_setAll : ∀ {l kvs : List (Str × Value)} {q : Str} {u : Value}, (q, u) ∈ setAll kvs l → (q, u) ∈ kvs ∨ (q, u) ∈ l
  | [], kvs, q, u, h => .inl h
  | p :: r, kvs, q, u, h => by
    have h' : (q, u) ∈ setAll (sdef kvs p.1 p.2) r := h
    rcases pair_setAll h' with h | h
    · rcases mem_sdef h with h | h
      · exact .inl h
      · exact .inr (h ▸ .head _)
    · exact .inr (.tail _ h)
theorem value_mem {kvs : List (Str × Value)} {q : Str} {u : Value} (h : valueAt kvs q = some u) : (q, u) ∈ kvs := by
  unfold valueAt at h
  obtain ⟨p, hp, rfl⟩ := Option.map_eq_some_iff.mp h
  have h1 := List.mem_of_find?_eq_some hp
  have h2 := List.find?_some hp
  have h3 : p.1 = q := by simpa using h2
  rw [← h3]; exact h1
theorem setup_same {kvs kve : List (Str × Value)} {tv xb xe : Addr} (hr : SetupRel kvs kve tv xb xe) (hs : ∀ q u, (q, u) ∈ kvs → SameOk u) : ∀ q u, (q, u) ∈ kve → SameOk u := by
  intro q u h
  obtain ⟨t1, t2, t3, t4, t5, t6, ta, tb, tg, tp, ⟨h1, h2, h3, h4, h5, h6, ha, hb, hg, hp⟩, rfl⟩ := hr
  have hH : SameOk ((valueAt kvs (Str.ofString "SERVER_NAME")).getD (.str (Str.ofString "127.0.0.1") t1)) := by
    cases e : valueAt kvs (Str.ofString "SERVER_NAME") with
    | none => exact h1
    | some v => exact hs _ _ (value_mem e)
  generalize (valueAt kvs (Str.ofString "SERVER_NAME")).getD (.str (Str.ofString "127.0.0.1") t1) = hv at h hH
  rcases pair_setAll h with h | h
  · rcases pair_setAll h with h | h
    · rcases pair_setAll h with h | h
      · exact hs _ _ h
      · rcases List.mem_append.mp h with h | h
        · simp only [List.mem_cons, List.not_mem_nil, or_false, Prod.mk.injEq] at h
          rcases h with ⟨_, rfl⟩ | ⟨_, rfl⟩ | ⟨_, rfl⟩ | ⟨_, rfl⟩
          · exact h1
          · exact h2
          · exact hH
          · exact h3
        · unfold condL at h
          split at h
          · simp only [List.mem_cons, List.not_mem_nil, or_false, Prod.mk.injEq] at h
            rcases h with ⟨_, rfl⟩ | ⟨_, rfl⟩
            · exact ha
            · exact hb
          · cases h
    · simp only [List.mem_cons, List.not_mem_nil, or_false, Prod.mk.injEq] at h
      rcases h with ⟨_, rfl⟩ | ⟨_, rfl⟩ | ⟨_, rfl⟩ | ⟨_, rfl⟩ | ⟨_, rfl⟩ | ⟨_, rfl⟩ | ⟨_, rfl⟩
      · trivial
      · exact h4
      · exact h5
      · exact h6
      · trivial
      · trivial
      · exact hg
  · unfold portL at h
    split at h
    · simp only [List.mem_cons, List.not_mem_nil, or_false, Prod.mk.injEq] at h
      obtain ⟨_, rfl⟩ := h
      exact hp
    · cases h
/-- the environ's value and the due one -/
def Alike (tve tvd l : Addr) (ol : Obj) (e u : Value) : Prop :=
  (∃ x t1 t2, e = .str x t1 ∧ u = .str x t2 ∧ PyData.strOk x = true) ∨ (∃ t1 t2, e = .int 0 t1 ∧ u = .int 0 t2) ∨ (e = .ref tve ∧ u = .ref tvd) ∨ (e = .none ∧ u = .none) ∨
    (e = .ref l ∧ u = .ref l ∧ ∃ q t x u c, ol = PySem.W.listOf #[Value.str q t, Value.int x u] c ∧ PyData.strOk q = true)
theorem port_ok {q pt : Str} (h : portOf q = some pt) : PyData.strOk pt = true := by
  unfold portOf at h
  split at h
  · cases h; decide +kernel
  · split at h
    · cases h; decide +kernel
    · cases h
theorem due_alike {kvs kve kvd : List (Str × Value)} {tve tvd xb xe l : Addr} {ol : Obj} (hr : SetupRel kvs kve tve xb xe) (hd : DueL kvs kvd tvd) (hs : ServerOk (valueAt kvs (Str.ofString "SERVER_NAME")) l ol) {q : Str} {u : Value} (h : (q, u) ∈ kvd)
    (hn : valueAt kvs q = none) : ∃ e, valueAt kve q = some e ∧ Alike tve tvd l ol e u := by
  obtain ⟨t1, t2, t3, t4, t5, t6, ta, tb, tg, tp, _, rfl⟩ := hr
  obtain ⟨s1, s2, s3, s5, s6, s9, sa, sb, sc, rfl⟩ := hd
  rw [val3 hn]
  rcases List.mem_append.mp h with h | h
  · rcases List.mem_append.mp h with h | h
    · simp only [List.mem_cons, List.not_mem_nil, or_false, Prod.mk.injEq] at h
      rcases h with ⟨rfl, rfl⟩ | ⟨rfl, rfl⟩ | ⟨rfl, rfl⟩ | ⟨rfl, rfl⟩ | ⟨rfl, rfl⟩ | ⟨rfl, rfl⟩ | ⟨rfl, rfl⟩ | ⟨rfl, rfl⟩ | ⟨rfl, rfl⟩
      · exact ⟨_, rfl, .inl ⟨_, _, _, rfl, rfl, by decide +kernel⟩⟩
      · exact ⟨_, rfl, .inl ⟨_, _, _, rfl, rfl, by decide +kernel⟩⟩
      · exact ⟨_, rfl, .inl ⟨_, _, _, rfl, rfl, by decide +kernel⟩⟩
      · refine ⟨.ref tve, by cases bothLack kvs <;> rfl, .inr (.inr (.inl ⟨rfl, rfl⟩))⟩
      · refine ⟨(valueAt kvs (Str.ofString "SERVER_NAME")).getD (.str (Str.ofString "127.0.0.1") t1), rfl, ?_⟩
        rcases hs with e | e | ⟨t, e⟩ | ⟨t, e⟩ | ⟨e, hl⟩
        · rw [e]; exact .inl ⟨_, _, _, rfl, rfl, by decide +kernel⟩
        · rw [e]; exact .inr (.inr (.inr (.inl ⟨rfl, rfl⟩)))
        · rw [e]; exact .inl ⟨_, _, _, rfl, rfl, by decide +kernel⟩
        · rw [e]; exact .inr (.inl ⟨_, _, rfl, rfl⟩)
        · rw [e]; exact .inr (.inr (.inr (.inr ⟨rfl, rfl, hl⟩)))
      · exact ⟨.int 0 t4, by cases bothLack kvs <;> rfl, .inr (.inl ⟨_, _, rfl, rfl⟩)⟩
      · exact ⟨.int 0 t5, by cases bothLack kvs <;> rfl, .inr (.inl ⟨_, _, rfl, rfl⟩)⟩
      · exact ⟨.int 0 t6, by cases bothLack kvs <;> rfl, .inr (.inl ⟨_, _, rfl, rfl⟩)⟩
      · exact ⟨.str (guessOf kvs) tg, by cases bothLack kvs <;> rfl, .inl ⟨_, _, _, rfl, rfl, by rcases guess_cases kvs with e | e | e <;> rw [e] <;> decide +kernel⟩⟩
    · split at h
      · rename_i hb
        rw [hb]
        simp only [List.mem_cons, List.not_mem_nil, or_false, Prod.mk.injEq] at h
        rcases h with ⟨rfl, rfl⟩ | ⟨rfl, rfl⟩
        · exact ⟨_, rfl, .inl ⟨_, _, _, rfl, rfl, by decide +kernel⟩⟩
        · exact ⟨_, rfl, .inl ⟨_, _, _, rfl, rfl, by decide +kernel⟩⟩
      · cases h
  · cases hp : portOf (schemeOf kvs) with
    | none => rw [hp] at h; cases h
    | some pt =>
      rw [hp] at h
      cases List.mem_singleton.mp h
      exact ⟨.str pt tp, by cases bothLack kvs <;> rfl, .inl ⟨_, _, _, rfl, rfl, port_ok hp⟩⟩
theorem input_new {kvs kve : List (Str × Value)} {tv xb xe : Addr} (hr : SetupRel kvs kve tv xb xe) (h : valueAt kvs (Str.ofString "wsgi.input") = none) : valueAt kve (Str.ofString "wsgi.input") = some (.ref xb) := by
  obtain ⟨t1, t2, t3, t4, t5, t6, ta, tb, tg, tp, _, rfl⟩ := hr
  rw [val3 h]
  cases bothLack kvs <;> rfl
theorem errors_new {kvs kve : List (Str × Value)} {tv xb xe : Addr} (hr : SetupRel kvs kve tv xb xe) (h : valueAt kvs (Str.ofString "wsgi.errors") = none) : valueAt kve (Str.ofString "wsgi.errors") = some (.ref xe) := by
  obtain ⟨t1, t2, t3, t4, t5, t6, ta, tb, tg, tp, _, rfl⟩ := hr
  rw [val3 h]
  cases bothLack kvs <;> rfl
theorem names_has {kvs kve kvd : List (Str × Value)} {tv tv2 xb xe : Addr} (hr : SetupRel kvs kve tv xb xe) (hd : DueL kvs kvd tv2) {q : Str} (h : q ∈ foldS (keysOf kvs ++ keysOf kvd ++ [Str.ofString "wsgi.input", Str.ofString "wsgi.errors"])) : ∃ u, valueAt kve q = some u := by
  have := key_iff.mp ((setup_keys hr hd).mpr h)
  exact Option.isSome_iff_exists.mp this
theorem names_ok {kvs kvd : List (Str × Value)} {tv2 : Addr} (hk : ∀ q u, (q, u) ∈ kvs → q ∈ namesAll) (hd : DueL kvs kvd tv2) : ∀ q ∈ foldS (keysOf kvs ++ keysOf kvd ++ [Str.ofString "wsgi.input", Str.ofString "wsgi.errors"]), PyData.strOk q = true := by
  intro q h
  rw [foldS_mem] at h
  have hA : ∀ q ∈ namesAll, PyData.strOk q = true := by decide +kernel
  have hB : ∀ q ∈ ([Str.ofString "SERVER_NAME", Str.ofString "SERVER_PROTOCOL", Str.ofString "REQUEST_METHOD", Str.ofString "wsgi.version", Str.ofString "HTTP_HOST", Str.ofString "wsgi.run_once", Str.ofString "wsgi.multithread", Str.ofString "wsgi.multiprocess", Str.ofString "wsgi.url_scheme", Str.ofString "SCRIPT_NAME", Str.ofString "PATH_INFO", Str.ofString "SERVER_PORT", Str.ofString "wsgi.input", Str.ofString "wsgi.errors"] : List Str), PyData.strOk q = true := by decide +kernel
  rcases List.mem_append.mp h with h | h
  · rcases List.mem_append.mp h with h | h
    · obtain ⟨p, hp, rfl⟩ := List.mem_map.mp h
      exact hA _ (hk _ _ hp)
    · refine hB _ ?_
      obtain ⟨s1, s2, s3, s5, s6, s9, sa, sb, sc, rfl⟩ := hd
      unfold keysOf at h
      cases bothLack kvs <;> cases portOf (schemeOf kvs) <;> simp at h ⊢ <;> grind
  · refine hB _ ?_
    simp at h ⊢
    rcases h with h | h <;> simp [h]
end Mine
end

section
open PySem PySem.W PyProof.Rows PyProof.V PySem.Calls PySem.Spec
set_option maxRecDepth 100000
namespace Mine
def tupO (a b : Tok) : Obj := Obj.mk (.type "tuple") none (.seq #[Value.int 1 a, Value.int 0 b]) #[]
theorem tup_reads {h : Heap} {a : Addr} {x y : Tok} (e : h.get? a = some (tupO x y)) : Reads h (.ref a) (.tuple [.int 1, .int 0]) [] :=
  Reads.tuple (vs := #[Value.int 1 x, Value.int 0 y]) e rfl rfl (.cons (.int _ _) (.cons (.int _ _) .nil))
section
variable {prog : Program} {w : World} {A : Around} {E : Value → Shared → Prop} {s : Shared} {h₀ : Heap} {L tve tvd l : Addr} {ol : Obj} {e u : Value} {news : List (Addr × Obj)} {ta tb tc td : Tok}
theorem alike_reads (ha : Alike tve tvd l ol e u) (N : News h₀ L s.heap news) (h1 : (tve, tupO ta tb) ∈ news) (h2 : (tvd, tupO tc td) ∈ news) (h3 : (l, ol) ∈ news) :
    ∃ d as bs, Reads s.heap e d as ∧ Reads s.heap u d bs ∧ SeqAt.shaped d = true ∧ SeqAt.noMix d d = true ∧ PySem.Spec.same d d = true := by
  rcases ha with ⟨x, t1, t2, rfl, rfl, hx⟩ | ⟨t1, t2, rfl, rfl⟩ | ⟨rfl, rfl⟩ | ⟨rfl, rfl⟩ | ⟨rfl, rfl, q, t, x, v, c, rfl, hq⟩
  · exact ⟨.str x, _, _, .str _ _, .str _ _, by simp [SeqAt.shaped, PyData.canLay0, PyData.depth, hx], rfl, by simp [PySem.Spec.same]⟩
  · exact ⟨.int 0, _, _, .int _ _, .int _ _, rfl, rfl, rfl⟩
  · exact ⟨_, _, _, tup_reads (N _ h1).1, tup_reads (N _ h2).1, rfl, rfl, rfl⟩
  · exact ⟨.none, _, _, .none, .none, rfl, rfl, rfl⟩
  · have hl : s.heap.IsList l #[Value.str q t, Value.int x v] := News.isList N h3
    have r := reads_newData (ys := [Value.str q t, Value.int x v]) (ds := [.str q, .int x]) hl (.cons (.str _ _) (.cons (.int _ _) .nil))
    refine ⟨_, _, _, r, r, ?_, rfl, ?_⟩
    · simp [SeqAt.shaped, PyData.canLay0, PyData.canLayAll0, PyData.depth, PyData.depthAll, hq]
    · simp [PySem.Spec.same, PySem.Spec.sameAll]
theorem alike_ne {Q : Value → Shared → Prop} (ha : Alike tve tvd l ol e u) (N : News h₀ L s.heap news) (h1 : (tve, tupO ta tb) ∈ news) (h2 : (tvd, tupO tc td) ∈ news) (h3 : (l, ol) ∈ news) (hu : A.units + 64 < cLine) (h : Q (.bool false) s) :
    wpAny (model prog w) A (compareOp .NotEq e u) Q E s := by
  obtain ⟨d, as, bs, r1, r2, hs, hm, hd⟩ := alike_reads ha N h1 h2 h3
  exact ne_dataH_same r1 r2 hs hs hu hm (by rw [hd]; exact h)
theorem alike_kind (ha : Alike tve tvd l ol e u) : ∃ T : String, (Value.type T == Value.type "builtin_function_or_method") = false ∧ ∀ (s : Shared) (h₀ : Heap) (L : Addr) (news : List (Addr × Obj)), News h₀ L s.heap news → (tve, tupO ta tb) ∈ news → (tvd, tupO tc td) ∈ news → (l, ol) ∈ news → s.TypeIs e T ∧ s.TypeIs u T := by
  rcases ha with ⟨x, t1, t2, rfl, rfl, hx⟩ | ⟨t1, t2, rfl, rfl⟩ | ⟨rfl, rfl⟩ | ⟨rfl, rfl⟩ | ⟨rfl, rfl, q, t, x, v, c, rfl, hq⟩
  · exact ⟨"str", by decide +kernel, fun s h₀ L news N h1 h2 h3 => ⟨rfl, rfl⟩⟩
  · exact ⟨"int", by decide +kernel, fun s h₀ L news N h1 h2 h3 => ⟨rfl, rfl⟩⟩
  · exact ⟨"tuple", by decide +kernel, fun s h₀ L news N h1 h2 h3 => ⟨⟨_, (N _ h1).1, rfl⟩, ⟨_, (N _ h2).1, rfl⟩⟩⟩
  · exact ⟨"NoneType", by decide +kernel, fun s h₀ L news N h1 h2 h3 => ⟨rfl, rfl⟩⟩
  · exact ⟨"list", by decide +kernel, fun s h₀ L news N h1 h2 h3 => ⟨⟨_, (N _ h3).1, rfl⟩, ⟨_, (N _ h3).1, rfl⟩⟩⟩
theorem alike_type {Q : Value → Shared → Prop} {v : Value} {T : String} (hn : (Value.type T == Value.type "builtin_function_or_method") = false) (h : s.TypeIs v T) (hq : Q (.type T) s) : wpAny (model prog w) A (call (.type "type") [v]) Q E s := call_type_of h hn hq
theorem isNot_type {Q : Value → Shared → Prop} {T : String} (h : Q (.bool false) s) : wpAny (model prog w) A (compareOp .IsNot (.type T) (.type T)) Q E s := wpAny_isNot_self (by rfl) h
end
end Mine
end

section
open PySem PySem.W PyProof.Rows PySem.Calls
set_option maxRecDepth 100000
set_option maxHeartbeats 1000000
namespace Mine
namespace BA
theorem slot_len : Slot "bytearray" "__len__" "bytearray.__len__" :=
  .of (owner := "bytearray") (n := "__len__") (by rw [typeLookup_type, builtinLookup_eq_fast]; kernel_rfl) (by decide +kernel) (by decide +kernel) (by decide +kernel)
    (by first | exact .inl (by decide +kernel) | exact .inr (by decide +kernel)) (by rw [isSubtype_type]; kernel_rfl)
theorem entry_len : entryFor table "bytearray.__len__" = some Builtin.«bytearray.__len__» := entryFor_of_tree (by kernel_rfl)
theorem args_len (a : Value) : argsOk "bytearray.__len__" ⟨[a], []⟩ := by unfold argsOk; kernel_rfl
end BA
section
variable {prog : Program} {w : World} {A : Around} {E : Value → Shared → Prop} {s : Shared}
theorem ba_len {b : Addr} {bs : Array UInt8} {Q : Value → Shared → Prop} (ho : s.heap.get? b = some { cls := .type "bytearray", data := .bytearray bs }) (hfit : (bs.size : Int) < 2 ^ 63)
    (h : Q (.int bs.size (s.toks + 1)) { s with toks := s.toks + 1 + 1 }) : wpAny (model prog w) A (call (.builtin "len") [.ref b]) Q E s := by
  have hT : s.TypeIs (.ref b) "bytearray" := ⟨_, ho, rfl⟩
  refine call_function_entry kind_len plain_len entry_len (args_len1 _) ?_
  unfold Builtin.«len»
  refine wpAny_bind (m := oneArg "len" _) (wpAny_pure ?_)
  refine wpAny_bind (m := callSpecial? (.ref b) (Str.ofString "__len__")) (wpAny_callSpecial?_slot (name := Str.ofString "__len__") hT BA.slot_len
    (wpAny_call_entry BA.slot_len hT BA.entry_len ?_ (BA.args_len _)))
  show wpAny _ _ (do retInt (← Builtin.Bytes.payload (.ref b)).size) _ _ s
  unfold Builtin.Bytes.payload Builtin.Bytes.payload?
  refine wpAny_bind (wpAny_bind (wpAny_bind (wpAny_load ho (wpAny_pure ?_))))
  refine wpAny_pure (wpAny_bind (wpAny_mkInt (wpAny_pure ⟨_, rfl, ?_⟩)))
  refine wpAny_bind (wpAny_holding (wpAny_pure ?_))
  refine wpAny_bind (wpAny_letGo ?_)
  show wpAny _ _ (if ((bs.size : Nat) : Int) < 0 then _ else _) _ _ _
  rw [if_neg (by omega)]
  show wpAny _ _ (if ((bs.size : Nat) : Int) ≥ 2 ^ 63 then _ else _) _ _ _
  rw [if_neg (by omega)]
  exact wpAny_bind (wpAny_mkInt (wpAny_pure ⟨_, rfl, h⟩))
theorem ba_len0 {h₀ : Heap} {L b : Addr} {news : List (Addr × Obj)} {Q : Value → Shared → Prop} (N : News h₀ L s.heap news) (hm : (b, Obj.mk (.type "bytearray") none (.bytearray #[]) #[]) ∈ news)
    (h : Q (.int 0 (s.toks + 1)) { s with toks := s.toks + 1 + 1 }) : wpAny (model prog w) A (call (.builtin "len") [.ref b]) Q E s := ba_len (bs := #[]) (N _ hm).1 (by decide) h
end
end Mine
end

section
open PySem PySem.W PySem.Spec PyProof.Rows PySem.Calls
set_option maxRecDepth 100000
namespace Mine
theorem thread_endsR {prog : Program} {w : World} {t : Sem Fin} {s : Shared} {R : Result → Shared → Prop} (hreg : s.asleep)
    (h : wpR (model prog w) callerA t (fun fin s' => ∃ f, fin = .done f ∧ (R (.ok f) s' ∧ leftWithCleanup s'.gens = false)) (fun e s' => R (.error e) s' ∧ leftWithCleanup s'.gens = false) s) :
    ∃ n r s' s'', runN (denote table) prog w n s ⟨t, .builtin "claim.caller" {}, default, []⟩ = .halted (outcomeOf r) s' ∧
      schedN (denote table) prog w n (.single s ⟨t, .builtin "claim.caller" {}, default, []⟩) = .halted (outcomeOf r) s' ∧ s'.forget = s''.forget ∧ R r s'' := by
  have hwp : Sem.wp (model prog w) ⟨.builtin "claim.caller" {}, none, none, [], none⟩ t (Sem.finPost (model prog w) ⟨.builtin "claim.caller" {}, none, none, [], none⟩ (fun r s' => R r s' ∧ leftWithCleanup s'.gens = false)) (fun e _ s' => R (.error e) s' ∧ leftWithCleanup s'.gens = false) default s := by
    refine Sem.wp_mono _ _ t (fun fin p' s' h' => ?_) (fun _ _ _ h' => h') default s (h _ default caller_in (isDec_id (by decide +kernel)) (fun q hq => nomatch hq))
    obtain ⟨f, rfl, hf⟩ := h'
    exact hf
  obtain ⟨n, r, s₁, s₂, hs, hn, hfo, hR⟩ := wp_halts_full (M := model prog w) (R := R) hreg hwp
  exact ⟨n, r, s₂, s₁, hn, hs, hfo, hR⟩
theorem callFromR {c : ClaimW} {tree : List Value → Sem Fin} {w : World} {s : Shared} {free : Addr → Prop} {gens : Prop} {kept : Heap → Prop} (hz : s.asleep) (hgens : s.gens = #[])
    (hspec : ∀ args, c.pre args = true → WData.layableAll args = true →
      ∀ ord : List DictEntry → List DictEntry, (∀ l, (ord l).Perm l) →
      ∃ vs s₁, layAllW c.records (classAt s.heap) w.params ord args s = some (vs, s₁) ∧
        wpR (model c.prog w) callerA (tree vs) (fun fin s' => ∃ f, fin = .done f ∧ (c.Ends s args vs s₁ (.ok f) s' ∧ s'.os = s.os ∧ AllBare s'.gens ∧ kept s'.heap))
          (fun e s' => c.Ends s args vs s₁ (.error e) s' ∧ s'.os = s.os ∧ AllBare s'.gens ∧ kept s'.heap) s₁) :
    c.CallFrom (fun vs => ⟨tree vs, .builtin "claim.caller" {}, default, []⟩) w free gens kept s := by
  intro args hpre hlay ord hord
  obtain ⟨vs, s₁, hlaid, hcode⟩ := hspec args hpre hlay ord hord
  have hal := layAllW_rest _ _ _ hlaid
  obtain ⟨k, r, s', s'', hrun, hsched, hfo, hcase, hos, hkp⟩ := thread_endsR (prog := c.prog) (w := w) (t := tree vs) (s := s₁)
    (R := fun r s' => c.Ends s args vs s₁ r s' ∧ s'.os = s.os ∧ kept s'.heap)
    (Shared.asleep_of_life hal.2.2.2 hz)
    (wpR_mono hcode (by
      rintro fin s' ⟨f, e, h1, h2, h3, h4⟩
      exact ⟨f, e, ⟨h1, h2, h4⟩, leftWithCleanup_false_of_bare h3⟩) (by
      rintro e s' ⟨h1, h2, h3, h4⟩
      exact ⟨⟨h1, h2, h4⟩, leftWithCleanup_false_of_bare h3⟩))
  obtain ⟨eh, _, _, eo, _⟩ := Shared.forget_eq hfo
  have hcase := hcase.congr eh
  have hkp : kept s'.heap := by first | exact eh ▸ hkp | (rw [eh] at hkp; exact hkp) | (rw [← eh] at hkp; exact hkp)
  rw [← eo] at hos
  have hlife : s'.heap.life = s.heap.life := (runN_life _ _ _ hrun).trans hal.2.2.2
  refine ⟨vs, s₁, hlaid, k, _, s', hsched, ?_, (fun _ i x hx => by rw [hgens] at hx; simp at hx), hkp, by rw [hlife], Shared.rest_eq hos⟩
  rcases hcase with ⟨v, rfl, d1, d2, d3, d4, d5⟩ | ⟨e, ob, cls, rfl, d1, d2, d3, d4, d5⟩
  · exact .inl ⟨v, rfl, d1, d2, d3, fun b o y _ => d4 b o y, d5⟩
  · exact .inr ⟨e, ob, cls, rfl, d1, d2, d3, d4, fun b o y _ => d5 b o y⟩
theorem openR {r : RowW} {run : Value → List Value → Sem Value} {tree : List Value → Sem Fin} {q : Program} {loose defs kps : List Str} {writes : Bool} {Xt : Shared → Bool} {XP : (Str → Option Value) → Heap → Prop} {α : Type} {Yf : Shared → α} {Ya : World → α} {YP : World → Heap → Prop} {N : Nat}
    (left : LeftO r.prog q loose Xt Yf Ya N) (hY : ∀ w s, Yf s = Ya w → YP w s.heap) (hYk : ∀ w h h', YP w h → (∀ b o, h.get? b = some o → h'.get? b = some o) → YP w h') (hX : ∀ s, Xt s = true → XP (s.heap.nsMap mainGlobals) s.heap) (hXk : ∀ mg h h', XP mg h → (∀ b o, h.get? b = some o → h'.get? b = some o) → XP mg h')
    (hRf : ∀ s, Xt s = true → RecFacts r.records s.heap) (hwr : (!writes || r.records.isEmpty) = true) (ok : (chainsOk q && opensWell r.prog && (frees r && r.within.isEmpty)) = true) (hb : r.prog.bare) (hw : r.promised)
    (ht : ∀ vs (w : World) (s : Shared) mg f (Q : Fin → Shared → Prop) (E : Value → Shared → Prop), s.heap.Ns mainGlobals mg → mg r.name = some f → wpR (model r.prog w) callerA (run f vs) (fun v s' => Q (.done (.ret v)) s') E s → wpR (model r.prog w) callerA (tree vs) Q E s)
    (pin : ∀ w s, s.heap.isNs mainGlobals = true → Ground q loose [] XP w s (s.heap.nsMap mainGlobals) (s.heap.nsMap builtinsNs) s.heap → ∀ n ∈ defs, isTheDefsW r.prog s.heap n)
    (call : ∀ (w : World) (s₀ s₁ : Shared) (mg mb : Str → Option Value), Ground q loose r.records XP w s₀ mg mb s₁.heap → YP w s₁.heap → ∀ (args : List WData) (vs : List Value) (as : List Addr),
      r.claim.pre args = true → WData.layableAll args = true → Laid r.records w s₀ s₁ args vs as → sysModules < s₀.heap.objs.size → ∃ f, mg r.name = some f ∧
        wpR (model r.prog w) callerA (run f vs) (fun v s' => GoodWG r.claim (classAt s₀.heap) (ExcName.means s₀.heap) args s₁ (.ok (.ret v)) s')
          (fun e s' => GoodWG r.claim (classAt s₀.heap) (ExcName.means s₀.heap) args s₁ (.error e) s') s₁) : r.claim.HoldsOpenBy (fun vs => ⟨tree vs, .builtin "claim.caller" {}, default, []⟩) defs kps writes := by
  obtain ⟨ok, k5⟩ := Bool.and_eq_true_iff.mp ok
  obtain ⟨hch, o1⟩ := Bool.and_eq_true_iff.mp ok
  obtain ⟨k5, k6⟩ := Bool.and_eq_true_iff.mp k5
  obtain ⟨hsame, hu, ha, hap, hm⟩ := frees_parts k5
  refine ⟨⟨hb, o1, by show r.makers.map _ = []; rw [hm]; rfl⟩, hw.witness, fun w => ⟨(left.behind hX hch w).1, fun s' hs' => ?_⟩⟩
  obtain ⟨s₀, hf, hg0, s, hT, hz, hgens, hg, G00, y⟩ := (left.behind (XP := fun mg h => XP mg h ∧ RecFacts r.records h) (fun s hs => ⟨hX s hs, hRf s hs⟩) hch w).2 s' hs'
  have G0 : Ground q loose [] XP w s (s.heap.nsMap mainGlobals) (s.heap.nsMap builtinsNs) s.heap := ⟨G00.T, G00.B, G00.D, G00.TE, G00.TD, G00.W, G00.X.1, G00.cls, G00.has, G00.apart, G00.once, G00.K⟩
  have RF := G00.X.2
  have hT' := hT
  refine ⟨s₀, hf, hg0, s, hT, pin w s hg G0, RF.1, RF.2.1, ?_⟩
  have hgens : s.gens = #[] := Array.eq_empty_of_size_eq_zero (beq_iff_eq.mp hgens)
  have G : Ground q loose r.records XP w s _ _ s.heap := RF.ground G0
  refine callFromR (c := r.claim) hz hgens fun args hpre hlay ord hord => ?_
  obtain ⟨⟨vs, s₁⟩, hlaid⟩ := Option.isSome_iff_exists.mp (layAllW_isSome (P := w.params) (ord := ord) G.has args r.args s (pre_splitW hpre).1)
  have keeps := layAllW_keeps _ _ _ hlaid
  have hal := layAllW_rest _ _ _ hlaid
  obtain ⟨as, hrd, hin, hold⟩ := reads_layAllW hord _ _ _ hlaid hlay s₁.heap (fun _ _ e => e)
  have L : Laid r.records w s s₁ args vs as := ⟨⟨ord, hord, hlaid⟩, hrd, hin, hold, keeps, hal.1.trans hgens, hal.2.2.1⟩
  have G₁ := G.keeps hXk keeps
  obtain ⟨f, hf, h⟩ := call w s s₁ _ _ G₁ (hYk _ _ _ (hY w s y) keeps) args vs as hpre hlay L G.low
  have hi := ident_freeW hu ha hap
  have hwi : r.claim.within = [] := List.isEmpty_iff.mp k6
  exact ⟨vs, s₁, hlaid, ht vs w s₁ _ f _ _ G₁.T.g hf (wpR_mono h (fun v s' g => ⟨_, rfl, have z := g.laid (c := r.claim) hsame hwi hi L; ⟨z.1, z.2.1, z.2.2, fun q => ⟨namesKept_of hT' hg kps keeps g.2.1.old, noTable hwr q⟩⟩⟩) fun e s' g => have z := g.laid (c := r.claim) hsame hwi hi L; ⟨z.1, z.2.1, z.2.2, fun q => ⟨namesKept_of hT' hg kps keeps g.2.1.old, noTable hwr q⟩⟩)⟩
abbrev WalkR (q : Program) (loose : List Str) (XP : (Str → Option Value) → Heap → Prop) (YP : World → Heap → Prop) (r : RowW) (d : DefRec) (kwd : List (Str × PySem.Expr)) : Prop :=
  ∀ (w : World) (s₀ s₁ : Shared) (mg mb : Str → Option Value), Ground q loose r.records XP w s₀ mg mb s₁.heap → YP w s₁.heap → ∀ (a : Addr) (o : Obj) (pm cd doc dV kV : Value), s₁.heap.get? a = some o →
    o.data = .func { docDef d.name d.params d.body d.scope pm cd doc with defaults := dV, kwdefaults := kV } → s₁.heap.CodeRec cd d.name → Dflts mg s₁.heap d.params kwd dV kV → mg d.name = some (.ref a) → s₁.gens = #[] →
    ∀ (args : List WData) (vals : List Value) (as : List Addr), r.claim.pre args = true → WData.layableAll args = true → ReadsAllW r.records (classAt s₀.heap) s₁.heap vals args as → WellAll w.params s₁.heap vals args → (∀ a ∈ as, (a == sysModules) = false) →
      wpR (model r.prog w) callerA (PySem.call (.ref a) vals) (fun v s' => GoodWG r.claim (classAt s₀.heap) (ExcName.means s₀.heap) args s₁ (.ok (.ret v)) s')
        (fun e s' => GoodWG r.claim (classAt s₀.heap) (ExcName.means s₀.heap) args s₁ (.error e) s') s₁
namespace PySem.W
theorem holds_open {r : OpenRow} {q : Program} {loose : List Str} {Xt : Shared → Bool} {XP : (Str → Option Value) → Heap → Prop} {α : Type} {Yf : Shared → α} {Ya : World → α} {YP : World → Heap → Prop} {d : DefRec} {kwd : List (Str × PySem.Expr)} {N : Nat}
    (left : LeftO r.prog q loose Xt Yf Ya N) (hY : ∀ w s, Yf s = Ya w → YP w s.heap) (hYk : ∀ w h h', YP w h → (∀ b o, h.get? b = some o → h'.get? b = some o) → YP w h')
    (hX : ∀ s, Xt s = true → XP (s.heap.nsMap mainGlobals) s.heap) (hXk : ∀ mg h h', XP mg h → (∀ b o, h.get? b = some o → h'.get? b = some o) → XP mg h')
    (hdef : defOf q r.name = some (d, kwd)) (hp : r.prog.theDef r.name = some (d.params, d.body, d.scope)) (hk : kwWritten? d.params.kwonlyargs d.params.kw_defaults = some kwd) (hRf : ∀ s, Xt s = true → RecFacts r.records s.heap) (hwr : (!r.writes || r.records.isEmpty) = true)
    (k1 : r.wellSaid = true) (ok : (chainsOk q && opensWell r.prog && (frees r.toRowW && r.within.isEmpty)) = true) (hb : r.prog.bare) (hw : r.toRowW.promised)
    (call : WalkR q loose XP YP r.toRowW d kwd) : r.Holds := by
  refine ⟨k1, hw, openR (r := r.toRowW) (run := fun f vs => PySem.call f vs) (tree := fun vs => do match ← nsGet mainNs r.name with
      | some f => do ret (← PySem.call f vs)
      | none => unsupported "claim.caller:no-such-global") left hY hYk hX hXk hRf hwr ok hb hw
    (fun vs w s mg f Q E hg hf h => wpR_bind (wpR_of (wpAny_nsGet hg (by rw [hf]; exact wpR_bind (wpR_mono h (fun _ _ x => wpR_pure x) fun _ _ x => x)))))
    (fun w s hg G n hn => ?_) fun w s₀ s₁ mg mb G Y args vs as hpre hlay L low => ?_⟩
  · obtain rfl : n = r.name := by split at hn <;> simp_all
    exact pinned_of_view hg G hdef hp hk
  · obtain ⟨a, o, pm, cd, doc, dV, kV, h1, h2, h3, h4, h5⟩ := G.fn hdef
    exact ⟨.ref a, h1, call w s₀ s₁ mg mb G Y a o pm cd doc dV kV h2 h3 h4 h5 (defOf_name hdef ▸ h1) L.gens args vs as hpre hlay L.reads L.well (L.low low)⟩
end PySem.W
end Mine
end

section
open PySem PySem.W PySem.Spec PyProof.Rows PySem.Calls
set_option maxRecDepth 100000
namespace Mine
/-! the top in few checks, over trees of objects; the last part ends in the looks, so that its end is never written out -/
def topRunT (tb : String → Option Builtin) (p : Program) (w : World) (n₀ : Nat) (ann : Option Value) : Nat → SharedT → Thread → Option SharedT
  | 0, _, _ => none
  | n + 1, s, t => match through t with
    | true => some s
    | false => match stepOk n₀ ann t with
      | false => none
      | true => match stepT (denote tb) p w s t with
        | some (s', t') => topRunT tb p w n₀ ann n s' t'
        | none => none
theorem topRun_ofT {tb : String → Option Builtin} {p : Program} {w : World} {n₀ : Nat} {ann : Option Value} : ∀ {n : Nat} {s r : SharedT} {t : Thread}, topRunT tb p w n₀ ann n s t = some r → topRun tb p w n₀ ann n s.abs t = some r.abs
  | 0, _, _, _, h => by cases h
  | n + 1, s, r, t, h => by
    unfold topRunT at h
    unfold topRun
    cases he : through t with
    | true => rw [he] at h; cases h; rfl
    | false =>
      rw [he] at h
      cases hk : stepOk n₀ ann t with
      | false => rw [hk] at h; cases h
      | true =>
        rw [hk] at h
        cases hs : stepT (denote tb) p w s t with
        | none => rw [hs] at h; cases h
        | some q => obtain ⟨s₂, t₂⟩ := q; rw [hs] at h; rw [stepT_spec hs]; exact topRun_ofT h
def btIns : BT → Nat → List Obj → BT
  | t, _, [] => t
  | t, n, o :: r => btIns (t.ins n o) (n + 1) r
section
variable {tb : String → Option Builtin} {p : Program} {w : World} {n₀ : Nat} {ann : Option Value} {env : Env} {q : Pos}
theorem piece_last {n N : Nat} {s s' r : Shared} {l : List Stmt} {c c' : Code} {pos p' : Pos} (h : segRun tb p w n₀ ann 1 n s (piecesOf l env c pos [topFrame q]) = some (.next, s', c', p'))
    (k : topRun tb p w n₀ ann N s' ⟨doneF .next, c', p', [topFrame q]⟩ = some r) : topRun tb p w n₀ ann (n + N) s (restOf l env c pos [topFrame q]) = some r := by
  obtain ⟨a, ha, hN⟩ := seg_top (res := id) (K' := fun f => match f with | .next => (execs [] env).wrap doneF (leaveH env) id id | f => doneF f) (H' := leaveH env) (B := [topFrame q]) rfl n s (piecesOf l env c pos [topFrame q])
    ⟨(execs l env).wrap (fun f => match f with | .next => (execs [] env).wrap doneF (leaveH env) id id | f => doneF f) (leaveH env) id id, c, pos, [topFrame q]⟩ _ _ _ _ ⟨rfl, rfl, .inl ⟨rfl, rfl, _, rfl, rfl⟩⟩ h
  obtain rfl : a = .next := ha
  have := hN N r k
  unfold restOf
  have e := execs_app_wrap (env := env) l [] doneF (leaveH env) id id
  rw [List.append_nil] at e
  rw [e]
  exact this
end
/-- what is looked at behind the top -/
def endLooks (p q : Program) (loose : List Str) (Xt : Shared → Bool) {α : Type} (Yf : Shared → α) (g0 : Bool) (h₀ : Heap) (s : Shared) :=
  ((staticsOk (importedModules p.main.body) h₀ s.heap && namesBound p s.heap && gensDone s && laidKept h₀ s.heap), openSeen q loose (importedModules p.main.body) Xt g0 s, Yf s)
def lastPart {β : Type} (p : Program) (w : World) (n₀ : Nat) (ann : Option Value) (q : Pos) (M : Nat) (f : Shared → β) (r : Flow × SharedT × Code × Pos) : Option β := match r with
  | (.next, s, c, pos) => (topRunT treeTable p w n₀ ann M s ⟨doneF .next, c, pos, [topFrame q]⟩).map fun r => f r.abs
  | _ => none
theorem left_of_parts {p q : Program} {loose : List Str} {Xt : Shared → Bool} {α : Type} {Yf : Shared → α} {Ya : World → α} {g0 : Bool} {n₀ na nb M1 M2 M3 M4 Mf : Nat} {ann : Option Value} {env : Env} {fr posA posB pos1 pos2 pos3 : Pos}
    {Ha : Params → Heap} {Tb T1 T2 T3 : Params → BT} {zb z1 z2 z3 : Nat} {life : Life} {ga gb g1 g2 g3 : Array GenState} {da db d1 d2 d3 : Drawn} {ka kb k1 k2 k3 : Nat} {l1 l2 l3 l4 : List Stmt}
    (open_ : ∀ w : World, (fencedOpening treeTable p w (na + (nb + (M1 + (M2 + (M3 + (M4 + Mf))))))).map (fun s => (s.heap, s.gens, s.drawn, s.toks)) = some (boot_heap w.params, Array.mk [], boot_drawn, boot_toks))
    (size : ∀ P, ((boot_heap P).isNs mainGlobals, (boot_heap P).objs.size, (boot_heap P).nsMap mainGlobals "__annotations__") = (true, n₀, ann))
    (pre : ∀ (w : World) (os : OsState), topGo treeTable p w n₀ ann na ⟨boot_heap w.params, Array.mk [], boot_drawn, boot_toks, os⟩ (topStub p) =
      some (⟨Ha w.params, ga, da, ka, os⟩, ⟨denote treeTable (.body (behindTheImports p) env), .body (behindTheImports p) env, posA, [topFrame fr]⟩))
    (block : ∀ (w : World) (os : OsState), segRun treeTable p w n₀ ann 1 nb ⟨Ha w.params, ga, da, ka, os⟩ (blockOf (behindTheImports p) env (.body (behindTheImports p) env) posA [topFrame fr]) =
      some (.next, SharedT.abs ⟨Tb w.params, zb, life, gb, db, kb, os⟩, .body (behindTheImports p) env, posB))
    (body : behindTheImports p = l1 ++ (l2 ++ (l3 ++ l4)))
    (part1 : ∀ (w : World) (os : OsState), segRunT treeTable p w n₀ ann 1 M1 ⟨Tb w.params, zb, life, gb, db, kb, os⟩ (piecesOf l1 env (.body (behindTheImports p) env) posB [topFrame fr]) =
      some (.next, ⟨T1 w.params, z1, life, g1, d1, k1, os⟩, .body (behindTheImports p) env, pos1))
    (part2 : ∀ (w : World) (os : OsState), segRunT treeTable p w n₀ ann 1 M2 ⟨T1 w.params, z1, life, g1, d1, k1, os⟩ (piecesOf l2 env (.body (behindTheImports p) env) pos1 [topFrame fr]) =
      some (.next, ⟨T2 w.params, z2, life, g2, d2, k2, os⟩, .body (behindTheImports p) env, pos2))
    (part3 : ∀ (w : World) (os : OsState), segRunT treeTable p w n₀ ann 1 M3 ⟨T2 w.params, z2, life, g2, d2, k2, os⟩ (piecesOf l3 env (.body (behindTheImports p) env) pos2 [topFrame fr]) =
      some (.next, ⟨T3 w.params, z3, life, g3, d3, k3, os⟩, .body (behindTheImports p) env, pos3))
    (part4 : ∀ (w : World) (os : OsState), (segRunT treeTable p w n₀ ann 1 M4 ⟨T3 w.params, z3, life, g3, d3, k3, os⟩ (piecesOf l4 env (.body (behindTheImports p) env) pos3 [topFrame fr])).bind
      (lastPart p w n₀ ann fr Mf (endLooks p q loose Xt Yf g0 (boot_heap w.params))) = some (true, openGood q loose, Ya w)) :
    LeftO p q loose Xt Yf Ya (na + (nb + (M1 + (M2 + (M3 + (M4 + Mf)))))) g0 := fun w => by
  obtain ⟨⟨h, gs, d, k, os⟩, e, e'⟩ := Option.map_eq_some_iff.mp (open_ w)
  obtain ⟨rfl, rfl, rfl, rfl⟩ : h = boot_heap w.params ∧ gs = Array.mk [] ∧ d = boot_drawn ∧ k = boot_toks := by simpa using e'
  obtain ⟨⟨f, s3, c3, p3⟩, h3, h4⟩ := Option.bind_eq_some_iff.mp (part4 w os)
  have h5 : ∃ r, f = .next ∧ topRunT treeTable p w n₀ ann Mf s3 ⟨doneF .next, c3, p3, [topFrame fr]⟩ = some r ∧ endLooks p q loose Xt Yf g0 (boot_heap w.params) r.abs = (true, openGood q loose, Ya w) := by
    cases f with
    | next =>
      obtain ⟨r, hr, hl⟩ := Option.map_eq_some_iff.mp h4
      exact ⟨r, rfl, hr, hl⟩
    | _ => cases h4
  obtain ⟨r, rfl, hr, hl⟩ := h5
  have l1' := congrArg Prod.fst hl
  have l2' := congrArg Prod.snd hl
  obtain ⟨z1', z2'⟩ : _ ∧ _ := by simpa only [Prod.mk.injEq] using size w.params
  have run : topRun treeTable p w n₀ ann (na + (nb + (M1 + (M2 + (M3 + (M4 + Mf)))))) ⟨boot_heap w.params, Array.mk [], boot_drawn, boot_toks, os⟩ (topStub p) = some r.abs := by
    refine go_top (pre w os) (piece_block (block w os) ?_)
    rw [show restOf (behindTheImports p) env (.body (behindTheImports p) env) posB [topFrame fr] = restOf (l1 ++ (l2 ++ (l3 ++ l4))) env (.body (behindTheImports p) env) posB [topFrame fr] from congrArg (fun l => restOf l env (.body (behindTheImports p) env) posB [topFrame fr]) body]
    exact piece_app (segRun_of (part1 w os)) (piece_app (segRun_of (part2 w os)) (piece_app (segRun_of (part3 w os)) (piece_last (segRun_of h3) (topRun_ofT hr))))
  have t : topFrom treeTable p w (na + (nb + (M1 + (M2 + (M3 + (M4 + Mf)))))) ⟨boot_heap w.params, Array.mk [], boot_drawn, boot_toks, os⟩ = some r.abs := by
    unfold topFrom
    dsimp only
    rw [z1', z2'.1, z2'.2, run]
    dsimp only [Option.bind_some, Option.bind]
    have l1'' : (staticsOk (importedModules p.main.body) (boot_heap w.params) r.abs.heap && namesBound p r.abs.heap && gensDone r.abs && laidKept (boot_heap w.params) r.abs.heap) = true := l1'
    rw [l1'']
    rfl
  unfold openEnds
  rw [e]
  show Option.map _ (topFrom treeTable p w _ _) = _
  rw [t]
  exact congrArg some l2'
end Mine
end

section
open PySem PySem.W PySem.Spec PyProof.Rows PySem.Calls
set_option maxRecDepth 100000
set_option maxHeartbeats 4000000
namespace Mine
/-! the states of the top at four places, written by a program (wip/mkhead.py and a print of the kit's own state) -/
abbrev prog4 : Program := PySem.Challenge.rw_kp0085_04.row.toRowW.prog
def fdA : Stmt → Arguments
  | .FunctionDef _ a _ _ _ _ _ _ _ _ => a
  | _ => default
def fdB : Stmt → List Stmt
  | .FunctionDef _ _ b _ _ _ _ _ _ _ => b
  | _ => []
def fdS : Stmt → Scope
  | .FunctionDef _ _ _ _ _ _ s _ _ _ => s
  | _ => default
def clB : Stmt → List Stmt
  | .ClassDef _ _ _ b _ _ _ _ _ _ _ => b
  | _ => []
noncomputable def stm (i : Nat) : Stmt := (prog4.main.body[i]?).getD default
noncomputable def mth (i j : Nat) : Stmt := ((clB (stm i))[j]?).getD default
noncomputable def obA0 (P : Params) : List Obj := [
  (Obj.mk (Value.type "tuple") (none) (Data.seq #[] 0) #[])]
noncomputable def obA1 (P : Params) : List Obj := [
  (Obj.mk Value.none (none) (Data.fields #[]) #[])]
noncomputable def obA2 (P : Params) : List Obj := [
  (Obj.mk (Value.type "code") (none) (Data.fields #[(Value.str (Str.ofString "<module>") 182), (Value.str (Str.ofString "<module>") 183), (Value.str (Str.ofString "/claim/cut.py") 184), (Value.int 1 0), (Value.int 0 0), (Value.int 0 0), (Value.int 0 0), (Value.int 0 0), (Value.ref 11), (Value.bool false), (Value.int 181 0), (Value.ref 12), Value.none, Value.none, Value.none, Value.none, (Value.int 185 0), (Value.int 1 0), (Value.str (Str.ofString "/claim/cut.py") 186)]) #[]),
  (Obj.mk (Value.type "frame") (none) Data.plain #[(some (Value.ref 13)), (some (Value.ref 3)), (some (Value.ref 3)), (none), (some (Value.str (Str.ofString "__main__") 164)), (none), (some (Value.ref 0))])]
noncomputable def obB2 (P : Params) : List Obj := [
  (Obj.mk Value.none (none) (Data.dict #[(DictEntry.mk (PyData.keyHash P (Str.ofString "type.__subclasses__.OSError.0")) (Value.str (Str.ofString "type.__subclasses__.OSError.0") 239) (Value.int 52 0)), (DictEntry.mk (PyData.keyHash P (Str.ofString "type.__subclasses__.OSError.n")) (Value.str (Str.ofString "type.__subclasses__.OSError.n") 240) (Value.int 1 0))] 2) #[])]
noncomputable def obB3 (P : Params) : List Obj := [
  (Obj.mk (Value.type "dict") (none) (Data.dict #[(DictEntry.mk (PyData.keyHash P (Str.ofString "__name__")) (Value.str (Str.ofString "__name__") 165) (Value.str (Str.ofString "io") 203)), (DictEntry.mk (PyData.keyHash P (Str.ofString "__doc__")) (Value.str (Str.ofString "__doc__") 166) Value.none), (DictEntry.mk (PyData.keyHash P (Str.ofString "__package__")) (Value.str (Str.ofString "__package__") 167) Value.none), (DictEntry.mk (PyData.keyHash P (Str.ofString "__loader__")) (Value.str (Str.ofString "__loader__") 168) (Value.builtin "__main__.__loader__#opaque")), (DictEntry.mk (PyData.keyHash P (Str.ofString "__spec__")) (Value.str (Str.ofString "__spec__") 169) Value.none), (DictEntry.mk (PyData.keyHash P (Str.ofString "__annotations__")) (Value.str (Str.ofString "__annotations__") 170) (Value.ref 6)), (DictEntry.mk (PyData.keyHash P (Str.ofString "__builtins__")) (Value.str (Str.ofString "__builtins__") 171) (Value.ref 4)), (DictEntry.mk (PyData.keyHash P (Str.ofString "__file__")) (Value.str (Str.ofString "__file__") 173) (Value.str (Str.ofString "/claim/cut.py") 172)), (DictEntry.mk (PyData.keyHash P (Str.ofString "__cached__")) (Value.str (Str.ofString "__cached__") 174) Value.none), (DictEntry.mk (PyData.keyHash P (Str.ofString "_wall")) (Value.str (Str.ofString "_wall") 193) (Value.ref 21)), (DictEntry.mk (PyData.keyHash P (Str.ofString "guess_scheme")) (Value.str (Str.ofString "guess_scheme") 202) (Value.ref 28)), (DictEntry.mk (PyData.keyHash P (Str.ofString "_whence")) (Value.str (Str.ofString "_whence") 212) (Value.ref 35)), (DictEntry.mk (PyData.keyHash P (Str.ofString "_index")) (Value.str (Str.ofString "_index") 220) (Value.ref 42)), (DictEntry.mk (PyData.keyHash P (Str.ofString "UnsupportedOperation")) (Value.str (Str.ofString "UnsupportedOperation") 242) (Value.ref 52)), (DictEntry.mk (PyData.keyHash P (Str.ofString "IOBase")) (Value.str (Str.ofString "IOBase") 274) (Value.ref 72)), (DictEntry.mk (PyData.keyHash P (Str.ofString "BufferedIOBase")) (Value.str (Str.ofString "BufferedIOBase") 292) (Value.ref 87)), (DictEntry.mk (PyData.keyHash P (Str.ofString "TextIOBase")) (Value.str (Str.ofString "TextIOBase") 310) (Value.ref 99))] 17) #[])]
noncomputable def obB12 (P : Params) : List Obj := [
  (Obj.mk Value.none (none) (Data.fields #[(Value.int 1 0), (Value.int 0 0), (Value.ref 20), (Value.int 5 0), (Value.int 0 0), (Value.ref 27), (Value.int 11 0), (Value.int 0 0), (Value.ref 34), (Value.int 16 0), (Value.int 0 0), (Value.ref 41), (Value.int 23 0), (Value.int 0 0), (Value.ref 48), (Value.int 25 0), (Value.int 0 0), (Value.ref 61), (Value.int 32 0), (Value.int 0 0), (Value.ref 83), (Value.int 34 0), (Value.int 0 0), (Value.ref 95)]) #[])]
noncomputable def obM1 (P : Params) : List Obj := [
  (Obj.mk (Value.type "tuple") (none) (Data.seq #[] 0) #[]),
  (Obj.mk Value.none (none) (Data.fields #[]) #[]),
  (Obj.mk (Value.type "tuple") (none) (Data.seq #[(Value.str (Str.ofString "k") 190)] 0) #[]),
  (Obj.mk (Value.type "tuple") (none) (Data.seq #[] 0) #[]),
  (Obj.mk Value.none (none) (Data.func (FuncData.mk (Str.ofString "_wall") (Str.ofString "_wall") (fdA (stm 0)) (FuncBody.stmts (fdB (stm 0))) (fdS (stm 0)) 0 [] Value.none Value.none Value.none Value.none (none) Value.none Value.none 0)) #[]),
  (Obj.mk (Value.type "code") (none) (Data.fields #[(Value.str (Str.ofString "_wall") 187), (Value.str (Str.ofString "_wall") 188), (Value.str (Str.ofString "/claim/cut.py") 189), (Value.int 1 0), (Value.int 1 0), (Value.int 0 0), (Value.int 0 0), (Value.int 3 0), (Value.ref 15), (Value.bool true), (Value.int 181 0), (Value.ref 16), Value.none, (Value.ref 17), (Value.ref 18), (Value.ref 19), (Value.int 191 0), (Value.int 1 0), (Value.str (Str.ofString "/claim/cut.py") 192)]) #[]),
  (Obj.mk (Value.type "function") (none) (Data.func (FuncData.mk (Str.ofString "_wall") (Str.ofString "_wall") (fdA (stm 0)) (FuncBody.stmts (fdB (stm 0))) (fdS (stm 0)) 3 [] Value.none Value.none Value.none (Value.str (Str.ofString "__main__") 164) (none) (Value.ref 20) Value.none 0)) #[]),
  (Obj.mk (Value.type "tuple") (none) (Data.seq #[] 0) #[]),
  (Obj.mk Value.none (none) (Data.fields #[]) #[]),
  (Obj.mk (Value.type "tuple") (none) (Data.seq #[(Value.str (Str.ofString "environ") 199)] 0) #[]),
  (Obj.mk (Value.type "tuple") (none) (Data.seq #[] 0) #[]),
  (Obj.mk Value.none (none) (Data.func (FuncData.mk (Str.ofString "guess_scheme") (Str.ofString "guess_scheme") (fdA (stm 2)) (FuncBody.stmts (fdB (stm 2))) (fdS (stm 2)) 0 [] Value.none Value.none Value.none Value.none (none) Value.none Value.none 0)) #[]),
  (Obj.mk (Value.type "code") (none) (Data.fields #[(Value.str (Str.ofString "guess_scheme") 196), (Value.str (Str.ofString "guess_scheme") 197), (Value.str (Str.ofString "/claim/cut.py") 198), (Value.int 5 0), (Value.int 1 0), (Value.int 0 0), (Value.int 0 0), (Value.int 3 0), (Value.ref 22), (Value.bool true), (Value.int 181 0), (Value.ref 23), Value.none, (Value.ref 24), (Value.ref 25), (Value.ref 26), (Value.int 200 0), (Value.int 5 0), (Value.str (Str.ofString "/claim/cut.py") 201)]) #[]),
  (Obj.mk (Value.type "function") (none) (Data.func (FuncData.mk (Str.ofString "guess_scheme") (Str.ofString "guess_scheme") (fdA (stm 2)) (FuncBody.stmts (fdB (stm 2))) (fdS (stm 2)) 3 [] Value.none Value.none Value.none (Value.str (Str.ofString "cpy313.wsgiref.util") 194) (none) (Value.ref 27) Value.none 0)) #[]),
  (Obj.mk (Value.type "tuple") (none) (Data.seq #[] 0) #[]),
  (Obj.mk Value.none (none) (Data.fields #[]) #[]),
  (Obj.mk (Value.type "tuple") (none) (Data.seq #[(Value.str (Str.ofString "n") 208), (Value.str (Str.ofString "what") 209)] 0) #[]),
  (Obj.mk (Value.type "tuple") (none) (Data.seq #[] 0) #[]),
  (Obj.mk Value.none (none) (Data.func (FuncData.mk (Str.ofString "_whence") (Str.ofString "_whence") (fdA (stm 4)) (FuncBody.stmts (fdB (stm 4))) (fdS (stm 4)) 0 [] Value.none Value.none Value.none Value.none (none) Value.none Value.none 0)) #[]),
  (Obj.mk (Value.type "code") (none) (Data.fields #[(Value.str (Str.ofString "_whence") 205), (Value.str (Str.ofString "_whence") 206), (Value.str (Str.ofString "/claim/cut.py") 207), (Value.int 11 0), (Value.int 2 0), (Value.int 0 0), (Value.int 0 0), (Value.int 3 0), (Value.ref 29), (Value.bool true), (Value.int 181 0), (Value.ref 30), Value.none, (Value.ref 31), (Value.ref 32), (Value.ref 33), (Value.int 210 0), (Value.int 11 0), (Value.str (Str.ofString "/claim/cut.py") 211)]) #[]),
  (Obj.mk (Value.type "function") (none) (Data.func (FuncData.mk (Str.ofString "_whence") (Str.ofString "_whence") (fdA (stm 4)) (FuncBody.stmts (fdB (stm 4))) (fdS (stm 4)) 3 [] Value.none Value.none Value.none (Value.str (Str.ofString "io") 203) (none) (Value.ref 34) Value.none 0)) #[]),
  (Obj.mk (Value.type "tuple") (none) (Data.seq #[] 0) #[]),
  (Obj.mk Value.none (none) (Data.fields #[]) #[]),
  (Obj.mk (Value.type "tuple") (none) (Data.seq #[(Value.str (Str.ofString "n") 216), (Value.str (Str.ofString "what") 217)] 0) #[]),
  (Obj.mk (Value.type "tuple") (none) (Data.seq #[] 0) #[]),
  (Obj.mk Value.none (none) (Data.func (FuncData.mk (Str.ofString "_index") (Str.ofString "_index") (fdA (stm 5)) (FuncBody.stmts (fdB (stm 5))) (fdS (stm 5)) 0 [] Value.none Value.none Value.none Value.none (none) Value.none Value.none 0)) #[]),
  (Obj.mk (Value.type "code") (none) (Data.fields #[(Value.str (Str.ofString "_index") 213), (Value.str (Str.ofString "_index") 214), (Value.str (Str.ofString "/claim/cut.py") 215), (Value.int 16 0), (Value.int 2 0), (Value.int 0 0), (Value.int 0 0), (Value.int 3 0), (Value.ref 36), (Value.bool true), (Value.int 181 0), (Value.ref 37), Value.none, (Value.ref 38), (Value.ref 39), (Value.ref 40), (Value.int 218 0), (Value.int 16 0), (Value.str (Str.ofString "/claim/cut.py") 219)]) #[]),
  (Obj.mk (Value.type "function") (none) (Data.func (FuncData.mk (Str.ofString "_index") (Str.ofString "_index") (fdA (stm 5)) (FuncBody.stmts (fdB (stm 5))) (fdS (stm 5)) 3 [] Value.none Value.none Value.none (Value.str (Str.ofString "io") 203) (none) (Value.ref 41) Value.none 0)) #[]),
  (Obj.mk (Value.type "tuple") (none) (Data.seq #[(Value.type "OSError"), (Value.type "ValueError")] 0) #[]),
  (Obj.mk (Value.type "builtin_function_or_method") (none) (Data.fields #[(Value.builtin "type.__prepare__"), (Value.type "type")]) #[]),
  (Obj.mk (Value.type "dict") (none) (Data.dict #[(DictEntry.mk (PyData.keyHash P (Str.ofString "__module__")) (Value.str (Str.ofString "__module__") 228) (Value.str (Str.ofString "io") 233)), (DictEntry.mk (PyData.keyHash P (Str.ofString "__qualname__")) (Value.str (Str.ofString "__qualname__") 230) (Value.str (Str.ofString "UnsupportedOperation") 229)), (DictEntry.mk (PyData.keyHash P (Str.ofString "__firstlineno__")) (Value.str (Str.ofString "__firstlineno__") 232) (Value.int 23 231)), (DictEntry.mk (PyData.keyHash P (Str.ofString "__static_attributes__")) (Value.str (Str.ofString "__static_attributes__") 235) (Value.ref 50))] 4) #[]),
  (Obj.mk (Value.type "tuple") (none) (Data.seq #[] 0) #[]),
  (Obj.mk Value.none (none) (Data.fields #[]) #[]),
  (Obj.mk (Value.type "code") (none) (Data.fields #[(Value.str (Str.ofString "UnsupportedOperation") 223), (Value.str (Str.ofString "UnsupportedOperation") 224), (Value.str (Str.ofString "/claim/cut.py") 225), (Value.int 23 0), (Value.int 0 0), (Value.int 0 0), (Value.int 0 0), (Value.int 0 0), (Value.ref 46), (Value.bool false), (Value.int 181 0), (Value.ref 47), Value.none, Value.none, Value.none, Value.none, (Value.int 226 0), (Value.int 23 0), (Value.str (Str.ofString "/claim/cut.py") 227)]) #[]),
  (Obj.mk (Value.type "frame") (none) Data.plain #[(some (Value.ref 48)), (some (Value.ref 3)), (some (Value.ref 45)), (none), (some (Value.str (Str.ofString "io") 203)), (none), (some (Value.ref 0))]),
  (Obj.mk (Value.type "tuple") (none) (Data.seq #[] 0) #[]),
  (Obj.mk (Value.type "dict") (none) (Data.dict #[(DictEntry.mk (PyData.keyHash P (Str.ofString "__module__")) (Value.str (Str.ofString "__module__") 228) (Value.str (Str.ofString "io") 233)), (DictEntry.mk (PyData.keyHash P (Str.ofString "__firstlineno__")) (Value.str (Str.ofString "__firstlineno__") 232) (Value.int 23 231)), (DictEntry.mk (PyData.keyHash P (Str.ofString "__static_attributes__")) (Value.str (Str.ofString "__static_attributes__") 235) (Value.ref 50)), (DictEntry.mk (PyData.keyHash P (Str.ofString "__weakref__")) (Value.str (Str.ofString "__weakref__") 237) (Value.ref 53)), (DictEntry.mk (PyData.keyHash P (Str.ofString "__doc__")) (Value.str (Str.ofString "__doc__") 238) Value.none)] 3) #[]),
  (Obj.mk (Value.type "type") (none) (Data.cls (ClassData.mk (Str.ofString "UnsupportedOperation") [(Value.type "OSError"), (Value.type "ValueError")] [(Value.ref 52), (Value.type "OSError"), (Value.type "ValueError"), (Value.type "Exception"), (Value.type "BaseException"), (Value.type "object")] 51 (Str.ofString "UnsupportedOperation") true [] [] false (none) false)) #[(some (Value.ref 43)), (none), (some (Value.str (Str.ofString "UnsupportedOperation") 221)), (some (Value.str (Str.ofString "UnsupportedOperation") 229)), (some (Value.builtin "OSError.__new__")), (some (Value.bool true))]),
  (Obj.mk (Value.type "getset_descriptor") (none) (Data.fields #[(Value.str (Str.ofString "__weakref__") 236), (Value.ref 52), (Value.builtin "ExceptionGroup.__weakref__"), Value.none]) #[]),
  (Obj.mk (Value.type "super") (none) (Data.fields #[(Value.ref 52), (Value.ref 52), (Value.ref 52)]) #[]),
  (Obj.mk (Value.type "builtin_function_or_method") (none) (Data.fields #[(Value.builtin "object.__init_subclass__"), (Value.ref 52)]) #[]),
  (Obj.mk (Value.type "tuple") (none) (Data.seq #[] 0) #[]),
  (Obj.mk (Value.type "builtin_function_or_method") (none) (Data.fields #[(Value.builtin "type.__prepare__"), (Value.type "type")]) #[]),
  (Obj.mk (Value.type "dict") (none) (Data.dict #[(DictEntry.mk (PyData.keyHash P (Str.ofString "__module__")) (Value.str (Str.ofString "__module__") 250) (Value.str (Str.ofString "io") 255)), (DictEntry.mk (PyData.keyHash P (Str.ofString "__qualname__")) (Value.str (Str.ofString "__qualname__") 252) (Value.str (Str.ofString "IOBase") 251)), (DictEntry.mk (PyData.keyHash P (Str.ofString "__firstlineno__")) (Value.str (Str.ofString "__firstlineno__") 254) (Value.int 25 253)), (DictEntry.mk (PyData.keyHash P (Str.ofString "__new__")) (Value.str (Str.ofString "__new__") 265) (Value.ref 69)), (DictEntry.mk (PyData.keyHash P (Str.ofString "__static_attributes__")) (Value.str (Str.ofString "__static_attributes__") 266) (Value.ref 70))] 5) #[]),
  (Obj.mk (Value.type "tuple") (none) (Data.seq #[] 0) #[]),
  (Obj.mk Value.none (none) (Data.fields #[(Value.int 28 0), (Value.int 4 0), (Value.ref 68)]) #[]),
  (Obj.mk (Value.type "code") (none) (Data.fields #[(Value.str (Str.ofString "IOBase") 245), (Value.str (Str.ofString "IOBase") 246), (Value.str (Str.ofString "/claim/cut.py") 247), (Value.int 25 0), (Value.int 0 0), (Value.int 0 0), (Value.int 0 0), (Value.int 0 0), (Value.ref 59), (Value.bool false), (Value.int 181 0), (Value.ref 60), Value.none, Value.none, Value.none, Value.none, (Value.int 248 0), (Value.int 25 0), (Value.str (Str.ofString "/claim/cut.py") 249)]) #[]),
  (Obj.mk (Value.type "frame") (none) Data.plain #[(some (Value.ref 61)), (some (Value.ref 3)), (some (Value.ref 58)), (none), (some (Value.str (Str.ofString "io") 203)), (none), (some (Value.ref 0))]),
  (Obj.mk (Value.type "tuple") (none) (Data.seq #[] 0) #[]),
  (Obj.mk Value.none (none) (Data.fields #[]) #[]),
  (Obj.mk (Value.type "tuple") (none) (Data.seq #[(Value.str (Str.ofString "cls") 260), (Value.str (Str.ofString "args") 261), (Value.str (Str.ofString "kwargs") 262)] 0) #[]),
  (Obj.mk (Value.type "tuple") (none) (Data.seq #[] 0) #[]),
  (Obj.mk Value.none (none) (Data.func (FuncData.mk (Str.ofString "__new__") (Str.ofString "IOBase.__new__") (fdA (mth 7 1)) (FuncBody.stmts (fdB (mth 7 1))) (fdS (mth 7 1)) 0 [] Value.none Value.none Value.none Value.none (none) Value.none Value.none 0)) #[]),
  (Obj.mk (Value.type "code") (none) (Data.fields #[(Value.str (Str.ofString "__new__") 257), (Value.str (Str.ofString "IOBase.__new__") 258), (Value.str (Str.ofString "/claim/cut.py") 259), (Value.int 28 0), (Value.int 1 0), (Value.int 1 0), (Value.int 0 0), (Value.int 15 0), (Value.ref 63), (Value.bool true), (Value.int 181 0), (Value.ref 64), Value.none, (Value.ref 65), (Value.ref 66), (Value.ref 67), (Value.int 263 0), (Value.int 28 0), (Value.str (Str.ofString "/claim/cut.py") 264)]) #[]),
  (Obj.mk (Value.type "function") (none) (Data.func (FuncData.mk (Str.ofString "__new__") (Str.ofString "IOBase.__new__") (fdA (mth 7 1)) (FuncBody.stmts (fdB (mth 7 1))) (fdS (mth 7 1)) 3 [] Value.none Value.none Value.none (Value.str (Str.ofString "io") 203) (none) (Value.ref 68) Value.none 0)) #[]),
  (Obj.mk (Value.type "tuple") (none) (Data.seq #[] 0) #[]),
  (Obj.mk (Value.type "dict") (none) (Data.dict #[(DictEntry.mk (PyData.keyHash P (Str.ofString "__module__")) (Value.str (Str.ofString "__module__") 250) (Value.str (Str.ofString "io") 255)), (DictEntry.mk (PyData.keyHash P (Str.ofString "__firstlineno__")) (Value.str (Str.ofString "__firstlineno__") 254) (Value.int 25 253)), (DictEntry.mk (PyData.keyHash P (Str.ofString "__new__")) (Value.str (Str.ofString "__new__") 265) (Value.ref 73)), (DictEntry.mk (PyData.keyHash P (Str.ofString "__static_attributes__")) (Value.str (Str.ofString "__static_attributes__") 266) (Value.ref 70)), (DictEntry.mk (PyData.keyHash P (Str.ofString "__dict__")) (Value.str (Str.ofString "__dict__") 269) (Value.ref 74)), (DictEntry.mk (PyData.keyHash P (Str.ofString "__weakref__")) (Value.str (Str.ofString "__weakref__") 271) (Value.ref 75)), (DictEntry.mk (PyData.keyHash P (Str.ofString "__doc__")) (Value.str (Str.ofString "__doc__") 272) Value.none)] 4) #[]),
  (Obj.mk (Value.type "type") (none) (Data.cls (ClassData.mk (Str.ofString "IOBase") [(Value.type "object")] [(Value.ref 72), (Value.type "object")] 71 (Str.ofString "IOBase") true [] [(Value.ref 87), (Value.ref 99)] false (none) false)) #[(none), (none), (some (Value.str (Str.ofString "IOBase") 243)), (some (Value.str (Str.ofString "IOBase") 251)), (some Value.none), (some (Value.bool true))]),
  (Obj.mk (Value.type "staticmethod") (none) (Data.fields #[(Value.ref 69)]) #[]),
  (Obj.mk (Value.type "getset_descriptor") (none) (Data.fields #[(Value.str (Str.ofString "__dict__") 268), (Value.ref 72), (Value.builtin "function.__dict__"), (Value.builtin "function.__dict__#set")]) #[]),
  (Obj.mk (Value.type "getset_descriptor") (none) (Data.fields #[(Value.str (Str.ofString "__weakref__") 270), (Value.ref 72), (Value.builtin "ExceptionGroup.__weakref__"), Value.none]) #[]),
  (Obj.mk (Value.type "super") (none) (Data.fields #[(Value.ref 72), (Value.ref 72), (Value.ref 72)]) #[]),
  (Obj.mk (Value.type "builtin_function_or_method") (none) (Data.fields #[(Value.builtin "object.__init_subclass__"), (Value.ref 72)]) #[]),
  (Obj.mk (Value.type "tuple") (none) (Data.seq #[(Value.ref 72)] 0) #[]),
  (Obj.mk (Value.type "builtin_function_or_method") (none) (Data.fields #[(Value.builtin "type.__prepare__"), (Value.type "type")]) #[]),
  (Obj.mk (Value.type "dict") (none) (Data.dict #[(DictEntry.mk (PyData.keyHash P (Str.ofString "__module__")) (Value.str (Str.ofString "__module__") 282) (Value.str (Str.ofString "io") 287)), (DictEntry.mk (PyData.keyHash P (Str.ofString "__qualname__")) (Value.str (Str.ofString "__qualname__") 284) (Value.str (Str.ofString "BufferedIOBase") 283)), (DictEntry.mk (PyData.keyHash P (Str.ofString "__firstlineno__")) (Value.str (Str.ofString "__firstlineno__") 286) (Value.int 32 285)), (DictEntry.mk (PyData.keyHash P (Str.ofString "__static_attributes__")) (Value.str (Str.ofString "__static_attributes__") 289) (Value.ref 85))] 4) #[]),
  (Obj.mk (Value.type "tuple") (none) (Data.seq #[] 0) #[]),
  (Obj.mk Value.none (none) (Data.fields #[]) #[]),
  (Obj.mk (Value.type "code") (none) (Data.fields #[(Value.str (Str.ofString "BufferedIOBase") 277), (Value.str (Str.ofString "BufferedIOBase") 278), (Value.str (Str.ofString "/claim/cut.py") 279), (Value.int 32 0), (Value.int 0 0), (Value.int 0 0), (Value.int 0 0), (Value.int 0 0), (Value.ref 81), (Value.bool false), (Value.int 181 0), (Value.ref 82), Value.none, Value.none, Value.none, Value.none, (Value.int 280 0), (Value.int 32 0), (Value.str (Str.ofString "/claim/cut.py") 281)]) #[]),
  (Obj.mk (Value.type "frame") (none) Data.plain #[(some (Value.ref 83)), (some (Value.ref 3)), (some (Value.ref 80)), (none), (some (Value.str (Str.ofString "io") 203)), (none), (some (Value.ref 0))]),
  (Obj.mk (Value.type "tuple") (none) (Data.seq #[] 0) #[]),
  (Obj.mk (Value.type "dict") (none) (Data.dict #[(DictEntry.mk (PyData.keyHash P (Str.ofString "__module__")) (Value.str (Str.ofString "__module__") 282) (Value.str (Str.ofString "io") 287)), (DictEntry.mk (PyData.keyHash P (Str.ofString "__firstlineno__")) (Value.str (Str.ofString "__firstlineno__") 286) (Value.int 32 285)), (DictEntry.mk (PyData.keyHash P (Str.ofString "__static_attributes__")) (Value.str (Str.ofString "__static_attributes__") 289) (Value.ref 85)), (DictEntry.mk (PyData.keyHash P (Str.ofString "__doc__")) (Value.str (Str.ofString "__doc__") 290) Value.none)] 2) #[])]
noncomputable def obB87 (P : Params) : List Obj := [
  (Obj.mk (Value.type "type") (none) (Data.cls (ClassData.mk (Str.ofString "BufferedIOBase") [(Value.ref 72)] [(Value.ref 87), (Value.ref 72), (Value.type "object")] 86 (Str.ofString "BufferedIOBase") true [] [] false (none) false)) #[(some (Value.ref 78)), (none), (some (Value.str (Str.ofString "BufferedIOBase") 275)), (some (Value.str (Str.ofString "BufferedIOBase") 283)), (some Value.none), (some (Value.bool true))])]
noncomputable def obC3 (P : Params) : List Obj := [
  (Obj.mk (Value.type "dict") (none) (Data.dict #[(DictEntry.mk (PyData.keyHash P (Str.ofString "__name__")) (Value.str (Str.ofString "__name__") 165) (Value.str (Str.ofString "io") 203)), (DictEntry.mk (PyData.keyHash P (Str.ofString "__doc__")) (Value.str (Str.ofString "__doc__") 166) Value.none), (DictEntry.mk (PyData.keyHash P (Str.ofString "__package__")) (Value.str (Str.ofString "__package__") 167) Value.none), (DictEntry.mk (PyData.keyHash P (Str.ofString "__loader__")) (Value.str (Str.ofString "__loader__") 168) (Value.builtin "__main__.__loader__#opaque")), (DictEntry.mk (PyData.keyHash P (Str.ofString "__spec__")) (Value.str (Str.ofString "__spec__") 169) Value.none), (DictEntry.mk (PyData.keyHash P (Str.ofString "__annotations__")) (Value.str (Str.ofString "__annotations__") 170) (Value.ref 6)), (DictEntry.mk (PyData.keyHash P (Str.ofString "__builtins__")) (Value.str (Str.ofString "__builtins__") 171) (Value.ref 4)), (DictEntry.mk (PyData.keyHash P (Str.ofString "__file__")) (Value.str (Str.ofString "__file__") 173) (Value.str (Str.ofString "/claim/cut.py") 172)), (DictEntry.mk (PyData.keyHash P (Str.ofString "__cached__")) (Value.str (Str.ofString "__cached__") 174) Value.none), (DictEntry.mk (PyData.keyHash P (Str.ofString "_wall")) (Value.str (Str.ofString "_wall") 193) (Value.ref 21)), (DictEntry.mk (PyData.keyHash P (Str.ofString "guess_scheme")) (Value.str (Str.ofString "guess_scheme") 202) (Value.ref 28)), (DictEntry.mk (PyData.keyHash P (Str.ofString "_whence")) (Value.str (Str.ofString "_whence") 212) (Value.ref 35)), (DictEntry.mk (PyData.keyHash P (Str.ofString "_index")) (Value.str (Str.ofString "_index") 220) (Value.ref 42)), (DictEntry.mk (PyData.keyHash P (Str.ofString "UnsupportedOperation")) (Value.str (Str.ofString "UnsupportedOperation") 242) (Value.ref 52)), (DictEntry.mk (PyData.keyHash P (Str.ofString "IOBase")) (Value.str (Str.ofString "IOBase") 274) (Value.ref 72)), (DictEntry.mk (PyData.keyHash P (Str.ofString "BufferedIOBase")) (Value.str (Str.ofString "BufferedIOBase") 292) (Value.ref 87)), (DictEntry.mk (PyData.keyHash P (Str.ofString "TextIOBase")) (Value.str (Str.ofString "TextIOBase") 310) (Value.ref 99)), (DictEntry.mk (PyData.keyHash P (Str.ofString "BytesIO")) (Value.str (Str.ofString "BytesIO") 572) (Value.ref 329))] 18) #[])]
noncomputable def obC12 (P : Params) : List Obj := [
  (Obj.mk Value.none (none) (Data.fields #[(Value.int 1 0), (Value.int 0 0), (Value.ref 20), (Value.int 5 0), (Value.int 0 0), (Value.ref 27), (Value.int 11 0), (Value.int 0 0), (Value.ref 34), (Value.int 16 0), (Value.int 0 0), (Value.ref 41), (Value.int 23 0), (Value.int 0 0), (Value.ref 48), (Value.int 25 0), (Value.int 0 0), (Value.ref 61), (Value.int 32 0), (Value.int 0 0), (Value.ref 83), (Value.int 34 0), (Value.int 0 0), (Value.ref 95), (Value.int 36 0), (Value.int 0 0), (Value.ref 107)]) #[])]
noncomputable def obC87 (P : Params) : List Obj := [
  (Obj.mk (Value.type "type") (none) (Data.cls (ClassData.mk (Str.ofString "BufferedIOBase") [(Value.ref 72)] [(Value.ref 87), (Value.ref 72), (Value.type "object")] 86 (Str.ofString "BufferedIOBase") true [] [(Value.ref 329)] false (none) false)) #[(some (Value.ref 78)), (none), (some (Value.str (Str.ofString "BufferedIOBase") 275)), (some (Value.str (Str.ofString "BufferedIOBase") 283)), (some Value.none), (some (Value.bool true))])]
noncomputable def obN0 (P : Params) : List Obj := [
  (Obj.mk (Value.type "tuple") (none) (Data.seq #[(Value.ref 87)] 0) #[]),
  (Obj.mk (Value.type "builtin_function_or_method") (none) (Data.fields #[(Value.builtin "type.__prepare__"), (Value.type "type")]) #[]),
  (Obj.mk (Value.type "dict") (none) (Data.dict #[(DictEntry.mk (PyData.keyHash P (Str.ofString "__module__")) (Value.str (Str.ofString "__module__") 318) (Value.str (Str.ofString "_io") 323)), (DictEntry.mk (PyData.keyHash P (Str.ofString "__qualname__")) (Value.str (Str.ofString "__qualname__") 320) (Value.str (Str.ofString "BytesIO") 319)), (DictEntry.mk (PyData.keyHash P (Str.ofString "__firstlineno__")) (Value.str (Str.ofString "__firstlineno__") 322) (Value.int 36 321)), (DictEntry.mk (PyData.keyHash P (Str.ofString "__init__")) (Value.str (Str.ofString "__init__") 332) (Value.ref 116)), (DictEntry.mk (PyData.keyHash P (Str.ofString "_BytesIO__check")) (Value.str (Str.ofString "_BytesIO__check") 339) (Value.ref 123)), (DictEntry.mk (PyData.keyHash P (Str.ofString "_BytesIO__line")) (Value.str (Str.ofString "_BytesIO__line") 350) (Value.ref 130)), (DictEntry.mk (PyData.keyHash P (Str.ofString "closed")) (Value.str (Str.ofString "closed") 358) (Value.ref 138)), (DictEntry.mk (PyData.keyHash P (Str.ofString "close")) (Value.str (Str.ofString "close") 365) (Value.ref 145)), (DictEntry.mk (PyData.keyHash P (Str.ofString "__enter__")) (Value.str (Str.ofString "__enter__") 372) (Value.ref 152)), (DictEntry.mk (PyData.keyHash P (Str.ofString "__exit__")) (Value.str (Str.ofString "__exit__") 380) (Value.ref 159)), (DictEntry.mk (PyData.keyHash P (Str.ofString "readable")) (Value.str (Str.ofString "readable") 387) (Value.ref 166)), (DictEntry.mk (PyData.keyHash P (Str.ofString "writable")) (Value.str (Str.ofString "writable") 394) (Value.ref 173)), (DictEntry.mk (PyData.keyHash P (Str.ofString "seekable")) (Value.str (Str.ofString "seekable") 401) (Value.ref 180)), (DictEntry.mk (PyData.keyHash P (Str.ofString "isatty")) (Value.str (Str.ofString "isatty") 408) (Value.ref 187)), (DictEntry.mk (PyData.keyHash P (Str.ofString "flush")) (Value.str (Str.ofString "flush") 415) (Value.ref 194)), (DictEntry.mk (PyData.keyHash P (Str.ofString "fileno")) (Value.str (Str.ofString "fileno") 422) (Value.ref 201)), (DictEntry.mk (PyData.keyHash P (Str.ofString "detach")) (Value.str (Str.ofString "detach") 429) (Value.ref 208)), (DictEntry.mk (PyData.keyHash P (Str.ofString "getvalue")) (Value.str (Str.ofString "getvalue") 436) (Value.ref 215)), (DictEntry.mk (PyData.keyHash P (Str.ofString "getbuffer")) (Value.str (Str.ofString "getbuffer") 443) (Value.ref 222)), (DictEntry.mk (PyData.keyHash P (Str.ofString "tell")) (Value.str (Str.ofString "tell") 450) (Value.ref 229)), (DictEntry.mk (PyData.keyHash P (Str.ofString "seek")) (Value.str (Str.ofString "seek") 460) (Value.ref 237)), (DictEntry.mk (PyData.keyHash P (Str.ofString "truncate")) (Value.str (Str.ofString "truncate") 468) (Value.ref 245)), (DictEntry.mk (PyData.keyHash P (Str.ofString "read")) (Value.str (Str.ofString "read") 480) (Value.ref 253)), (DictEntry.mk (PyData.keyHash P (Str.ofString "read1")) (Value.str (Str.ofString "read1") 490) (Value.ref 261)), (DictEntry.mk (PyData.keyHash P (Str.ofString "readinto")) (Value.str (Str.ofString "readinto") 500) (Value.ref 268)), (DictEntry.mk (PyData.keyHash P (Str.ofString "readinto1")) (Value.str (Str.ofString "readinto1") 508) (Value.ref 275)), (DictEntry.mk (PyData.keyHash P (Str.ofString "readline")) (Value.str (Str.ofString "readline") 518) (Value.ref 283)), (DictEntry.mk (PyData.keyHash P (Str.ofString "readlines")) (Value.str (Str.ofString "readlines") 526) (Value.ref 291)), (DictEntry.mk (PyData.keyHash P (Str.ofString "__iter__")) (Value.str (Str.ofString "__iter__") 533) (Value.ref 298)), (DictEntry.mk (PyData.keyHash P (Str.ofString "__next__")) (Value.str (Str.ofString "__next__") 541) (Value.ref 305)), (DictEntry.mk (PyData.keyHash P (Str.ofString "write")) (Value.str (Str.ofString "write") 551) (Value.ref 312)), (DictEntry.mk (PyData.keyHash P (Str.ofString "writelines")) (Value.str (Str.ofString "writelines") 559) (Value.ref 319)), (DictEntry.mk (PyData.keyHash P (Str.ofString "__repr__")) (Value.str (Str.ofString "__repr__") 566) (Value.ref 326)), (DictEntry.mk (PyData.keyHash P (Str.ofString "__static_attributes__")) (Value.str (Str.ofString "__static_attributes__") 569) (Value.ref 327))] 34) #[]),
  (Obj.mk (Value.type "tuple") (none) (Data.seq #[] 0) #[]),
  (Obj.mk Value.none (none) (Data.fields #[(Value.int 39 0), (Value.int 4 0), (Value.ref 115), (Value.int 45 0), (Value.int 4 0), (Value.ref 122), (Value.int 49 0), (Value.int 4 0), (Value.ref 129), (Value.int 63 0), (Value.int 4 0), (Value.ref 136), (Value.int 66 0), (Value.int 4 0), (Value.ref 144), (Value.int 69 0), (Value.int 4 0), (Value.ref 151), (Value.int 73 0), (Value.int 4 0), (Value.ref 158), (Value.int 76 0), (Value.int 4 0), (Value.ref 165), (Value.int 80 0), (Value.int 4 0), (Value.ref 172), (Value.int 84 0), (Value.int 4 0), (Value.ref 179), (Value.int 88 0), (Value.int 4 0), (Value.ref 186), (Value.int 92 0), (Value.int 4 0), (Value.ref 193), (Value.int 95 0), (Value.int 4 0), (Value.ref 200), (Value.int 98 0), (Value.int 4 0), (Value.ref 207), (Value.int 101 0), (Value.int 4 0), (Value.ref 214), (Value.int 105 0), (Value.int 4 0), (Value.ref 221), (Value.int 108 0), (Value.int 4 0), (Value.ref 228), (Value.int 112 0), (Value.int 4 0), (Value.ref 236), (Value.int 129 0), (Value.int 4 0), (Value.ref 244), (Value.int 132 0), (Value.int 4 0), (Value.ref 252), (Value.int 146 0), (Value.int 4 0), (Value.ref 260), (Value.int 149 0), (Value.int 4 0), (Value.ref 267), (Value.int 163 0), (Value.int 4 0), (Value.ref 274), (Value.int 166 0), (Value.int 4 0), (Value.ref 282), (Value.int 173 0), (Value.int 4 0), (Value.ref 290), (Value.int 176 0), (Value.int 4 0), (Value.ref 297), (Value.int 179 0), (Value.int 4 0), (Value.ref 304), (Value.int 186 0), (Value.int 4 0), (Value.ref 311), (Value.int 202 0), (Value.int 4 0), (Value.ref 318), (Value.int 205 0), (Value.int 4 0), (Value.ref 325)]) #[]),
  (Obj.mk (Value.type "code") (none) (Data.fields #[(Value.str (Str.ofString "BytesIO") 313), (Value.str (Str.ofString "BytesIO") 314), (Value.str (Str.ofString "/claim/cut.py") 315), (Value.int 36 0), (Value.int 0 0), (Value.int 0 0), (Value.int 0 0), (Value.int 0 0), (Value.ref 105), (Value.bool false), (Value.int 181 0), (Value.ref 106), Value.none, Value.none, Value.none, Value.none, (Value.int 316 0), (Value.int 36 0), (Value.str (Str.ofString "/claim/cut.py") 317)]) #[]),
  (Obj.mk (Value.type "frame") (none) Data.plain #[(some (Value.ref 107)), (some (Value.ref 3)), (some (Value.ref 104)), (none), (some (Value.str (Str.ofString "io") 203)), (none), (some (Value.ref 0))]),
  (Obj.mk (Value.type "tuple") (none) (Data.seq #[Value.none] 0) #[]),
  (Obj.mk (Value.type "tuple") (none) (Data.seq #[] 0) #[]),
  (Obj.mk Value.none (none) (Data.fields #[]) #[]),
  (Obj.mk (Value.type "tuple") (none) (Data.seq #[(Value.str (Str.ofString "self") 328), (Value.str (Str.ofString "initial_bytes") 329)] 0) #[]),
  (Obj.mk (Value.type "tuple") (none) (Data.seq #[] 0) #[]),
  (Obj.mk Value.none (none) (Data.func (FuncData.mk (Str.ofString "__init__") (Str.ofString "BytesIO.__init__") (fdA (mth 10 1)) (FuncBody.stmts (fdB (mth 10 1))) (fdS (mth 10 1)) 0 [] Value.none Value.none Value.none Value.none (none) Value.none Value.none 0)) #[]),
  (Obj.mk (Value.type "code") (none) (Data.fields #[(Value.str (Str.ofString "__init__") 325), (Value.str (Str.ofString "BytesIO.__init__") 326), (Value.str (Str.ofString "/claim/cut.py") 327), (Value.int 39 0), (Value.int 2 0), (Value.int 0 0), (Value.int 0 0), (Value.int 3 0), (Value.ref 110), (Value.bool true), (Value.int 181 0), (Value.ref 111), Value.none, (Value.ref 112), (Value.ref 113), (Value.ref 114), (Value.int 330 0), (Value.int 39 0), (Value.str (Str.ofString "/claim/cut.py") 331)]) #[]),
  (Obj.mk (Value.type "function") (none) (Data.func (FuncData.mk (Str.ofString "__init__") (Str.ofString "BytesIO.__init__") (fdA (mth 10 1)) (FuncBody.stmts (fdB (mth 10 1))) (fdS (mth 10 1)) 3 [] (Value.ref 109) Value.none Value.none (Value.str (Str.ofString "io") 203) (none) (Value.ref 115) Value.none 0)) #[]),
  (Obj.mk (Value.type "tuple") (none) (Data.seq #[] 0) #[]),
  (Obj.mk Value.none (none) (Data.fields #[]) #[]),
  (Obj.mk (Value.type "tuple") (none) (Data.seq #[(Value.str (Str.ofString "self") 336)] 0) #[]),
  (Obj.mk (Value.type "tuple") (none) (Data.seq #[] 0) #[]),
  (Obj.mk Value.none (none) (Data.func (FuncData.mk (Str.ofString "__check") (Str.ofString "BytesIO.__check") (fdA (mth 10 2)) (FuncBody.stmts (fdB (mth 10 2))) (fdS (mth 10 2)) 0 [] Value.none Value.none Value.none Value.none (none) Value.none Value.none 0)) #[]),
  (Obj.mk (Value.type "code") (none) (Data.fields #[(Value.str (Str.ofString "__check") 333), (Value.str (Str.ofString "BytesIO.__check") 334), (Value.str (Str.ofString "/claim/cut.py") 335), (Value.int 45 0), (Value.int 1 0), (Value.int 0 0), (Value.int 0 0), (Value.int 3 0), (Value.ref 117), (Value.bool true), (Value.int 181 0), (Value.ref 118), Value.none, (Value.ref 119), (Value.ref 120), (Value.ref 121), (Value.int 337 0), (Value.int 45 0), (Value.str (Str.ofString "/claim/cut.py") 338)]) #[]),
  (Obj.mk (Value.type "function") (none) (Data.func (FuncData.mk (Str.ofString "__check") (Str.ofString "BytesIO.__check") (fdA (mth 10 2)) (FuncBody.stmts (fdB (mth 10 2))) (fdS (mth 10 2)) 3 [] Value.none Value.none Value.none (Value.str (Str.ofString "io") 203) (none) (Value.ref 122) Value.none 0)) #[]),
  (Obj.mk (Value.type "tuple") (none) (Data.seq #[] 0) #[]),
  (Obj.mk Value.none (none) (Data.fields #[]) #[]),
  (Obj.mk (Value.type "tuple") (none) (Data.seq #[(Value.str (Str.ofString "self") 343), (Value.str (Str.ofString "limit") 344), (Value.str (Str.ofString "start") 345), (Value.str (Str.ofString "stop") 346), (Value.str (Str.ofString "i") 347)] 0) #[]),
  (Obj.mk (Value.type "tuple") (none) (Data.seq #[] 0) #[]),
  (Obj.mk Value.none (none) (Data.func (FuncData.mk (Str.ofString "__line") (Str.ofString "BytesIO.__line") (fdA (mth 10 3)) (FuncBody.stmts (fdB (mth 10 3))) (fdS (mth 10 3)) 0 [] Value.none Value.none Value.none Value.none (none) Value.none Value.none 0)) #[]),
  (Obj.mk (Value.type "code") (none) (Data.fields #[(Value.str (Str.ofString "__line") 340), (Value.str (Str.ofString "BytesIO.__line") 341), (Value.str (Str.ofString "/claim/cut.py") 342), (Value.int 49 0), (Value.int 2 0), (Value.int 0 0), (Value.int 0 0), (Value.int 3 0), (Value.ref 124), (Value.bool true), (Value.int 181 0), (Value.ref 125), Value.none, (Value.ref 126), (Value.ref 127), (Value.ref 128), (Value.int 348 0), (Value.int 49 0), (Value.str (Str.ofString "/claim/cut.py") 349)]) #[]),
  (Obj.mk (Value.type "function") (none) (Data.func (FuncData.mk (Str.ofString "__line") (Str.ofString "BytesIO.__line") (fdA (mth 10 3)) (FuncBody.stmts (fdB (mth 10 3))) (fdS (mth 10 3)) 3 [] Value.none Value.none Value.none (Value.str (Str.ofString "io") 203) (none) (Value.ref 129) Value.none 0)) #[]),
  (Obj.mk (Value.type "tuple") (none) (Data.seq #[] 0) #[]),
  (Obj.mk Value.none (none) (Data.fields #[]) #[]),
  (Obj.mk (Value.type "tuple") (none) (Data.seq #[(Value.str (Str.ofString "self") 354)] 0) #[]),
  (Obj.mk (Value.type "tuple") (none) (Data.seq #[] 0) #[]),
  (Obj.mk Value.none (none) (Data.func (FuncData.mk (Str.ofString "closed") (Str.ofString "BytesIO.closed") (fdA (mth 10 4)) (FuncBody.stmts (fdB (mth 10 4))) (fdS (mth 10 4)) 0 [] Value.none Value.none Value.none Value.none (none) Value.none Value.none 0)) #[]),
  (Obj.mk (Value.type "code") (none) (Data.fields #[(Value.str (Str.ofString "closed") 351), (Value.str (Str.ofString "BytesIO.closed") 352), (Value.str (Str.ofString "/claim/cut.py") 353), (Value.int 62 0), (Value.int 1 0), (Value.int 0 0), (Value.int 0 0), (Value.int 3 0), (Value.ref 131), (Value.bool true), (Value.int 181 0), (Value.ref 132), Value.none, (Value.ref 133), (Value.ref 134), (Value.ref 135), (Value.int 355 0), (Value.int 62 0), (Value.str (Str.ofString "/claim/cut.py") 356)]) #[]),
  (Obj.mk (Value.type "function") (none) (Data.func (FuncData.mk (Str.ofString "closed") (Str.ofString "BytesIO.closed") (fdA (mth 10 4)) (FuncBody.stmts (fdB (mth 10 4))) (fdS (mth 10 4)) 3 [] Value.none Value.none Value.none (Value.str (Str.ofString "io") 203) (none) (Value.ref 136) Value.none 0)) #[]),
  (Obj.mk (Value.type "property") (none) (Data.fields #[(Value.ref 137), Value.none, Value.none, Value.none, (Value.str (Str.ofString "closed") 358), (Value.bool false)]) #[]),
  (Obj.mk (Value.type "tuple") (none) (Data.seq #[] 0) #[]),
  (Obj.mk Value.none (none) (Data.fields #[]) #[]),
  (Obj.mk (Value.type "tuple") (none) (Data.seq #[(Value.str (Str.ofString "self") 362)] 0) #[]),
  (Obj.mk (Value.type "tuple") (none) (Data.seq #[] 0) #[]),
  (Obj.mk Value.none (none) (Data.func (FuncData.mk (Str.ofString "close") (Str.ofString "BytesIO.close") (fdA (mth 10 5)) (FuncBody.stmts (fdB (mth 10 5))) (fdS (mth 10 4)) 0 [] Value.none Value.none Value.none Value.none (none) Value.none Value.none 0)) #[]),
  (Obj.mk (Value.type "code") (none) (Data.fields #[(Value.str (Str.ofString "close") 359), (Value.str (Str.ofString "BytesIO.close") 360), (Value.str (Str.ofString "/claim/cut.py") 361), (Value.int 66 0), (Value.int 1 0), (Value.int 0 0), (Value.int 0 0), (Value.int 3 0), (Value.ref 139), (Value.bool true), (Value.int 181 0), (Value.ref 140), Value.none, (Value.ref 141), (Value.ref 142), (Value.ref 143), (Value.int 363 0), (Value.int 66 0), (Value.str (Str.ofString "/claim/cut.py") 364)]) #[]),
  (Obj.mk (Value.type "function") (none) (Data.func (FuncData.mk (Str.ofString "close") (Str.ofString "BytesIO.close") (fdA (mth 10 5)) (FuncBody.stmts (fdB (mth 10 5))) (fdS (mth 10 4)) 3 [] Value.none Value.none Value.none (Value.str (Str.ofString "io") 203) (none) (Value.ref 144) Value.none 0)) #[]),
  (Obj.mk (Value.type "tuple") (none) (Data.seq #[] 0) #[]),
  (Obj.mk Value.none (none) (Data.fields #[]) #[]),
  (Obj.mk (Value.type "tuple") (none) (Data.seq #[(Value.str (Str.ofString "self") 369)] 0) #[]),
  (Obj.mk (Value.type "tuple") (none) (Data.seq #[] 0) #[]),
  (Obj.mk Value.none (none) (Data.func (FuncData.mk (Str.ofString "__enter__") (Str.ofString "BytesIO.__enter__") (fdA (mth 10 6)) (FuncBody.stmts (fdB (mth 10 6))) (fdS (mth 10 4)) 0 [] Value.none Value.none Value.none Value.none (none) Value.none Value.none 0)) #[]),
  (Obj.mk (Value.type "code") (none) (Data.fields #[(Value.str (Str.ofString "__enter__") 366), (Value.str (Str.ofString "BytesIO.__enter__") 367), (Value.str (Str.ofString "/claim/cut.py") 368), (Value.int 69 0), (Value.int 1 0), (Value.int 0 0), (Value.int 0 0), (Value.int 3 0), (Value.ref 146), (Value.bool true), (Value.int 181 0), (Value.ref 147), Value.none, (Value.ref 148), (Value.ref 149), (Value.ref 150), (Value.int 370 0), (Value.int 69 0), (Value.str (Str.ofString "/claim/cut.py") 371)]) #[]),
  (Obj.mk (Value.type "function") (none) (Data.func (FuncData.mk (Str.ofString "__enter__") (Str.ofString "BytesIO.__enter__") (fdA (mth 10 6)) (FuncBody.stmts (fdB (mth 10 6))) (fdS (mth 10 4)) 3 [] Value.none Value.none Value.none (Value.str (Str.ofString "io") 203) (none) (Value.ref 151) Value.none 0)) #[]),
  (Obj.mk (Value.type "tuple") (none) (Data.seq #[] 0) #[]),
  (Obj.mk Value.none (none) (Data.fields #[]) #[]),
  (Obj.mk (Value.type "tuple") (none) (Data.seq #[(Value.str (Str.ofString "self") 376), (Value.str (Str.ofString "args") 377)] 0) #[]),
  (Obj.mk (Value.type "tuple") (none) (Data.seq #[] 0) #[]),
  (Obj.mk Value.none (none) (Data.func (FuncData.mk (Str.ofString "__exit__") (Str.ofString "BytesIO.__exit__") (fdA (mth 10 7)) (FuncBody.stmts (fdB (mth 10 7))) (fdS (mth 10 7)) 0 [] Value.none Value.none Value.none Value.none (none) Value.none Value.none 0)) #[]),
  (Obj.mk (Value.type "code") (none) (Data.fields #[(Value.str (Str.ofString "__exit__") 373), (Value.str (Str.ofString "BytesIO.__exit__") 374), (Value.str (Str.ofString "/claim/cut.py") 375), (Value.int 73 0), (Value.int 1 0), (Value.int 0 0), (Value.int 0 0), (Value.int 7 0), (Value.ref 153), (Value.bool true), (Value.int 181 0), (Value.ref 154), Value.none, (Value.ref 155), (Value.ref 156), (Value.ref 157), (Value.int 378 0), (Value.int 73 0), (Value.str (Str.ofString "/claim/cut.py") 379)]) #[]),
  (Obj.mk (Value.type "function") (none) (Data.func (FuncData.mk (Str.ofString "__exit__") (Str.ofString "BytesIO.__exit__") (fdA (mth 10 7)) (FuncBody.stmts (fdB (mth 10 7))) (fdS (mth 10 7)) 3 [] Value.none Value.none Value.none (Value.str (Str.ofString "io") 203) (none) (Value.ref 158) Value.none 0)) #[]),
  (Obj.mk (Value.type "tuple") (none) (Data.seq #[] 0) #[]),
  (Obj.mk Value.none (none) (Data.fields #[]) #[])]
noncomputable def obN1 (P : Params) : List Obj := [
  (Obj.mk (Value.type "tuple") (none) (Data.seq #[(Value.str (Str.ofString "self") 384)] 0) #[]),
  (Obj.mk (Value.type "tuple") (none) (Data.seq #[] 0) #[]),
  (Obj.mk Value.none (none) (Data.func (FuncData.mk (Str.ofString "readable") (Str.ofString "BytesIO.readable") (fdA (mth 10 8)) (FuncBody.stmts (fdB (mth 10 8))) (fdS (mth 10 4)) 0 [] Value.none Value.none Value.none Value.none (none) Value.none Value.none 0)) #[]),
  (Obj.mk (Value.type "code") (none) (Data.fields #[(Value.str (Str.ofString "readable") 381), (Value.str (Str.ofString "BytesIO.readable") 382), (Value.str (Str.ofString "/claim/cut.py") 383), (Value.int 76 0), (Value.int 1 0), (Value.int 0 0), (Value.int 0 0), (Value.int 3 0), (Value.ref 160), (Value.bool true), (Value.int 181 0), (Value.ref 161), Value.none, (Value.ref 162), (Value.ref 163), (Value.ref 164), (Value.int 385 0), (Value.int 76 0), (Value.str (Str.ofString "/claim/cut.py") 386)]) #[]),
  (Obj.mk (Value.type "function") (none) (Data.func (FuncData.mk (Str.ofString "readable") (Str.ofString "BytesIO.readable") (fdA (mth 10 8)) (FuncBody.stmts (fdB (mth 10 8))) (fdS (mth 10 4)) 3 [] Value.none Value.none Value.none (Value.str (Str.ofString "io") 203) (none) (Value.ref 165) Value.none 0)) #[]),
  (Obj.mk (Value.type "tuple") (none) (Data.seq #[] 0) #[]),
  (Obj.mk Value.none (none) (Data.fields #[]) #[]),
  (Obj.mk (Value.type "tuple") (none) (Data.seq #[(Value.str (Str.ofString "self") 391)] 0) #[]),
  (Obj.mk (Value.type "tuple") (none) (Data.seq #[] 0) #[]),
  (Obj.mk Value.none (none) (Data.func (FuncData.mk (Str.ofString "writable") (Str.ofString "BytesIO.writable") (fdA (mth 10 9)) (FuncBody.stmts (fdB (mth 10 9))) (fdS (mth 10 4)) 0 [] Value.none Value.none Value.none Value.none (none) Value.none Value.none 0)) #[]),
  (Obj.mk (Value.type "code") (none) (Data.fields #[(Value.str (Str.ofString "writable") 388), (Value.str (Str.ofString "BytesIO.writable") 389), (Value.str (Str.ofString "/claim/cut.py") 390), (Value.int 80 0), (Value.int 1 0), (Value.int 0 0), (Value.int 0 0), (Value.int 3 0), (Value.ref 167), (Value.bool true), (Value.int 181 0), (Value.ref 168), Value.none, (Value.ref 169), (Value.ref 170), (Value.ref 171), (Value.int 392 0), (Value.int 80 0), (Value.str (Str.ofString "/claim/cut.py") 393)]) #[]),
  (Obj.mk (Value.type "function") (none) (Data.func (FuncData.mk (Str.ofString "writable") (Str.ofString "BytesIO.writable") (fdA (mth 10 9)) (FuncBody.stmts (fdB (mth 10 9))) (fdS (mth 10 4)) 3 [] Value.none Value.none Value.none (Value.str (Str.ofString "io") 203) (none) (Value.ref 172) Value.none 0)) #[]),
  (Obj.mk (Value.type "tuple") (none) (Data.seq #[] 0) #[]),
  (Obj.mk Value.none (none) (Data.fields #[]) #[]),
  (Obj.mk (Value.type "tuple") (none) (Data.seq #[(Value.str (Str.ofString "self") 398)] 0) #[]),
  (Obj.mk (Value.type "tuple") (none) (Data.seq #[] 0) #[]),
  (Obj.mk Value.none (none) (Data.func (FuncData.mk (Str.ofString "seekable") (Str.ofString "BytesIO.seekable") (fdA (mth 10 10)) (FuncBody.stmts (fdB (mth 10 10))) (fdS (mth 10 4)) 0 [] Value.none Value.none Value.none Value.none (none) Value.none Value.none 0)) #[]),
  (Obj.mk (Value.type "code") (none) (Data.fields #[(Value.str (Str.ofString "seekable") 395), (Value.str (Str.ofString "BytesIO.seekable") 396), (Value.str (Str.ofString "/claim/cut.py") 397), (Value.int 84 0), (Value.int 1 0), (Value.int 0 0), (Value.int 0 0), (Value.int 3 0), (Value.ref 174), (Value.bool true), (Value.int 181 0), (Value.ref 175), Value.none, (Value.ref 176), (Value.ref 177), (Value.ref 178), (Value.int 399 0), (Value.int 84 0), (Value.str (Str.ofString "/claim/cut.py") 400)]) #[]),
  (Obj.mk (Value.type "function") (none) (Data.func (FuncData.mk (Str.ofString "seekable") (Str.ofString "BytesIO.seekable") (fdA (mth 10 10)) (FuncBody.stmts (fdB (mth 10 10))) (fdS (mth 10 4)) 3 [] Value.none Value.none Value.none (Value.str (Str.ofString "io") 203) (none) (Value.ref 179) Value.none 0)) #[]),
  (Obj.mk (Value.type "tuple") (none) (Data.seq #[] 0) #[]),
  (Obj.mk Value.none (none) (Data.fields #[]) #[]),
  (Obj.mk (Value.type "tuple") (none) (Data.seq #[(Value.str (Str.ofString "self") 405)] 0) #[]),
  (Obj.mk (Value.type "tuple") (none) (Data.seq #[] 0) #[]),
  (Obj.mk Value.none (none) (Data.func (FuncData.mk (Str.ofString "isatty") (Str.ofString "BytesIO.isatty") (fdA (mth 10 11)) (FuncBody.stmts (fdB (mth 10 11))) (fdS (mth 10 4)) 0 [] Value.none Value.none Value.none Value.none (none) Value.none Value.none 0)) #[]),
  (Obj.mk (Value.type "code") (none) (Data.fields #[(Value.str (Str.ofString "isatty") 402), (Value.str (Str.ofString "BytesIO.isatty") 403), (Value.str (Str.ofString "/claim/cut.py") 404), (Value.int 88 0), (Value.int 1 0), (Value.int 0 0), (Value.int 0 0), (Value.int 3 0), (Value.ref 181), (Value.bool true), (Value.int 181 0), (Value.ref 182), Value.none, (Value.ref 183), (Value.ref 184), (Value.ref 185), (Value.int 406 0), (Value.int 88 0), (Value.str (Str.ofString "/claim/cut.py") 407)]) #[]),
  (Obj.mk (Value.type "function") (none) (Data.func (FuncData.mk (Str.ofString "isatty") (Str.ofString "BytesIO.isatty") (fdA (mth 10 11)) (FuncBody.stmts (fdB (mth 10 11))) (fdS (mth 10 4)) 3 [] Value.none Value.none Value.none (Value.str (Str.ofString "io") 203) (none) (Value.ref 186) Value.none 0)) #[]),
  (Obj.mk (Value.type "tuple") (none) (Data.seq #[] 0) #[]),
  (Obj.mk Value.none (none) (Data.fields #[]) #[]),
  (Obj.mk (Value.type "tuple") (none) (Data.seq #[(Value.str (Str.ofString "self") 412)] 0) #[]),
  (Obj.mk (Value.type "tuple") (none) (Data.seq #[] 0) #[]),
  (Obj.mk Value.none (none) (Data.func (FuncData.mk (Str.ofString "flush") (Str.ofString "BytesIO.flush") (fdA (mth 10 12)) (FuncBody.stmts (fdB (mth 10 12))) (fdS (mth 10 4)) 0 [] Value.none Value.none Value.none Value.none (none) Value.none Value.none 0)) #[]),
  (Obj.mk (Value.type "code") (none) (Data.fields #[(Value.str (Str.ofString "flush") 409), (Value.str (Str.ofString "BytesIO.flush") 410), (Value.str (Str.ofString "/claim/cut.py") 411), (Value.int 92 0), (Value.int 1 0), (Value.int 0 0), (Value.int 0 0), (Value.int 3 0), (Value.ref 188), (Value.bool true), (Value.int 181 0), (Value.ref 189), Value.none, (Value.ref 190), (Value.ref 191), (Value.ref 192), (Value.int 413 0), (Value.int 92 0), (Value.str (Str.ofString "/claim/cut.py") 414)]) #[]),
  (Obj.mk (Value.type "function") (none) (Data.func (FuncData.mk (Str.ofString "flush") (Str.ofString "BytesIO.flush") (fdA (mth 10 12)) (FuncBody.stmts (fdB (mth 10 12))) (fdS (mth 10 4)) 3 [] Value.none Value.none Value.none (Value.str (Str.ofString "io") 203) (none) (Value.ref 193) Value.none 0)) #[]),
  (Obj.mk (Value.type "tuple") (none) (Data.seq #[] 0) #[]),
  (Obj.mk Value.none (none) (Data.fields #[]) #[]),
  (Obj.mk (Value.type "tuple") (none) (Data.seq #[(Value.str (Str.ofString "self") 419)] 0) #[]),
  (Obj.mk (Value.type "tuple") (none) (Data.seq #[] 0) #[]),
  (Obj.mk Value.none (none) (Data.func (FuncData.mk (Str.ofString "fileno") (Str.ofString "BytesIO.fileno") (fdA (mth 10 13)) (FuncBody.stmts (fdB (mth 10 13))) (fdS (mth 10 13)) 0 [] Value.none Value.none Value.none Value.none (none) Value.none Value.none 0)) #[]),
  (Obj.mk (Value.type "code") (none) (Data.fields #[(Value.str (Str.ofString "fileno") 416), (Value.str (Str.ofString "BytesIO.fileno") 417), (Value.str (Str.ofString "/claim/cut.py") 418), (Value.int 95 0), (Value.int 1 0), (Value.int 0 0), (Value.int 0 0), (Value.int 3 0), (Value.ref 195), (Value.bool true), (Value.int 181 0), (Value.ref 196), Value.none, (Value.ref 197), (Value.ref 198), (Value.ref 199), (Value.int 420 0), (Value.int 95 0), (Value.str (Str.ofString "/claim/cut.py") 421)]) #[]),
  (Obj.mk (Value.type "function") (none) (Data.func (FuncData.mk (Str.ofString "fileno") (Str.ofString "BytesIO.fileno") (fdA (mth 10 13)) (FuncBody.stmts (fdB (mth 10 13))) (fdS (mth 10 13)) 3 [] Value.none Value.none Value.none (Value.str (Str.ofString "io") 203) (none) (Value.ref 200) Value.none 0)) #[]),
  (Obj.mk (Value.type "tuple") (none) (Data.seq #[] 0) #[]),
  (Obj.mk Value.none (none) (Data.fields #[]) #[]),
  (Obj.mk (Value.type "tuple") (none) (Data.seq #[(Value.str (Str.ofString "self") 426)] 0) #[]),
  (Obj.mk (Value.type "tuple") (none) (Data.seq #[] 0) #[]),
  (Obj.mk Value.none (none) (Data.func (FuncData.mk (Str.ofString "detach") (Str.ofString "BytesIO.detach") (fdA (mth 10 14)) (FuncBody.stmts (fdB (mth 10 14))) (fdS (mth 10 14)) 0 [] Value.none Value.none Value.none Value.none (none) Value.none Value.none 0)) #[]),
  (Obj.mk (Value.type "code") (none) (Data.fields #[(Value.str (Str.ofString "detach") 423), (Value.str (Str.ofString "BytesIO.detach") 424), (Value.str (Str.ofString "/claim/cut.py") 425), (Value.int 98 0), (Value.int 1 0), (Value.int 0 0), (Value.int 0 0), (Value.int 3 0), (Value.ref 202), (Value.bool true), (Value.int 181 0), (Value.ref 203), Value.none, (Value.ref 204), (Value.ref 205), (Value.ref 206), (Value.int 427 0), (Value.int 98 0), (Value.str (Str.ofString "/claim/cut.py") 428)]) #[]),
  (Obj.mk (Value.type "function") (none) (Data.func (FuncData.mk (Str.ofString "detach") (Str.ofString "BytesIO.detach") (fdA (mth 10 14)) (FuncBody.stmts (fdB (mth 10 14))) (fdS (mth 10 14)) 3 [] Value.none Value.none Value.none (Value.str (Str.ofString "io") 203) (none) (Value.ref 207) Value.none 0)) #[]),
  (Obj.mk (Value.type "tuple") (none) (Data.seq #[] 0) #[]),
  (Obj.mk Value.none (none) (Data.fields #[]) #[]),
  (Obj.mk (Value.type "tuple") (none) (Data.seq #[(Value.str (Str.ofString "self") 433)] 0) #[]),
  (Obj.mk (Value.type "tuple") (none) (Data.seq #[] 0) #[]),
  (Obj.mk Value.none (none) (Data.func (FuncData.mk (Str.ofString "getvalue") (Str.ofString "BytesIO.getvalue") (fdA (mth 10 15)) (FuncBody.stmts (fdB (mth 10 15))) (fdS (mth 10 15)) 0 [] Value.none Value.none Value.none Value.none (none) Value.none Value.none 0)) #[]),
  (Obj.mk (Value.type "code") (none) (Data.fields #[(Value.str (Str.ofString "getvalue") 430), (Value.str (Str.ofString "BytesIO.getvalue") 431), (Value.str (Str.ofString "/claim/cut.py") 432), (Value.int 101 0), (Value.int 1 0), (Value.int 0 0), (Value.int 0 0), (Value.int 3 0), (Value.ref 209), (Value.bool true), (Value.int 181 0), (Value.ref 210), Value.none, (Value.ref 211), (Value.ref 212), (Value.ref 213), (Value.int 434 0), (Value.int 101 0), (Value.str (Str.ofString "/claim/cut.py") 435)]) #[]),
  (Obj.mk (Value.type "function") (none) (Data.func (FuncData.mk (Str.ofString "getvalue") (Str.ofString "BytesIO.getvalue") (fdA (mth 10 15)) (FuncBody.stmts (fdB (mth 10 15))) (fdS (mth 10 15)) 3 [] Value.none Value.none Value.none (Value.str (Str.ofString "io") 203) (none) (Value.ref 214) Value.none 0)) #[]),
  (Obj.mk (Value.type "tuple") (none) (Data.seq #[] 0) #[]),
  (Obj.mk Value.none (none) (Data.fields #[]) #[]),
  (Obj.mk (Value.type "tuple") (none) (Data.seq #[(Value.str (Str.ofString "self") 440)] 0) #[]),
  (Obj.mk (Value.type "tuple") (none) (Data.seq #[] 0) #[]),
  (Obj.mk Value.none (none) (Data.func (FuncData.mk (Str.ofString "getbuffer") (Str.ofString "BytesIO.getbuffer") (fdA (mth 10 16)) (FuncBody.stmts (fdB (mth 10 16))) (fdS (mth 10 14)) 0 [] Value.none Value.none Value.none Value.none (none) Value.none Value.none 0)) #[]),
  (Obj.mk (Value.type "code") (none) (Data.fields #[(Value.str (Str.ofString "getbuffer") 437), (Value.str (Str.ofString "BytesIO.getbuffer") 438), (Value.str (Str.ofString "/claim/cut.py") 439), (Value.int 105 0), (Value.int 1 0), (Value.int 0 0), (Value.int 0 0), (Value.int 3 0), (Value.ref 216), (Value.bool true), (Value.int 181 0), (Value.ref 217), Value.none, (Value.ref 218), (Value.ref 219), (Value.ref 220), (Value.int 441 0), (Value.int 105 0), (Value.str (Str.ofString "/claim/cut.py") 442)]) #[])]
noncomputable def obN2 (P : Params) : List Obj := [
  (Obj.mk (Value.type "function") (none) (Data.func (FuncData.mk (Str.ofString "getbuffer") (Str.ofString "BytesIO.getbuffer") (fdA (mth 10 16)) (FuncBody.stmts (fdB (mth 10 16))) (fdS (mth 10 14)) 3 [] Value.none Value.none Value.none (Value.str (Str.ofString "io") 203) (none) (Value.ref 221) Value.none 0)) #[]),
  (Obj.mk (Value.type "tuple") (none) (Data.seq #[] 0) #[]),
  (Obj.mk Value.none (none) (Data.fields #[]) #[]),
  (Obj.mk (Value.type "tuple") (none) (Data.seq #[(Value.str (Str.ofString "self") 447)] 0) #[]),
  (Obj.mk (Value.type "tuple") (none) (Data.seq #[] 0) #[]),
  (Obj.mk Value.none (none) (Data.func (FuncData.mk (Str.ofString "tell") (Str.ofString "BytesIO.tell") (fdA (mth 10 17)) (FuncBody.stmts (fdB (mth 10 17))) (fdS (mth 10 4)) 0 [] Value.none Value.none Value.none Value.none (none) Value.none Value.none 0)) #[]),
  (Obj.mk (Value.type "code") (none) (Data.fields #[(Value.str (Str.ofString "tell") 444), (Value.str (Str.ofString "BytesIO.tell") 445), (Value.str (Str.ofString "/claim/cut.py") 446), (Value.int 108 0), (Value.int 1 0), (Value.int 0 0), (Value.int 0 0), (Value.int 3 0), (Value.ref 223), (Value.bool true), (Value.int 181 0), (Value.ref 224), Value.none, (Value.ref 225), (Value.ref 226), (Value.ref 227), (Value.int 448 0), (Value.int 108 0), (Value.str (Str.ofString "/claim/cut.py") 449)]) #[]),
  (Obj.mk (Value.type "function") (none) (Data.func (FuncData.mk (Str.ofString "tell") (Str.ofString "BytesIO.tell") (fdA (mth 10 17)) (FuncBody.stmts (fdB (mth 10 17))) (fdS (mth 10 4)) 3 [] Value.none Value.none Value.none (Value.str (Str.ofString "io") 203) (none) (Value.ref 228) Value.none 0)) #[]),
  (Obj.mk (Value.type "tuple") (none) (Data.seq #[(Value.int 0 451)] 0) #[]),
  (Obj.mk (Value.type "tuple") (none) (Data.seq #[] 0) #[]),
  (Obj.mk Value.none (none) (Data.fields #[]) #[]),
  (Obj.mk (Value.type "tuple") (none) (Data.seq #[(Value.str (Str.ofString "self") 455), (Value.str (Str.ofString "pos") 456), (Value.str (Str.ofString "whence") 457)] 0) #[]),
  (Obj.mk (Value.type "tuple") (none) (Data.seq #[] 0) #[]),
  (Obj.mk Value.none (none) (Data.func (FuncData.mk (Str.ofString "seek") (Str.ofString "BytesIO.seek") (fdA (mth 10 18)) (FuncBody.stmts (fdB (mth 10 18))) (fdS (mth 10 18)) 0 [] Value.none Value.none Value.none Value.none (none) Value.none Value.none 0)) #[]),
  (Obj.mk (Value.type "code") (none) (Data.fields #[(Value.str (Str.ofString "seek") 452), (Value.str (Str.ofString "BytesIO.seek") 453), (Value.str (Str.ofString "/claim/cut.py") 454), (Value.int 112 0), (Value.int 3 0), (Value.int 3 0), (Value.int 0 0), (Value.int 3 0), (Value.ref 231), (Value.bool true), (Value.int 181 0), (Value.ref 232), Value.none, (Value.ref 233), (Value.ref 234), (Value.ref 235), (Value.int 458 0), (Value.int 112 0), (Value.str (Str.ofString "/claim/cut.py") 459)]) #[]),
  (Obj.mk (Value.type "function") (none) (Data.func (FuncData.mk (Str.ofString "seek") (Str.ofString "BytesIO.seek") (fdA (mth 10 18)) (FuncBody.stmts (fdB (mth 10 18))) (fdS (mth 10 18)) 3 [] (Value.ref 230) Value.none Value.none (Value.str (Str.ofString "io") 203) (none) (Value.ref 236) Value.none 0)) #[]),
  (Obj.mk (Value.type "tuple") (none) (Data.seq #[Value.none] 0) #[]),
  (Obj.mk (Value.type "tuple") (none) (Data.seq #[] 0) #[]),
  (Obj.mk Value.none (none) (Data.fields #[]) #[]),
  (Obj.mk (Value.type "tuple") (none) (Data.seq #[(Value.str (Str.ofString "self") 464), (Value.str (Str.ofString "size") 465)] 0) #[]),
  (Obj.mk (Value.type "tuple") (none) (Data.seq #[] 0) #[]),
  (Obj.mk Value.none (none) (Data.func (FuncData.mk (Str.ofString "truncate") (Str.ofString "BytesIO.truncate") (fdA (mth 10 19)) (FuncBody.stmts (fdB (mth 10 19))) (fdS (mth 10 19)) 0 [] Value.none Value.none Value.none Value.none (none) Value.none Value.none 0)) #[]),
  (Obj.mk (Value.type "code") (none) (Data.fields #[(Value.str (Str.ofString "truncate") 461), (Value.str (Str.ofString "BytesIO.truncate") 462), (Value.str (Str.ofString "/claim/cut.py") 463), (Value.int 129 0), (Value.int 2 0), (Value.int 2 0), (Value.int 0 0), (Value.int 3 0), (Value.ref 239), (Value.bool true), (Value.int 181 0), (Value.ref 240), Value.none, (Value.ref 241), (Value.ref 242), (Value.ref 243), (Value.int 466 0), (Value.int 129 0), (Value.str (Str.ofString "/claim/cut.py") 467)]) #[]),
  (Obj.mk (Value.type "function") (none) (Data.func (FuncData.mk (Str.ofString "truncate") (Str.ofString "BytesIO.truncate") (fdA (mth 10 19)) (FuncBody.stmts (fdB (mth 10 19))) (fdS (mth 10 19)) 3 [] (Value.ref 238) Value.none Value.none (Value.str (Str.ofString "io") 203) (none) (Value.ref 244) Value.none 0)) #[]),
  (Obj.mk (Value.type "tuple") (none) (Data.seq #[(Value.int (Neg.neg 1) 470)] 0) #[]),
  (Obj.mk (Value.type "tuple") (none) (Data.seq #[] 0) #[]),
  (Obj.mk Value.none (none) (Data.fields #[]) #[]),
  (Obj.mk (Value.type "tuple") (none) (Data.seq #[(Value.str (Str.ofString "self") 474), (Value.str (Str.ofString "size") 475), (Value.str (Str.ofString "start") 476), (Value.str (Str.ofString "stop") 477)] 0) #[]),
  (Obj.mk (Value.type "tuple") (none) (Data.seq #[] 0) #[]),
  (Obj.mk Value.none (none) (Data.func (FuncData.mk (Str.ofString "read") (Str.ofString "BytesIO.read") (fdA (mth 10 20)) (FuncBody.stmts (fdB (mth 10 20))) (fdS (mth 10 20)) 0 [] Value.none Value.none Value.none Value.none (none) Value.none Value.none 0)) #[]),
  (Obj.mk (Value.type "code") (none) (Data.fields #[(Value.str (Str.ofString "read") 471), (Value.str (Str.ofString "BytesIO.read") 472), (Value.str (Str.ofString "/claim/cut.py") 473), (Value.int 132 0), (Value.int 2 0), (Value.int 2 0), (Value.int 0 0), (Value.int 3 0), (Value.ref 247), (Value.bool true), (Value.int 181 0), (Value.ref 248), Value.none, (Value.ref 249), (Value.ref 250), (Value.ref 251), (Value.int 478 0), (Value.int 132 0), (Value.str (Str.ofString "/claim/cut.py") 479)]) #[]),
  (Obj.mk (Value.type "function") (none) (Data.func (FuncData.mk (Str.ofString "read") (Str.ofString "BytesIO.read") (fdA (mth 10 20)) (FuncBody.stmts (fdB (mth 10 20))) (fdS (mth 10 20)) 3 [] (Value.ref 246) Value.none Value.none (Value.str (Str.ofString "io") 203) (none) (Value.ref 252) Value.none 0)) #[]),
  (Obj.mk (Value.type "tuple") (none) (Data.seq #[(Value.int (Neg.neg 1) 482)] 0) #[]),
  (Obj.mk (Value.type "tuple") (none) (Data.seq #[] 0) #[]),
  (Obj.mk Value.none (none) (Data.fields #[]) #[]),
  (Obj.mk (Value.type "tuple") (none) (Data.seq #[(Value.str (Str.ofString "self") 486), (Value.str (Str.ofString "size") 487)] 0) #[]),
  (Obj.mk (Value.type "tuple") (none) (Data.seq #[] 0) #[]),
  (Obj.mk Value.none (none) (Data.func (FuncData.mk (Str.ofString "read1") (Str.ofString "BytesIO.read1") (fdA (mth 10 21)) (FuncBody.stmts (fdB (mth 10 21))) (fdS (mth 10 19)) 0 [] Value.none Value.none Value.none Value.none (none) Value.none Value.none 0)) #[]),
  (Obj.mk (Value.type "code") (none) (Data.fields #[(Value.str (Str.ofString "read1") 483), (Value.str (Str.ofString "BytesIO.read1") 484), (Value.str (Str.ofString "/claim/cut.py") 485), (Value.int 146 0), (Value.int 2 0), (Value.int 2 0), (Value.int 0 0), (Value.int 3 0), (Value.ref 255), (Value.bool true), (Value.int 181 0), (Value.ref 256), Value.none, (Value.ref 257), (Value.ref 258), (Value.ref 259), (Value.int 488 0), (Value.int 146 0), (Value.str (Str.ofString "/claim/cut.py") 489)]) #[]),
  (Obj.mk (Value.type "function") (none) (Data.func (FuncData.mk (Str.ofString "read1") (Str.ofString "BytesIO.read1") (fdA (mth 10 21)) (FuncBody.stmts (fdB (mth 10 21))) (fdS (mth 10 19)) 3 [] (Value.ref 254) Value.none Value.none (Value.str (Str.ofString "io") 203) (none) (Value.ref 260) Value.none 0)) #[]),
  (Obj.mk (Value.type "tuple") (none) (Data.seq #[] 0) #[]),
  (Obj.mk Value.none (none) (Data.fields #[]) #[]),
  (Obj.mk (Value.type "tuple") (none) (Data.seq #[(Value.str (Str.ofString "self") 494), (Value.str (Str.ofString "buffer") 495), (Value.str (Str.ofString "start") 496), (Value.str (Str.ofString "n") 497)] 0) #[]),
  (Obj.mk (Value.type "tuple") (none) (Data.seq #[] 0) #[]),
  (Obj.mk Value.none (none) (Data.func (FuncData.mk (Str.ofString "readinto") (Str.ofString "BytesIO.readinto") (fdA (mth 10 22)) (FuncBody.stmts (fdB (mth 10 22))) (fdS (mth 10 22)) 0 [] Value.none Value.none Value.none Value.none (none) Value.none Value.none 0)) #[]),
  (Obj.mk (Value.type "code") (none) (Data.fields #[(Value.str (Str.ofString "readinto") 491), (Value.str (Str.ofString "BytesIO.readinto") 492), (Value.str (Str.ofString "/claim/cut.py") 493), (Value.int 149 0), (Value.int 2 0), (Value.int 2 0), (Value.int 0 0), (Value.int 3 0), (Value.ref 262), (Value.bool true), (Value.int 181 0), (Value.ref 263), Value.none, (Value.ref 264), (Value.ref 265), (Value.ref 266), (Value.int 498 0), (Value.int 149 0), (Value.str (Str.ofString "/claim/cut.py") 499)]) #[]),
  (Obj.mk (Value.type "function") (none) (Data.func (FuncData.mk (Str.ofString "readinto") (Str.ofString "BytesIO.readinto") (fdA (mth 10 22)) (FuncBody.stmts (fdB (mth 10 22))) (fdS (mth 10 22)) 3 [] Value.none Value.none Value.none (Value.str (Str.ofString "io") 203) (none) (Value.ref 267) Value.none 0)) #[]),
  (Obj.mk (Value.type "tuple") (none) (Data.seq #[] 0) #[]),
  (Obj.mk Value.none (none) (Data.fields #[]) #[]),
  (Obj.mk (Value.type "tuple") (none) (Data.seq #[(Value.str (Str.ofString "self") 504), (Value.str (Str.ofString "buffer") 505)] 0) #[]),
  (Obj.mk (Value.type "tuple") (none) (Data.seq #[] 0) #[]),
  (Obj.mk Value.none (none) (Data.func (FuncData.mk (Str.ofString "readinto1") (Str.ofString "BytesIO.readinto1") (fdA (mth 10 23)) (FuncBody.stmts (fdB (mth 10 23))) (fdS (mth 10 23)) 0 [] Value.none Value.none Value.none Value.none (none) Value.none Value.none 0)) #[]),
  (Obj.mk (Value.type "code") (none) (Data.fields #[(Value.str (Str.ofString "readinto1") 501), (Value.str (Str.ofString "BytesIO.readinto1") 502), (Value.str (Str.ofString "/claim/cut.py") 503), (Value.int 163 0), (Value.int 2 0), (Value.int 2 0), (Value.int 0 0), (Value.int 3 0), (Value.ref 269), (Value.bool true), (Value.int 181 0), (Value.ref 270), Value.none, (Value.ref 271), (Value.ref 272), (Value.ref 273), (Value.int 506 0), (Value.int 163 0), (Value.str (Str.ofString "/claim/cut.py") 507)]) #[]),
  (Obj.mk (Value.type "function") (none) (Data.func (FuncData.mk (Str.ofString "readinto1") (Str.ofString "BytesIO.readinto1") (fdA (mth 10 23)) (FuncBody.stmts (fdB (mth 10 23))) (fdS (mth 10 23)) 3 [] Value.none Value.none Value.none (Value.str (Str.ofString "io") 203) (none) (Value.ref 274) Value.none 0)) #[]),
  (Obj.mk (Value.type "tuple") (none) (Data.seq #[(Value.int (Neg.neg 1) 510)] 0) #[]),
  (Obj.mk (Value.type "tuple") (none) (Data.seq #[] 0) #[]),
  (Obj.mk Value.none (none) (Data.fields #[]) #[]),
  (Obj.mk (Value.type "tuple") (none) (Data.seq #[(Value.str (Str.ofString "self") 514), (Value.str (Str.ofString "size") 515)] 0) #[]),
  (Obj.mk (Value.type "tuple") (none) (Data.seq #[] 0) #[]),
  (Obj.mk Value.none (none) (Data.func (FuncData.mk (Str.ofString "readline") (Str.ofString "BytesIO.readline") (fdA (mth 10 24)) (FuncBody.stmts (fdB (mth 10 24))) (fdS (mth 10 24)) 0 [] Value.none Value.none Value.none Value.none (none) Value.none Value.none 0)) #[])]
noncomputable def obN3 (P : Params) : List Obj := [
  (Obj.mk (Value.type "code") (none) (Data.fields #[(Value.str (Str.ofString "readline") 511), (Value.str (Str.ofString "BytesIO.readline") 512), (Value.str (Str.ofString "/claim/cut.py") 513), (Value.int 166 0), (Value.int 2 0), (Value.int 2 0), (Value.int 0 0), (Value.int 3 0), (Value.ref 277), (Value.bool true), (Value.int 181 0), (Value.ref 278), Value.none, (Value.ref 279), (Value.ref 280), (Value.ref 281), (Value.int 516 0), (Value.int 166 0), (Value.str (Str.ofString "/claim/cut.py") 517)]) #[]),
  (Obj.mk (Value.type "function") (none) (Data.func (FuncData.mk (Str.ofString "readline") (Str.ofString "BytesIO.readline") (fdA (mth 10 24)) (FuncBody.stmts (fdB (mth 10 24))) (fdS (mth 10 24)) 3 [] (Value.ref 276) Value.none Value.none (Value.str (Str.ofString "io") 203) (none) (Value.ref 282) Value.none 0)) #[]),
  (Obj.mk (Value.type "tuple") (none) (Data.seq #[Value.none] 0) #[]),
  (Obj.mk (Value.type "tuple") (none) (Data.seq #[] 0) #[]),
  (Obj.mk Value.none (none) (Data.fields #[]) #[]),
  (Obj.mk (Value.type "tuple") (none) (Data.seq #[(Value.str (Str.ofString "self") 522), (Value.str (Str.ofString "size") 523)] 0) #[]),
  (Obj.mk (Value.type "tuple") (none) (Data.seq #[] 0) #[]),
  (Obj.mk Value.none (none) (Data.func (FuncData.mk (Str.ofString "readlines") (Str.ofString "BytesIO.readlines") (fdA (mth 10 25)) (FuncBody.stmts (fdB (mth 10 25))) (fdS (mth 10 19)) 0 [] Value.none Value.none Value.none Value.none (none) Value.none Value.none 0)) #[]),
  (Obj.mk (Value.type "code") (none) (Data.fields #[(Value.str (Str.ofString "readlines") 519), (Value.str (Str.ofString "BytesIO.readlines") 520), (Value.str (Str.ofString "/claim/cut.py") 521), (Value.int 173 0), (Value.int 2 0), (Value.int 2 0), (Value.int 0 0), (Value.int 3 0), (Value.ref 285), (Value.bool true), (Value.int 181 0), (Value.ref 286), Value.none, (Value.ref 287), (Value.ref 288), (Value.ref 289), (Value.int 524 0), (Value.int 173 0), (Value.str (Str.ofString "/claim/cut.py") 525)]) #[]),
  (Obj.mk (Value.type "function") (none) (Data.func (FuncData.mk (Str.ofString "readlines") (Str.ofString "BytesIO.readlines") (fdA (mth 10 25)) (FuncBody.stmts (fdB (mth 10 25))) (fdS (mth 10 19)) 3 [] (Value.ref 284) Value.none Value.none (Value.str (Str.ofString "io") 203) (none) (Value.ref 290) Value.none 0)) #[]),
  (Obj.mk (Value.type "tuple") (none) (Data.seq #[] 0) #[]),
  (Obj.mk Value.none (none) (Data.fields #[]) #[]),
  (Obj.mk (Value.type "tuple") (none) (Data.seq #[(Value.str (Str.ofString "self") 530)] 0) #[]),
  (Obj.mk (Value.type "tuple") (none) (Data.seq #[] 0) #[]),
  (Obj.mk Value.none (none) (Data.func (FuncData.mk (Str.ofString "__iter__") (Str.ofString "BytesIO.__iter__") (fdA (mth 10 26)) (FuncBody.stmts (fdB (mth 10 26))) (fdS (mth 10 4)) 0 [] Value.none Value.none Value.none Value.none (none) Value.none Value.none 0)) #[]),
  (Obj.mk (Value.type "code") (none) (Data.fields #[(Value.str (Str.ofString "__iter__") 527), (Value.str (Str.ofString "BytesIO.__iter__") 528), (Value.str (Str.ofString "/claim/cut.py") 529), (Value.int 176 0), (Value.int 1 0), (Value.int 0 0), (Value.int 0 0), (Value.int 3 0), (Value.ref 292), (Value.bool true), (Value.int 181 0), (Value.ref 293), Value.none, (Value.ref 294), (Value.ref 295), (Value.ref 296), (Value.int 531 0), (Value.int 176 0), (Value.str (Str.ofString "/claim/cut.py") 532)]) #[]),
  (Obj.mk (Value.type "function") (none) (Data.func (FuncData.mk (Str.ofString "__iter__") (Str.ofString "BytesIO.__iter__") (fdA (mth 10 26)) (FuncBody.stmts (fdB (mth 10 26))) (fdS (mth 10 4)) 3 [] Value.none Value.none Value.none (Value.str (Str.ofString "io") 203) (none) (Value.ref 297) Value.none 0)) #[]),
  (Obj.mk (Value.type "tuple") (none) (Data.seq #[] 0) #[]),
  (Obj.mk Value.none (none) (Data.fields #[]) #[]),
  (Obj.mk (Value.type "tuple") (none) (Data.seq #[(Value.str (Str.ofString "self") 537), (Value.str (Str.ofString "line") 538)] 0) #[]),
  (Obj.mk (Value.type "tuple") (none) (Data.seq #[] 0) #[]),
  (Obj.mk Value.none (none) (Data.func (FuncData.mk (Str.ofString "__next__") (Str.ofString "BytesIO.__next__") (fdA (mth 10 27)) (FuncBody.stmts (fdB (mth 10 27))) (fdS (mth 10 27)) 0 [] Value.none Value.none Value.none Value.none (none) Value.none Value.none 0)) #[]),
  (Obj.mk (Value.type "code") (none) (Data.fields #[(Value.str (Str.ofString "__next__") 534), (Value.str (Str.ofString "BytesIO.__next__") 535), (Value.str (Str.ofString "/claim/cut.py") 536), (Value.int 179 0), (Value.int 1 0), (Value.int 0 0), (Value.int 0 0), (Value.int 3 0), (Value.ref 299), (Value.bool true), (Value.int 181 0), (Value.ref 300), Value.none, (Value.ref 301), (Value.ref 302), (Value.ref 303), (Value.int 539 0), (Value.int 179 0), (Value.str (Str.ofString "/claim/cut.py") 540)]) #[]),
  (Obj.mk (Value.type "function") (none) (Data.func (FuncData.mk (Str.ofString "__next__") (Str.ofString "BytesIO.__next__") (fdA (mth 10 27)) (FuncBody.stmts (fdB (mth 10 27))) (fdS (mth 10 27)) 3 [] Value.none Value.none Value.none (Value.str (Str.ofString "io") 203) (none) (Value.ref 304) Value.none 0)) #[]),
  (Obj.mk (Value.type "tuple") (none) (Data.seq #[] 0) #[]),
  (Obj.mk Value.none (none) (Data.fields #[]) #[]),
  (Obj.mk (Value.type "tuple") (none) (Data.seq #[(Value.str (Str.ofString "self") 545), (Value.str (Str.ofString "b") 546), (Value.str (Str.ofString "n") 547), (Value.str (Str.ofString "start") 548)] 0) #[]),
  (Obj.mk (Value.type "tuple") (none) (Data.seq #[] 0) #[]),
  (Obj.mk Value.none (none) (Data.func (FuncData.mk (Str.ofString "write") (Str.ofString "BytesIO.write") (fdA (mth 10 28)) (FuncBody.stmts (fdB (mth 10 28))) (fdS (mth 10 28)) 0 [] Value.none Value.none Value.none Value.none (none) Value.none Value.none 0)) #[]),
  (Obj.mk (Value.type "code") (none) (Data.fields #[(Value.str (Str.ofString "write") 542), (Value.str (Str.ofString "BytesIO.write") 543), (Value.str (Str.ofString "/claim/cut.py") 544), (Value.int 186 0), (Value.int 2 0), (Value.int 2 0), (Value.int 0 0), (Value.int 3 0), (Value.ref 306), (Value.bool true), (Value.int 181 0), (Value.ref 307), Value.none, (Value.ref 308), (Value.ref 309), (Value.ref 310), (Value.int 549 0), (Value.int 186 0), (Value.str (Str.ofString "/claim/cut.py") 550)]) #[]),
  (Obj.mk (Value.type "function") (none) (Data.func (FuncData.mk (Str.ofString "write") (Str.ofString "BytesIO.write") (fdA (mth 10 28)) (FuncBody.stmts (fdB (mth 10 28))) (fdS (mth 10 28)) 3 [] Value.none Value.none Value.none (Value.str (Str.ofString "io") 203) (none) (Value.ref 311) Value.none 0)) #[]),
  (Obj.mk (Value.type "tuple") (none) (Data.seq #[] 0) #[]),
  (Obj.mk Value.none (none) (Data.fields #[]) #[]),
  (Obj.mk (Value.type "tuple") (none) (Data.seq #[(Value.str (Str.ofString "self") 555), (Value.str (Str.ofString "lines") 556)] 0) #[]),
  (Obj.mk (Value.type "tuple") (none) (Data.seq #[] 0) #[]),
  (Obj.mk Value.none (none) (Data.func (FuncData.mk (Str.ofString "writelines") (Str.ofString "BytesIO.writelines") (fdA (mth 10 29)) (FuncBody.stmts (fdB (mth 10 29))) (fdS (mth 10 29)) 0 [] Value.none Value.none Value.none Value.none (none) Value.none Value.none 0)) #[]),
  (Obj.mk (Value.type "code") (none) (Data.fields #[(Value.str (Str.ofString "writelines") 552), (Value.str (Str.ofString "BytesIO.writelines") 553), (Value.str (Str.ofString "/claim/cut.py") 554), (Value.int 202 0), (Value.int 2 0), (Value.int 2 0), (Value.int 0 0), (Value.int 3 0), (Value.ref 313), (Value.bool true), (Value.int 181 0), (Value.ref 314), Value.none, (Value.ref 315), (Value.ref 316), (Value.ref 317), (Value.int 557 0), (Value.int 202 0), (Value.str (Str.ofString "/claim/cut.py") 558)]) #[]),
  (Obj.mk (Value.type "function") (none) (Data.func (FuncData.mk (Str.ofString "writelines") (Str.ofString "BytesIO.writelines") (fdA (mth 10 29)) (FuncBody.stmts (fdB (mth 10 29))) (fdS (mth 10 29)) 3 [] Value.none Value.none Value.none (Value.str (Str.ofString "io") 203) (none) (Value.ref 318) Value.none 0)) #[]),
  (Obj.mk (Value.type "tuple") (none) (Data.seq #[] 0) #[]),
  (Obj.mk Value.none (none) (Data.fields #[]) #[]),
  (Obj.mk (Value.type "tuple") (none) (Data.seq #[(Value.str (Str.ofString "self") 563)] 0) #[]),
  (Obj.mk (Value.type "tuple") (none) (Data.seq #[] 0) #[]),
  (Obj.mk Value.none (none) (Data.func (FuncData.mk (Str.ofString "__repr__") (Str.ofString "BytesIO.__repr__") (fdA (mth 10 30)) (FuncBody.stmts (fdB (mth 10 30))) (fdS (mth 10 14)) 0 [] Value.none Value.none Value.none Value.none (none) Value.none Value.none 0)) #[]),
  (Obj.mk (Value.type "code") (none) (Data.fields #[(Value.str (Str.ofString "__repr__") 560), (Value.str (Str.ofString "BytesIO.__repr__") 561), (Value.str (Str.ofString "/claim/cut.py") 562), (Value.int 205 0), (Value.int 1 0), (Value.int 0 0), (Value.int 0 0), (Value.int 3 0), (Value.ref 320), (Value.bool true), (Value.int 181 0), (Value.ref 321), Value.none, (Value.ref 322), (Value.ref 323), (Value.ref 324), (Value.int 564 0), (Value.int 205 0), (Value.str (Str.ofString "/claim/cut.py") 565)]) #[]),
  (Obj.mk (Value.type "function") (none) (Data.func (FuncData.mk (Str.ofString "__repr__") (Str.ofString "BytesIO.__repr__") (fdA (mth 10 30)) (FuncBody.stmts (fdB (mth 10 30))) (fdS (mth 10 14)) 3 [] Value.none Value.none Value.none (Value.str (Str.ofString "io") 203) (none) (Value.ref 325) Value.none 0)) #[]),
  (Obj.mk (Value.type "tuple") (none) (Data.seq #[(Value.str (Str.ofString "__buf") 567), (Value.str (Str.ofString "__pos") 568)] 0) #[]),
  (Obj.mk (Value.type "dict") (none) (Data.dict #[(DictEntry.mk (PyData.keyHash P (Str.ofString "__module__")) (Value.str (Str.ofString "__module__") 318) (Value.str (Str.ofString "_io") 323)), (DictEntry.mk (PyData.keyHash P (Str.ofString "__firstlineno__")) (Value.str (Str.ofString "__firstlineno__") 322) (Value.int 36 321)), (DictEntry.mk (PyData.keyHash P (Str.ofString "__init__")) (Value.str (Str.ofString "__init__") 332) (Value.ref 116)), (DictEntry.mk (PyData.keyHash P (Str.ofString "_BytesIO__check")) (Value.str (Str.ofString "_BytesIO__check") 339) (Value.ref 123)), (DictEntry.mk (PyData.keyHash P (Str.ofString "_BytesIO__line")) (Value.str (Str.ofString "_BytesIO__line") 350) (Value.ref 130)), (DictEntry.mk (PyData.keyHash P (Str.ofString "closed")) (Value.str (Str.ofString "closed") 358) (Value.ref 138)), (DictEntry.mk (PyData.keyHash P (Str.ofString "close")) (Value.str (Str.ofString "close") 365) (Value.ref 145)), (DictEntry.mk (PyData.keyHash P (Str.ofString "__enter__")) (Value.str (Str.ofString "__enter__") 372) (Value.ref 152)), (DictEntry.mk (PyData.keyHash P (Str.ofString "__exit__")) (Value.str (Str.ofString "__exit__") 380) (Value.ref 159)), (DictEntry.mk (PyData.keyHash P (Str.ofString "readable")) (Value.str (Str.ofString "readable") 387) (Value.ref 166)), (DictEntry.mk (PyData.keyHash P (Str.ofString "writable")) (Value.str (Str.ofString "writable") 394) (Value.ref 173)), (DictEntry.mk (PyData.keyHash P (Str.ofString "seekable")) (Value.str (Str.ofString "seekable") 401) (Value.ref 180)), (DictEntry.mk (PyData.keyHash P (Str.ofString "isatty")) (Value.str (Str.ofString "isatty") 408) (Value.ref 187)), (DictEntry.mk (PyData.keyHash P (Str.ofString "flush")) (Value.str (Str.ofString "flush") 415) (Value.ref 194)), (DictEntry.mk (PyData.keyHash P (Str.ofString "fileno")) (Value.str (Str.ofString "fileno") 422) (Value.ref 201)), (DictEntry.mk (PyData.keyHash P (Str.ofString "detach")) (Value.str (Str.ofString "detach") 429) (Value.ref 208)), (DictEntry.mk (PyData.keyHash P (Str.ofString "getvalue")) (Value.str (Str.ofString "getvalue") 436) (Value.ref 215)), (DictEntry.mk (PyData.keyHash P (Str.ofString "getbuffer")) (Value.str (Str.ofString "getbuffer") 443) (Value.ref 222)), (DictEntry.mk (PyData.keyHash P (Str.ofString "tell")) (Value.str (Str.ofString "tell") 450) (Value.ref 229)), (DictEntry.mk (PyData.keyHash P (Str.ofString "seek")) (Value.str (Str.ofString "seek") 460) (Value.ref 237)), (DictEntry.mk (PyData.keyHash P (Str.ofString "truncate")) (Value.str (Str.ofString "truncate") 468) (Value.ref 245)), (DictEntry.mk (PyData.keyHash P (Str.ofString "read")) (Value.str (Str.ofString "read") 480) (Value.ref 253)), (DictEntry.mk (PyData.keyHash P (Str.ofString "read1")) (Value.str (Str.ofString "read1") 490) (Value.ref 261)), (DictEntry.mk (PyData.keyHash P (Str.ofString "readinto")) (Value.str (Str.ofString "readinto") 500) (Value.ref 268)), (DictEntry.mk (PyData.keyHash P (Str.ofString "readinto1")) (Value.str (Str.ofString "readinto1") 508) (Value.ref 275)), (DictEntry.mk (PyData.keyHash P (Str.ofString "readline")) (Value.str (Str.ofString "readline") 518) (Value.ref 283)), (DictEntry.mk (PyData.keyHash P (Str.ofString "readlines")) (Value.str (Str.ofString "readlines") 526) (Value.ref 291)), (DictEntry.mk (PyData.keyHash P (Str.ofString "__iter__")) (Value.str (Str.ofString "__iter__") 533) (Value.ref 298)), (DictEntry.mk (PyData.keyHash P (Str.ofString "__next__")) (Value.str (Str.ofString "__next__") 541) (Value.ref 305)), (DictEntry.mk (PyData.keyHash P (Str.ofString "write")) (Value.str (Str.ofString "write") 551) (Value.ref 312)), (DictEntry.mk (PyData.keyHash P (Str.ofString "writelines")) (Value.str (Str.ofString "writelines") 559) (Value.ref 319)), (DictEntry.mk (PyData.keyHash P (Str.ofString "__repr__")) (Value.str (Str.ofString "__repr__") 566) (Value.ref 326)), (DictEntry.mk (PyData.keyHash P (Str.ofString "__static_attributes__")) (Value.str (Str.ofString "__static_attributes__") 569) (Value.ref 327)), (DictEntry.mk (PyData.keyHash P (Str.ofString "__doc__")) (Value.str (Str.ofString "__doc__") 570) Value.none)] 2) #[]),
  (Obj.mk (Value.type "type") (none) (Data.cls (ClassData.mk (Str.ofString "BytesIO") [(Value.ref 87)] [(Value.ref 329), (Value.ref 87), (Value.ref 72), (Value.type "object")] 328 (Str.ofString "BytesIO") true [] [] false (none) false)) #[(some (Value.ref 102)), (none), (some (Value.str (Str.ofString "BytesIO") 311)), (some (Value.str (Str.ofString "BytesIO") 319)), (some Value.none), (some (Value.bool true))]),
  (Obj.mk (Value.type "super") (none) (Data.fields #[(Value.ref 329), (Value.ref 329), (Value.ref 329)]) #[]),
  (Obj.mk (Value.type "builtin_function_or_method") (none) (Data.fields #[(Value.builtin "object.__init_subclass__"), (Value.ref 329)]) #[])]
noncomputable def obD3 (P : Params) : List Obj := [
  (Obj.mk (Value.type "dict") (none) (Data.dict #[(DictEntry.mk (PyData.keyHash P (Str.ofString "__name__")) (Value.str (Str.ofString "__name__") 165) (Value.str (Str.ofString "io") 203)), (DictEntry.mk (PyData.keyHash P (Str.ofString "__doc__")) (Value.str (Str.ofString "__doc__") 166) Value.none), (DictEntry.mk (PyData.keyHash P (Str.ofString "__package__")) (Value.str (Str.ofString "__package__") 167) Value.none), (DictEntry.mk (PyData.keyHash P (Str.ofString "__loader__")) (Value.str (Str.ofString "__loader__") 168) (Value.builtin "__main__.__loader__#opaque")), (DictEntry.mk (PyData.keyHash P (Str.ofString "__spec__")) (Value.str (Str.ofString "__spec__") 169) Value.none), (DictEntry.mk (PyData.keyHash P (Str.ofString "__annotations__")) (Value.str (Str.ofString "__annotations__") 170) (Value.ref 6)), (DictEntry.mk (PyData.keyHash P (Str.ofString "__builtins__")) (Value.str (Str.ofString "__builtins__") 171) (Value.ref 4)), (DictEntry.mk (PyData.keyHash P (Str.ofString "__file__")) (Value.str (Str.ofString "__file__") 173) (Value.str (Str.ofString "/claim/cut.py") 172)), (DictEntry.mk (PyData.keyHash P (Str.ofString "__cached__")) (Value.str (Str.ofString "__cached__") 174) Value.none), (DictEntry.mk (PyData.keyHash P (Str.ofString "_wall")) (Value.str (Str.ofString "_wall") 193) (Value.ref 21)), (DictEntry.mk (PyData.keyHash P (Str.ofString "guess_scheme")) (Value.str (Str.ofString "guess_scheme") 202) (Value.ref 28)), (DictEntry.mk (PyData.keyHash P (Str.ofString "_whence")) (Value.str (Str.ofString "_whence") 212) (Value.ref 35)), (DictEntry.mk (PyData.keyHash P (Str.ofString "_index")) (Value.str (Str.ofString "_index") 220) (Value.ref 42)), (DictEntry.mk (PyData.keyHash P (Str.ofString "UnsupportedOperation")) (Value.str (Str.ofString "UnsupportedOperation") 242) (Value.ref 52)), (DictEntry.mk (PyData.keyHash P (Str.ofString "IOBase")) (Value.str (Str.ofString "IOBase") 274) (Value.ref 72)), (DictEntry.mk (PyData.keyHash P (Str.ofString "BufferedIOBase")) (Value.str (Str.ofString "BufferedIOBase") 292) (Value.ref 87)), (DictEntry.mk (PyData.keyHash P (Str.ofString "TextIOBase")) (Value.str (Str.ofString "TextIOBase") 310) (Value.ref 99)), (DictEntry.mk (PyData.keyHash P (Str.ofString "BytesIO")) (Value.str (Str.ofString "BytesIO") 572) (Value.ref 329)), (DictEntry.mk (PyData.keyHash P (Str.ofString "StringIO")) (Value.str (Str.ofString "StringIO") 859) (Value.ref 576))] 19) #[])]
noncomputable def obD12 (P : Params) : List Obj := [
  (Obj.mk Value.none (none) (Data.fields #[(Value.int 1 0), (Value.int 0 0), (Value.ref 20), (Value.int 5 0), (Value.int 0 0), (Value.ref 27), (Value.int 11 0), (Value.int 0 0), (Value.ref 34), (Value.int 16 0), (Value.int 0 0), (Value.ref 41), (Value.int 23 0), (Value.int 0 0), (Value.ref 48), (Value.int 25 0), (Value.int 0 0), (Value.ref 61), (Value.int 32 0), (Value.int 0 0), (Value.ref 83), (Value.int 34 0), (Value.int 0 0), (Value.ref 95), (Value.int 36 0), (Value.int 0 0), (Value.ref 107), (Value.int 207 0), (Value.int 0 0), (Value.ref 337)]) #[])]
noncomputable def obD99 (P : Params) : List Obj := [
  (Obj.mk (Value.type "type") (none) (Data.cls (ClassData.mk (Str.ofString "TextIOBase") [(Value.ref 72)] [(Value.ref 99), (Value.ref 72), (Value.type "object")] 98 (Str.ofString "TextIOBase") true [] [(Value.ref 576)] false (none) false)) #[(some (Value.ref 90)), (none), (some (Value.str (Str.ofString "TextIOBase") 293)), (some (Value.str (Str.ofString "TextIOBase") 301)), (some Value.none), (some (Value.bool true))])]
noncomputable def obM2a (P : Params) : List Obj := [
  (Obj.mk (Value.type "super") (none) (Data.fields #[(Value.ref 87), (Value.ref 87), (Value.ref 87)]) #[]),
  (Obj.mk (Value.type "builtin_function_or_method") (none) (Data.fields #[(Value.builtin "object.__init_subclass__"), (Value.ref 87)]) #[]),
  (Obj.mk (Value.type "tuple") (none) (Data.seq #[(Value.ref 72)] 0) #[]),
  (Obj.mk (Value.type "builtin_function_or_method") (none) (Data.fields #[(Value.builtin "type.__prepare__"), (Value.type "type")]) #[]),
  (Obj.mk (Value.type "dict") (none) (Data.dict #[(DictEntry.mk (PyData.keyHash P (Str.ofString "__module__")) (Value.str (Str.ofString "__module__") 300) (Value.str (Str.ofString "io") 305)), (DictEntry.mk (PyData.keyHash P (Str.ofString "__qualname__")) (Value.str (Str.ofString "__qualname__") 302) (Value.str (Str.ofString "TextIOBase") 301)), (DictEntry.mk (PyData.keyHash P (Str.ofString "__firstlineno__")) (Value.str (Str.ofString "__firstlineno__") 304) (Value.int 34 303)), (DictEntry.mk (PyData.keyHash P (Str.ofString "__static_attributes__")) (Value.str (Str.ofString "__static_attributes__") 307) (Value.ref 97))] 4) #[]),
  (Obj.mk (Value.type "tuple") (none) (Data.seq #[] 0) #[]),
  (Obj.mk Value.none (none) (Data.fields #[]) #[]),
  (Obj.mk (Value.type "code") (none) (Data.fields #[(Value.str (Str.ofString "TextIOBase") 295), (Value.str (Str.ofString "TextIOBase") 296), (Value.str (Str.ofString "/claim/cut.py") 297), (Value.int 34 0), (Value.int 0 0), (Value.int 0 0), (Value.int 0 0), (Value.int 0 0), (Value.ref 93), (Value.bool false), (Value.int 181 0), (Value.ref 94), Value.none, Value.none, Value.none, Value.none, (Value.int 298 0), (Value.int 34 0), (Value.str (Str.ofString "/claim/cut.py") 299)]) #[]),
  (Obj.mk (Value.type "frame") (none) Data.plain #[(some (Value.ref 95)), (some (Value.ref 3)), (some (Value.ref 92)), (none), (some (Value.str (Str.ofString "io") 203)), (none), (some (Value.ref 0))]),
  (Obj.mk (Value.type "tuple") (none) (Data.seq #[] 0) #[]),
  (Obj.mk (Value.type "dict") (none) (Data.dict #[(DictEntry.mk (PyData.keyHash P (Str.ofString "__module__")) (Value.str (Str.ofString "__module__") 300) (Value.str (Str.ofString "io") 305)), (DictEntry.mk (PyData.keyHash P (Str.ofString "__firstlineno__")) (Value.str (Str.ofString "__firstlineno__") 304) (Value.int 34 303)), (DictEntry.mk (PyData.keyHash P (Str.ofString "__static_attributes__")) (Value.str (Str.ofString "__static_attributes__") 307) (Value.ref 97)), (DictEntry.mk (PyData.keyHash P (Str.ofString "__doc__")) (Value.str (Str.ofString "__doc__") 308) Value.none)] 2) #[])]
noncomputable def obB99 (P : Params) : List Obj := [
  (Obj.mk (Value.type "type") (none) (Data.cls (ClassData.mk (Str.ofString "TextIOBase") [(Value.ref 72)] [(Value.ref 99), (Value.ref 72), (Value.type "object")] 98 (Str.ofString "TextIOBase") true [] [] false (none) false)) #[(some (Value.ref 90)), (none), (some (Value.str (Str.ofString "TextIOBase") 293)), (some (Value.str (Str.ofString "TextIOBase") 301)), (some Value.none), (some (Value.bool true))])]
noncomputable def obM2b (P : Params) : List Obj := [
  (Obj.mk (Value.type "super") (none) (Data.fields #[(Value.ref 99), (Value.ref 99), (Value.ref 99)]) #[]),
  (Obj.mk (Value.type "builtin_function_or_method") (none) (Data.fields #[(Value.builtin "object.__init_subclass__"), (Value.ref 99)]) #[])]
noncomputable def obS0 (P : Params) : List Obj := [
  (Obj.mk (Value.type "tuple") (none) (Data.seq #[(Value.ref 99)] 0) #[]),
  (Obj.mk (Value.type "builtin_function_or_method") (none) (Data.fields #[(Value.builtin "type.__prepare__"), (Value.type "type")]) #[]),
  (Obj.mk (Value.type "dict") (none) (Data.dict #[(DictEntry.mk (PyData.keyHash P (Str.ofString "__module__")) (Value.str (Str.ofString "__module__") 580) (Value.str (Str.ofString "_io") 585)), (DictEntry.mk (PyData.keyHash P (Str.ofString "__qualname__")) (Value.str (Str.ofString "__qualname__") 582) (Value.str (Str.ofString "StringIO") 581)), (DictEntry.mk (PyData.keyHash P (Str.ofString "__firstlineno__")) (Value.str (Str.ofString "__firstlineno__") 584) (Value.int 207 583)), (DictEntry.mk (PyData.keyHash P (Str.ofString "__init__")) (Value.str (Str.ofString "__init__") 597) (Value.ref 346)), (DictEntry.mk (PyData.keyHash P (Str.ofString "_StringIO__translated")) (Value.str (Str.ofString "_StringIO__translated") 606) (Value.ref 353)), (DictEntry.mk (PyData.keyHash P (Str.ofString "_StringIO__check")) (Value.str (Str.ofString "_StringIO__check") 613) (Value.ref 360)), (DictEntry.mk (PyData.keyHash P (Str.ofString "_StringIO__check_dot")) (Value.str (Str.ofString "_StringIO__check_dot") 620) (Value.ref 367)), (DictEntry.mk (PyData.keyHash P (Str.ofString "_StringIO__line")) (Value.str (Str.ofString "_StringIO__line") 635) (Value.ref 374)), (DictEntry.mk (PyData.keyHash P (Str.ofString "closed")) (Value.str (Str.ofString "closed") 643) (Value.ref 382)), (DictEntry.mk (PyData.keyHash P (Str.ofString "line_buffering")) (Value.str (Str.ofString "line_buffering") 651) (Value.ref 390)), (DictEntry.mk (PyData.keyHash P (Str.ofString "newlines")) (Value.str (Str.ofString "newlines") 659) (Value.ref 398)), (DictEntry.mk (PyData.keyHash P (Str.ofString "encoding")) (Value.str (Str.ofString "encoding") 667) (Value.ref 406)), (DictEntry.mk (PyData.keyHash P (Str.ofString "errors")) (Value.str (Str.ofString "errors") 675) (Value.ref 414)), (DictEntry.mk (PyData.keyHash P (Str.ofString "close")) (Value.str (Str.ofString "close") 682) (Value.ref 421)), (DictEntry.mk (PyData.keyHash P (Str.ofString "__enter__")) (Value.str (Str.ofString "__enter__") 689) (Value.ref 428)), (DictEntry.mk (PyData.keyHash P (Str.ofString "__exit__")) (Value.str (Str.ofString "__exit__") 697) (Value.ref 435)), (DictEntry.mk (PyData.keyHash P (Str.ofString "readable")) (Value.str (Str.ofString "readable") 704) (Value.ref 442)), (DictEntry.mk (PyData.keyHash P (Str.ofString "writable")) (Value.str (Str.ofString "writable") 711) (Value.ref 449)), (DictEntry.mk (PyData.keyHash P (Str.ofString "seekable")) (Value.str (Str.ofString "seekable") 718) (Value.ref 456)), (DictEntry.mk (PyData.keyHash P (Str.ofString "isatty")) (Value.str (Str.ofString "isatty") 725) (Value.ref 463)), (DictEntry.mk (PyData.keyHash P (Str.ofString "flush")) (Value.str (Str.ofString "flush") 732) (Value.ref 470)), (DictEntry.mk (PyData.keyHash P (Str.ofString "fileno")) (Value.str (Str.ofString "fileno") 739) (Value.ref 477)), (DictEntry.mk (PyData.keyHash P (Str.ofString "detach")) (Value.str (Str.ofString "detach") 746) (Value.ref 484)), (DictEntry.mk (PyData.keyHash P (Str.ofString "getvalue")) (Value.str (Str.ofString "getvalue") 753) (Value.ref 491)), (DictEntry.mk (PyData.keyHash P (Str.ofString "tell")) (Value.str (Str.ofString "tell") 760) (Value.ref 498)), (DictEntry.mk (PyData.keyHash P (Str.ofString "seek")) (Value.str (Str.ofString "seek") 770) (Value.ref 506)), (DictEntry.mk (PyData.keyHash P (Str.ofString "truncate")) (Value.str (Str.ofString "truncate") 778) (Value.ref 514)), (DictEntry.mk (PyData.keyHash P (Str.ofString "read")) (Value.str (Str.ofString "read") 790) (Value.ref 522)), (DictEntry.mk (PyData.keyHash P (Str.ofString "readline")) (Value.str (Str.ofString "readline") 800) (Value.ref 530)), (DictEntry.mk (PyData.keyHash P (Str.ofString "readlines")) (Value.str (Str.ofString "readlines") 810) (Value.ref 538)), (DictEntry.mk (PyData.keyHash P (Str.ofString "__iter__")) (Value.str (Str.ofString "__iter__") 817) (Value.ref 545)), (DictEntry.mk (PyData.keyHash P (Str.ofString "__next__")) (Value.str (Str.ofString "__next__") 825) (Value.ref 552)), (DictEntry.mk (PyData.keyHash P (Str.ofString "write")) (Value.str (Str.ofString "write") 837) (Value.ref 559)), (DictEntry.mk (PyData.keyHash P (Str.ofString "writelines")) (Value.str (Str.ofString "writelines") 845) (Value.ref 566)), (DictEntry.mk (PyData.keyHash P (Str.ofString "__repr__")) (Value.str (Str.ofString "__repr__") 852) (Value.ref 573)), (DictEntry.mk (PyData.keyHash P (Str.ofString "__static_attributes__")) (Value.str (Str.ofString "__static_attributes__") 856) (Value.ref 574))] 36) #[]),
  (Obj.mk (Value.type "tuple") (none) (Data.seq #[] 0) #[]),
  (Obj.mk Value.none (none) (Data.fields #[(Value.int 210 0), (Value.int 4 0), (Value.ref 345), (Value.int 223 0), (Value.int 4 0), (Value.ref 352), (Value.int 231 0), (Value.int 4 0), (Value.ref 359), (Value.int 235 0), (Value.int 4 0), (Value.ref 366), (Value.int 239 0), (Value.int 4 0), (Value.ref 373), (Value.int 272 0), (Value.int 4 0), (Value.ref 380), (Value.int 276 0), (Value.int 4 0), (Value.ref 388), (Value.int 280 0), (Value.int 4 0), (Value.ref 396), (Value.int 284 0), (Value.int 4 0), (Value.ref 404), (Value.int 288 0), (Value.int 4 0), (Value.ref 412), (Value.int 291 0), (Value.int 4 0), (Value.ref 420), (Value.int 294 0), (Value.int 4 0), (Value.ref 427), (Value.int 298 0), (Value.int 4 0), (Value.ref 434), (Value.int 301 0), (Value.int 4 0), (Value.ref 441), (Value.int 305 0), (Value.int 4 0), (Value.ref 448), (Value.int 309 0), (Value.int 4 0), (Value.ref 455), (Value.int 313 0), (Value.int 4 0), (Value.ref 462), (Value.int 317 0), (Value.int 4 0), (Value.ref 469), (Value.int 320 0), (Value.int 4 0), (Value.ref 476), (Value.int 323 0), (Value.int 4 0), (Value.ref 483), (Value.int 326 0), (Value.int 4 0), (Value.ref 490), (Value.int 330 0), (Value.int 4 0), (Value.ref 497), (Value.int 334 0), (Value.int 4 0), (Value.ref 505), (Value.int 351 0), (Value.int 4 0), (Value.ref 513), (Value.int 354 0), (Value.int 4 0), (Value.ref 521), (Value.int 368 0), (Value.int 4 0), (Value.ref 529), (Value.int 375 0), (Value.int 4 0), (Value.ref 537), (Value.int 378 0), (Value.int 4 0), (Value.ref 544), (Value.int 382 0), (Value.int 4 0), (Value.ref 551), (Value.int 389 0), (Value.int 4 0), (Value.ref 558), (Value.int 408 0), (Value.int 4 0), (Value.ref 565), (Value.int 411 0), (Value.int 4 0), (Value.ref 572)]) #[]),
  (Obj.mk (Value.type "code") (none) (Data.fields #[(Value.str (Str.ofString "StringIO") 575), (Value.str (Str.ofString "StringIO") 576), (Value.str (Str.ofString "/claim/cut.py") 577), (Value.int 207 0), (Value.int 0 0), (Value.int 0 0), (Value.int 0 0), (Value.int 0 0), (Value.ref 335), (Value.bool false), (Value.int 181 0), (Value.ref 336), Value.none, Value.none, Value.none, Value.none, (Value.int 578 0), (Value.int 207 0), (Value.str (Str.ofString "/claim/cut.py") 579)]) #[]),
  (Obj.mk (Value.type "frame") (none) Data.plain #[(some (Value.ref 337)), (some (Value.ref 3)), (some (Value.ref 334)), (none), (some (Value.str (Str.ofString "io") 203)), (none), (some (Value.ref 0))]),
  (Obj.mk (Value.type "tuple") (none) (Data.seq #[(Value.str (Str.ofString "") 587), (Value.str (Str.ofString "\n") 588)] 0) #[]),
  (Obj.mk (Value.type "tuple") (none) (Data.seq #[] 0) #[]),
  (Obj.mk Value.none (none) (Data.fields #[]) #[]),
  (Obj.mk (Value.type "tuple") (none) (Data.seq #[(Value.str (Str.ofString "self") 592), (Value.str (Str.ofString "initial_value") 593), (Value.str (Str.ofString "newline") 594)] 0) #[]),
  (Obj.mk (Value.type "tuple") (none) (Data.seq #[] 0) #[]),
  (Obj.mk Value.none (none) (Data.func (FuncData.mk (Str.ofString "__init__") (Str.ofString "StringIO.__init__") (fdA (mth 11 1)) (FuncBody.stmts (fdB (mth 11 1))) (fdS (mth 11 1)) 0 [] Value.none Value.none Value.none Value.none (none) Value.none Value.none 0)) #[]),
  (Obj.mk (Value.type "code") (none) (Data.fields #[(Value.str (Str.ofString "__init__") 589), (Value.str (Str.ofString "StringIO.__init__") 590), (Value.str (Str.ofString "/claim/cut.py") 591), (Value.int 210 0), (Value.int 3 0), (Value.int 0 0), (Value.int 0 0), (Value.int 3 0), (Value.ref 340), (Value.bool true), (Value.int 181 0), (Value.ref 341), Value.none, (Value.ref 342), (Value.ref 343), (Value.ref 344), (Value.int 595 0), (Value.int 210 0), (Value.str (Str.ofString "/claim/cut.py") 596)]) #[]),
  (Obj.mk (Value.type "function") (none) (Data.func (FuncData.mk (Str.ofString "__init__") (Str.ofString "StringIO.__init__") (fdA (mth 11 1)) (FuncBody.stmts (fdB (mth 11 1))) (fdS (mth 11 1)) 3 [] (Value.ref 339) Value.none Value.none (Value.str (Str.ofString "io") 203) (none) (Value.ref 345) Value.none 0)) #[]),
  (Obj.mk (Value.type "tuple") (none) (Data.seq #[] 0) #[]),
  (Obj.mk Value.none (none) (Data.fields #[]) #[]),
  (Obj.mk (Value.type "tuple") (none) (Data.seq #[(Value.str (Str.ofString "self") 601), (Value.str (Str.ofString "s") 602), (Value.str (Str.ofString "newline") 603)] 0) #[]),
  (Obj.mk (Value.type "tuple") (none) (Data.seq #[] 0) #[]),
  (Obj.mk Value.none (none) (Data.func (FuncData.mk (Str.ofString "__translated") (Str.ofString "StringIO.__translated") (fdA (mth 11 2)) (FuncBody.stmts (fdB (mth 11 2))) (fdS (mth 11 2)) 0 [] Value.none Value.none Value.none Value.none (none) Value.none Value.none 0)) #[]),
  (Obj.mk (Value.type "code") (none) (Data.fields #[(Value.str (Str.ofString "__translated") 598), (Value.str (Str.ofString "StringIO.__translated") 599), (Value.str (Str.ofString "/claim/cut.py") 600), (Value.int 223 0), (Value.int 2 0), (Value.int 0 0), (Value.int 0 0), (Value.int 3 0), (Value.ref 347), (Value.bool true), (Value.int 181 0), (Value.ref 348), Value.none, (Value.ref 349), (Value.ref 350), (Value.ref 351), (Value.int 604 0), (Value.int 223 0), (Value.str (Str.ofString "/claim/cut.py") 605)]) #[]),
  (Obj.mk (Value.type "function") (none) (Data.func (FuncData.mk (Str.ofString "__translated") (Str.ofString "StringIO.__translated") (fdA (mth 11 2)) (FuncBody.stmts (fdB (mth 11 2))) (fdS (mth 11 2)) 3 [] Value.none Value.none Value.none (Value.str (Str.ofString "io") 203) (none) (Value.ref 352) Value.none 0)) #[]),
  (Obj.mk (Value.type "tuple") (none) (Data.seq #[] 0) #[]),
  (Obj.mk Value.none (none) (Data.fields #[]) #[]),
  (Obj.mk (Value.type "tuple") (none) (Data.seq #[(Value.str (Str.ofString "self") 610)] 0) #[]),
  (Obj.mk (Value.type "tuple") (none) (Data.seq #[] 0) #[]),
  (Obj.mk Value.none (none) (Data.func (FuncData.mk (Str.ofString "__check") (Str.ofString "StringIO.__check") (fdA (mth 11 3)) (FuncBody.stmts (fdB (mth 11 3))) (fdS (mth 10 2)) 0 [] Value.none Value.none Value.none Value.none (none) Value.none Value.none 0)) #[]),
  (Obj.mk (Value.type "code") (none) (Data.fields #[(Value.str (Str.ofString "__check") 607), (Value.str (Str.ofString "StringIO.__check") 608), (Value.str (Str.ofString "/claim/cut.py") 609), (Value.int 231 0), (Value.int 1 0), (Value.int 0 0), (Value.int 0 0), (Value.int 3 0), (Value.ref 354), (Value.bool true), (Value.int 181 0), (Value.ref 355), Value.none, (Value.ref 356), (Value.ref 357), (Value.ref 358), (Value.int 611 0), (Value.int 231 0), (Value.str (Str.ofString "/claim/cut.py") 612)]) #[]),
  (Obj.mk (Value.type "function") (none) (Data.func (FuncData.mk (Str.ofString "__check") (Str.ofString "StringIO.__check") (fdA (mth 11 3)) (FuncBody.stmts (fdB (mth 11 3))) (fdS (mth 10 2)) 3 [] Value.none Value.none Value.none (Value.str (Str.ofString "io") 203) (none) (Value.ref 359) Value.none 0)) #[]),
  (Obj.mk (Value.type "tuple") (none) (Data.seq #[] 0) #[]),
  (Obj.mk Value.none (none) (Data.fields #[]) #[]),
  (Obj.mk (Value.type "tuple") (none) (Data.seq #[(Value.str (Str.ofString "self") 617)] 0) #[]),
  (Obj.mk (Value.type "tuple") (none) (Data.seq #[] 0) #[]),
  (Obj.mk Value.none (none) (Data.func (FuncData.mk (Str.ofString "__check_dot") (Str.ofString "StringIO.__check_dot") (fdA (mth 11 4)) (FuncBody.stmts (fdB (mth 11 4))) (fdS (mth 10 2)) 0 [] Value.none Value.none Value.none Value.none (none) Value.none Value.none 0)) #[]),
  (Obj.mk (Value.type "code") (none) (Data.fields #[(Value.str (Str.ofString "__check_dot") 614), (Value.str (Str.ofString "StringIO.__check_dot") 615), (Value.str (Str.ofString "/claim/cut.py") 616), (Value.int 235 0), (Value.int 1 0), (Value.int 0 0), (Value.int 0 0), (Value.int 3 0), (Value.ref 361), (Value.bool true), (Value.int 181 0), (Value.ref 362), Value.none, (Value.ref 363), (Value.ref 364), (Value.ref 365), (Value.int 618 0), (Value.int 235 0), (Value.str (Str.ofString "/claim/cut.py") 619)]) #[]),
  (Obj.mk (Value.type "function") (none) (Data.func (FuncData.mk (Str.ofString "__check_dot") (Str.ofString "StringIO.__check_dot") (fdA (mth 11 4)) (FuncBody.stmts (fdB (mth 11 4))) (fdS (mth 10 2)) 3 [] Value.none Value.none Value.none (Value.str (Str.ofString "io") 203) (none) (Value.ref 366) Value.none 0)) #[]),
  (Obj.mk (Value.type "tuple") (none) (Data.seq #[] 0) #[]),
  (Obj.mk Value.none (none) (Data.fields #[]) #[]),
  (Obj.mk (Value.type "tuple") (none) (Data.seq #[(Value.str (Str.ofString "self") 624), (Value.str (Str.ofString "limit") 625), (Value.str (Str.ofString "start") 626), (Value.str (Str.ofString "stop") 627), (Value.str (Str.ofString "cut") 628), (Value.str (Str.ofString "newline") 629), (Value.str (Str.ofString "i") 630), (Value.str (Str.ofString "j") 631), (Value.str (Str.ofString "end") 632)] 0) #[]),
  (Obj.mk (Value.type "tuple") (none) (Data.seq #[] 0) #[]),
  (Obj.mk Value.none (none) (Data.func (FuncData.mk (Str.ofString "__line") (Str.ofString "StringIO.__line") (fdA (mth 11 5)) (FuncBody.stmts (fdB (mth 11 5))) (fdS (mth 11 5)) 0 [] Value.none Value.none Value.none Value.none (none) Value.none Value.none 0)) #[]),
  (Obj.mk (Value.type "code") (none) (Data.fields #[(Value.str (Str.ofString "__line") 621), (Value.str (Str.ofString "StringIO.__line") 622), (Value.str (Str.ofString "/claim/cut.py") 623), (Value.int 239 0), (Value.int 2 0), (Value.int 0 0), (Value.int 0 0), (Value.int 3 0), (Value.ref 368), (Value.bool true), (Value.int 181 0), (Value.ref 369), Value.none, (Value.ref 370), (Value.ref 371), (Value.ref 372), (Value.int 633 0), (Value.int 239 0), (Value.str (Str.ofString "/claim/cut.py") 634)]) #[]),
  (Obj.mk (Value.type "function") (none) (Data.func (FuncData.mk (Str.ofString "__line") (Str.ofString "StringIO.__line") (fdA (mth 11 5)) (FuncBody.stmts (fdB (mth 11 5))) (fdS (mth 11 5)) 3 [] Value.none Value.none Value.none (Value.str (Str.ofString "io") 203) (none) (Value.ref 373) Value.none 0)) #[]),
  (Obj.mk (Value.type "tuple") (none) (Data.seq #[] 0) #[]),
  (Obj.mk Value.none (none) (Data.fields #[]) #[]),
  (Obj.mk (Value.type "tuple") (none) (Data.seq #[(Value.str (Str.ofString "self") 639)] 0) #[]),
  (Obj.mk (Value.type "tuple") (none) (Data.seq #[] 0) #[]),
  (Obj.mk Value.none (none) (Data.func (FuncData.mk (Str.ofString "closed") (Str.ofString "StringIO.closed") (fdA (mth 11 6)) (FuncBody.stmts (fdB (mth 11 6))) (fdS (mth 10 4)) 0 [] Value.none Value.none Value.none Value.none (none) Value.none Value.none 0)) #[]),
  (Obj.mk (Value.type "code") (none) (Data.fields #[(Value.str (Str.ofString "closed") 636), (Value.str (Str.ofString "StringIO.closed") 637), (Value.str (Str.ofString "/claim/cut.py") 638), (Value.int 271 0), (Value.int 1 0), (Value.int 0 0), (Value.int 0 0), (Value.int 3 0), (Value.ref 375), (Value.bool true), (Value.int 181 0), (Value.ref 376), Value.none, (Value.ref 377), (Value.ref 378), (Value.ref 379), (Value.int 640 0), (Value.int 271 0), (Value.str (Str.ofString "/claim/cut.py") 641)]) #[]),
  (Obj.mk (Value.type "function") (none) (Data.func (FuncData.mk (Str.ofString "closed") (Str.ofString "StringIO.closed") (fdA (mth 11 6)) (FuncBody.stmts (fdB (mth 11 6))) (fdS (mth 10 4)) 3 [] Value.none Value.none Value.none (Value.str (Str.ofString "io") 203) (none) (Value.ref 380) Value.none 0)) #[])]
noncomputable def obS1 (P : Params) : List Obj := [
  (Obj.mk (Value.type "property") (none) (Data.fields #[(Value.ref 381), Value.none, Value.none, Value.none, (Value.str (Str.ofString "closed") 643), (Value.bool false)]) #[]),
  (Obj.mk (Value.type "tuple") (none) (Data.seq #[] 0) #[]),
  (Obj.mk Value.none (none) (Data.fields #[]) #[]),
  (Obj.mk (Value.type "tuple") (none) (Data.seq #[(Value.str (Str.ofString "self") 647)] 0) #[]),
  (Obj.mk (Value.type "tuple") (none) (Data.seq #[] 0) #[]),
  (Obj.mk Value.none (none) (Data.func (FuncData.mk (Str.ofString "line_buffering") (Str.ofString "StringIO.line_buffering") (fdA (mth 11 7)) (FuncBody.stmts (fdB (mth 11 7))) (fdS (mth 10 14)) 0 [] Value.none Value.none Value.none Value.none (none) Value.none Value.none 0)) #[]),
  (Obj.mk (Value.type "code") (none) (Data.fields #[(Value.str (Str.ofString "line_buffering") 644), (Value.str (Str.ofString "StringIO.line_buffering") 645), (Value.str (Str.ofString "/claim/cut.py") 646), (Value.int 275 0), (Value.int 1 0), (Value.int 0 0), (Value.int 0 0), (Value.int 3 0), (Value.ref 383), (Value.bool true), (Value.int 181 0), (Value.ref 384), Value.none, (Value.ref 385), (Value.ref 386), (Value.ref 387), (Value.int 648 0), (Value.int 275 0), (Value.str (Str.ofString "/claim/cut.py") 649)]) #[]),
  (Obj.mk (Value.type "function") (none) (Data.func (FuncData.mk (Str.ofString "line_buffering") (Str.ofString "StringIO.line_buffering") (fdA (mth 11 7)) (FuncBody.stmts (fdB (mth 11 7))) (fdS (mth 10 14)) 3 [] Value.none Value.none Value.none (Value.str (Str.ofString "io") 203) (none) (Value.ref 388) Value.none 0)) #[]),
  (Obj.mk (Value.type "property") (none) (Data.fields #[(Value.ref 389), Value.none, Value.none, Value.none, (Value.str (Str.ofString "line_buffering") 651), (Value.bool false)]) #[]),
  (Obj.mk (Value.type "tuple") (none) (Data.seq #[] 0) #[]),
  (Obj.mk Value.none (none) (Data.fields #[]) #[]),
  (Obj.mk (Value.type "tuple") (none) (Data.seq #[(Value.str (Str.ofString "self") 655)] 0) #[]),
  (Obj.mk (Value.type "tuple") (none) (Data.seq #[] 0) #[]),
  (Obj.mk Value.none (none) (Data.func (FuncData.mk (Str.ofString "newlines") (Str.ofString "StringIO.newlines") (fdA (mth 11 8)) (FuncBody.stmts (fdB (mth 11 8))) (fdS (mth 10 14)) 0 [] Value.none Value.none Value.none Value.none (none) Value.none Value.none 0)) #[]),
  (Obj.mk (Value.type "code") (none) (Data.fields #[(Value.str (Str.ofString "newlines") 652), (Value.str (Str.ofString "StringIO.newlines") 653), (Value.str (Str.ofString "/claim/cut.py") 654), (Value.int 279 0), (Value.int 1 0), (Value.int 0 0), (Value.int 0 0), (Value.int 3 0), (Value.ref 391), (Value.bool true), (Value.int 181 0), (Value.ref 392), Value.none, (Value.ref 393), (Value.ref 394), (Value.ref 395), (Value.int 656 0), (Value.int 279 0), (Value.str (Str.ofString "/claim/cut.py") 657)]) #[]),
  (Obj.mk (Value.type "function") (none) (Data.func (FuncData.mk (Str.ofString "newlines") (Str.ofString "StringIO.newlines") (fdA (mth 11 8)) (FuncBody.stmts (fdB (mth 11 8))) (fdS (mth 10 14)) 3 [] Value.none Value.none Value.none (Value.str (Str.ofString "io") 203) (none) (Value.ref 396) Value.none 0)) #[]),
  (Obj.mk (Value.type "property") (none) (Data.fields #[(Value.ref 397), Value.none, Value.none, Value.none, (Value.str (Str.ofString "newlines") 659), (Value.bool false)]) #[]),
  (Obj.mk (Value.type "tuple") (none) (Data.seq #[] 0) #[]),
  (Obj.mk Value.none (none) (Data.fields #[]) #[]),
  (Obj.mk (Value.type "tuple") (none) (Data.seq #[(Value.str (Str.ofString "self") 663)] 0) #[]),
  (Obj.mk (Value.type "tuple") (none) (Data.seq #[] 0) #[]),
  (Obj.mk Value.none (none) (Data.func (FuncData.mk (Str.ofString "encoding") (Str.ofString "StringIO.encoding") (fdA (mth 11 9)) (FuncBody.stmts (fdB (mth 11 9))) (fdS (mth 10 14)) 0 [] Value.none Value.none Value.none Value.none (none) Value.none Value.none 0)) #[]),
  (Obj.mk (Value.type "code") (none) (Data.fields #[(Value.str (Str.ofString "encoding") 660), (Value.str (Str.ofString "StringIO.encoding") 661), (Value.str (Str.ofString "/claim/cut.py") 662), (Value.int 283 0), (Value.int 1 0), (Value.int 0 0), (Value.int 0 0), (Value.int 3 0), (Value.ref 399), (Value.bool true), (Value.int 181 0), (Value.ref 400), Value.none, (Value.ref 401), (Value.ref 402), (Value.ref 403), (Value.int 664 0), (Value.int 283 0), (Value.str (Str.ofString "/claim/cut.py") 665)]) #[]),
  (Obj.mk (Value.type "function") (none) (Data.func (FuncData.mk (Str.ofString "encoding") (Str.ofString "StringIO.encoding") (fdA (mth 11 9)) (FuncBody.stmts (fdB (mth 11 9))) (fdS (mth 10 14)) 3 [] Value.none Value.none Value.none (Value.str (Str.ofString "io") 203) (none) (Value.ref 404) Value.none 0)) #[]),
  (Obj.mk (Value.type "property") (none) (Data.fields #[(Value.ref 405), Value.none, Value.none, Value.none, (Value.str (Str.ofString "encoding") 667), (Value.bool false)]) #[]),
  (Obj.mk (Value.type "tuple") (none) (Data.seq #[] 0) #[]),
  (Obj.mk Value.none (none) (Data.fields #[]) #[]),
  (Obj.mk (Value.type "tuple") (none) (Data.seq #[(Value.str (Str.ofString "self") 671)] 0) #[]),
  (Obj.mk (Value.type "tuple") (none) (Data.seq #[] 0) #[]),
  (Obj.mk Value.none (none) (Data.func (FuncData.mk (Str.ofString "errors") (Str.ofString "StringIO.errors") (fdA (mth 11 10)) (FuncBody.stmts (fdB (mth 11 10))) (fdS (mth 10 4)) 0 [] Value.none Value.none Value.none Value.none (none) Value.none Value.none 0)) #[]),
  (Obj.mk (Value.type "code") (none) (Data.fields #[(Value.str (Str.ofString "errors") 668), (Value.str (Str.ofString "StringIO.errors") 669), (Value.str (Str.ofString "/claim/cut.py") 670), (Value.int 287 0), (Value.int 1 0), (Value.int 0 0), (Value.int 0 0), (Value.int 3 0), (Value.ref 407), (Value.bool true), (Value.int 181 0), (Value.ref 408), Value.none, (Value.ref 409), (Value.ref 410), (Value.ref 411), (Value.int 672 0), (Value.int 287 0), (Value.str (Str.ofString "/claim/cut.py") 673)]) #[]),
  (Obj.mk (Value.type "function") (none) (Data.func (FuncData.mk (Str.ofString "errors") (Str.ofString "StringIO.errors") (fdA (mth 11 10)) (FuncBody.stmts (fdB (mth 11 10))) (fdS (mth 10 4)) 3 [] Value.none Value.none Value.none (Value.str (Str.ofString "io") 203) (none) (Value.ref 412) Value.none 0)) #[]),
  (Obj.mk (Value.type "property") (none) (Data.fields #[(Value.ref 413), Value.none, Value.none, Value.none, (Value.str (Str.ofString "errors") 675), (Value.bool false)]) #[]),
  (Obj.mk (Value.type "tuple") (none) (Data.seq #[] 0) #[]),
  (Obj.mk Value.none (none) (Data.fields #[]) #[]),
  (Obj.mk (Value.type "tuple") (none) (Data.seq #[(Value.str (Str.ofString "self") 679)] 0) #[]),
  (Obj.mk (Value.type "tuple") (none) (Data.seq #[] 0) #[]),
  (Obj.mk Value.none (none) (Data.func (FuncData.mk (Str.ofString "close") (Str.ofString "StringIO.close") (fdA (mth 11 11)) (FuncBody.stmts (fdB (mth 11 11))) (fdS (mth 10 4)) 0 [] Value.none Value.none Value.none Value.none (none) Value.none Value.none 0)) #[]),
  (Obj.mk (Value.type "code") (none) (Data.fields #[(Value.str (Str.ofString "close") 676), (Value.str (Str.ofString "StringIO.close") 677), (Value.str (Str.ofString "/claim/cut.py") 678), (Value.int 291 0), (Value.int 1 0), (Value.int 0 0), (Value.int 0 0), (Value.int 3 0), (Value.ref 415), (Value.bool true), (Value.int 181 0), (Value.ref 416), Value.none, (Value.ref 417), (Value.ref 418), (Value.ref 419), (Value.int 680 0), (Value.int 291 0), (Value.str (Str.ofString "/claim/cut.py") 681)]) #[]),
  (Obj.mk (Value.type "function") (none) (Data.func (FuncData.mk (Str.ofString "close") (Str.ofString "StringIO.close") (fdA (mth 11 11)) (FuncBody.stmts (fdB (mth 11 11))) (fdS (mth 10 4)) 3 [] Value.none Value.none Value.none (Value.str (Str.ofString "io") 203) (none) (Value.ref 420) Value.none 0)) #[]),
  (Obj.mk (Value.type "tuple") (none) (Data.seq #[] 0) #[]),
  (Obj.mk Value.none (none) (Data.fields #[]) #[]),
  (Obj.mk (Value.type "tuple") (none) (Data.seq #[(Value.str (Str.ofString "self") 686)] 0) #[]),
  (Obj.mk (Value.type "tuple") (none) (Data.seq #[] 0) #[]),
  (Obj.mk Value.none (none) (Data.func (FuncData.mk (Str.ofString "__enter__") (Str.ofString "StringIO.__enter__") (fdA (mth 11 12)) (FuncBody.stmts (fdB (mth 11 12))) (fdS (mth 10 4)) 0 [] Value.none Value.none Value.none Value.none (none) Value.none Value.none 0)) #[]),
  (Obj.mk (Value.type "code") (none) (Data.fields #[(Value.str (Str.ofString "__enter__") 683), (Value.str (Str.ofString "StringIO.__enter__") 684), (Value.str (Str.ofString "/claim/cut.py") 685), (Value.int 294 0), (Value.int 1 0), (Value.int 0 0), (Value.int 0 0), (Value.int 3 0), (Value.ref 422), (Value.bool true), (Value.int 181 0), (Value.ref 423), Value.none, (Value.ref 424), (Value.ref 425), (Value.ref 426), (Value.int 687 0), (Value.int 294 0), (Value.str (Str.ofString "/claim/cut.py") 688)]) #[]),
  (Obj.mk (Value.type "function") (none) (Data.func (FuncData.mk (Str.ofString "__enter__") (Str.ofString "StringIO.__enter__") (fdA (mth 11 12)) (FuncBody.stmts (fdB (mth 11 12))) (fdS (mth 10 4)) 3 [] Value.none Value.none Value.none (Value.str (Str.ofString "io") 203) (none) (Value.ref 427) Value.none 0)) #[]),
  (Obj.mk (Value.type "tuple") (none) (Data.seq #[] 0) #[]),
  (Obj.mk Value.none (none) (Data.fields #[]) #[]),
  (Obj.mk (Value.type "tuple") (none) (Data.seq #[(Value.str (Str.ofString "self") 693), (Value.str (Str.ofString "args") 694)] 0) #[])]
noncomputable def obS2 (P : Params) : List Obj := [
  (Obj.mk (Value.type "tuple") (none) (Data.seq #[] 0) #[]),
  (Obj.mk Value.none (none) (Data.func (FuncData.mk (Str.ofString "__exit__") (Str.ofString "StringIO.__exit__") (fdA (mth 11 13)) (FuncBody.stmts (fdB (mth 11 13))) (fdS (mth 10 7)) 0 [] Value.none Value.none Value.none Value.none (none) Value.none Value.none 0)) #[]),
  (Obj.mk (Value.type "code") (none) (Data.fields #[(Value.str (Str.ofString "__exit__") 690), (Value.str (Str.ofString "StringIO.__exit__") 691), (Value.str (Str.ofString "/claim/cut.py") 692), (Value.int 298 0), (Value.int 1 0), (Value.int 0 0), (Value.int 0 0), (Value.int 7 0), (Value.ref 429), (Value.bool true), (Value.int 181 0), (Value.ref 430), Value.none, (Value.ref 431), (Value.ref 432), (Value.ref 433), (Value.int 695 0), (Value.int 298 0), (Value.str (Str.ofString "/claim/cut.py") 696)]) #[]),
  (Obj.mk (Value.type "function") (none) (Data.func (FuncData.mk (Str.ofString "__exit__") (Str.ofString "StringIO.__exit__") (fdA (mth 11 13)) (FuncBody.stmts (fdB (mth 11 13))) (fdS (mth 10 7)) 3 [] Value.none Value.none Value.none (Value.str (Str.ofString "io") 203) (none) (Value.ref 434) Value.none 0)) #[]),
  (Obj.mk (Value.type "tuple") (none) (Data.seq #[] 0) #[]),
  (Obj.mk Value.none (none) (Data.fields #[]) #[]),
  (Obj.mk (Value.type "tuple") (none) (Data.seq #[(Value.str (Str.ofString "self") 701)] 0) #[]),
  (Obj.mk (Value.type "tuple") (none) (Data.seq #[] 0) #[]),
  (Obj.mk Value.none (none) (Data.func (FuncData.mk (Str.ofString "readable") (Str.ofString "StringIO.readable") (fdA (mth 11 14)) (FuncBody.stmts (fdB (mth 11 14))) (fdS (mth 10 4)) 0 [] Value.none Value.none Value.none Value.none (none) Value.none Value.none 0)) #[]),
  (Obj.mk (Value.type "code") (none) (Data.fields #[(Value.str (Str.ofString "readable") 698), (Value.str (Str.ofString "StringIO.readable") 699), (Value.str (Str.ofString "/claim/cut.py") 700), (Value.int 301 0), (Value.int 1 0), (Value.int 0 0), (Value.int 0 0), (Value.int 3 0), (Value.ref 436), (Value.bool true), (Value.int 181 0), (Value.ref 437), Value.none, (Value.ref 438), (Value.ref 439), (Value.ref 440), (Value.int 702 0), (Value.int 301 0), (Value.str (Str.ofString "/claim/cut.py") 703)]) #[]),
  (Obj.mk (Value.type "function") (none) (Data.func (FuncData.mk (Str.ofString "readable") (Str.ofString "StringIO.readable") (fdA (mth 11 14)) (FuncBody.stmts (fdB (mth 11 14))) (fdS (mth 10 4)) 3 [] Value.none Value.none Value.none (Value.str (Str.ofString "io") 203) (none) (Value.ref 441) Value.none 0)) #[]),
  (Obj.mk (Value.type "tuple") (none) (Data.seq #[] 0) #[]),
  (Obj.mk Value.none (none) (Data.fields #[]) #[]),
  (Obj.mk (Value.type "tuple") (none) (Data.seq #[(Value.str (Str.ofString "self") 708)] 0) #[]),
  (Obj.mk (Value.type "tuple") (none) (Data.seq #[] 0) #[]),
  (Obj.mk Value.none (none) (Data.func (FuncData.mk (Str.ofString "writable") (Str.ofString "StringIO.writable") (fdA (mth 11 15)) (FuncBody.stmts (fdB (mth 11 15))) (fdS (mth 10 4)) 0 [] Value.none Value.none Value.none Value.none (none) Value.none Value.none 0)) #[]),
  (Obj.mk (Value.type "code") (none) (Data.fields #[(Value.str (Str.ofString "writable") 705), (Value.str (Str.ofString "StringIO.writable") 706), (Value.str (Str.ofString "/claim/cut.py") 707), (Value.int 305 0), (Value.int 1 0), (Value.int 0 0), (Value.int 0 0), (Value.int 3 0), (Value.ref 443), (Value.bool true), (Value.int 181 0), (Value.ref 444), Value.none, (Value.ref 445), (Value.ref 446), (Value.ref 447), (Value.int 709 0), (Value.int 305 0), (Value.str (Str.ofString "/claim/cut.py") 710)]) #[]),
  (Obj.mk (Value.type "function") (none) (Data.func (FuncData.mk (Str.ofString "writable") (Str.ofString "StringIO.writable") (fdA (mth 11 15)) (FuncBody.stmts (fdB (mth 11 15))) (fdS (mth 10 4)) 3 [] Value.none Value.none Value.none (Value.str (Str.ofString "io") 203) (none) (Value.ref 448) Value.none 0)) #[]),
  (Obj.mk (Value.type "tuple") (none) (Data.seq #[] 0) #[]),
  (Obj.mk Value.none (none) (Data.fields #[]) #[]),
  (Obj.mk (Value.type "tuple") (none) (Data.seq #[(Value.str (Str.ofString "self") 715)] 0) #[]),
  (Obj.mk (Value.type "tuple") (none) (Data.seq #[] 0) #[]),
  (Obj.mk Value.none (none) (Data.func (FuncData.mk (Str.ofString "seekable") (Str.ofString "StringIO.seekable") (fdA (mth 11 16)) (FuncBody.stmts (fdB (mth 11 16))) (fdS (mth 10 4)) 0 [] Value.none Value.none Value.none Value.none (none) Value.none Value.none 0)) #[]),
  (Obj.mk (Value.type "code") (none) (Data.fields #[(Value.str (Str.ofString "seekable") 712), (Value.str (Str.ofString "StringIO.seekable") 713), (Value.str (Str.ofString "/claim/cut.py") 714), (Value.int 309 0), (Value.int 1 0), (Value.int 0 0), (Value.int 0 0), (Value.int 3 0), (Value.ref 450), (Value.bool true), (Value.int 181 0), (Value.ref 451), Value.none, (Value.ref 452), (Value.ref 453), (Value.ref 454), (Value.int 716 0), (Value.int 309 0), (Value.str (Str.ofString "/claim/cut.py") 717)]) #[]),
  (Obj.mk (Value.type "function") (none) (Data.func (FuncData.mk (Str.ofString "seekable") (Str.ofString "StringIO.seekable") (fdA (mth 11 16)) (FuncBody.stmts (fdB (mth 11 16))) (fdS (mth 10 4)) 3 [] Value.none Value.none Value.none (Value.str (Str.ofString "io") 203) (none) (Value.ref 455) Value.none 0)) #[]),
  (Obj.mk (Value.type "tuple") (none) (Data.seq #[] 0) #[]),
  (Obj.mk Value.none (none) (Data.fields #[]) #[]),
  (Obj.mk (Value.type "tuple") (none) (Data.seq #[(Value.str (Str.ofString "self") 722)] 0) #[]),
  (Obj.mk (Value.type "tuple") (none) (Data.seq #[] 0) #[]),
  (Obj.mk Value.none (none) (Data.func (FuncData.mk (Str.ofString "isatty") (Str.ofString "StringIO.isatty") (fdA (mth 11 17)) (FuncBody.stmts (fdB (mth 11 17))) (fdS (mth 10 4)) 0 [] Value.none Value.none Value.none Value.none (none) Value.none Value.none 0)) #[]),
  (Obj.mk (Value.type "code") (none) (Data.fields #[(Value.str (Str.ofString "isatty") 719), (Value.str (Str.ofString "StringIO.isatty") 720), (Value.str (Str.ofString "/claim/cut.py") 721), (Value.int 313 0), (Value.int 1 0), (Value.int 0 0), (Value.int 0 0), (Value.int 3 0), (Value.ref 457), (Value.bool true), (Value.int 181 0), (Value.ref 458), Value.none, (Value.ref 459), (Value.ref 460), (Value.ref 461), (Value.int 723 0), (Value.int 313 0), (Value.str (Str.ofString "/claim/cut.py") 724)]) #[]),
  (Obj.mk (Value.type "function") (none) (Data.func (FuncData.mk (Str.ofString "isatty") (Str.ofString "StringIO.isatty") (fdA (mth 11 17)) (FuncBody.stmts (fdB (mth 11 17))) (fdS (mth 10 4)) 3 [] Value.none Value.none Value.none (Value.str (Str.ofString "io") 203) (none) (Value.ref 462) Value.none 0)) #[]),
  (Obj.mk (Value.type "tuple") (none) (Data.seq #[] 0) #[]),
  (Obj.mk Value.none (none) (Data.fields #[]) #[]),
  (Obj.mk (Value.type "tuple") (none) (Data.seq #[(Value.str (Str.ofString "self") 729)] 0) #[]),
  (Obj.mk (Value.type "tuple") (none) (Data.seq #[] 0) #[]),
  (Obj.mk Value.none (none) (Data.func (FuncData.mk (Str.ofString "flush") (Str.ofString "StringIO.flush") (fdA (mth 11 18)) (FuncBody.stmts (fdB (mth 11 18))) (fdS (mth 10 4)) 0 [] Value.none Value.none Value.none Value.none (none) Value.none Value.none 0)) #[]),
  (Obj.mk (Value.type "code") (none) (Data.fields #[(Value.str (Str.ofString "flush") 726), (Value.str (Str.ofString "StringIO.flush") 727), (Value.str (Str.ofString "/claim/cut.py") 728), (Value.int 317 0), (Value.int 1 0), (Value.int 0 0), (Value.int 0 0), (Value.int 3 0), (Value.ref 464), (Value.bool true), (Value.int 181 0), (Value.ref 465), Value.none, (Value.ref 466), (Value.ref 467), (Value.ref 468), (Value.int 730 0), (Value.int 317 0), (Value.str (Str.ofString "/claim/cut.py") 731)]) #[]),
  (Obj.mk (Value.type "function") (none) (Data.func (FuncData.mk (Str.ofString "flush") (Str.ofString "StringIO.flush") (fdA (mth 11 18)) (FuncBody.stmts (fdB (mth 11 18))) (fdS (mth 10 4)) 3 [] Value.none Value.none Value.none (Value.str (Str.ofString "io") 203) (none) (Value.ref 469) Value.none 0)) #[]),
  (Obj.mk (Value.type "tuple") (none) (Data.seq #[] 0) #[]),
  (Obj.mk Value.none (none) (Data.fields #[]) #[]),
  (Obj.mk (Value.type "tuple") (none) (Data.seq #[(Value.str (Str.ofString "self") 736)] 0) #[]),
  (Obj.mk (Value.type "tuple") (none) (Data.seq #[] 0) #[]),
  (Obj.mk Value.none (none) (Data.func (FuncData.mk (Str.ofString "fileno") (Str.ofString "StringIO.fileno") (fdA (mth 11 19)) (FuncBody.stmts (fdB (mth 11 19))) (fdS (mth 10 13)) 0 [] Value.none Value.none Value.none Value.none (none) Value.none Value.none 0)) #[]),
  (Obj.mk (Value.type "code") (none) (Data.fields #[(Value.str (Str.ofString "fileno") 733), (Value.str (Str.ofString "StringIO.fileno") 734), (Value.str (Str.ofString "/claim/cut.py") 735), (Value.int 320 0), (Value.int 1 0), (Value.int 0 0), (Value.int 0 0), (Value.int 3 0), (Value.ref 471), (Value.bool true), (Value.int 181 0), (Value.ref 472), Value.none, (Value.ref 473), (Value.ref 474), (Value.ref 475), (Value.int 737 0), (Value.int 320 0), (Value.str (Str.ofString "/claim/cut.py") 738)]) #[]),
  (Obj.mk (Value.type "function") (none) (Data.func (FuncData.mk (Str.ofString "fileno") (Str.ofString "StringIO.fileno") (fdA (mth 11 19)) (FuncBody.stmts (fdB (mth 11 19))) (fdS (mth 10 13)) 3 [] Value.none Value.none Value.none (Value.str (Str.ofString "io") 203) (none) (Value.ref 476) Value.none 0)) #[]),
  (Obj.mk (Value.type "tuple") (none) (Data.seq #[] 0) #[]),
  (Obj.mk Value.none (none) (Data.fields #[]) #[]),
  (Obj.mk (Value.type "tuple") (none) (Data.seq #[(Value.str (Str.ofString "self") 743)] 0) #[]),
  (Obj.mk (Value.type "tuple") (none) (Data.seq #[] 0) #[])]
noncomputable def obS3 (P : Params) : List Obj := [
  (Obj.mk Value.none (none) (Data.func (FuncData.mk (Str.ofString "detach") (Str.ofString "StringIO.detach") (fdA (mth 11 20)) (FuncBody.stmts (fdB (mth 11 20))) (fdS (mth 10 14)) 0 [] Value.none Value.none Value.none Value.none (none) Value.none Value.none 0)) #[]),
  (Obj.mk (Value.type "code") (none) (Data.fields #[(Value.str (Str.ofString "detach") 740), (Value.str (Str.ofString "StringIO.detach") 741), (Value.str (Str.ofString "/claim/cut.py") 742), (Value.int 323 0), (Value.int 1 0), (Value.int 0 0), (Value.int 0 0), (Value.int 3 0), (Value.ref 478), (Value.bool true), (Value.int 181 0), (Value.ref 479), Value.none, (Value.ref 480), (Value.ref 481), (Value.ref 482), (Value.int 744 0), (Value.int 323 0), (Value.str (Str.ofString "/claim/cut.py") 745)]) #[]),
  (Obj.mk (Value.type "function") (none) (Data.func (FuncData.mk (Str.ofString "detach") (Str.ofString "StringIO.detach") (fdA (mth 11 20)) (FuncBody.stmts (fdB (mth 11 20))) (fdS (mth 10 14)) 3 [] Value.none Value.none Value.none (Value.str (Str.ofString "io") 203) (none) (Value.ref 483) Value.none 0)) #[]),
  (Obj.mk (Value.type "tuple") (none) (Data.seq #[] 0) #[]),
  (Obj.mk Value.none (none) (Data.fields #[]) #[]),
  (Obj.mk (Value.type "tuple") (none) (Data.seq #[(Value.str (Str.ofString "self") 750)] 0) #[]),
  (Obj.mk (Value.type "tuple") (none) (Data.seq #[] 0) #[]),
  (Obj.mk Value.none (none) (Data.func (FuncData.mk (Str.ofString "getvalue") (Str.ofString "StringIO.getvalue") (fdA (mth 11 21)) (FuncBody.stmts (fdB (mth 11 21))) (fdS (mth 10 4)) 0 [] Value.none Value.none Value.none Value.none (none) Value.none Value.none 0)) #[]),
  (Obj.mk (Value.type "code") (none) (Data.fields #[(Value.str (Str.ofString "getvalue") 747), (Value.str (Str.ofString "StringIO.getvalue") 748), (Value.str (Str.ofString "/claim/cut.py") 749), (Value.int 326 0), (Value.int 1 0), (Value.int 0 0), (Value.int 0 0), (Value.int 3 0), (Value.ref 485), (Value.bool true), (Value.int 181 0), (Value.ref 486), Value.none, (Value.ref 487), (Value.ref 488), (Value.ref 489), (Value.int 751 0), (Value.int 326 0), (Value.str (Str.ofString "/claim/cut.py") 752)]) #[]),
  (Obj.mk (Value.type "function") (none) (Data.func (FuncData.mk (Str.ofString "getvalue") (Str.ofString "StringIO.getvalue") (fdA (mth 11 21)) (FuncBody.stmts (fdB (mth 11 21))) (fdS (mth 10 4)) 3 [] Value.none Value.none Value.none (Value.str (Str.ofString "io") 203) (none) (Value.ref 490) Value.none 0)) #[]),
  (Obj.mk (Value.type "tuple") (none) (Data.seq #[] 0) #[]),
  (Obj.mk Value.none (none) (Data.fields #[]) #[]),
  (Obj.mk (Value.type "tuple") (none) (Data.seq #[(Value.str (Str.ofString "self") 757)] 0) #[]),
  (Obj.mk (Value.type "tuple") (none) (Data.seq #[] 0) #[]),
  (Obj.mk Value.none (none) (Data.func (FuncData.mk (Str.ofString "tell") (Str.ofString "StringIO.tell") (fdA (mth 11 22)) (FuncBody.stmts (fdB (mth 11 22))) (fdS (mth 10 4)) 0 [] Value.none Value.none Value.none Value.none (none) Value.none Value.none 0)) #[]),
  (Obj.mk (Value.type "code") (none) (Data.fields #[(Value.str (Str.ofString "tell") 754), (Value.str (Str.ofString "StringIO.tell") 755), (Value.str (Str.ofString "/claim/cut.py") 756), (Value.int 330 0), (Value.int 1 0), (Value.int 0 0), (Value.int 0 0), (Value.int 3 0), (Value.ref 492), (Value.bool true), (Value.int 181 0), (Value.ref 493), Value.none, (Value.ref 494), (Value.ref 495), (Value.ref 496), (Value.int 758 0), (Value.int 330 0), (Value.str (Str.ofString "/claim/cut.py") 759)]) #[]),
  (Obj.mk (Value.type "function") (none) (Data.func (FuncData.mk (Str.ofString "tell") (Str.ofString "StringIO.tell") (fdA (mth 11 22)) (FuncBody.stmts (fdB (mth 11 22))) (fdS (mth 10 4)) 3 [] Value.none Value.none Value.none (Value.str (Str.ofString "io") 203) (none) (Value.ref 497) Value.none 0)) #[]),
  (Obj.mk (Value.type "tuple") (none) (Data.seq #[(Value.int 0 761)] 0) #[]),
  (Obj.mk (Value.type "tuple") (none) (Data.seq #[] 0) #[]),
  (Obj.mk Value.none (none) (Data.fields #[]) #[]),
  (Obj.mk (Value.type "tuple") (none) (Data.seq #[(Value.str (Str.ofString "self") 765), (Value.str (Str.ofString "pos") 766), (Value.str (Str.ofString "whence") 767)] 0) #[]),
  (Obj.mk (Value.type "tuple") (none) (Data.seq #[] 0) #[]),
  (Obj.mk Value.none (none) (Data.func (FuncData.mk (Str.ofString "seek") (Str.ofString "StringIO.seek") (fdA (mth 11 23)) (FuncBody.stmts (fdB (mth 11 23))) (fdS (mth 11 23)) 0 [] Value.none Value.none Value.none Value.none (none) Value.none Value.none 0)) #[]),
  (Obj.mk (Value.type "code") (none) (Data.fields #[(Value.str (Str.ofString "seek") 762), (Value.str (Str.ofString "StringIO.seek") 763), (Value.str (Str.ofString "/claim/cut.py") 764), (Value.int 334 0), (Value.int 3 0), (Value.int 3 0), (Value.int 0 0), (Value.int 3 0), (Value.ref 500), (Value.bool true), (Value.int 181 0), (Value.ref 501), Value.none, (Value.ref 502), (Value.ref 503), (Value.ref 504), (Value.int 768 0), (Value.int 334 0), (Value.str (Str.ofString "/claim/cut.py") 769)]) #[]),
  (Obj.mk (Value.type "function") (none) (Data.func (FuncData.mk (Str.ofString "seek") (Str.ofString "StringIO.seek") (fdA (mth 11 23)) (FuncBody.stmts (fdB (mth 11 23))) (fdS (mth 11 23)) 3 [] (Value.ref 499) Value.none Value.none (Value.str (Str.ofString "io") 203) (none) (Value.ref 505) Value.none 0)) #[]),
  (Obj.mk (Value.type "tuple") (none) (Data.seq #[Value.none] 0) #[]),
  (Obj.mk (Value.type "tuple") (none) (Data.seq #[] 0) #[]),
  (Obj.mk Value.none (none) (Data.fields #[]) #[]),
  (Obj.mk (Value.type "tuple") (none) (Data.seq #[(Value.str (Str.ofString "self") 774), (Value.str (Str.ofString "pos") 775)] 0) #[]),
  (Obj.mk (Value.type "tuple") (none) (Data.seq #[] 0) #[]),
  (Obj.mk Value.none (none) (Data.func (FuncData.mk (Str.ofString "truncate") (Str.ofString "StringIO.truncate") (fdA (mth 11 24)) (FuncBody.stmts (fdB (mth 11 24))) (fdS (mth 11 24)) 0 [] Value.none Value.none Value.none Value.none (none) Value.none Value.none 0)) #[]),
  (Obj.mk (Value.type "code") (none) (Data.fields #[(Value.str (Str.ofString "truncate") 771), (Value.str (Str.ofString "StringIO.truncate") 772), (Value.str (Str.ofString "/claim/cut.py") 773), (Value.int 351 0), (Value.int 2 0), (Value.int 2 0), (Value.int 0 0), (Value.int 3 0), (Value.ref 508), (Value.bool true), (Value.int 181 0), (Value.ref 509), Value.none, (Value.ref 510), (Value.ref 511), (Value.ref 512), (Value.int 776 0), (Value.int 351 0), (Value.str (Str.ofString "/claim/cut.py") 777)]) #[]),
  (Obj.mk (Value.type "function") (none) (Data.func (FuncData.mk (Str.ofString "truncate") (Str.ofString "StringIO.truncate") (fdA (mth 11 24)) (FuncBody.stmts (fdB (mth 11 24))) (fdS (mth 11 24)) 3 [] (Value.ref 507) Value.none Value.none (Value.str (Str.ofString "io") 203) (none) (Value.ref 513) Value.none 0)) #[]),
  (Obj.mk (Value.type "tuple") (none) (Data.seq #[(Value.int (Neg.neg 1) 780)] 0) #[]),
  (Obj.mk (Value.type "tuple") (none) (Data.seq #[] 0) #[]),
  (Obj.mk Value.none (none) (Data.fields #[]) #[]),
  (Obj.mk (Value.type "tuple") (none) (Data.seq #[(Value.str (Str.ofString "self") 784), (Value.str (Str.ofString "size") 785), (Value.str (Str.ofString "start") 786), (Value.str (Str.ofString "stop") 787)] 0) #[]),
  (Obj.mk (Value.type "tuple") (none) (Data.seq #[] 0) #[]),
  (Obj.mk Value.none (none) (Data.func (FuncData.mk (Str.ofString "read") (Str.ofString "StringIO.read") (fdA (mth 11 25)) (FuncBody.stmts (fdB (mth 11 25))) (fdS (mth 11 25)) 0 [] Value.none Value.none Value.none Value.none (none) Value.none Value.none 0)) #[]),
  (Obj.mk (Value.type "code") (none) (Data.fields #[(Value.str (Str.ofString "read") 781), (Value.str (Str.ofString "StringIO.read") 782), (Value.str (Str.ofString "/claim/cut.py") 783), (Value.int 354 0), (Value.int 2 0), (Value.int 2 0), (Value.int 0 0), (Value.int 3 0), (Value.ref 516), (Value.bool true), (Value.int 181 0), (Value.ref 517), Value.none, (Value.ref 518), (Value.ref 519), (Value.ref 520), (Value.int 788 0), (Value.int 354 0), (Value.str (Str.ofString "/claim/cut.py") 789)]) #[]),
  (Obj.mk (Value.type "function") (none) (Data.func (FuncData.mk (Str.ofString "read") (Str.ofString "StringIO.read") (fdA (mth 11 25)) (FuncBody.stmts (fdB (mth 11 25))) (fdS (mth 11 25)) 3 [] (Value.ref 515) Value.none Value.none (Value.str (Str.ofString "io") 203) (none) (Value.ref 521) Value.none 0)) #[]),
  (Obj.mk (Value.type "tuple") (none) (Data.seq #[(Value.int (Neg.neg 1) 792)] 0) #[]),
  (Obj.mk (Value.type "tuple") (none) (Data.seq #[] 0) #[]),
  (Obj.mk Value.none (none) (Data.fields #[]) #[]),
  (Obj.mk (Value.type "tuple") (none) (Data.seq #[(Value.str (Str.ofString "self") 796), (Value.str (Str.ofString "size") 797)] 0) #[]),
  (Obj.mk (Value.type "tuple") (none) (Data.seq #[] 0) #[]),
  (Obj.mk Value.none (none) (Data.func (FuncData.mk (Str.ofString "readline") (Str.ofString "StringIO.readline") (fdA (mth 11 26)) (FuncBody.stmts (fdB (mth 11 26))) (fdS (mth 10 24)) 0 [] Value.none Value.none Value.none Value.none (none) Value.none Value.none 0)) #[]),
  (Obj.mk (Value.type "code") (none) (Data.fields #[(Value.str (Str.ofString "readline") 793), (Value.str (Str.ofString "StringIO.readline") 794), (Value.str (Str.ofString "/claim/cut.py") 795), (Value.int 368 0), (Value.int 2 0), (Value.int 2 0), (Value.int 0 0), (Value.int 3 0), (Value.ref 524), (Value.bool true), (Value.int 181 0), (Value.ref 525), Value.none, (Value.ref 526), (Value.ref 527), (Value.ref 528), (Value.int 798 0), (Value.int 368 0), (Value.str (Str.ofString "/claim/cut.py") 799)]) #[]),
  (Obj.mk (Value.type "function") (none) (Data.func (FuncData.mk (Str.ofString "readline") (Str.ofString "StringIO.readline") (fdA (mth 11 26)) (FuncBody.stmts (fdB (mth 11 26))) (fdS (mth 10 24)) 3 [] (Value.ref 523) Value.none Value.none (Value.str (Str.ofString "io") 203) (none) (Value.ref 529) Value.none 0)) #[]),
  (Obj.mk (Value.type "tuple") (none) (Data.seq #[(Value.int (Neg.neg 1) 802)] 0) #[])]
noncomputable def obS4 (P : Params) : List Obj := [
  (Obj.mk (Value.type "tuple") (none) (Data.seq #[] 0) #[]),
  (Obj.mk Value.none (none) (Data.fields #[]) #[]),
  (Obj.mk (Value.type "tuple") (none) (Data.seq #[(Value.str (Str.ofString "self") 806), (Value.str (Str.ofString "hint") 807)] 0) #[]),
  (Obj.mk (Value.type "tuple") (none) (Data.seq #[] 0) #[]),
  (Obj.mk Value.none (none) (Data.func (FuncData.mk (Str.ofString "readlines") (Str.ofString "StringIO.readlines") (fdA (mth 11 27)) (FuncBody.stmts (fdB (mth 11 27))) (fdS (mth 11 27)) 0 [] Value.none Value.none Value.none Value.none (none) Value.none Value.none 0)) #[]),
  (Obj.mk (Value.type "code") (none) (Data.fields #[(Value.str (Str.ofString "readlines") 803), (Value.str (Str.ofString "StringIO.readlines") 804), (Value.str (Str.ofString "/claim/cut.py") 805), (Value.int 375 0), (Value.int 2 0), (Value.int 2 0), (Value.int 0 0), (Value.int 3 0), (Value.ref 532), (Value.bool true), (Value.int 181 0), (Value.ref 533), Value.none, (Value.ref 534), (Value.ref 535), (Value.ref 536), (Value.int 808 0), (Value.int 375 0), (Value.str (Str.ofString "/claim/cut.py") 809)]) #[]),
  (Obj.mk (Value.type "function") (none) (Data.func (FuncData.mk (Str.ofString "readlines") (Str.ofString "StringIO.readlines") (fdA (mth 11 27)) (FuncBody.stmts (fdB (mth 11 27))) (fdS (mth 11 27)) 3 [] (Value.ref 531) Value.none Value.none (Value.str (Str.ofString "io") 203) (none) (Value.ref 537) Value.none 0)) #[]),
  (Obj.mk (Value.type "tuple") (none) (Data.seq #[] 0) #[]),
  (Obj.mk Value.none (none) (Data.fields #[]) #[]),
  (Obj.mk (Value.type "tuple") (none) (Data.seq #[(Value.str (Str.ofString "self") 814)] 0) #[]),
  (Obj.mk (Value.type "tuple") (none) (Data.seq #[] 0) #[]),
  (Obj.mk Value.none (none) (Data.func (FuncData.mk (Str.ofString "__iter__") (Str.ofString "StringIO.__iter__") (fdA (mth 11 28)) (FuncBody.stmts (fdB (mth 11 28))) (fdS (mth 10 4)) 0 [] Value.none Value.none Value.none Value.none (none) Value.none Value.none 0)) #[]),
  (Obj.mk (Value.type "code") (none) (Data.fields #[(Value.str (Str.ofString "__iter__") 811), (Value.str (Str.ofString "StringIO.__iter__") 812), (Value.str (Str.ofString "/claim/cut.py") 813), (Value.int 378 0), (Value.int 1 0), (Value.int 0 0), (Value.int 0 0), (Value.int 3 0), (Value.ref 539), (Value.bool true), (Value.int 181 0), (Value.ref 540), Value.none, (Value.ref 541), (Value.ref 542), (Value.ref 543), (Value.int 815 0), (Value.int 378 0), (Value.str (Str.ofString "/claim/cut.py") 816)]) #[]),
  (Obj.mk (Value.type "function") (none) (Data.func (FuncData.mk (Str.ofString "__iter__") (Str.ofString "StringIO.__iter__") (fdA (mth 11 28)) (FuncBody.stmts (fdB (mth 11 28))) (fdS (mth 10 4)) 3 [] Value.none Value.none Value.none (Value.str (Str.ofString "io") 203) (none) (Value.ref 544) Value.none 0)) #[]),
  (Obj.mk (Value.type "tuple") (none) (Data.seq #[] 0) #[]),
  (Obj.mk Value.none (none) (Data.fields #[]) #[]),
  (Obj.mk (Value.type "tuple") (none) (Data.seq #[(Value.str (Str.ofString "self") 821), (Value.str (Str.ofString "line") 822)] 0) #[]),
  (Obj.mk (Value.type "tuple") (none) (Data.seq #[] 0) #[]),
  (Obj.mk Value.none (none) (Data.func (FuncData.mk (Str.ofString "__next__") (Str.ofString "StringIO.__next__") (fdA (mth 11 29)) (FuncBody.stmts (fdB (mth 11 29))) (fdS (mth 10 27)) 0 [] Value.none Value.none Value.none Value.none (none) Value.none Value.none 0)) #[]),
  (Obj.mk (Value.type "code") (none) (Data.fields #[(Value.str (Str.ofString "__next__") 818), (Value.str (Str.ofString "StringIO.__next__") 819), (Value.str (Str.ofString "/claim/cut.py") 820), (Value.int 382 0), (Value.int 1 0), (Value.int 0 0), (Value.int 0 0), (Value.int 3 0), (Value.ref 546), (Value.bool true), (Value.int 181 0), (Value.ref 547), Value.none, (Value.ref 548), (Value.ref 549), (Value.ref 550), (Value.int 823 0), (Value.int 382 0), (Value.str (Str.ofString "/claim/cut.py") 824)]) #[]),
  (Obj.mk (Value.type "function") (none) (Data.func (FuncData.mk (Str.ofString "__next__") (Str.ofString "StringIO.__next__") (fdA (mth 11 29)) (FuncBody.stmts (fdB (mth 11 29))) (fdS (mth 10 27)) 3 [] Value.none Value.none Value.none (Value.str (Str.ofString "io") 203) (none) (Value.ref 551) Value.none 0)) #[]),
  (Obj.mk (Value.type "tuple") (none) (Data.seq #[] 0) #[]),
  (Obj.mk Value.none (none) (Data.fields #[]) #[]),
  (Obj.mk (Value.type "tuple") (none) (Data.seq #[(Value.str (Str.ofString "self") 829), (Value.str (Str.ofString "s") 830), (Value.str (Str.ofString "n") 831), (Value.str (Str.ofString "m") 832), (Value.str (Str.ofString "start") 833), (Value.str (Str.ofString "buf") 834)] 0) #[]),
  (Obj.mk (Value.type "tuple") (none) (Data.seq #[] 0) #[]),
  (Obj.mk Value.none (none) (Data.func (FuncData.mk (Str.ofString "write") (Str.ofString "StringIO.write") (fdA (mth 11 30)) (FuncBody.stmts (fdB (mth 11 30))) (fdS (mth 11 30)) 0 [] Value.none Value.none Value.none Value.none (none) Value.none Value.none 0)) #[]),
  (Obj.mk (Value.type "code") (none) (Data.fields #[(Value.str (Str.ofString "write") 826), (Value.str (Str.ofString "StringIO.write") 827), (Value.str (Str.ofString "/claim/cut.py") 828), (Value.int 389 0), (Value.int 2 0), (Value.int 2 0), (Value.int 0 0), (Value.int 3 0), (Value.ref 553), (Value.bool true), (Value.int 181 0), (Value.ref 554), Value.none, (Value.ref 555), (Value.ref 556), (Value.ref 557), (Value.int 835 0), (Value.int 389 0), (Value.str (Str.ofString "/claim/cut.py") 836)]) #[]),
  (Obj.mk (Value.type "function") (none) (Data.func (FuncData.mk (Str.ofString "write") (Str.ofString "StringIO.write") (fdA (mth 11 30)) (FuncBody.stmts (fdB (mth 11 30))) (fdS (mth 11 30)) 3 [] Value.none Value.none Value.none (Value.str (Str.ofString "io") 203) (none) (Value.ref 558) Value.none 0)) #[]),
  (Obj.mk (Value.type "tuple") (none) (Data.seq #[] 0) #[]),
  (Obj.mk Value.none (none) (Data.fields #[]) #[]),
  (Obj.mk (Value.type "tuple") (none) (Data.seq #[(Value.str (Str.ofString "self") 841), (Value.str (Str.ofString "lines") 842)] 0) #[]),
  (Obj.mk (Value.type "tuple") (none) (Data.seq #[] 0) #[]),
  (Obj.mk Value.none (none) (Data.func (FuncData.mk (Str.ofString "writelines") (Str.ofString "StringIO.writelines") (fdA (mth 11 31)) (FuncBody.stmts (fdB (mth 11 31))) (fdS (mth 10 29)) 0 [] Value.none Value.none Value.none Value.none (none) Value.none Value.none 0)) #[]),
  (Obj.mk (Value.type "code") (none) (Data.fields #[(Value.str (Str.ofString "writelines") 838), (Value.str (Str.ofString "StringIO.writelines") 839), (Value.str (Str.ofString "/claim/cut.py") 840), (Value.int 408 0), (Value.int 2 0), (Value.int 2 0), (Value.int 0 0), (Value.int 3 0), (Value.ref 560), (Value.bool true), (Value.int 181 0), (Value.ref 561), Value.none, (Value.ref 562), (Value.ref 563), (Value.ref 564), (Value.int 843 0), (Value.int 408 0), (Value.str (Str.ofString "/claim/cut.py") 844)]) #[]),
  (Obj.mk (Value.type "function") (none) (Data.func (FuncData.mk (Str.ofString "writelines") (Str.ofString "StringIO.writelines") (fdA (mth 11 31)) (FuncBody.stmts (fdB (mth 11 31))) (fdS (mth 10 29)) 3 [] Value.none Value.none Value.none (Value.str (Str.ofString "io") 203) (none) (Value.ref 565) Value.none 0)) #[]),
  (Obj.mk (Value.type "tuple") (none) (Data.seq #[] 0) #[]),
  (Obj.mk Value.none (none) (Data.fields #[]) #[]),
  (Obj.mk (Value.type "tuple") (none) (Data.seq #[(Value.str (Str.ofString "self") 849)] 0) #[]),
  (Obj.mk (Value.type "tuple") (none) (Data.seq #[] 0) #[]),
  (Obj.mk Value.none (none) (Data.func (FuncData.mk (Str.ofString "__repr__") (Str.ofString "StringIO.__repr__") (fdA (mth 11 32)) (FuncBody.stmts (fdB (mth 11 32))) (fdS (mth 10 14)) 0 [] Value.none Value.none Value.none Value.none (none) Value.none Value.none 0)) #[]),
  (Obj.mk (Value.type "code") (none) (Data.fields #[(Value.str (Str.ofString "__repr__") 846), (Value.str (Str.ofString "StringIO.__repr__") 847), (Value.str (Str.ofString "/claim/cut.py") 848), (Value.int 411 0), (Value.int 1 0), (Value.int 0 0), (Value.int 0 0), (Value.int 3 0), (Value.ref 567), (Value.bool true), (Value.int 181 0), (Value.ref 568), Value.none, (Value.ref 569), (Value.ref 570), (Value.ref 571), (Value.int 850 0), (Value.int 411 0), (Value.str (Str.ofString "/claim/cut.py") 851)]) #[]),
  (Obj.mk (Value.type "function") (none) (Data.func (FuncData.mk (Str.ofString "__repr__") (Str.ofString "StringIO.__repr__") (fdA (mth 11 32)) (FuncBody.stmts (fdB (mth 11 32))) (fdS (mth 10 14)) 3 [] Value.none Value.none Value.none (Value.str (Str.ofString "io") 203) (none) (Value.ref 572) Value.none 0)) #[]),
  (Obj.mk (Value.type "tuple") (none) (Data.seq #[(Value.str (Str.ofString "__buf") 853), (Value.str (Str.ofString "__newline") 854), (Value.str (Str.ofString "__pos") 855)] 0) #[]),
  (Obj.mk (Value.type "dict") (none) (Data.dict #[(DictEntry.mk (PyData.keyHash P (Str.ofString "__module__")) (Value.str (Str.ofString "__module__") 580) (Value.str (Str.ofString "_io") 585)), (DictEntry.mk (PyData.keyHash P (Str.ofString "__firstlineno__")) (Value.str (Str.ofString "__firstlineno__") 584) (Value.int 207 583)), (DictEntry.mk (PyData.keyHash P (Str.ofString "__init__")) (Value.str (Str.ofString "__init__") 597) (Value.ref 346)), (DictEntry.mk (PyData.keyHash P (Str.ofString "_StringIO__translated")) (Value.str (Str.ofString "_StringIO__translated") 606) (Value.ref 353)), (DictEntry.mk (PyData.keyHash P (Str.ofString "_StringIO__check")) (Value.str (Str.ofString "_StringIO__check") 613) (Value.ref 360)), (DictEntry.mk (PyData.keyHash P (Str.ofString "_StringIO__check_dot")) (Value.str (Str.ofString "_StringIO__check_dot") 620) (Value.ref 367)), (DictEntry.mk (PyData.keyHash P (Str.ofString "_StringIO__line")) (Value.str (Str.ofString "_StringIO__line") 635) (Value.ref 374)), (DictEntry.mk (PyData.keyHash P (Str.ofString "closed")) (Value.str (Str.ofString "closed") 643) (Value.ref 382)), (DictEntry.mk (PyData.keyHash P (Str.ofString "line_buffering")) (Value.str (Str.ofString "line_buffering") 651) (Value.ref 390)), (DictEntry.mk (PyData.keyHash P (Str.ofString "newlines")) (Value.str (Str.ofString "newlines") 659) (Value.ref 398)), (DictEntry.mk (PyData.keyHash P (Str.ofString "encoding")) (Value.str (Str.ofString "encoding") 667) (Value.ref 406)), (DictEntry.mk (PyData.keyHash P (Str.ofString "errors")) (Value.str (Str.ofString "errors") 675) (Value.ref 414)), (DictEntry.mk (PyData.keyHash P (Str.ofString "close")) (Value.str (Str.ofString "close") 682) (Value.ref 421)), (DictEntry.mk (PyData.keyHash P (Str.ofString "__enter__")) (Value.str (Str.ofString "__enter__") 689) (Value.ref 428)), (DictEntry.mk (PyData.keyHash P (Str.ofString "__exit__")) (Value.str (Str.ofString "__exit__") 697) (Value.ref 435)), (DictEntry.mk (PyData.keyHash P (Str.ofString "readable")) (Value.str (Str.ofString "readable") 704) (Value.ref 442)), (DictEntry.mk (PyData.keyHash P (Str.ofString "writable")) (Value.str (Str.ofString "writable") 711) (Value.ref 449)), (DictEntry.mk (PyData.keyHash P (Str.ofString "seekable")) (Value.str (Str.ofString "seekable") 718) (Value.ref 456)), (DictEntry.mk (PyData.keyHash P (Str.ofString "isatty")) (Value.str (Str.ofString "isatty") 725) (Value.ref 463)), (DictEntry.mk (PyData.keyHash P (Str.ofString "flush")) (Value.str (Str.ofString "flush") 732) (Value.ref 470)), (DictEntry.mk (PyData.keyHash P (Str.ofString "fileno")) (Value.str (Str.ofString "fileno") 739) (Value.ref 477)), (DictEntry.mk (PyData.keyHash P (Str.ofString "detach")) (Value.str (Str.ofString "detach") 746) (Value.ref 484)), (DictEntry.mk (PyData.keyHash P (Str.ofString "getvalue")) (Value.str (Str.ofString "getvalue") 753) (Value.ref 491)), (DictEntry.mk (PyData.keyHash P (Str.ofString "tell")) (Value.str (Str.ofString "tell") 760) (Value.ref 498)), (DictEntry.mk (PyData.keyHash P (Str.ofString "seek")) (Value.str (Str.ofString "seek") 770) (Value.ref 506)), (DictEntry.mk (PyData.keyHash P (Str.ofString "truncate")) (Value.str (Str.ofString "truncate") 778) (Value.ref 514)), (DictEntry.mk (PyData.keyHash P (Str.ofString "read")) (Value.str (Str.ofString "read") 790) (Value.ref 522)), (DictEntry.mk (PyData.keyHash P (Str.ofString "readline")) (Value.str (Str.ofString "readline") 800) (Value.ref 530)), (DictEntry.mk (PyData.keyHash P (Str.ofString "readlines")) (Value.str (Str.ofString "readlines") 810) (Value.ref 538)), (DictEntry.mk (PyData.keyHash P (Str.ofString "__iter__")) (Value.str (Str.ofString "__iter__") 817) (Value.ref 545)), (DictEntry.mk (PyData.keyHash P (Str.ofString "__next__")) (Value.str (Str.ofString "__next__") 825) (Value.ref 552)), (DictEntry.mk (PyData.keyHash P (Str.ofString "write")) (Value.str (Str.ofString "write") 837) (Value.ref 559)), (DictEntry.mk (PyData.keyHash P (Str.ofString "writelines")) (Value.str (Str.ofString "writelines") 845) (Value.ref 566)), (DictEntry.mk (PyData.keyHash P (Str.ofString "__repr__")) (Value.str (Str.ofString "__repr__") 852) (Value.ref 573)), (DictEntry.mk (PyData.keyHash P (Str.ofString "__static_attributes__")) (Value.str (Str.ofString "__static_attributes__") 856) (Value.ref 574)), (DictEntry.mk (PyData.keyHash P (Str.ofString "__doc__")) (Value.str (Str.ofString "__doc__") 857) Value.none)] 2) #[]),
  (Obj.mk (Value.type "type") (none) (Data.cls (ClassData.mk (Str.ofString "StringIO") [(Value.ref 99)] [(Value.ref 576), (Value.ref 99), (Value.ref 72), (Value.type "object")] 575 (Str.ofString "StringIO") true [] [] false (none) false)) #[(some (Value.ref 332)), (none), (some (Value.str (Str.ofString "StringIO") 573)), (some (Value.str (Str.ofString "StringIO") 581)), (some Value.none), (some (Value.bool true))]),
  (Obj.mk (Value.type "super") (none) (Data.fields #[(Value.ref 576), (Value.ref 576), (Value.ref 576)]) #[]),
  (Obj.mk (Value.type "builtin_function_or_method") (none) (Data.fields #[(Value.builtin "object.__init_subclass__"), (Value.ref 576)]) #[])]
noncomputable def obHd (P : Params) (o2 o3 o12 : List Obj) : List Obj := [boot_o_0 P, boot_o_1 P] ++ (o2 ++ (o3 ++ ([boot_o_4 P, boot_o_5 P, boot_o_6 P, boot_o_7 P, boot_o_8 P, boot_o_9 P, boot_o_10 P] ++ (obA0 P ++ (o12 ++ obA2 P)))))
noncomputable def obMd (P : Params) (o87 o99 : List Obj) : List Obj := obM1 P ++ (o87 ++ (obM2a P ++ (o99 ++ obM2b P)))
noncomputable def obNs (P : Params) : List Obj := obN0 P ++ (obN1 P ++ (obN2 P ++ obN3 P))
noncomputable def obSs (P : Params) : List Obj := obS0 P ++ (obS1 P ++ (obS2 P ++ (obS3 P ++ obS4 P)))
noncomputable def trA (P : Params) : BT := btIns .nil 0 (obHd P [boot_o_2 P] [boot_o_3 P] (obA1 P))
noncomputable def trB (P : Params) : BT := btIns .nil 0 (obHd P (obB2 P) (obB3 P) (obB12 P) ++ obMd P (obB87 P) (obB99 P))
noncomputable def trC (P : Params) : BT := btIns .nil 0 (obHd P (obB2 P) (obC3 P) (obC12 P) ++ (obMd P (obC87 P) (obB99 P) ++ obNs P))
noncomputable def trD (P : Params) : BT := btIns .nil 0 (obHd P (obB2 P) (obD3 P) (obD12 P) ++ (obMd P (obC87 P) (obD99 P) ++ (obNs P ++ obSs P)))
def env4 : Env := { scope := prog4.main.scope, locals := mainNs, globals := mainNs, cells := [], code := .ref 13, frame := some 14 }
def pos0 : Pos := ⟨0, 0, 0, 0⟩
noncomputable def body4 : List Stmt := behindTheImports prog4
theorem size4 : ∀ P, ((boot_heap P).isNs mainGlobals, (boot_heap P).objs.size, (boot_heap P).nsMap mainGlobals "__annotations__") = (true, 11, some (.ref 6)) := fun P => by kernel_rfl
theorem pre4 : ∀ (w : World) (os : OsState), topGo treeTable prog4 w 11 (some (.ref 6)) 12 ⟨boot_heap w.params, Array.mk [], boot_drawn, boot_toks, os⟩ (topStub prog4) =
    some (⟨absHeap (trA w.params) 15 {}, Array.mk [], {}, 187, os⟩, ⟨denote treeTable (.body (behindTheImports prog4) env4), .body (behindTheImports prog4) env4, pos0, [topFrame pos0]⟩) := fun w os => by kernel_rfl
theorem block4 : ∀ (w : World) (os : OsState), segRun treeTable prog4 w 11 (some (.ref 6)) 1 1 ⟨absHeap (trA w.params) 15 {}, Array.mk [], {}, 187, os⟩ (blockOf (behindTheImports prog4) env4 (.body (behindTheImports prog4) env4) pos0 [topFrame pos0]) =
    some (.next, SharedT.abs ⟨trA w.params, 15, {}, Array.mk [], {}, 187, os⟩, .body (behindTheImports prog4) env4, pos0) := fun w os => by kernel_rfl
theorem part1 : ∀ (w : World) (os : OsState), segRunT treeTable prog4 w 11 (some (.ref 6)) 1 1034 ⟨trA w.params, 15, {}, Array.mk [], {}, 187, os⟩ (piecesOf (body4.take 10) env4 (.body (behindTheImports prog4) env4) pos0 [topFrame pos0]) =
    some (.next, ⟨trB w.params, 102, {}, Array.mk [], {}, 311, os⟩, .body (behindTheImports prog4) env4, ⟨34, 0, 35, 21⟩) := fun w os => by kernel_rfl
theorem part2 : ∀ (w : World) (os : OsState), segRunT treeTable prog4 w 11 (some (.ref 6)) 1 1279 ⟨trB w.params, 102, {}, Array.mk [], {}, 311, os⟩ (piecesOf ((body4.drop 10).take 1) env4 (.body (behindTheImports prog4) env4) ⟨34, 0, 35, 21⟩ [topFrame pos0]) =
    some (.next, ⟨trC w.params, 332, {}, Array.mk [], {}, 573, os⟩, .body (behindTheImports prog4) env4, ⟨36, 0, 206, 17⟩) := fun w os => by kernel_rfl
theorem part3 : ∀ (w : World) (os : OsState), segRunT treeTable prog4 w 11 (some (.ref 6)) 1 1579 ⟨trC w.params, 332, {}, Array.mk [], {}, 573, os⟩ (piecesOf (((body4.drop 10).drop 1).take 1) env4 (.body (behindTheImports prog4) env4) ⟨36, 0, 206, 17⟩ [topFrame pos0]) =
    some (.next, ⟨trD w.params, 579, {}, Array.mk [], {}, 860, os⟩, .body (behindTheImports prog4) env4, ⟨207, 0, 412, 17⟩) := fun w os => by kernel_rfl
theorem fence4 : ∀ s, fenceModules? prog4 s = some s := fun s => by kernel_rfl
theorem opening4 : opening prog4 = plainProg prog4.main.scope.names := by kernel_rfl
end Mine
end

section
open PySem PySem.W PyProof.Rows
set_option maxRecDepth 100000
set_option maxHeartbeats 8000000
namespace Mine
def loose4 : List Str := [Str.ofString "UnsupportedOperation", Str.ofString "IOBase", Str.ofString "BufferedIOBase", Str.ofString "TextIOBase", Str.ofString "BytesIO", Str.ofString "StringIO"]
def view4 : Program := view prog4 [0, 2, 4, 5, 6, 7, 8, 9, 10, 11, 13, 15, 16, 17, 18]
theorem cut_list {α : Type} (l : List α) : l = l.take 10 ++ ((l.drop 10).take 1 ++ (((l.drop 10).drop 1).take 1 ++ ((l.drop 10).drop 1).drop 1)) := by rw [List.take_append_drop, List.take_append_drop, List.take_append_drop]
theorem open4 : ∀ w : World, (fencedOpening treeTable prog4 w (12 + (1 + (1034 + (1279 + (1579 + (170 + 10))))))).map (fun s => (s.heap, s.gens, s.drawn, s.toks)) = some (boot_heap w.params, Array.mk [], boot_drawn, boot_toks) := boot_open opening4 (by decide) fence4
theorem left4 {q : Program} {loose : List Str} {Xt : Shared → Bool} {α : Type} {Yf : Shared → α} {Ya : World → α}
    (part4 : ∀ (w : World) (os : OsState), (segRunT treeTable prog4 w 11 (some (.ref 6)) 1 170 ⟨trD w.params, 579, {}, Array.mk [], {}, 860, os⟩ (piecesOf (((body4.drop 10).drop 1).drop 1) env4 (.body (behindTheImports prog4) env4) ⟨207, 0, 412, 17⟩ [topFrame pos0])).bind
      (lastPart prog4 w 11 (some (.ref 6)) pos0 10 (endLooks prog4 q loose Xt Yf true (boot_heap w.params))) = some (true, openGood q loose, Ya w)) :
    LeftO prog4 q loose Xt Yf Ya (12 + (1 + (1034 + (1279 + (1579 + (170 + 10)))))) :=
  left_of_parts (p := prog4) (na := 12) (nb := 1) (M1 := 1034) (M2 := 1279) (M3 := 1579) (M4 := 170) (Mf := 10) (n₀ := 11) (ann := some (.ref 6)) (env := env4) (fr := pos0) (posA := pos0) (posB := pos0) (pos1 := ⟨34, 0, 35, 21⟩) (pos2 := ⟨36, 0, 206, 17⟩) (pos3 := ⟨207, 0, 412, 17⟩)
    (Ha := fun P => absHeap (trA P) 15 {}) (Tb := trA) (T1 := trB) (T2 := trC) (T3 := trD) (zb := 15) (z1 := 102) (z2 := 332) (z3 := 579) (life := {}) (ga := Array.mk []) (gb := Array.mk []) (g1 := Array.mk []) (g2 := Array.mk []) (g3 := Array.mk []) (da := {}) (db := {}) (d1 := {}) (d2 := {}) (d3 := {}) (ka := 187) (kb := 187) (k1 := 311) (k2 := 573) (k3 := 860)
    (l1 := body4.take 10) (l2 := (body4.drop 10).take 1) (l3 := ((body4.drop 10).drop 1).take 1) (l4 := ((body4.drop 10).drop 1).drop 1) open4 size4 pre4 block4 (cut_list body4) part1 part2 part3 part4
local macro_rules | `(tactic| o_law) => `(tactic| refine holds_law (by decide +kernel) fun said => ?_)
local macro_rules | `(tactic| o_head $H) => do
  let hw := Lean.mkIdent `hw
  let hc := Lean.mkIdent `hc
  `(tactic| refine Mine.PySem.W.holds_open (q := Mine.view4) (loose := Mine.loose4) (Xt := fun s => xlAt Mine.view4 [] s && recOk (RowW.records PySem.Challenge.rw_kp0085_04.row.toRowW) s) (XP := XL Mine.view4 []) (Yf := Hook.obs $H) (Ya := Hook.val $H) (YP := Hook.says $H) (N := 12 + (1 + (1034 + (1279 + (1579 + (170 + 10))))))
    (Mine.left4 (by intro w os; kernel_rfl)) (Hook.of $H) (Hook.keeps $H) (fun s e => xl_of s (Bool.and_eq_true_iff.mp e).1) XL.keeps (by rfl) (by rfl) (by rfl)
    (fun s e => recFacts_of (Bool.and_eq_true_iff.mp e).2) (by rfl) (by first | assumption | decide +kernel) (by decide +kernel) ⟨rfl, rfl, rfl, rfl, rfl, by decide +kernel⟩ ?$hw ?$hc)
open_top hd4 for PySem.Challenge.rw_kp0085_04
theorem headOff : True := by w_top off; trivial
end Mine
end

section
open PySem PySem.W PyProof.Rows
set_option maxRecDepth 100000
set_option maxHeartbeats 4000000
namespace Mine
section own
variable {M : Model} {h : Heap} {P : Params}
/-- what is asked of a class that makes its instances by a def of its own -/
structure OwnCls (M : Model) (h : Heap) (C : Addr) : Prop where
  obj : ∃ oc od cd sl, h.get? C = some ⟨oc, od, .cls cd, sl⟩ ∧ cd.abstract = false ∧ cd.hasDel = false ∧ cd.mro.isEmpty = false
  made : Looks M h (Bind.madeBy (.ref C)) none
  here : Looks M h (Bind.madeHere "object.__new__" (.ref C)) ()
  self : Looks M h (isSubtype (.ref C) (.ref C)) true
  call : Looks M h (specialOf (.ref C) "__call__") (some (.builtin "type.__call__"))
  typ : Looks M h (isInstance (.ref C) (.type "type")) true
  top : Looks M h (isSubtype (.ref C) (.type "object")) true
  base : Looks M h (Bind.staticBase (.ref C)) (.type "object")
  madeO : Looks M h (Bind.madeBy (.type "object")) (some "object.__new__")
def clsOk (K : Frag) (C : Addr) : Bool := match K.lookup C with
  | some ⟨_, _, .cls cd, _⟩ => !cd.abstract && !cd.hasDel && !cd.mro.isEmpty
  | _ => false
theorem clsOk_of {K : Frag} {C : Addr} (X : K.In h) (e : clsOk K C = true) : ∃ oc od cd sl, h.get? C = some ⟨oc, od, .cls cd, sl⟩ ∧ cd.abstract = false ∧ cd.hasDel = false ∧ cd.mro.isEmpty = false := by
  unfold clsOk at e
  split at e
  · rename_i oc od cd sl ho
    simp only [Bool.and_eq_true, Bool.not_eq_true'] at e
    exact ⟨oc, od, cd, sl, X _ _ ho, e.1.1, e.1.2, e.2⟩
  · cases e
theorem own329 (X : (Mine.hd4.heap_1 P).In h) : OwnCls M h 329 where
  obj := clsOk_of X (by kernel_rfl)
  made := Looks.of_peek X (by kernel_rfl)
  here := Looks.of_peek X (by kernel_rfl)
  self := looks_mroIn X (by kernel_rfl)
  call := looks_specialIn X (by kernel_rfl)
  typ := looks_instIn X (by kernel_rfl)
  top := looks_mroIn X (by kernel_rfl)
  base := Looks.of_peek X (by kernel_rfl)
  madeO := Looks.of_peek X (by kernel_rfl)
theorem own576 (X : (Mine.hd4.heap_1 P).In h) : OwnCls M h 576 where
  obj := clsOk_of X (by kernel_rfl)
  made := Looks.of_peek X (by kernel_rfl)
  here := Looks.of_peek X (by kernel_rfl)
  self := looks_mroIn X (by kernel_rfl)
  call := looks_specialIn X (by kernel_rfl)
  typ := looks_instIn X (by kernel_rfl)
  top := looks_mroIn X (by kernel_rfl)
  base := Looks.of_peek X (by kernel_rfl)
  madeO := Looks.of_peek X (by kernel_rfl)
variable {prog : Program} {w : World} {A : Around} {C : Addr} {R : Result → Shared → Prop} {g : Array GenState} {d : Drawn} {t : Nat} {os : OsState}
theorem new_own (Y : OwnCls (model prog w) h C) (hq : R (.ok (.ret (.ref (h.objs.size + 1)))) ⟨(h.push emptyDict).push (instObj C h.objs.size), g, d, t, os⟩) :
    codeAny (model prog w) A (.call (.builtin "object.__new__") ⟨[.ref C], []⟩) R ⟨h, g, d, t, os⟩ := by
  obtain ⟨⟨oc, od, cd, sl, hC, e1, e2, e4⟩, made, here, self, call, typ, top, base, madeO⟩ := Y
  have F := PySem.F.objNew
  refine codeAny_call_builtin_code (Code.quiet_builtin _ F.quiet) ?_
  simp only [checkBuiltinCall, F.kind, F.split, F.row]
  have args : Bind.checkArgs "object.__new__" ⟨.hand, "object.__new__", "__new__", .cls, []⟩ ⟨[.ref C], []⟩ = pure () := by kernel_rfl
  rw [args]
  repeat (first | simp only [bne_self_eq_false, Bool.false_eq_true, if_false] | lk)
  refine codeAny_builtin F.entry ?_
  unfold Builtin.«object.__new__»
  have fin : ∀ A', wpAny (model prog w) A' (do
      let d ← if typeHasDict (.ref C) then some <$> alloc { cls := .type "dict", data := .dict #[] } else pure none
      ret (← newObj (.ref C) .plain d)) (fun fin s' => match fin with | .done f => R (.ok f) s' | .again c' => c'.quiet = true ∧ codeAny (model prog w) A c' R s') (fun e s' => R (.error e) s') ⟨h, g, d, t, os⟩ := by
    intro A'
    show wpAny _ _ ((alloc emptyDict >>= fun x => pure (some x)) >>= _) _ _ _
    refine wpAny_bind (wpAny_bind (wpAny_alloc (wpAny_pure (wpAny_bind ?_))))
    show wpAny _ _ (newObjAsIs _ _ _) _ _ _
    unfold newObjAsIs classHasDel
    refine wpAny_bind (wpAny_alloc (wpAny_bind (wpAny_bind (wpAny_load (Heap.get?_push_of_some _ (Heap.get?_push_of_some _ hC)) (wpAny_pure ?_)))))
    rw [e2]
    refine wpAny_pure (wpAny_pure ?_)
    show R _ _
    rw [Heap.size_push]
    exact hq
  repeat (first | simp only [e1, Bool.false_eq_true, if_false] | exact fin _ | lk)
variable {L : Addr} {m : Str → Option Value} {news : List (Addr × Obj)} {h₀ : Heap} {s : Shared} {K : Frag}
theorem make_own {p fN fI : Addr} {rest : List Value} {mc : Value} (F : Fr h₀ L s.heap m) (X : K.In h₀) (Y : OwnCls (model prog w) s.heap C) (hm : typeIn K (.ref C) = some mc) (hr : readsIn K C mc = true)
    (e : findCls K (.ref C) mc "__new__" = some (.get (.builtin "staticmethod.__get__") (.ref p) .none (.ref C))) (hp : recIn K p "staticmethod" = some (.ref fN :: rest))
    (hs : mroIn K C (.ref C) = some true) (hi : findIn K (.ref C) "__init__" = some (some (.ref fI))) (hf : typeIn K (.ref fI) = some (.type "function"))
    (h : codeAny (model prog w) (A.under (.builtin "type.__call__" ⟨[.ref C], []⟩)) (.call (.ref fN) ⟨[.ref C], []⟩)
      (fun r s' => match r with
        | .ok (.ret v) => ∃ x ox, v = .ref x ∧ s'.heap.get? x = some ox ∧ ox.cls = .ref C ∧ K.In s'.heap ∧
          codeAny (model prog w) (A.under (.builtin "type.__call__" ⟨[.ref C], []⟩)) (.call (.ref fI) ⟨[.ref x], []⟩) (InitBack x R) s'
        | .ok _ => False
        | .error e => R (.error e) s') { s with toks := s.toks + 1 }) :
    codeAny (model prog w) A (.call (.ref C) ⟨[], []⟩) R s := by
  obtain ⟨hh, g, d, t, os⟩ := s
  have Y' := Y
  obtain ⟨⟨oc, od, cd, sl, hC, e1, e2, e4⟩, made, here, self, call, typ, top, base, madeO⟩ := Y
  refine codeAny_of_tree ?_
  show wpAny _ _ (callAny (.ref C) _) _ _ _
  refine nd_load hC ?_
  show wpAny _ _ (callAny.viaDunder (.ref C) _) _ _ _
  unfold callAny.viaDunder
  refine wpAny_bind (call.at ?_)
  dsimp only
  rw [tc_bind]
  refine wpAny_bind (wpAny_pure (wpAny_bind (wpAny_pure ?_)))
  refine wpAny_pure (a := Fin.again (.call (.builtin "type.__call__") ⟨[.ref C], []⟩)) (And.intro rfl ?_)
  refine codeAny_call_builtin_at (Code.quiet_builtin _ (by decide +kernel)) entry_typeCall (check_slot tc_kind tc_split typ (tc_args _ _ _) ?_)
  unfold Builtin.«type.__call__»
  have hmr : Looks (model prog w) hh (mroOf (.ref C)) cd.mro := ((Looks.ld (part := none) hC).andThen .now).andThen .now
  dsimp only at F
  repeat (first | simp only [e4, Bool.false_eq_true, if_false] | (with_reducible refine cls_sm F X hm hr e hp rfl ?_) | with_reducible refine wpAny_call ?_ | lk)
  refine codeAny_mono h fun r s' z => ?_
  rcases r with e | (v | _ | _ | _) <;> first | exact z | exact z.elim | skip
  obtain ⟨x, ox, rfl, hx, hcls, hk, z⟩ := z
  obtain ⟨h2, g2, d2, t2, os2⟩ := s'
  dsimp only at hx hk
  have t1 : Looks (model prog w) h2 (typeOf (.ref x)) (.ref C) := hcls ▸ ((Looks.ld hx).andThen .now)
  have s1 := looks_mroIn (M := model prog w) hk hs
  have i1 := looks_findIn (M := model prog w) hk hi
  have b1 := bind_fn (M := model prog w) hk (.ref x) hf
  unfold isInstance callSpecial? specialOf
  repeat (first | with_reducible refine wpAny_call ?_ | lk)
  refine codeAny_mono z fun r s' z => ?_
  rcases r with e | (v | _ | _ | _) <;> first | exact z | exact z.elim | skip
  obtain ⟨rfl, z⟩ := z
  exact wpAny_pure (wpAny_pure z)
theorem call_new_own {Q E : Value → Shared → Prop} (F : Fr h₀ L s.heap m) (N : News h₀ L s.heap news) (Y : OwnCls (model prog w) s.heap C)
    (h : ∀ x dx h', Fr h₀ L h' m → News h₀ L h' ((x, instObj C dx) :: (dx, dictOf [] 0) :: news) → (∀ p ∈ news, p.1 < dx) → dx < x → Q (.ref x) { s with heap := h' }) :
    wpAny (model prog w) A (call (.builtin "object.__new__") [.ref C]) Q E s := by
  obtain ⟨hh, g, d, t, os⟩ := s
  refine wpAny_call (new_own Y ?_)
  have N' := (N.push F emptyDict).push (F.push _) (instObj C hh.objs.size)
  rw [Heap.size_push] at N'
  exact h _ hh.objs.size _ ((F.push _).push _) N' (fun p hp => Heap.lt_size (N p hp).1) (Nat.lt_succ_self _)
theorem make_ownR {p fN fI : Addr} {rest : List Value} {mc : Value} (F : Fr h₀ L s.heap m) (X : K.In h₀) (Y : OwnCls (model prog w) s.heap C) (hm : typeIn K (.ref C) = some mc) (hr : readsIn K C mc = true)
    (e : findCls K (.ref C) mc "__new__" = some (.get (.builtin "staticmethod.__get__") (.ref p) .none (.ref C))) (hp : recIn K p "staticmethod" = some (.ref fN :: rest))
    (hs : mroIn K C (.ref C) = some true) (hi : findIn K (.ref C) "__init__" = some (some (.ref fI))) (hf : typeIn K (.ref fI) = some (.type "function"))
    (h : codeAny (model prog w) (A.under (.builtin "type.__call__" ⟨[.ref C], []⟩)) (.call (.ref fN) ⟨[.ref C], []⟩)
      (fun r s' => match r with
        | .ok (.ret v) => ∃ x ox, v = .ref x ∧ s'.heap.get? x = some ox ∧ ox.cls = .ref C ∧ K.In s'.heap ∧
          codeR (model prog w) (A.under (.builtin "type.__call__" ⟨[.ref C], []⟩)) (.call (.ref fI) ⟨[.ref x], []⟩) (InitBack x R) s'
        | .ok _ => False
        | .error e => R (.error e) s') { s with toks := s.toks + 1 }) :
    codeR (model prog w) A (.call (.ref C) ⟨[], []⟩) R s := by
  obtain ⟨hh, g, d, t, os⟩ := s
  have Y' := Y
  obtain ⟨⟨oc, od, cd, sl, hC, e1, e2, e4⟩, made, here, self, call, typ, top, base, madeO⟩ := Y
  refine codeR_of_tree rfl ?_
  show wpR _ _ (callAny (.ref C) _) _ _ _
  refine wpR_of ?_
  refine nd_load hC ?_
  show wpAny _ _ (callAny.viaDunder (.ref C) _) _ _ _
  unfold callAny.viaDunder
  refine wpAny_bind (call.at ?_)
  dsimp only
  rw [tc_bind]
  refine wpAny_bind (wpAny_pure (wpAny_bind (wpAny_pure ?_)))
  refine wpAny_pure (a := Fin.again (.call (.builtin "type.__call__") ⟨[.ref C], []⟩)) (And.intro rfl ?_)
  refine codeR_call_builtin_at (isDec_id (by decide +kernel)) (Code.quiet_builtin _ (by decide +kernel)) entry_typeCall (check_slot tc_kind tc_split typ (tc_args _ _ _) ?_)
  unfold Builtin.«type.__call__»
  have hmr : Looks (model prog w) hh (mroOf (.ref C)) cd.mro := ((Looks.ld (part := none) hC).andThen .now).andThen .now
  dsimp only at F
  show wpR _ _ (mroOf (.ref C) >>= _) _ _ _
  refine wpR_bind (wpR_of (hmr.at ?_))
  dsimp only
  rw [if_neg (by rw [e4]; decide)]
  refine wpR_bind (wpR_of (made.at ?_))
  dsimp only
  refine wpR_bind (wpR_of (cls_sm F X hm hr e hp rfl ?_))
  refine wpR_bind (wpR_holding (wpR_of (wpAny_call ?_)))
  refine codeAny_mono h fun r s' z => ?_
  rcases r with e | (v | _ | _ | _) <;> first | exact z | exact z.elim | skip
  obtain ⟨x, ox, rfl, hx, hcls, hk, z⟩ := z
  obtain ⟨h2, g2, d2, t2, os2⟩ := s'
  dsimp only at hx hk
  have t1 : Looks (model prog w) h2 (typeOf (.ref x)) (.ref C) := hcls ▸ ((Looks.ld hx).andThen .now)
  have s1 := looks_mroIn (M := model prog w) hk hs
  have i1 := looks_findIn (M := model prog w) hk hi
  have b1 := bind_fn (M := model prog w) hk (.ref x) hf
  refine wpR_bind (wpR_of ?_)
  unfold isInstance
  repeat lk
  rw [if_neg (by decide)]
  refine wpR_bind (wpR_holding ?_)
  unfold callSpecial? specialOf
  refine wpR_bind (wpR_of ?_)
  repeat lk
  refine wpR_holding (wpR_bind (wpR_of (b1.at ?_)))
  dsimp only
  refine wpR_bind (wpR_call ?_)
  refine codeR_mono z fun r s' z => ?_
  rcases r with e | (v | _ | _ | _) <;> first | exact z | exact z.elim | skip
  obtain ⟨rfl, z⟩ := z
  exact wpR_pure (wpR_of (wpAny_pure z))
end own
end Mine
end

section
open PySem PySem.W PyProof.Rows
set_option maxRecDepth 100000
set_option maxHeartbeats 4000000
namespace Mine
theorem fill4 : PySem.Challenge.rw_kp0085_04 = PySem.Challenge.rw_kp0085_04 ∧ Mine.hd4.heap_1 = Mine.hd4.heap_1 := by w_top off; k_fill; exact ⟨rfl, rfl⟩
variable {prog p : Program} {w : World} {loose : List Str} {mean : ExcName → Option Value} {mg mb : Str → Option Value} {dp un : Nat} {gd : Option (List Code)} {cn : Str} {cs : Scope} {a : Addr} {ccd : Value} {cl : List (Str × Addr)} {outer : List Env} {A₀ : Around} {base h₀ : Heap} {L : Addr} {m : Str → Option Value} {news : List (Addr × Obj)} {s : Shared} {Q E : Value → Shared → Prop}
local macro_rules | `(tactic| k_mem) => `(tactic| assumption)
local macro_rules | `(tactic| k_room) => `(tactic| ktr_room)
local macro_rules | `(tactic| k_enter) => `(tactic| first
  | (refine' code_def ?k1 ?k2 ?k3 ?k4 ?k5 ?kA ?kF ?kK ?k6 ?k7 ?k8 ?k9 ?kB ?_ ?c2 ?c3 ?c4 ?c5; (case kA => exact rfl); (case kF => exact rfl); (case kK => first | exact rfl | assumption); (case k1 => k_asm); (case k2 => k_asm); (case k3 => k_asm); (case k4 => k_asm); (case k5 => k_asm); (case k6 => k_is); (case k7 => k_is); (case k8 => ktr_room); (case k9 => first | exact BindsTo.of_eq rfl | exact binds_K (by k_in) rfl (by k_is) rfl rfl rfl); (case c5 => decide); (case kB => exact locs rfl); (case c2 => exact rfl); (case c3 => exact rfl); (case c4 => exact rfl); k_whole; intro g' L' h' FG' F' N' B' X' T'; (try dsimp only); (try k_lift B'); (try k_fold))
  | (refine' code_defC ?k1 ?k2 ?k3 ?k4 ?k5 ?kA ?kF ?kK ?k6 ?k7 ?k8 ?k9 ?kB ?kD ?_ ?c2 ?c3 ?c4; (case kA => exact rfl); (case kF => exact rfl); (case kK => first | exact rfl | assumption); (case k1 => k_asm); (case k2 => k_asm); (case k3 => k_asm); (case k4 => k_asm); (case k5 => k_asm); (case k6 => k_is); (case k7 => k_is); (case k8 => ktr_room); (case k9 => first | exact BindsTo.of_eq rfl | exact binds_K (by k_in) rfl (by k_is) rfl rfl rfl); (case kB => exact rfl); (case kD => decide +kernel); (case c2 => exact rfl); (case c3 => exact rfl); (case c4 => exact rfl); k_whole; intro g' L' h' tk' cells' FG' F' N' Y' B' X' T' l1; (try k_lt l1); k_cells Y'; (try simp only [List.cons_append, List.nil_append] at N'); (try dsimp only); (try k_lift B'); (try k_fold)))
local macro_rules | `(tactic| k_all) => `(tactic| first | exact ne_of_all (by assumption) | exact ne_of_all1 (by assumption) | exact ne_of_allLt (by assumption) | exact ne_of_allLt2 (by assumption) | exact ne_of_allLt3 (by assumption) | exact ne_of_allLt4 (by assumption) | exact ne_of_allLt5 (by assumption) | exact ne_of_allLt6 (by assumption))
local macro_rules | `(tactic| walk_at "ite") => `(tactic| (k_here; first | refine ite_pos (by with_reducible assumption) ?_ | refine ite_neg (by with_reducible assumption) ?_ | refine Mine.ite_ff (by with_reducible assumption) ?_ | refine Mine.ite_nt (by with_reducible assumption) ?_ | refine Mine.ite_nf (by with_reducible assumption) ?_))
local macro_rules | `(tactic| walk_at "execs cons") => `(tactic| (k_here; with_reducible refine Mine.gen_toks2 ?_; intro tk' hk'))
local macro_rules | `(tactic| walk_at "execs nil") => `(tactic| (k_here; with_reducible refine Mine.gen_toks2 ?_; intro tk' hk'))

section
theorem offE5 : True := by w_top off; trivial
local macro_rules | `(tactic| k_enter) => `(tactic| first
  | (refine' Mine.codeR_def ?k1 ?k2 ?k3 ?k4 ?k5 ?kA ?kF ?kK ?k6 ?k7 ?k8 ?k9 ?kB ?_ ?c2 ?c3 ?c4 ?c5; (case kA => exact rfl); (case kF => exact rfl); (case kK => first | exact rfl | assumption); (case k1 => k_asm); (case k2 => k_asm); (case k3 => k_asm); (case k4 => k_asm); (case k5 => k_asm); (case k6 => k_is); (case k7 => k_is); (case k8 => ktr_room); (case k9 => first | exact BindsTo.of_eq rfl | exact binds_K (by k_in) rfl (by k_is) rfl rfl rfl); (case c5 => decide); (case kB => exact locs rfl); (case c2 => exact rfl); (case c3 => exact rfl); (case c4 => exact rfl); k_whole; intro g' L' h' FG' F' N' B' X' T'; (try dsimp only); (try k_lift B'); (try k_fold))
  | (refine' Mine.codeR_defC ?k1 ?k2 ?k3 ?k4 ?k5 ?kA ?kF ?kK ?k6 ?k7 ?k8 ?k9 ?kB ?kD ?_ ?c2 ?c3 ?c4; (case kA => exact rfl); (case kF => exact rfl); (case kK => first | exact rfl | assumption); (case k1 => k_asm); (case k2 => k_asm); (case k3 => k_asm); (case k4 => k_asm); (case k5 => k_asm); (case k6 => k_is); (case k7 => k_is); (case k8 => ktr_room); (case k9 => first | exact BindsTo.of_eq rfl | exact binds_K (by k_in) rfl (by k_is) rfl rfl rfl); (case kB => exact rfl); (case kD => decide +kernel); (case c2 => exact rfl); (case c3 => exact rfl); (case c4 => exact rfl); k_whole; intro g' L' h' tk' cells' FG' F' N' Y' B' X' T' l1; (try k_lt l1); k_cells Y'; (try simp only [List.cons_append, List.nil_append] at N'); (try dsimp only); (try k_lift B'); (try k_fold)))
local macro_rules | `(tactic| walk_at "call builtin:object.__new__") => `(tactic| (k_here; k_dflt (first
  | (refine' Mine.call_new_own ?F ?N (Mine.own329 ?X) ?_; (case F => k_asm); (case N => k_asm); (case X => k_in))
  | (refine' Mine.call_new_own ?F ?N (Mine.own576 ?X) ?_; (case F => k_asm); (case N => k_asm); (case X => k_in))); intro x' d' h' F' N' l1 l2; (try k_lt l1); (try k_lt2 l2); (try k_sweep)))
theorem bytesio_R (B : Below A₀ base outer h₀) (F : Fr h₀ L s.heap m) (X : (Mine.hd4.heap_1 w.params).In h₀) (N : News h₀ L s.heap news) (T : Top p loose mean mg mb h₀) (hk : cs.kind = .function) (hgd : gd = some [])
    (hd : dp + 8 < recursionLimit) (hu : un + 200 < cLine)
    (ret : ∀ (x dx D : Addr) (t1 t2 t3 : Tok) (h' : Heap) (tk' : Nat), (∀ p ∈ news, p.1 < dx) → dx < x → x < D → Fr h₀ L h' m → News h₀ L h' ((D, Obj.mk (.type "bytearray") none (.bytearray #[]) #[]) :: (x, instObj 329 dx) :: (dx, dictOf [DictEntry.mk (PyData.keyHash w.params (Str.ofString "_BytesIO__buf")) (.str (Str.ofString "_BytesIO__buf") t1) (.ref D), DictEntry.mk (PyData.keyHash w.params (Str.ofString "_BytesIO__pos")) (.str (Str.ofString "_BytesIO__pos") t2) (.int 0 t3)] 2) :: news) → Q (.ref x) { s with heap := h', toks := tk' }) :
    wpR (model prog w) (ktrTop dp un gd cn cs L a ccd cl outer) (call (.ref 329) []) Q (fun _ _ => False) s := by
  refine wpR_call (make_ownR (rest := []) (p := 73) (fN := 69) (fI := 116) (mc := .type "type") F X (own329 (X.keeps F.keep)) ?a ?b ?c ?d ?e ?f ?g ?_)
  case a => k_is
  case b => k_is
  case c => k_is
  case d => k_is
  case e => k_is
  case f => k_is
  case g => k_is
  obtain ⟨ck, cn1, cg, cco, cm⟩ := cs
  dsimp only at hk
  subst hk
  k_dflt k_enter
  k_steps
  · rename News _ _ _ _ => kN
    exact (kN _ (.head _)).1
  · rfl
  · k_dflt k_enter
    refine execsR_cons (wpR_of ?_)
    k_steps
    refine execsR_cons (assignAttrR (ifExpR ?_))
    k_steps
    refine callNameR ?_
    k_steps
    refine callWithR (P := fun _ => True) rfl (fun h _ => ⟨.machine, .inr rfl, Looks.of_pure rfl⟩) (argsR rfl (splicedR_nil ⟨trivial, ?_⟩))
    refine ba_call ?g1 ?_
    case g1 => subst hgd; rfl
    intro D h' hD hk' hDo
    rename Fr _ _ _ _ => kF2
    rename News _ _ _ _ => kN2
    have l9 := below_size kN2 hD
    have kN3 := news_pushed kF2 kN2 hk' (hD ▸ hDo) hD
    have kF3 := kF2.keeps hk'
    clear kF2 kN2 hk' hDo
    k_lt l9
    (try dsimp only)
    k_steps
    refine wpR_of ?_
    k_steps
    rename Fr h₀ L _ _ => kF9
    rename News h₀ L _ _ => kN9
    rename _ < D ∧ _ => lD
    rename _ < _ ∧ _ < _ ∧ AllLt _ news => ld
    exact ret _ _ D _ _ _ _ _ (fun p hp => ktn_ltOf ld.2.2 p hp) (by assumption) lD.1 kF9 (news_sub kN9 (.head _) (.tail _ (.head _)) (.tail _ (.tail _ (.head _))) (fun p hp => .tail _ (.tail _ (.tail _ (.tail _ (.tail _ hp))))))
end

section
local macro_rules | `(tactic| walk_at "never 1 0") => `(tactic| skip)
theorem offE6 : True := by w_top off; trivial
local macro_rules | `(tactic| walk_at "call builtin:object.__new__") => `(tactic| (k_here; k_dflt (first
  | (refine' Mine.call_new_own ?F ?N (Mine.own329 ?X) ?_; (case F => k_asm); (case N => k_asm); (case X => k_in))
  | (refine' Mine.call_new_own ?F ?N (Mine.own576 ?X) ?_; (case F => k_asm); (case N => k_asm); (case X => k_in))); intro x' d' h' F' N' l1 l2; (try k_lt l1); (try k_lt2 l2); (try k_sweep)))
theorem stringio_spec (B : Below A₀ base outer h₀) (F : Fr h₀ L s.heap m) (X : (Mine.hd4.heap_1 w.params).In h₀) (N : News h₀ L s.heap news) (T : Top p loose mean mg mb h₀) (hk : cs.kind = .function)
    (hd : dp + 8 < recursionLimit) (hu : un + 200 < cLine)
    (ret : ∀ (x dx : Addr) (t1 t2 t3 t4 t5 t6 : Tok) (h' : Heap) (tk' : Nat), (∀ p ∈ news, p.1 < dx) → dx < x → Fr h₀ L h' m → News h₀ L h' ((x, instObj 576 dx) :: (dx, dictOf [DictEntry.mk (PyData.keyHash w.params (Str.ofString "_StringIO__newline")) (.str (Str.ofString "_StringIO__newline") t1) (.str (Str.ofString "\n") t2), DictEntry.mk (PyData.keyHash w.params (Str.ofString "_StringIO__buf")) (.str (Str.ofString "_StringIO__buf") t3) (.str (Str.ofString "") t4), DictEntry.mk (PyData.keyHash w.params (Str.ofString "_StringIO__pos")) (.str (Str.ofString "_StringIO__pos") t5) (.int 0 t6)] 3) :: news) → Q (.ref x) { s with heap := h', toks := tk' }) :
    wpAny (model prog w) (ktrTop dp un gd cn cs L a ccd cl outer) (call (.ref 576) []) Q E s := by
  refine wpAny_call (make_own (rest := []) (p := 73) (fN := 69) (fI := 346) (mc := .type "type") F X (own576 (X.keeps F.keep)) ?a ?b ?c ?d ?e ?f ?g ?_)
  case a => k_is
  case b => k_is
  case c => k_is
  case d => k_is
  case e => k_is
  case f => k_is
  case g => k_is
  obtain ⟨ck, cn1, cg, cco, cm⟩ := cs
  dsimp only at hk
  subst hk
  k_dflt k_enter
  k_steps
  · rename News _ _ _ _ => kN
    exact (kN _ (.head _)).1
  · rfl
  · k_dflt k_enter
    k_steps
    rename Fr h₀ L _ _ => kF9
    rename News h₀ L _ _ => kN9
    rename _ < _ ∧ _ < _ ∧ AllLt _ news => ld
    exact ret _ _ _ _ _ _ _ _ _ _ (fun p hp => ktn_ltOf ld.2.2 p hp) (by assumption) kF9 (news_two kN9 (.head _) (.tail _ (.head _)) (fun p hp => .tail _ (.tail _ (.tail _ (.tail _ hp)))))
end

section
local macro_rules | `(tactic| walk_at "never 1 0") => `(tactic| skip)
theorem offW1 : True := by w_top off; trivial
local macro_rules | `(tactic| walk_at "getMethod ref") => `(tactic| (k_here; (with_reducible show wpAny _ _ (getMethod (Value.ref _) (Str.ofString "get") _) _ _ _); k_dflt (refine' Mine.d_getMethod PySem.F.slot_dict_get PySem.F.type_dict_get ?ta ?tb ?tc ?_; (case ta => k_asm); (case tb => k_mem); (case tc => assumption))))
local macro_rules | `(tactic| walk_at "call builtin:dict.get") => `(tactic| (k_here; (with_reducible show wpAny _ _ (call (Value.builtin _) [Value.ref _, Value.str _ _]) _ _ _); k_dflt (refine' Mine.d_get1 ?ta ?tb ?tc ?td ?_; (case ta => k_asm); (case tb => k_mem); (case tc => assumption); (case td => assumption))))
theorem guess_spec (B : Below A₀ base outer h₀) (F : Fr h₀ L s.heap m) (X : (Mine.hd4.heap_1 w.params).In h₀) (N : News h₀ L s.heap news) (T : Top p loose mean mg mb h₀) (hk : cs.kind = .function)
    (hd : dp + 5 < recursionLimit) (hu : un + 200 < cLine)
    {d : Addr} {o : Obj} {kvs : List (Str × Value)} (hm : (d, o) ∈ news) (hdo : o.IsDictOf (PySem.strKind prog w) kvs) (lo : (d == sysModules) = false) (hH : HttpsOk (valueAt kvs (Str.ofString "HTTPS")))
    (ret : ∀ t' h' tk', t' ≠ 0 → Fr h₀ L h' m → News h₀ L h' news → Q (.str (if isHttps (valueAt kvs (Str.ofString "HTTPS")) then Str.ofString "https" else Str.ofString "http") t') { s with heap := h', toks := tk' }) :
    wpAny (model prog w) (ktrTop dp un gd cn cs L a ccd cl outer) (call (.ref 28) [.ref d]) Q E s := by
  refine wpAny_call ?_
  k_dflt k_enter
  k_steps
  rcases hH with e | ⟨q, t, e, hq⟩
  · rw [e] at ret ⊢
    dsimp only [Option.getD]
    refine in_tuple_dataH (reads_tuple_at (News.get (by assumption) (.head _)) rfl rfl (by ke_reads)) Reads.none (by decide +kernel) (by decide +kernel) (by ke_room) (by decide) ?_
    k_steps
    rename 1 ≤ _ => hk1; rename Fr h₀ L _ _ => kF; rename News h₀ L _ _ => kN
    exact ret _ _ _ (tok_pos hk1) kF fun p hp => kN p (.tail _ hp)
  · rw [e] at ret ⊢
    dsimp only [Option.getD]
    simp only [List.mem_cons, List.not_mem_nil, or_false] at hq
    rcases hq with rfl | rfl | rfl | rfl | rfl | rfl
    all_goals (k_steps; rename 1 ≤ _ => hk1; rename Fr h₀ L _ _ => kF; rename News h₀ L _ _ => kN; exact ret _ _ _ (tok_pos hk1) kF fun p hp => kN p (.tail _ hp))
end

section
theorem offW2 : True := by w_top off; trivial
local macro_rules | `(tactic| walk_at "inplaceOp Add ref ref") => `(tactic| (k_here; (with_reducible show wpAny _ _ (inplaceOp Operator.Add (Value.ref _) (Value.ref _)) _ _ _); k_dflt (refine' Mine.led_iadd ?F ?N ?b ?e ?ne ?U ?z ?_; (case F => k_asm); (case N => k_asm); (case b => k_mem); (case U => k_upd); (case e => kl_lit); (case ne => kl_some); (case z => exact Nat.le_of_ble_eq_true rfl)); kl_rest))
local macro_rules | `(tactic| walk_at "pyIter ref") => `(tactic| (k_here; (with_reducible show wpAny _ _ (pyIter (Value.ref _)) (fun it s₂ => LoopAtV _ _ _ _ _ _ _ _ _ it s₂) _ _); refine Stop.intro ?_))
local macro_rules | `(tactic| walk_at "exec For") => `(tactic| (k_here; (with_reducible show wpAny _ _ (exec (Stmt.For (Expr.Name _ _) _ _ [] _) _) _ _ _); (with_reducible rename Fr _ _ _ _ => lF'); (with_unfolding_all refine' For_invVF lF' ?k1 ?k2 ?_; (case k1 => exact rfl); (case k2 => exact rfl); k_whole)))
local macro_rules | `(tactic| walk_at "subscriptTail Name Name ref int") => `(tactic| (k_here; (with_reducible show wpAny _ _ (subscriptTail (PySem.Expr.Name _ _) (PySem.Expr.Name _ _) (Value.ref _) (Value.int _ _)) _ _ _); k_dflt (refine' Mine.item_at ?a ?b ?c ?d ?_; (case a => exact News.isList (by k_asm) (by k_mem)); (case d => assumption); (case b => rfl); (case c => assumption))))
local macro_rules | `(tactic| walk_at "setItem ref str") => `(tactic| (k_here; refine Mine.Stop.intro ?_))
theorem fmod4 (z : Int) : z.fmod 4 = 0 ∨ z.fmod 4 = 1 ∨ z.fmod 4 = 2 ∨ z.fmod 4 = 3 := by
  have h1 := Int.fmod_nonneg_of_pos z (b := 4) (by decide)
  have h2 := Int.fmod_lt_of_pos z (b := 4) (by decide)
  omega
theorem all_ne3 {d l nm : Addr} {ol on : Obj} {news : List (Addr × Obj)} (h1 : d ≠ l) (h2 : d ≠ nm) (h3 : ∀ p ∈ news, p.1 ≠ d) : ∀ p ∈ (l, ol) :: (nm, on) :: news, p.1 ≠ d := fun p hp => by
  rcases List.mem_cons.mp hp with rfl | hp
  · exact Ne.symm h1
  · rcases List.mem_cons.mp hp with rfl | hp
    · exact Ne.symm h2
    · exact h3 p hp
theorem news2 {h₀ h : Heap} {L : Addr} {x y z : Addr × Obj} {rest : List (Addr × Obj)} (N : News h₀ L h (x :: y :: z :: rest)) : News h₀ L h (x :: y :: rest) := fun p hp => N p (by
  rcases List.mem_cons.mp hp with rfl | hp
  · exact .head _
  · rcases List.mem_cons.mp hp with rfl | hp
    · exact .tail _ (.head _)
    · exact .tail _ (.tail _ (.tail _ hp)))
def JG (prog : Program) (w : World) (m₀ : Str → Option Value) (d nm : Addr) (vs : List Value) (c : Nat) (news : List (Addr × Obj)) (i : Nat) (m₁ : Str → Option Value) (nx : List (Addr × Obj)) : Prop :=
  (∀ z, z ≠ Str.ofString "k" → m₁ z = m₀ z) ∧ ∃ o kvs l ol, nx = (d, o) :: (l, ol) :: (nm, PySem.W.listOf vs.toArray c) :: news ∧ d ≠ l ∧ (∀ p ∈ news, p.1 < l) ∧ o.IsDictOf (PySem.strKind prog w) kvs ∧ kvs.length ≤ i ∧ GivenI kvs namesAll l ol
theorem given_spec (B : Below A₀ base outer h₀) (F : Fr h₀ L s.heap m) (X : (Mine.hd4.heap_1 w.params).In h₀) (N : News h₀ L s.heap news) (T : Top p loose mean mg mb h₀) (hk : cs.kind = .function)
    (hd : dp + 5 < recursionLimit) (hu : un + 200 < cLine) {x : Int} {t : Tok}
    (ret : ∀ (d l : Addr) (o ol : Obj) (kvs : List (Str × Value)) (h' : Heap) (tk' : Nat), (d == sysModules) = false → o.IsDictOf (PySem.strKind prog w) kvs → kvs.length ≤ 15 → GivenI kvs namesAll l ol → d ≠ l → (∀ p ∈ news, p.1 < d) → (∀ p ∈ news, p.1 < l) → Fr h₀ L h' m → News h₀ L h' ((d, o) :: (l, ol) :: news) → Q (.ref d) { s with heap := h', toks := tk' }) :
    wpAny (model prog w) (ktrTop dp un gd cn cs L a ccd cl outer) (call (.ref 592) [.int x t]) Q E s := by
  refine wpAny_call ?_
  k_dflt k_enter
  k_steps
  unfold Stop
  rename IsRange _ _ _ _ _ _ _ _ => hR
  rename Fr _ _ _ _ => F1
  rename News _ _ _ _ => N1
  rename (_ == sysModules) = false => lo
  rename ∀ p ∈ news, p.1 < _ => hlow
  rename Obj.IsDictOf (PySem.strKind prog w) _ [] => hd0
  refine names_pack N1 (.tail _ (.tail _ (.head _))) (.tail _ (.head _)) (fun p hp => .tail _ (.tail _ (.tail _ hp))) ?_ ?_ ?_ ?_
  · repeat constructor
  · rename _ < _ ∧ AllLt _ news => h1
    exact Nat.ne_of_lt h1.1
  · rename ∀ p ∈ news, p.1 < _ => h1
    exact fun p hp => Nat.ne_of_lt (h1 p hp)
  rename _ < _ ∧ AllLt _ news => h1l
  have hnl : ∀ p ∈ news, p.1 < _ := fun p hp => ktn_ltOf h1l.2 p hp
  intro vs c hS hdn hdr N2
  have hvl : vs.length ≤ 1000 := by rw [hS.length]; decide
  refine iter_rng (n := 13) (JG prog w _ _ _ vs c news) (by rfl) hR (by decide) (by decide) F1 N2 ⟨fun _ _ => rfl, _, _, _, _, rfl, hdn, hnl, hd0, Nat.le_refl _, GivenI.nil _ _ _⟩ ?_ ?_
  · intro i t₁ m₁ nx I oI h tk hi hj hI F3 N3
    obtain ⟨hm, o, kvs, l, ol, rfl, hdl, hll, hdo, hlen, hg⟩ := hj
    have F4 := fr_norm F3 hm
    rw [Int.zero_add] at F4
    clear F3
    obtain ⟨v, hv⟩ : ∃ v, vs[i]? = some v := ⟨_, List.getElem?_eq_getElem (by rw [hS.length]; exact hi)⟩
    obtain ⟨q, tq, hq, rfl⟩ := strsAre_at hS hv
    k_steps
    · have h4 := fmod4 (x.fdiv 3 + (i : Int))
      have hdI : _ ≠ I := hI _ (.head _)
      have hqm : q ∈ namesAll := namesL_sub _ (List.mem_of_getElem? hq)
      have hqp := names_plain _ (List.mem_of_getElem? hq)
      generalize (x.fdiv 3 + (i : Int)).fmod 4 = z at *
      refine tup_pick (by is_tup) (by omega) (by (try simp); omega) (by (try simp)) ?_
      intro v hv9
      rename 1 ≤ _ => hk1
      simp only [List.mem_cons, List.not_mem_nil, or_false] at hv9
      have hsv : SameOk v := by rcases hv9 with rfl | rfl | rfl | rfl <;> first | trivial | exact tok_pos hk1 | exact Nat.succ_ne_zero _
      (try dsimp only)
      k_steps
      unfold Stop
      rename News _ _ _ _ => N5
      rename Fr _ _ _ _ => F5
      rename I < _ ∧ _ < _ ∧ _ => h9
      refine d_setItem F5 (fun p (hp : p ∈ (_, _) :: (I, oI) :: (_, o) :: (l, ol) :: (_, PySem.W.listOf vs.toArray c) :: news) => N5 p (.tail _ hp)) (UpdF.tail (Nat.ne_of_gt h9.2.1) (UpdF.tail (Ne.symm hdI) (UpdF.head (all_ne3 hdl hdn hdr)))) hdo (by omega) ?_
      intro h' o' F6 N6 hd6
      (try dsimp only at N6)
      (try dsimp only)
      have hlen' := Nat.le_trans (stored_len (kvs := kvs) (k := q) (v := v)) (Nat.succ_le_succ hlen)
      k_steps
      by_cases e : q = Str.ofString "SERVER_NAME"
      · by_cases e2 : ∃ r, v = .ref r
        · refine ⟨h', _, _, _, rfl, F6, fun p (hp : p ∈ (I, oI) :: (_, o') :: (_, PySem.W.listOf #[Value.str q tq, Value.int x t] 0) :: (_, PySem.W.listOf vs.toArray c) :: news) => N6 p ?_, ?_, fun z hz => if_neg hz, o', _, _, _, rfl, Nat.ne_of_lt h9.2.1, (fun p hp => ktn_ltOf h9.2.2.2.2 p hp), hd6, hlen', hg.put hqm hsv hqp.1 hqp.2 (by rw [if_pos e]; obtain ⟨r, rfl⟩ := e2; rcases hv9 with h | h | h | h <;> cases h; exact .inr (.inr (.inr (.inr ⟨rfl, _, _, _, _, _, rfl, by rw [e]; decide +kernel⟩))))⟩
          · simp only [List.mem_cons] at hp ⊢; rcases hp with h | h | h | h | h <;> simp [h]
          · intro p hp
            rcases List.mem_cons.mp hp with rfl | hp
            · exact hdI
            · rcases List.mem_cons.mp hp with rfl | hp
              · exact Nat.ne_of_gt h9.1
              · exact hI p (.tail _ (.tail _ hp))
        · refine ⟨h', _, _, _, rfl, F6, fun p (hp : p ∈ (I, oI) :: (_, o') :: (l, ol) :: (_, PySem.W.listOf vs.toArray c) :: news) => N6 p (.tail _ hp), ?_, fun z hz => if_neg hz, o', _, l, ol, rfl, hdl, hll, hd6, hlen', hg.put hqm hsv hqp.1 hqp.2 (by rw [if_pos e]; rcases hv9 with rfl | rfl | rfl | rfl; exact absurd ⟨_, rfl⟩ e2; exact .inr (.inr (.inl ⟨_, rfl⟩)); exact .inr (.inl rfl); exact .inr (.inr (.inr (.inl ⟨_, rfl⟩))))⟩
          intro p hp
          rcases List.mem_cons.mp hp with rfl | hp
          · exact hdI
          · exact hI p (.tail _ hp)
      · refine ⟨h', _, _, _, rfl, F6, fun p (hp : p ∈ (I, oI) :: (_, o') :: (l, ol) :: (_, PySem.W.listOf vs.toArray c) :: news) => N6 p (.tail _ hp), ?_, fun z hz => if_neg hz, o', _, l, ol, rfl, hdl, hll, hd6, hlen', hg.put hqm hsv hqp.1 hqp.2 (by rw [if_neg e]; exact ⟨rfl, rfl⟩)⟩
        intro p hp
        rcases List.mem_cons.mp hp with rfl | hp
        · exact hdI
        · exact hI p (.tail _ hp)
    · exact ⟨h, _, _, _, rfl, F4, N3, hI, fun z hz => if_neg hz, o, kvs, l, ol, rfl, hdl, hll, hdo, Nat.le_succ_of_le hlen, hg⟩
  · intro m₁ nx h tk hj F3 N3
    obtain ⟨hm, o, kvs, l, ol, rfl, hdl, hll, hdo, hlen, hg⟩ := hj
    have F4 := fr_norm' F3 hm
    clear F3 N1 N2 F1 hR hm
    k_steps
    · have h4 := Int.fmod_nonneg_of_pos (x.fdiv 16384) (b := 3) (by decide)
      have h5 := Int.fmod_lt_of_pos (x.fdiv 16384) (b := 3) (by decide)
      refine tup_pick (by is_tup) (by omega) (by (try simp); omega) (by (try simp)) ?_
      intro v hv9
      rename 1 ≤ _ => hk1
      simp only [List.mem_cons, List.not_mem_nil, or_false] at hv9
      obtain ⟨q, tq, rfl, htq, hq⟩ : ∃ q t, v = .str q t ∧ t ≠ 0 ∧ (q = Str.ofString "http" ∨ q = Str.ofString "https" ∨ q = Str.ofString "ftp") := by
        rcases hv9 with h | h | h
        · exact ⟨_, _, h, tok_pos hk1, .inl rfl⟩
        · exact ⟨_, _, h, Nat.succ_ne_zero _, .inr (.inl rfl)⟩
        · exact ⟨_, _, h, Nat.succ_ne_zero _, .inr (.inr rfl)⟩
      (try dsimp only)
      k_steps
      unfold Stop
      rename News _ _ _ _ => N5
      rename Fr _ _ _ _ => F5
      refine d_setItem F5 (fun p (hp : p ∈ (_, o) :: (l, ol) :: (_, PySem.W.listOf vs.toArray c) :: news) => N5 p (.tail _ hp)) (UpdF.head (all_ne3 hdl hdn hdr)) hdo (by omega) ?_
      intro h' o' F6 N6 hd6
      (try dsimp only at N6)
      (try dsimp only)
      have hlen' := Nat.le_trans (stored_len (kvs := kvs) (k := Str.ofString "wsgi.url_scheme") (v := .str q tq)) (Nat.succ_le_succ hlen)
      have hg' := hg.putScheme htq hq
      generalize hkk : stored kvs (Str.ofString "wsgi.url_scheme") (.str q tq) = kk at *
      k_steps
      · refine tup_pick (by is_tup) (Int.fmod_nonneg_of_pos _ (by decide)) (by (try simp); omega) (by (try simp)) ?_
        intro v hv9
        rename 1 ≤ _ => hk1
        simp only [List.mem_cons, List.not_mem_nil, or_false] at hv9
        obtain ⟨q9, tq9, rfl, htq9, hq9⟩ : ∃ q t, v = .str q t ∧ t ≠ 0 ∧ q ∈ (["yes", "on", "1", "YES", "0", ""] : List Str) := by
          rcases hv9 with h | h | h | h | h | h
          · exact ⟨_, _, h, tok_pos hk1, by decide⟩
          all_goals exact ⟨_, _, h, Nat.succ_ne_zero _, by decide⟩
        (try dsimp only)
        k_steps
        unfold Stop
        rename News _ _ _ _ => N5
        rename Fr _ _ _ _ => F5
        refine d_setItem F5 (fun p (hp : p ∈ (_, o') :: (l, ol) :: (_, PySem.W.listOf vs.toArray c) :: news) => N5 p (.tail _ hp)) (UpdF.head (all_ne3 hdl hdn hdr)) hd6 (by omega) ?_
        intro h8 o8 F8 N8 hd8
        (try dsimp only at N8)
        (try dsimp only)
        have hlen8 := Nat.le_trans (stored_len (kvs := kk) (k := Str.ofString "HTTPS") (v := .str q9 tq9)) (Nat.succ_le_succ hlen')
        have hg8 := hg'.putHttps htq9 hq9
        generalize hkk8 : stored kk (Str.ofString "HTTPS") (.str q9 tq9) = kk8 at *
        k_steps
        rename Fr h₀ L _ _ => kF; rename News h₀ L _ _ => kN
        exact ret _ l o8 ol kk8 _ _ lo hd8 (by omega) hg8 hdl hlow hll kF (news2 kN)
      · rename Fr h₀ L _ _ => kF; rename News h₀ L _ _ => kN
        exact ret _ l o' ol kk _ _ lo hd6 (by omega) hg' hdl hlow hll kF (news2 kN)
    · refine tup_pick (by is_tup) (Int.fmod_nonneg_of_pos _ (by decide)) (by (try simp); omega) (by (try simp)) ?_
      intro v hv9
      rename 1 ≤ _ => hk1
      simp only [List.mem_cons, List.not_mem_nil, or_false] at hv9
      obtain ⟨q9, tq9, rfl, htq9, hq9⟩ : ∃ q t, v = .str q t ∧ t ≠ 0 ∧ q ∈ (["yes", "on", "1", "YES", "0", ""] : List Str) := by
        rcases hv9 with h | h | h | h | h | h
        · exact ⟨_, _, h, tok_pos hk1, by decide⟩
        all_goals exact ⟨_, _, h, Nat.succ_ne_zero _, by decide⟩
      (try dsimp only)
      k_steps
      unfold Stop
      rename News _ _ _ _ => N5
      rename Fr _ _ _ _ => F5
      refine d_setItem F5 (fun p (hp : p ∈ (_, o) :: (l, ol) :: (_, PySem.W.listOf vs.toArray c) :: news) => N5 p (.tail _ hp)) (UpdF.head (all_ne3 hdl hdn hdr)) hdo (by omega) ?_
      intro h8 o8 F8 N8 hd8
      (try dsimp only at N8)
      (try dsimp only)
      have hlen8 := Nat.le_trans (stored_len (kvs := kvs) (k := Str.ofString "HTTPS") (v := .str q9 tq9)) (Nat.succ_le_succ hlen)
      have hg8 := hg.putHttps htq9 hq9
      generalize hkk8 : stored kvs (Str.ofString "HTTPS") (.str q9 tq9) = kk8 at *
      k_steps
      rename Fr h₀ L _ _ => kF; rename News h₀ L _ _ => kN
      exact ret _ l o8 ol kk8 _ _ lo hd8 (by omega) hg8 hdl hlow hll kF (news2 kN)
    · rename Fr h₀ L _ _ => kF; rename News h₀ L _ _ => kN
      exact ret _ l o ol kvs _ _ lo hdo (by omega) hg hdl hlow hll kF (news2 kN)
end

section
theorem offW3 : True := by w_top off; trivial
local macro_rules | `(tactic| walk_at "getMethod ref") => `(tactic| (k_here; (with_reducible show wpAny _ _ (getMethod (Value.ref _) (Str.ofString "get") _) _ _ _); k_dflt (refine' Mine.d_getMethod PySem.F.slot_dict_get PySem.F.type_dict_get ?ta ?tb ?tc ?_; (case ta => k_asm); (case tb => k_mem); (case tc => assumption))))
local macro_rules | `(tactic| walk_at "call builtin:dict.get") => `(tactic| (k_here; (with_reducible show wpAny _ _ (call (Value.builtin _) [Value.ref _, Value.str _ _, _]) _ _ _); k_dflt (refine' Mine.d_get2 ?ta ?tb ?tc ?td ?_; (case ta => k_asm); (case tb => k_mem); (case tc => assumption); (case td => assumption))))
local macro_rules | `(tactic| walk_at "eval Dict") => `(tactic| (k_here; k_dflt (refine' kdn_str ?q ?F ?N ?b ?a ?l ?e ?n ?_; (case q => rfl); (case F => k_asm); (case N => first | k_asm | exact News.nil); (case b => exact Top.nolimit (by k_asm)); (case a => rfl); (case l => rfl); (case e => exact List.cons_ne_nil _ _); (case n => exact Nat.le_of_ble_eq_true rfl)); intro d' h' o' F' N' l1 lo' hd'; (try k_lt l1)))
local macro_rules | `(tactic| walk_at "KdnMade") => `(tactic| (k_here; k_dflt (refine' kdn_made_str ?F ?N ?U ?d ?k ?n ?_; (case F => k_asm); (case N => k_asm); (case U => k_updF); (case d => k_asm); (case k => rfl); (case n => exact of_decide_eq_true (by first | rfl | kernel_rfl!)); intro h' o' F' N' hd'); (try dsimp only at N')))
local macro_rules | `(tactic| walk_at "setItem ref str") => `(tactic| (k_here; k_dflt (refine' Mine.d_setItem ?F ?N ?U ?hd ?hz ?_; (case F => k_asm); (case N => k_asm); (case U => k_updF); (case hd => assumption); (case hz => first | decide | (repeat refine Nat.le_trans Mine.stored_len (Nat.succ_le_succ ?_)); decide)); intro h' o' F' N' hd'; (try dsimp only [List.nil_append, List.cons_append] at N')))
local macro_rules | `(tactic| walk_at "compareOp NotIn str ref") => `(tactic| (k_here; (with_reducible show wpAny _ _ (compareOp CmpOp.NotIn (Value.str _ _) (Value.ref _)) _ _ _); k_dflt (refine' Mine.d_notIn ?ta ?tb ?tc ?td ?_; (case ta => k_asm); (case tb => k_mem); (case tc => assumption); (case td => assumption))))
theorem due_spec (B : Below A₀ base outer h₀) (F : Fr h₀ L s.heap m) (X : (Mine.hd4.heap_1 w.params).In h₀) (N : News h₀ L s.heap news) (T : Top p loose mean mg mb h₀) (hk : cs.kind = .function)
    (hd : dp + 5 < recursionLimit) (hu : un + 200 < cLine)
    {d l : Addr} {o ol : Obj} {kvs : List (Str × Value)} (hm : (d, o) ∈ news) (hdo : o.IsDictOf (PySem.strKind prog w) kvs) (lo : (d == sysModules) = false) (hg : GivenI kvs namesAll l ol)
    (ret : ∀ (dd tv : Addr) (od : Obj) (kvd : List (Str × Value)) (t1 t2 : Tok) (h' : Heap) (tk' : Nat), (dd == sysModules) = false → od.IsDictOf (PySem.strKind prog w) kvd → DueL kvs kvd tv → dd < tv → (∀ p ∈ news, p.1 < dd) → Fr h₀ L h' m → News h₀ L h' ((dd, od) :: (tv, Obj.mk (.type "tuple") none (.seq #[Value.int 1 t1, Value.int 0 t2]) #[]) :: news) → Q (.ref dd) { s with heap := h', toks := tk' }) :
    wpAny (model prog w) (ktrTop dp un gd cn cs L a ccd cl outer) (call (.ref 599) [.ref d]) Q E s := by
  refine wpAny_call ?_
  k_dflt k_enter
  k_steps
  refine https_in (News.isList (by assumption) (.head _)) hg.https ?_
  k_steps
  all_goals
    generalize hsv : Option.getD (valueAt kvs (Str.ofString "wsgi.url_scheme")) (Value.str _ _) = sv at *
    obtain ⟨q, t', rfl, hqz, hq⟩ := scheme_get hg.scheme hsv (by first | exact .inl rfl | exact .inr rfl)
    clear hsv
    rcases hq with rfl | rfl | rfl
  all_goals
    k_steps
    rename Fr h₀ L _ _ => kF; rename News h₀ L _ _ => kN
    rename Obj.IsDictOf _ _ _ => hd9
    rename (_ == sysModules) = false => lo9
    rename _ < _ ∧ AllLt _ news => lt9
    rename ∀ p ∈ news, p.1 < _ => lw9
    first | have e1 := guess_t (kvs := kvs) (by assumption) | have e1 := guess_f (kvs := kvs) (by assumption)
    first | have e2 := both_1 (kvs := kvs) (by assumption) | have e2 := both_2 (kvs := kvs) (by assumption) | have e2 := both_3 (kvs := kvs) (by assumption) (by assumption)
    have es : schemeOf kvs = schemeV (valueAt kvs (Str.ofString "wsgi.url_scheme")) (guessOf kvs) := rfl
    rw [e1, hqz] at es
    refine' ret _ _ _ _ _ _ _ _ lo9 hd9 ⟨_, _, _, _, _, _, _, _, _, ?eq⟩ lt9.1 lw9 kF (news_two kN ?m1 ?m2 ?m3)
    case eq => rw [e1, e2, es]; exact rfl
    case m1 => repeat (first | exact .head _ | refine .tail _ ?_)
    case m2 => repeat (first | exact .head _ | refine .tail _ ?_)
    case m3 => exact fun p hp => by repeat (first | exact hp | refine .tail _ ?_)
    all_goals exact (0 : Nat)
end

section
local macro_rules | `(tactic| walk_at "never 1 0") => `(tactic| skip)
theorem offW4 : True := by w_top off; trivial
local macro_rules | `(tactic| k_enter) => `(tactic| first
  | (refine' Mine.codeR_def ?k1 ?k2 ?k3 ?k4 ?k5 ?kA ?kF ?kK ?k6 ?k7 ?k8 ?k9 ?kB ?_ ?c2 ?c3 ?c4 ?c5; (case kA => exact rfl); (case kF => exact rfl); (case kK => first | exact rfl | assumption); (case k1 => k_asm); (case k2 => k_asm); (case k3 => k_asm); (case k4 => k_asm); (case k5 => k_asm); (case k6 => k_is); (case k7 => k_is); (case k8 => ktr_room); (case k9 => first | exact BindsTo.of_eq rfl | exact binds_K (by k_in) rfl (by k_is) rfl rfl rfl); (case c5 => decide); (case kB => exact locs rfl); (case c2 => exact rfl); (case c3 => exact rfl); (case c4 => exact rfl); k_whole; intro g' L' h' FG' F' N' B' X' T'; (try dsimp only); (try k_lift B'); (try k_fold))
  | (refine' Mine.codeR_defC ?k1 ?k2 ?k3 ?k4 ?k5 ?kA ?kF ?kK ?k6 ?k7 ?k8 ?k9 ?kB ?kD ?_ ?c2 ?c3 ?c4; (case kA => exact rfl); (case kF => exact rfl); (case kK => first | exact rfl | assumption); (case k1 => k_asm); (case k2 => k_asm); (case k3 => k_asm); (case k4 => k_asm); (case k5 => k_asm); (case k6 => k_is); (case k7 => k_is); (case k8 => ktr_room); (case k9 => first | exact BindsTo.of_eq rfl | exact binds_K (by k_in) rfl (by k_is) rfl rfl rfl); (case kB => exact rfl); (case kD => decide +kernel); (case c2 => exact rfl); (case c3 => exact rfl); (case c4 => exact rfl); k_whole; intro g' L' h' tk' cells' FG' F' N' Y' B' X' T' l1; (try k_lt l1); k_cells Y'; (try simp only [List.cons_append, List.nil_append] at N'); (try dsimp only); (try k_lift B'); (try k_fold)))
local macro_rules | `(tactic| walk_at "getMethod ref") => `(tactic| (k_here; (with_reducible show wpAny _ _ (getMethod (Value.ref _) (Str.ofString "setdefault") _) _ _ _); k_dflt (refine' Mine.d_getMethod PySem.F.slot_dict_setdefault ?ty ?ta ?tb ?tc ?_; (case ty => first | exact PySem.F.type_dict_setdefault | rfl | kernel_rfl); (case ta => k_asm); (case tb => k_mem); (case tc => assumption))))
local macro_rules | `(tactic| walk_at "call builtin:dict.setdefault") => `(tactic| (k_here; (with_reducible show wpAny _ _ (call (Value.builtin _) [Value.ref _, Value.str _ _, _]) _ _ _); k_dflt (refine' Mine.d_sd ?F ?N ?U ?hd ?lo ?hk ?hl ?_; (case F => k_asm); (case N => k_asm); (case U => k_updF); (case hd => assumption); (case lo => assumption); (case hk => first | assumption | omega); (case hl => exact Nat.le_of_ble_eq_true rfl)); intro h' o' F' N' hd'; (try dsimp only [List.nil_append, List.cons_append] at N' hd')))
local macro_rules | `(tactic| walk_at "compareOp NotIn str ref") => `(tactic| (k_here; (with_reducible show wpAny _ _ (compareOp CmpOp.NotIn (Value.str _ _) (Value.ref _)) _ _ _); k_dflt (refine' Mine.d_notIn ?ta ?tb ?tc ?td ?_; (case ta => k_asm); (case tb => k_mem); (case tc => assumption); (case td => assumption)); rw [Mine.valueAt_not (by rfl)]))
local macro_rules | `(tactic| k_all) => `(tactic| assumption)
local macro_rules | `(tactic| walk_at "subscriptTail Name Constant ref str") => `(tactic| (k_here; k_dflt (refine' Mine.d_item ?ta ?tb ?tc ?td ?_; (case ta => k_asm); (case tb => k_mem); (case tc => assumption); (case td => first | exact Mine.valueAt_has (by assumption) | (rw [Mine.valueAt_setAll]; exact Mine.look_get rfl)))))
local macro_rules | `(tactic| walk_at "call ref") => `(tactic| (k_here; (with_reducible show wpAny _ _ (call (Value.ref 576) []) _ _ _); refine Mine.Stop.intro ?_))
local macro_rules | `(tactic| walk_at "call ref") => `(tactic| (k_here; (with_reducible show wpAny _ _ (call (Value.ref 28) [_]) _ _ _); refine Mine.Stop.intro ?_))
theorem setup_R {d : Addr} {o : Obj} {kvs : List (Str × Value)} (B : Below A₀ base outer h₀) (F : Fr h₀ L s.heap m) (X : (Mine.hd4.heap_1 w.params).In h₀) (N : News h₀ L s.heap ((d, o) :: news)) (T : Top p loose mean mg mb h₀) (hk : cs.kind = .function) (hgd : gd = some [])
    (hd : dp + 16 < recursionLimit) (hu : un + 500 < cLine) (lo : (d == sysModules) = false) (hdo : o.IsDictOf (PySem.strKind prog w) (setAll kvs [])) (hlen : kvs.length ≤ 40) (hH : HttpsOk (valueAt kvs (Str.ofString "HTTPS"))) (hS : SchemeOk (valueAt kvs (Str.ofString "wsgi.url_scheme")))
    (hnew : ∀ p ∈ news, p.1 ≠ d)
    (ret : ∀ (kve : List (Str × Value)) (o' : Obj) (tv x dx D y dy : Addr) (t1 t2 t3 t4 t5 t6 t7 t8 t9 ta tb : Tok) (h' : Heap) (tk' : Nat), o'.IsDictOf (PySem.strKind prog w) kve → SetupRel kvs kve tv x y → (∀ p ∈ news, p.1 < tv) → @LT.lt Nat _ d tv → @LT.lt Nat _ tv dx → @LT.lt Nat _ dx x → @LT.lt Nat _ x D → @LT.lt Nat _ D dy → @LT.lt Nat _ dy y → Fr h₀ L h' m →
      News h₀ L h' ((y, instObj 576 dy) :: (dy, dictOf [DictEntry.mk (PyData.keyHash w.params (Str.ofString "_StringIO__newline")) (.str (Str.ofString "_StringIO__newline") t4) (.str (Str.ofString "\n") t5), DictEntry.mk (PyData.keyHash w.params (Str.ofString "_StringIO__buf")) (.str (Str.ofString "_StringIO__buf") t6) (.str (Str.ofString "") t7), DictEntry.mk (PyData.keyHash w.params (Str.ofString "_StringIO__pos")) (.str (Str.ofString "_StringIO__pos") t8) (.int 0 t9)] 3) ::
        (D, Obj.mk (.type "bytearray") none (.bytearray #[]) #[]) :: (x, instObj 329 dx) :: (dx, dictOf [DictEntry.mk (PyData.keyHash w.params (Str.ofString "_BytesIO__buf")) (.str (Str.ofString "_BytesIO__buf") t1) (.ref D), DictEntry.mk (PyData.keyHash w.params (Str.ofString "_BytesIO__pos")) (.str (Str.ofString "_BytesIO__pos") t2) (.int 0 t3)] 2) ::
        (tv, Obj.mk (.type "tuple") none (.seq #[Value.int 1 ta, Value.int 0 tb]) #[]) :: (d, o') :: news) → Q .none { s with heap := h', toks := tk' }) :
    wpR (model prog w) (ktrTop dp un gd cn cs L a ccd cl outer) (call (.ref 585) [.ref d]) Q (fun _ _ => False) s := by
  refine wpR_call ?_
  k_dflt k_enter
  refine genR ?_
  intro tk0
  refine execsR_cons (wpR_of ?_)
  k_steps
  refine genR1 ?_
  intro tk1 hk1
  refine execsR_cons (wpR_of ?_)
  k_steps
  refine genR1 ?_
  intro tk2 hk2
  refine execsR_cons (wpR_of ?_)
  k_steps
  refine genR1 ?_
  intro tk3 hk3
  refine execsR_cons (wpR_of ?_)
  k_steps
  refine genR1 ?_
  intro tk4 hk4
  rename Fr _ _ _ _ => kF
  rename News _ _ _ _ => kN
  rename Obj.IsDictOf _ _ _ => kD
  refine execsR_cons (wpR_of (cut_if kF kN kD ?_ ?_))
  · k_steps
    · rename 1 ≤ _ => hk9
      refine ⟨rfl, _, _, _, 1, 1, rfl, hk9, Nat.one_ne_zero, Nat.one_ne_zero, kF, kN, ?_⟩
      rw [both_1 (by assumption)]; exact kD
    · rename 1 ≤ _ => hk9
      refine ⟨rfl, _, _, _, 1, 1, rfl, hk9, Nat.one_ne_zero, Nat.one_ne_zero, kF, kN, ?_⟩
      rw [both_2 (by assumption)]; exact kD
    · rename 1 ≤ _ => hk9
      rename Fr _ _ _ _ => kF9
      rename News _ _ _ _ => kN9
      rename Obj.IsDictOf _ _ _ => kD9
      refine' ⟨rfl, _, _, _, _, _, rfl, hk9, ?p1, ?p2, kF9, kN9, ?e⟩
      case e => rw [both_3 (by assumption) (by assumption)]; exact kD9
      case p1 => exact Nat.succ_ne_zero _
      case p2 => exact Nat.succ_ne_zero _
  · rintro fl s' ⟨rfl, h5, tk5, o5, ta, tb, rfl, htk5, hta, htb, F5, N5, hd5⟩
    clear kF kN kD
    generalize hk1 : setAll kvs _ = kvs1 at hd5
    have hlen1 : kvs1.length ≤ 46 := by
      rw [← hk1]
      refine Nat.le_trans setAll_len ?_
      rw [List.length_append]
      unfold condL
      split <;> simp <;> omega
    have hlen1' : kvs1.length ≤ 100 := Nat.le_trans hlen1 (by decide)
    have hH1 : valueAt kvs1 (Str.ofString "HTTPS") = valueAt kvs (Str.ofString "HTTPS") := by rw [← hk1]; exact valueAt_not (by unfold condL; split <;> rfl)
    have hS1 : valueAt kvs1 (Str.ofString "wsgi.url_scheme") = valueAt kvs (Str.ofString "wsgi.url_scheme") := by rw [← hk1]; exact valueAt_not (by unfold condL; split <;> rfl)
    have hd6 : o5.IsDictOf (PySem.strKind prog w) (setAll kvs1 []) := hd5
    (try dsimp only)
    refine execsR_cons (wpR_of ?_)
    k_steps
    refine genR1 ?_
    intro tk6 hk6
    refine execsR_cons (wpR_of ?_)
    k_steps
    refine genR1 ?_
    intro tk7 hk7
    refine execsR_cons (wpR_of ?_)
    k_steps
    refine genR1 ?_
    intro tk8 hk8
    refine execsR_cons (wpR_of ?_)
    k_steps
    refine genR1 ?_
    intro tk9 hk9
    refine execsR_cons (wpR_of ?_)
    k_steps
    refine execsR_cons (exprR (methodR ?_))
    k_steps
    refine callWithR (P := fun _ => True) rfl (fun h _ => ⟨.machine, .inr rfl, Looks.of_pure rfl⟩) (argsR rfl (splicedR_cons (wpR_of ?_)))
    rw [if_neg Bool.false_ne_true]
    k_steps
    refine splicedR_cons ?_
    rw [if_neg Bool.false_ne_true]
    refine callNameR ?_
    k_steps
    refine callWithR (P := (Mine.hd4.heap_1 w.params).In) rfl (fun h X => looks_keep (by k_is) X) (argsR rfl (splicedR_nil ⟨?in1, ?_⟩))
    case in1 => k_in
    refine genR ?_
    intro tk10
    k_dflt (refine' Mine.bytesio_R ?B ?F ?X ?N ?T ?hk ?hgd ?hd ?hu ?ret)
    case B => k_asm
    case F => k_asm
    case X => k_asm
    case N => k_asm
    case T => k_asm
    case hk => rfl
    case hgd => exact hgd
    case hd => ktr_room
    case hu => ktr_units
    intro x dx D t1 t2 t3 h6 tk11 l6 l7 l8 F6 N6
    refine splicedR_nil ⟨trivial, wpR_of ?_⟩
    k_lt l6
    have ldx : @LT.lt Nat _ d x := Nat.lt_trans l6.2.1 l7
    have ldD : @LT.lt Nat _ d D := Nat.lt_trans ldx l8
    (try dsimp only [List.cons_append, List.nil_append])
    k_steps
    refine wpAny_dropValue ?_
    (try dsimp only)
    refine genR1 ?_
    intro tk12 hk12
    refine execsR_cons (wpR_of ?_)
    k_steps
    (first | unfold Stop | skip)
    dsimp only [List.nil_append]
    k_dflt (refine' Mine.stringio_spec ?B2 ?F2 ?X2 ?N2 ?T2 ?hk2 ?hd2 ?hu2 ?ret2)
    case B2 => k_asm
    case F2 => k_asm
    case X2 => k_asm
    case N2 => k_asm
    case T2 => k_asm
    case hk2 => rfl
    case hd2 => ktr_room
    case hu2 => ktr_units
    intro y dy t4 t5 t6 t7 t8 t9 h7 tk13 l9 l10 F7 N7
    k_lt l9
    have ldy : @LT.lt Nat _ d y := Nat.lt_trans l9.2.2.2.2.1 l10
    (try dsimp only)
    k_steps
    (first | refine wpAny_dropValue ?_ | skip)
    (try dsimp only)
    refine genR1 ?_
    intro tk14 hk14
    refine execsR_cons (wpR_of ?_)
    k_steps
    (first | unfold Stop | skip)
    k_dflt (refine' Mine.guess_spec ?B3 ?F3 ?X3 ?N3 ?T3 ?hk3 ?hd3 ?hu3 ?hm3 ?ho3 lo ?hH3 ?ret3)
    case B3 => k_asm
    case F3 => k_asm
    case X3 => k_asm
    case N3 => k_asm
    case T3 => k_asm
    case hk3 => rfl
    case hd3 => ktr_room
    case hu3 => ktr_units
    case hm3 => repeat (first | exact .head _ | refine .tail _ ?_)
    case ho3 => assumption
    case hH3 => rw [valueAt_not (by rfl), hH1]; exact hH
    intro tg h8 tk15 htg F8 N8
    generalize hgz : (if isHttps _ = true then Str.ofString "https" else Str.ofString "http") = gz
    have hgz2 : gz = guessOf kvs := by rw [← hgz, valueAt_not (by rfl), hH1]; rfl
    clear hgz
    (try dsimp only)
    k_steps
    (first | refine wpAny_dropValue ?_ | skip)
    (try dsimp only)
    refine genR1 ?_
    intro tk16 hk16
    rename Obj.IsDictOf _ _ _ => kD8
    generalize hk2 : setAll kvs1 _ = kvs2 at kD8
    have hlen2 : kvs2.length ≤ 100 := by
      rw [← hk2]
      refine Nat.le_trans setAll_len ?_
      simp
      omega
    obtain ⟨q, tq, hv2, hq2, hq3⟩ := scheme_now hS hS1 hgz2 hk2 rfl
    have kD9 : Obj.IsDictOf (PySem.strKind prog w) _ (setAll kvs2 []) := kD8
    clear kD8
    rcases hq3 with rfl | rfl | rfl
    all_goals
      refine execsR_cons (wpR_of ?_)
      k_steps
      refine wpR_of ?_
      k_steps
    · rename Fr h₀ L _ _ => kF9
      rename News h₀ L _ _ => kN9
      rename Obj.IsDictOf _ _ _ => kD10
      rename _ < _ ∧ AllLt _ news => lv
      have hrel := fun (tp : Nat) (htp : tp ≠ 0) => setup_rel hk1 hk2 hgz2 (Nat.succ_ne_zero _) (Nat.succ_ne_zero _) (Nat.succ_ne_zero _) (Nat.succ_ne_zero _) (Nat.succ_ne_zero _) (Nat.succ_ne_zero _) hta htb htg htp (port_http hq2)
      exact ret _ _ _ x dx D y dy _ _ _ _ _ _ _ _ _ _ _ _ _ kD10 (hrel _ (Nat.succ_ne_zero _)) (fun p hp => ktn_ltOf lv.2 p hp) lv.1 l6.1 l7 l8 l9.1 l10 kF9 kN9
    · rename Fr h₀ L _ _ => kF9
      rename News h₀ L _ _ => kN9
      rename Obj.IsDictOf _ _ _ => kD10
      rename _ < _ ∧ AllLt _ news => lv
      have hrel := fun (tp : Nat) (htp : tp ≠ 0) => setup_rel hk1 hk2 hgz2 (Nat.succ_ne_zero _) (Nat.succ_ne_zero _) (Nat.succ_ne_zero _) (Nat.succ_ne_zero _) (Nat.succ_ne_zero _) (Nat.succ_ne_zero _) hta htb htg htp (port_https hq2)
      exact ret _ _ _ x dx D y dy _ _ _ _ _ _ _ _ _ _ _ _ _ kD10 (hrel _ (Nat.succ_ne_zero _)) (fun p hp => ktn_ltOf lv.2 p hp) lv.1 l6.1 l7 l8 l9.1 l10 kF9 kN9
    · rename Fr h₀ L _ _ => kF9
      rename News h₀ L _ _ => kN9
      rename Obj.IsDictOf _ _ _ => kD10
      rename _ < _ ∧ AllLt _ news => lv
      have hrel := fun (tp : Nat) (htp : tp ≠ 0) => setup_rel hk1 hk2 hgz2 (Nat.succ_ne_zero _) (Nat.succ_ne_zero _) (Nat.succ_ne_zero _) (Nat.succ_ne_zero _) (Nat.succ_ne_zero _) (Nat.succ_ne_zero _) hta htb htg htp (port_ftp hq2)
      exact ret _ _ _ x dx D y dy _ _ _ _ _ _ _ _ _ _ _ _ _ kD10 (hrel _ Nat.one_ne_zero) (fun p hp => ktn_ltOf lv.2 p hp) lv.1 l6.1 l7 l8 l9.1 l10 kF9 kN9
end

section
theorem offW5 : True := by w_top off; trivial
local macro_rules | `(tactic| k_enter) => `(tactic| first
  | (refine' Mine.codeR_def ?k1 ?k2 ?k3 ?k4 ?k5 ?kA ?kF ?kK ?k6 ?k7 ?k8 ?k9 ?kB ?_ ?c2 ?c3 ?c4 ?c5; (case kA => exact rfl); (case kF => exact rfl); (case kK => first | exact rfl | assumption); (case k1 => k_asm); (case k2 => k_asm); (case k3 => k_asm); (case k4 => k_asm); (case k5 => k_asm); (case k6 => k_is); (case k7 => k_is); (case k8 => ktr_room); (case k9 => first | exact BindsTo.of_eq rfl | exact binds_K (by k_in) rfl (by k_is) rfl rfl rfl); (case c5 => decide); (case kB => exact locs rfl); (case c2 => exact rfl); (case c3 => exact rfl); (case c4 => exact rfl); k_whole; intro g' L' h' FG' F' N' B' X' T'; (try dsimp only); (try k_lift B'); (try k_fold))
  | (refine' Mine.codeR_defC ?k1 ?k2 ?k3 ?k4 ?k5 ?kA ?kF ?kK ?k6 ?k7 ?k8 ?k9 ?kB ?kD ?_ ?c2 ?c3 ?c4; (case kA => exact rfl); (case kF => exact rfl); (case kK => first | exact rfl | assumption); (case k1 => k_asm); (case k2 => k_asm); (case k3 => k_asm); (case k4 => k_asm); (case k5 => k_asm); (case k6 => k_is); (case k7 => k_is); (case k8 => ktr_room); (case k9 => first | exact BindsTo.of_eq rfl | exact binds_K (by k_in) rfl (by k_is) rfl rfl rfl); (case kB => exact rfl); (case kD => decide +kernel); (case c2 => exact rfl); (case c3 => exact rfl); (case c4 => exact rfl); k_whole; intro g' L' h' tk' cells' FG' F' N' Y' B' X' T' l1; (try k_lt l1); k_cells Y'; (try simp only [List.cons_append, List.nil_append] at N'); (try dsimp only); (try k_lift B'); (try k_fold)))
local macro_rules | `(tactic| walk_at "call ref") => `(tactic| (k_here; (with_reducible show wpAny _ _ (call (Value.ref 592) [_]) _ _ _); refine Mine.Stop.intro ?_))
local macro_rules | `(tactic| walk_at "call ref") => `(tactic| (k_here; (with_reducible show wpAny _ _ (call (Value.ref 599) [_]) _ _ _); refine Mine.Stop.intro ?_))
local macro_rules | `(tactic| walk_at "call ref") => `(tactic| (k_here; (with_reducible show wpAny _ _ (call (Value.ref 28) [_]) _ _ _); refine Mine.Stop.intro ?_))
local macro_rules | `(tactic| walk_at "call type:dict") => `(tactic| (k_here; (with_reducible show wpAny _ _ (call (Value.type "dict") [Value.ref _]) _ _ _); k_dflt (refine' Mine.d_copy ?F ?N ?b ?a ?d ?l ?z ?_; (case F => k_asm); (case N => k_asm); (case b => exact Top.nolimit (by k_asm)); (case a => k_mem); (case d => assumption); (case l => assumption); (case z => first | assumption | omega | decide)); intro D' h' o' F' N' l1 lo' hd'; (try k_lt l1)))
local macro_rules | `(tactic| k_all) => `(tactic| first | exact Mine.ne_cells2 (by assumption) | exact Mine.ne_cells3 (by assumption) | exact Mine.ne_cells4 (by assumption))
local macro_rules | `(tactic| walk_at "subscriptTail Name Constant ref str") => `(tactic| (k_here; k_dflt (refine' Mine.d_item ?ta ?tb ?tc ?td ?_; (case ta => k_asm); (case tb => k_mem); (case tc => assumption); (case td => assumption))))
local macro_rules | `(tactic| walk_at "eval ListComp") => `(tactic| (k_here; refine Mine.Stop.intro ?_))
local macro_rules | `(tactic| walk_at "subscriptTail Name Name ref str") => `(tactic| (k_here; k_dflt (refine' Mine.d_item ?ta ?tb ?tc ?td ?_; (case ta => k_asm); (case tb => k_mem); (case tc => assumption); (case td => assumption))))
local macro_rules | `(tactic| walk_at "call type:list") => `(tactic| (k_here; (with_reducible show wpAny _ _ (call (Value.type "list") [Value.ref _]) _ _ _); k_dflt (refine' Mine.list_dict (by rfl) ?F ?N ?a ?d ?l ?z ?_; (case F => k_asm); (case N => k_asm); (case a => k_mem); (case d => assumption); (case l => assumption); (case z => first | assumption | omega)); intro D' h' tk' vs' c' F' N' l1 hS'; (try k_lt l1)))
local macro_rules | `(tactic| walk_at "binaryOp Add ref ref") => `(tactic| (k_here; (with_reducible show wpAny _ _ (binaryOp _ (Value.ref _) (Value.ref _)) _ _ _); refine Mine.Stop.intro ?_))
local macro_rules | `(tactic| walk_at "call type:set") => `(tactic| (k_here; refine Mine.Stop.intro ?_))
local macro_rules | `(tactic| walk_at "call builtin:sorted") => `(tactic| (k_here; refine Mine.Stop.intro ?_))
local macro_rules | `(tactic| walk_at "call builtin:len") => `(tactic| (k_here; (with_reducible show wpAny _ _ (call (Value.builtin _) [Value.ref _]) _ _ _); k_dflt (refine' Mine.ba_len0 ?N ?a ?_; (case N => k_asm); (case a => k_mem))))
def NeFlag : Prop := True
theorem stopIf {P : Prop} (f : NeFlag) (h : Stop P) : P := h
local macro_rules | `(tactic| walk_at "compareOp Eq ref ref") => `(tactic| (k_here; refine' Mine.stopIf ?fl ?_; (case fl => with_reducible assumption)))
local macro_rules | `(tactic| walk_at "compareOp NotEq ref ref") => `(tactic| (k_here; refine' Mine.stopIf ?fl ?_; (case fl => with_reducible assumption)))
local macro_rules | `(tactic| walk_at "compareOp NotIn str ref") => `(tactic| (k_here; (with_reducible show wpAny _ _ (compareOp CmpOp.NotIn (Value.str _ _) (Value.ref _)) _ _ _); k_dflt (refine' Mine.d_notIn ?ta ?tb ?tc ?td ?_; (case ta => k_asm); (case tb => k_mem); (case tc => assumption); (case td => assumption))))
local macro_rules | `(tactic| walk_at "call type:type") => `(tactic| (k_here; refine' Mine.stopIf ?fl ?_; (case fl => with_reducible assumption)))
theorem news_tl {h₀ h : Heap} {L : Addr} {a : Addr × Obj} {r : List (Addr × Obj)} (N : News h₀ L h (a :: r)) : News h₀ L h r := fun p hp => N p (.tail _ hp)
theorem cut_same {prog : Program} {w : World} {A : Around} {E : Value → Shared → Prop} {s : Shared} {t : Sem Flow} {g : Heap} {L' : Addr} {m' : Str → Option Value} {news : List (Addr × Obj)} {Q : Flow → Shared → Prop} (kF : Fr g L' s.heap m') (kN : News g L' s.heap news)
    (h1 : wpAny (model prog w) A t (fun fl s' => fl = .next ∧ ∃ h' tk', s' = { s with heap := h', toks := tk' } ∧ Fr g L' h' m' ∧ News g L' h' news) E s)
    (h2 : ∀ h' tk', Fr g L' h' m' → News g L' h' news → Q .next { s with heap := h', toks := tk' }) : wpAny (model prog w) A t Q E s :=
  wpAny_mono h1 (fun fl s' h => by obtain ⟨rfl, h', tk', rfl, F, N⟩ := h; exact h2 h' tk' F N) fun _ _ e => e
theorem news_w {h₀ h : Heap} {L : Addr} {x4 y z : Addr × Obj} {r : List (Addr × Obj)} (N : News h₀ L h (x4 :: y :: z :: r)) : News h₀ L h (x4 :: r) := fun p hp => N p (by
  rcases List.mem_cons.mp hp with rfl | hp
  · exact .head _
  · exact .tail _ (.tail _ (.tail _ hp)))
theorem cut_w {prog : Program} {w : World} {A : Around} {E : Value → Shared → Prop} {s : Shared} {t : Sem Flow} {g : Heap} {L' : Addr} {m' : Str → Option Value} {x4 y z : Addr × Obj} {r : List (Addr × Obj)} {Q : Flow → Shared → Prop} (kF : Fr g L' s.heap m') (kN : News g L' s.heap (x4 :: y :: z :: r))
    (h1 : wpAny (model prog w) A t (fun fl s' => fl = .next ∧ ∃ h' tk', s' = { s with heap := h', toks := tk' } ∧ Fr g L' h' m' ∧ News g L' h' (x4 :: r)) E s)
    (h2 : ∀ h' tk', Fr g L' h' m' → News g L' h' (x4 :: r) → Q .next { s with heap := h', toks := tk' }) : wpAny (model prog w) A t Q E s :=
  wpAny_mono h1 (fun fl s' h => by obtain ⟨rfl, h', tk', rfl, F, N⟩ := h; exact h2 h' tk' F N) fun _ _ e => e
theorem news_front6 {h₀ h : Heap} {L : Addr} {k n x1 x2 x3 x4 e : Addr × Obj} {r : List (Addr × Obj)} (N : News h₀ L h (k :: n :: x1 :: x2 :: x3 :: x4 :: e :: r)) : News h₀ L h (e :: k :: n :: r) := fun p hp => N p (by
  simp only [List.mem_cons] at hp ⊢
  rcases hp with h | h | h | h
  · exact .inr (.inr (.inr (.inr (.inr (.inr (.inl h))))))
  · exact .inl h
  · exact .inr (.inl h)
  · exact .inr (.inr (.inr (.inr (.inr (.inr (.inr h)))))))
theorem holds_R (B : Below A₀ base outer h₀) (F : Fr h₀ L s.heap m) (X : (Mine.hd4.heap_1 w.params).In h₀) (N : News h₀ L s.heap news) (T : Top p loose mean mg mb h₀) (hk : cs.kind = .function) (hgd : gd = some [])
    (hd : dp + 32 < recursionLimit) (hu : un + 1000 < cLine) {x : Int} {t : Tok}
    (ret : ∀ (h' : Heap) (tk' : Nat) (dr' : Drawn), Fr h₀ L h' m → News h₀ L h' news → Q (.bool true) { s with heap := h', toks := tk', drawn := dr' }) :
    wpR (model prog w) (ktrTop dp un gd cn cs L a ccd cl outer) (call (.ref 604) [.int x t]) Q (fun _ _ => False) s := by
  refine wpR_call ?_
  k_dflt k_enter
  refine execsR_cons (wpR_of ?_)
  k_steps
  unfold Stop
  k_dflt (refine' Mine.given_spec ?B1 ?F1 ?X1 ?N1 ?T1 ?hk1 ?hd1 ?hu1 ?ret1)
  case B1 => k_asm
  case F1 => k_asm
  case X1 => k_asm
  case N1 => k_asm
  case T1 => k_asm
  case hk1 => rfl
  case hd1 => ktr_room
  case hu1 => ktr_units
  intro d l o ol kvs h1 tk1 lo hdo hlen hg hdl hlow hll F1 N1
  k_lt hlow
  k_lt hll
  (try dsimp only)
  k_steps
  refine genR ?_
  intro tk2
  refine execsR_cons (wpR_of ?_)
  k_steps
  refine genR ?_
  intro tk3
  refine execsR_cons (wpR_of ?_)
  k_steps
  unfold Stop
  k_dflt (refine' Mine.due_spec ?B2 ?F2 ?X2 ?N2 ?T2 ?hk2 ?hd2 ?hu2 ?hm2 ?ho2 ?lo2 hg ?ret2)
  case B2 => k_asm
  case F2 => k_asm
  case X2 => k_asm
  case N2 => k_asm
  case T2 => k_asm
  case hk2 => rfl
  case hd2 => ktr_room
  case hu2 => ktr_units
  case hm2 => repeat (first | exact .head _ | refine .tail _ ?_)
  case ho2 => assumption
  case lo2 => assumption
  intro dd tv od kvd u1 u2 h2 tk4 lod hdd hL hdt hlow2 F2 N2
  k_lt hlow2
  have hdt' : @LT.lt Nat _ dd tv := hdt
  clear hdt
  (try dsimp only)
  k_steps
  refine genR ?_
  intro tk5
  refine execsR_cons (wpR_of ?_)
  k_steps
  unfold Stop
  k_dflt (refine' Mine.guess_spec ?B3 ?F3 ?X3 ?N3 ?T3 ?hk3 ?hd3 ?hu3 ?hm3 hdo lo hg.https ?ret3)
  case B3 => k_asm
  case F3 => k_asm
  case X3 => k_asm
  case N3 => k_asm
  case T3 => k_asm
  case hk3 => rfl
  case hd3 => ktr_room
  case hu3 => ktr_units
  case hm3 => repeat (first | exact .head _ | refine .tail _ ?_)
  intro tg h3 tk6 htg F3 N3
  obtain ⟨tz, hz⟩ := due_scheme hL
  generalize hgz : (if isHttps (valueAt kvs (Str.ofString "HTTPS")) = true then Str.ofString "https" else Str.ofString "http") = gz
  rw [show guessOf kvs = gz from hgz] at hz
  (try dsimp only)
  k_steps
  · exfalso
    rename (_ != _) = true => hb
    simp at hb
  refine genR ?_
  intro tk7
  refine execsR_cons (ifR (orR (testR2 (callNameR ?_))))
  k_steps
  refine callWithR (P := (Mine.hd4.heap_1 w.params).In) rfl (fun h X => looks_keep (by k_is) X) (argsR rfl (splicedR_cons (wpR_of ?_)))
  rw [if_neg Bool.false_ne_true]
  k_steps
  refine splicedR_nil ⟨?in1, ?_⟩
  case in1 => k_in
  refine genR ?_
  intro tk8
  dsimp only [List.nil_append]
  k_dflt (refine' Mine.setup_R ?B4 ?F4 ?X4 (news_rot3 N3) ?T4 ?hk4 hgd ?hd4 ?hu4 lo hdo ?hl4 hg.https hg.scheme ?hn4 ?ret4)
  case B4 => k_asm
  case F4 => k_asm
  case X4 => k_asm
  case T4 => k_asm
  case hk4 => rfl
  case hd4 => ktr_room
  case hu4 => ktr_units
  case hl4 => omega
  case hn4 =>
    intro p hp
    simp only [List.mem_cons] at hp
    rcases hp with rfl | rfl | rfl | rfl | rfl | rfl | rfl | rfl | hp
    · k_ne
    · k_ne
    · k_ne
    · exact Ne.symm hdl
    · k_ne
    · k_ne
    · k_ne
    · k_ne
    · exact Nat.ne_of_lt (ktn_ltOf hlow.2.2.2.2 p hp)
  intro kve oe tv2 xb dxb Db ye dye v1 v2 v3 v4 v5 v6 v7 v8 v9 va vb h4 tk9 hde hrel q1 q2 q3 q4 q5 q6 q7 F4 N4
  k_lt q1
  (try dsimp only)
  k_steps
  refine wpR_of ?_
  refine orLast ?_
  k_steps
  unfold Stop
  k_dflt (refine dict_comp2 (by k_asm) (by with_unfolding_all rfl) (by decide) (by rfl) (by decide) (by rfl) ?_)
  k_steps
  refine ⟨_, _, kvs, _, rfl, rfl, F4, N4, ?c1, by assumption, by assumption, by rw [sizeLine_eq]; omega, ?c2, ?c3⟩
  case c1 => repeat (first | exact .head _ | refine .tail _ ?_)
  case c2 =>
    intro g i q u tq hqi I oI C oC D m₂ h tk hC hx2 F5 N5 off ne
    have hu1 : valueAt kvs q = some u := pair_value (dict_nodup hdo) (List.mem_of_getElem? hqi)
    have hu2 : valueAt kve q = some u := setup_keeps hrel hu1
    have hsu : SameOk u := hg.same _ _ (List.mem_of_getElem? hqi)
    k_steps
    refine isNot_self hsu ?_
    (try dsimp only)
    k_steps
    all_goals first | exact F5 | exact N5
  case c3 =>
    intro D h tk F5 N5 o1
    k_steps
    rw [if_neg Bool.false_ne_true]
    refine wpR_of ?_
    k_steps
    have hkl := due_len hL
    refine genR ?_
    intro tk10
    refine execsR_cons (wpR_of ?_)
    k_steps
    unfold Stop
    rename StrsAre _ (List.map _ kvs) => hSa
    rename StrsAre _ (List.map _ kvd) => hSb
    rename Fr _ _ _ _ => kFa
    rename News _ _ _ _ => kNa
    refine led_add kFa kNa (.tail _ (.head _)) (.head _) hSa hSb (by rw [hSa.length, hSb.length, List.length_map, List.length_map]; omega) ?_
    intro Da ha us F6 N6 lx hus
    k_lt lx
    clear kFa kNa
    (try dsimp only)
    k_steps
    unfold Stop
    rename Fr _ _ _ _ => kFb
    rename News _ _ _ _ => kNb
    refine led_add (ts := [Str.ofString "wsgi.input", Str.ofString "wsgi.errors"]) kFb kNb (.tail _ (.head _)) (.head _) hus (.cons _ _ (.cons _ _ .nil)) (by rw [hus.length, List.length_append, List.length_map, List.length_map]; simp; omega) ?_
    intro Dc hc us2 F7 N7 ly hus2
    k_lt ly
    clear kFb kNb
    (try dsimp only)
    k_steps
    unfold Stop
    refine led_set (by rfl) F7 N7 (.head _) hus2 (by rw [hus2.length, List.length_append, List.length_append, List.length_map, List.length_map]; simp; omega) ?_
    intro S h8 tk11 F8 N8 hPS
    (try dsimp only)
    k_steps
    unfold Stop
    have hlen6 : (foldS (List.map (fun x => x.fst) kvs ++ List.map (fun x => x.fst) kvd ++ [Str.ofString "wsgi.input", Str.ofString "wsgi.errors"])).length < 64 := by
      refine Nat.lt_of_le_of_lt (foldS_len _) ?_
      rw [List.length_append, List.length_append, List.length_map, List.length_map]; simp; omega
    have h26 : 2 ≤ (foldS (List.map (fun x => x.fst) kvs ++ List.map (fun x => x.fst) kvd ++ [Str.ofString "wsgi.input", Str.ofString "wsgi.errors"])).length :=
      two_le (a := Str.ofString "wsgi.input") (b := Str.ofString "wsgi.errors") (foldS_mem.mpr (List.mem_append_right _ (.head _))) (foldS_mem.mpr (List.mem_append_right _ (.tail _ (.head _)))) (by decide)
    refine sorted_set (by rfl) F8 (fun p hp => N8 p (.tail _ (.tail _ (.tail _ (.tail _ (.tail _ (.tail _ (.tail _ hp)))))))) hPS (foldS_nodup _) h26 hlen6 ?_
    intro Dn h9 tk12 dr1 vn sn cn9 F9 N9 lz hSn hpn hsn
    k_lt lz
    (try dsimp only)
    k_steps
    have hnd : sn.Nodup := hpn.nodup_iff.mpr (foldS_nodup _)
    have hmem : ∀ x, x ∈ keysOf kve ↔ x ∈ sn := fun x => (setup_keys hrel hL).trans hpn.mem_iff.symm
    have hok : ∀ x ∈ sn, PyData.strOk x = true := fun x hx => names_ok hg.keys hL x (hpn.mem_iff.mp hx)
    have hokE : ∀ x ∈ keysOf kve, PyData.strOk x = true := fun x hx => hok x ((hmem x).mp hx)
    have hlnE : kve.length ≤ 29 := Nat.le_trans (setup_len hrel) (by omega)
    have hlnS : sn.length < 64 := by rw [hpn.length_eq]; exact hlen6
    clear hpn hPS hlen6 h26 hus hus2
    refine genR ?_
    intro tk13
    refine execsR_cons (wpR_of ?_)
    k_steps
    unfold Stop
    have nf : NeFlag := trivial
    rename Fr _ _ _ _ => kFc
    rename News _ _ _ _ => kNc
    refine sorted_dict (d := d) (by rfl) kFc kNc ?mm1 hde lo (by omega) ?_
    case mm1 => repeat (first | exact .head _ | refine .tail _ ?_)
    intro De h10 tk14 ve se cn10 F10 N10 l10 hSe hpe hse
    clear kFc kNc
    k_lt l10
    (try dsimp only)
    k_steps
    unfold Stop
    have e7 : se = sn := sorted_eq hse hsn hpe (List.Perm.refl sn) (dict_nodup hde) hnd hmem
    refine se_ne (News.isList N10 (.head _)) (News.isList N10 (.tail _ (.head _))) hSe hSn (fun x hx => hokE x (hpe.mem_iff.mp hx)) hok ?hu7 ?_
    case hu7 => ktr_units
    rw [show decide (se = sn) = true from decide_eq_true e7, Bool.not_true]
    clear e7 hSe hpe hse nf
    k_steps
    refine genR ?_
    intro tk15
    refine execsR_cons (wpR_of ?_)
    k_steps
    unfold Stop
    k_dflt (refine dict_comp2 (by k_asm) (by with_unfolding_all rfl) (by decide) (by rfl) (by decide) (by rfl) ?_)
    k_steps
    refine ⟨_, _, kvd, _, rfl, rfl, F10, N10, ?c81, hdd, lod, by rw [sizeLine_eq]; omega, ?c82, ?c83⟩
    case c81 => repeat (first | exact .head _ | refine .tail _ ?_)
    case c82 =>
      intro g i q u tq hqi I oI C oC D m₂ h tk hC hx2 F11 N11 off ne
      have hdu : valueAt kvd q = some u := pair_value (dict_nodup hdd) (List.mem_of_getElem? hqi)
      cases hgv : valueAt kvs q with
      | some v =>
        have b1 : (!(valueAt kvs q).isSome) = false := by rw [hgv]; rfl
        k_steps
        all_goals first | exact F11 | exact N11
      | none =>
        have b1 : (!(valueAt kvs q).isSome) = true := by rw [hgv]; rfl
        obtain ⟨e, he, ha⟩ := due_alike hrel hL hg.server (List.mem_of_getElem? hqi) hgv
        k_steps
        obtain ⟨T, hT, hty⟩ := alike_kind (ta := va) (tb := vb) (tc := u1) (td := u2) ha
        refine alike_ne (ta := va) (tb := vb) (tc := u1) (td := u2) ha N11 ?m81 ?m82 ?m83 ?hu8 ?_
        case m81 => repeat (first | exact .head _ | refine .tail _ ?_)
        case m82 => repeat (first | exact .head _ | refine .tail _ ?_)
        case m83 => repeat (first | exact .head _ | refine .tail _ ?_)
        case hu8 => ktr_units
        have nf : NeFlag := trivial
        k_steps
        unfold Stop
        rename Fr _ _ _ _ => kFd
        rename News _ _ _ _ => kNd
        refine alike_type hT (hty _ _ _ _ kNd ?m84 ?m85 ?m86).1 ?_
        case m84 => repeat (first | exact .head _ | refine .tail _ ?_)
        case m85 => repeat (first | exact .head _ | refine .tail _ ?_)
        case m86 => repeat (first | exact .head _ | refine .tail _ ?_)
        k_steps
        unfold Stop
        refine alike_type hT (hty _ _ _ _ kNd ?m87 ?m88 ?m89).2 ?_
        case m87 => repeat (first | exact .head _ | refine .tail _ ?_)
        case m88 => repeat (first | exact .head _ | refine .tail _ ?_)
        case m89 => repeat (first | exact .head _ | refine .tail _ ?_)
        clear nf
        k_steps
        all_goals first | exact kFd | exact kNd
    case c83 =>
      intro D h tk F12 N12 o1
      k_steps
      rename Fr _ _ _ _ => kFe
      rename News _ _ _ _ => kNe0
      have kNe := news_tl (news_tl (news_tl kNe0))
      clear kNe0
      refine genR ?_
      intro tk16
      refine execsR_cons (wpR_of (cut_same kFe kNe ?_ ?_))
      · cases hgv : valueAt kvs (Str.ofString "wsgi.input") with
        | some v =>
          have b1 : (!(valueAt kvs (Str.ofString "wsgi.input")).isSome) = false := by rw [hgv]; rfl
          k_steps
          all_goals first | exact kFe | exact kNe
        | none =>
          have b1 : (!(valueAt kvs (Str.ofString "wsgi.input")).isSome) = true := by rw [hgv]; rfl
          have b2 := input_new hrel hgv
          k_steps
          all_goals (rename Fr _ _ _ _ => kFf; rename News _ _ _ _ => kNf; first | exact kFf | exact kNf)
      · intro h12 tk17 F13 N14
        clear kFe kNe
        refine genR ?_
        intro tk18
        refine execsR_cons (wpR_of (cut_w F13 N14 ?_ ?_))
        · cases hgv : valueAt kvs (Str.ofString "wsgi.errors") with
          | some v =>
            have b1 : (!(valueAt kvs (Str.ofString "wsgi.errors")).isSome) = false := by rw [hgv]; rfl
            k_steps
            all_goals first | exact F13 | exact news_w N14
          | none =>
            have b1 : (!(valueAt kvs (Str.ofString "wsgi.errors")).isSome) = true := by rw [hgv]; rfl
            have b2 := errors_new hrel hgv
            have hdye : ∀ p ∈ news, p.1 < dye := fun p hp => Nat.lt_trans (ktn_ltOf q1.2.2.2.2.2.2.2.2 p hp) (Nat.lt_trans q3 (Nat.lt_trans q4 (Nat.lt_trans q5 q6)))
            k_steps
            all_goals (rename Fr _ _ _ _ => kFg; rename News _ _ _ _ => kNg; first | exact kFg | exact news_w kNg)
        · intro h14 tk19 F14 N15
          clear F13 N14
          refine genR ?_
          intro tk20
          refine execsR_cons (wpR_of ?_)
          k_steps
          refine genR ?_
          intro tk21
          refine execsR_cons (exprR (callNameR ?_))
          k_steps
          refine callWithR (P := (Mine.hd4.heap_1 w.params).In) rfl (fun h X => looks_keep (by k_is) X) (argsR rfl (splicedR_cons (wpR_of ?_)))
          rw [if_neg Bool.false_ne_true]
          k_steps
          refine splicedR_nil ⟨?in2, ?_⟩
          case in2 => k_in
          refine genR ?_
          intro tk22
          dsimp only [List.nil_append]
          rename Fr _ _ _ _ => kFh
          rename News _ _ _ _ => kNh
          k_dflt (refine' Mine.setup_R ?B6 kFh ?X6 (news_front6 kNh) ?T6 ?hk6 hgd ?hd6 ?hu6 lo hde ?hl6 (httpsOk_after hrel hg.https) (schemeOk_after hrel hg.scheme) ?hn6 ?ret6)
          case B6 => k_asm
          case X6 => k_asm
          case T6 => k_asm
          case hk6 => rfl
          case hd6 => ktr_room
          case hu6 => ktr_units
          case hl6 => omega
          case hn6 =>
            intro p hp
            simp only [List.mem_cons] at hp
            rcases hp with rfl | rfl | rfl | rfl | rfl | rfl | rfl | rfl | rfl | rfl | hp
            · k_ne
            · k_ne
            · k_ne
            · k_ne
            · k_ne
            · exact Ne.symm hdl
            · k_ne
            · k_ne
            · k_ne
            · k_ne
            · exact Nat.ne_of_lt (ktn_ltOf hlow.2.2.2.2 p hp)
          intro kve2 oe2 tv3 xb3 dxb3 Db3 ye3 dye3 w1 w2 w3 w4 w5 w6 w7 w8 w9 wa wb h16 tk23 hde2 hrel2 z1 z2 z3 z4 z5 z6 z7 F16 N16
          k_lt z1
          obtain rfl := setup_again hrel hg.scheme hrel2
          clear hrel2
          (try dsimp only)
          k_steps
          refine wpAny_dropValue ?_
          (try dsimp only)
          refine genR ?_
          intro tk24
          refine execsR_cons (wpR_of ?_)
          k_steps
          unfold Stop
          refine sorted_dict (d := d) (by rfl) F16 N16 ?mm13 hde2 lo (by omega) ?_
          case mm13 => repeat (first | exact .head _ | refine .tail _ ?_)
          intro Df h17 tk25 vf sf cn17 F17 N17 l17 hSf hpf hsf
          k_lt l17
          have nf : NeFlag := trivial
          (try dsimp only)
          k_steps
          unfold Stop
          have e13 : sf = sn := sorted_eq hsf hsn hpf (List.Perm.refl sn) (dict_nodup hde2) hnd hmem
          refine' se_eq ?mm14 ?mm15 hSf hSn (fun x hx => hokE x (hpf.mem_iff.mp hx)) hok ?hu14 ?_
          case hu14 => ktr_units
          case mm14 => exact News.isList N17 (.head _)
          case mm15 => exact News.isList N17 (by k_mem)
          rw [show decide (sf = sn) = true from decide_eq_true e13]
          clear e13 hSf hpf hsf nf
          k_steps
          unfold Stop
          k_dflt (refine list_comp2 (by k_asm) (by with_unfolding_all rfl) (by decide) (by rfl) (by decide) (by rfl) ?_)
          k_steps
          rename Fr _ _ _ _ => kFi
          rename News _ _ _ _ => kNi
          refine ⟨_, vn, cn9, _, rfl, rfl, kFi, kNi, ?c131, ?c134, ?c132, ?c133⟩
          case c131 => repeat (first | exact .head _ | refine .tail _ ?_)
          case c134 =>
            rw [hSn.length, sizeLine_eq]; omega
          case c132 =>
            intro g i v hvi I oI C oC D m₂ h tk hC hx2 F18 N18 off ne
            obtain ⟨q, tq, hq, rfl⟩ := strsAre_at hSn hvi
            obtain ⟨u, hu⟩ := Option.isSome_iff_exists.mp (key_iff.mp ((hmem q).mpr (List.mem_of_getElem? hq)))
            have hsu : SameOk u := setup_same hrel hg.same _ _ (value_mem hu)
            k_steps
            refine isNot_self hsu ?_
            (try dsimp only)
            k_steps
            all_goals first | exact F18 | exact N18
          case c133 =>
            intro D h tk F19 N19 o1
            k_steps
            rename Fr h₀ L _ _ => kFz
            rename News h₀ L _ _ => kNz
            exact ret _ _ _ kFz (fun p hp => kNz p (by repeat (first | exact hp | refine .tail _ ?_)))
end

section
local macro_rules | `(tactic| walk_at "never 2 0") => `(tactic| skip)
local macro_rules | `(tactic| walk_at "never 2 1") => `(tactic| skip)
theorem offW6 : True := by w_top off; trivial
theorem lawCompF {A : Around} {env : Env} {ct elt iter : PySem.Expr} {x : Str} {px : Pos} {scope : Scope} {cl : List (Str × Addr)} {pos : Pos} {Q : Value → Shared → Prop} (F₀ : Fr h₀ L s.heap m) (hh : A.handled = none)
    (hclos : closureFor scope env = pure cl) (hcell : ∀ y ∈ scope.names, y.2 ≠ .cell) (hkind : scope.kind = .function)
    (hnames : ∀ y ∈ scope.names, y.2 = .local → scope.names.lookup y.1 = some .local) (hx : scope.names.lookup x = some .local)
    (h : wpAny (model prog w) A (eval iter env) (fun xv s₁ => ∃ (ax : Addr) (its : Array Value) (k : Nat) (news : List (Addr × Obj)) (h1 : Heap) (tk1 : Nat), xv = .ref ax ∧ s₁ = { s with heap := h1, toks := tk1 } ∧ Fr h₀ L h1 m ∧ News h₀ L h1 news ∧ (ax, ({ cls := .type "list", data := .seq its k } : Obj)) ∈ news ∧ its.size ≤ sizeLine ∧
      (∀ (i : Nat) (v : Value) (I : Addr) (oI : Obj) (C : Addr) (oC : Obj) (D : Addr) (m₂ : Str → Option Value) (h : Heap) (tk : Nat) (dr : Drawn), its[i]? = some v → LCg.NsObj oC m₂ → m₂ x = some v → Fr h₀ L h m → News h₀ L h ((I, oI) :: (C, oC) :: (D, LCg.lst []) :: news) → LCg.Off3 I C D news → ((@Ne Nat I C) ∧ (@Ne Nat I D) ∧ (@Ne Nat C D)) →
        wpR (model prog w) A (isTrue ct (compEnvC scope cl C env) (eval ct (compEnvC scope cl C env))) (fun ok s' => ok = false ∧ ∃ (h' : Heap) (tk' : Nat) (dr' : Drawn), s' = { s with heap := h', toks := tk', drawn := dr' } ∧ Fr h₀ L h' m ∧ News h₀ L h' ((I, oI) :: (C, oC) :: (D, LCg.lst []) :: news)) (fun _ _ => False) { s with heap := h, toks := tk, drawn := dr }) ∧
      (∀ (D : Addr) (h : Heap) (tk : Nat) (dr : Drawn), Fr h₀ L h m → News h₀ L h ((D, LCg.lst []) :: news) → LCg.Off1 D news → Q (.ref D) { s with heap := h, toks := tk, drawn := dr })) (fun _ _ => False) s)
    (hs : ∀ x, foldedSetIterable iter env x = pure x := by intro _; rfl) :
    wpR (model prog w) A (eval (.ListComp elt [⟨.Name x px, iter, [ct], 0⟩] scope pos) env) Q (fun _ _ => False) s := lawCompR hh hclos hcell hkind hnames hx h hs
local macro_rules | `(tactic| walk_at "call ref") => `(tactic| (k_here; refine Mine.Stop.intro ?_))
local macro_rules | `(tactic| walk_at "binaryOp Add ref ref") => `(tactic| (k_here; (with_reducible show wpAny _ _ (binaryOp _ (Value.ref _) (Value.ref _)) _ _ _); refine Mine.Stop.intro ?_))
theorem walk4 : PySem.Challenge.rw_kp0085_04.Holds := Mine.hd4 (by
  k_fill
  intro w s₀ s₁ mg mb G Y fa o pm cd doc dV kV ho hd hcd hD hmg hg args vals as hpre hlay hrd hwl hlo
  have KX := kIn_of Y
  have X := (Ground.X G).1
  have V := (Ground.X G).2
  refine Ground.open G ?_
  intro T B D TE TW
  try (refine guard_noD D (by decide +kernel) ?_; clear D)
  obtain ⟨_, _, M⟩ := bmod_of_top T
  have TA := at_of_top T
  try (obtain ⟨_, _, he, B0⟩ := based_of_top T rfl hmg ho hd; have he' : cd = _ := he; subst he'; clear he)
  clear hmg
  wrow_args hpre hlay hrd hwl hlo
  refine enter_callR ?_
  w_top on
  refine codeR_mono ?_ (fun _ _ g => GoodW.toG g)
  have K0 := below_caller (Top.heap T)
  have he := Dflts.none hD rfl; subst he
  refine call_fullR (by decide) ho hd (Top.nolimit T) hcd (BindsTo.of_eq rfl) (locs rfl) fun h₁ F => ?_
  w_binds F
  have N0 := (News.nil : News _ _ _ []).at F
  clear hd TA
  k_drop
  (all_goals try k_fold)
  rename Fr _ _ _ _ => kF0
  refine execsR_cons (returnR (compareR2 (lawCompF kF0 (by rfl) (by with_unfolding_all rfl) (by decide) (by rfl) (by decide) (by rfl) ?_)))
  k_steps
  unfold Stop
  rename IntsAre _ _ => hI
  rename List Int => ns
  rename PySem.Heap.IsList _ _ _ => hLs
  rename News _ _ _ _ => N1
  rename Fr _ _ _ _ => F1
  have hn : ns.length ≤ 63 := by omega
  refine add_arrays_ints (hsz := by rw [PySem.sizeLine_eq]; simp; omega) F1 N1 (hLs.at fun o e => F1.keep _ o e) (News.isList N1 (.head _)) hI (.cons _ _ .nil) ?_
  intro h2 F2 N2 hI2
  (try dsimp only)
  have hl2 : ∀ a b : List Value, IntsAre (a ++ b) (ns ++ [(ns.length : Int)]) → (a ++ b).length ≤ 64 := fun a b h => by rw [h.length]; simp; omega
  have hl2 := hl2 _ _ hI2
  refine ⟨_, _, _, _, _, _, rfl, rfl, F2, N2, .head _, by rw [List.size_toArray, PySem.sizeLine_eq]; omega, ?c1, ?c2⟩
  case c1 =>
    intro i v I oI C oC D m₂ h tk dr hvi hC hx F3 N3 off ne
    obtain ⟨k, t, rfl⟩ : ∃ k t, v = Value.int k t := hI2.allInts v (Array.mem_of_getElem? hvi)
    refine notR (isTrue_callR (callNameR ?_))
    k_steps
    refine callWithR (P := (Mine.hd4.heap_1 w.params).In) rfl (fun h X => looks_keep (by k_is) X) (argsR rfl (splicedR_cons (wpR_of ?_)))
    rw [if_neg Bool.false_ne_true]
    k_steps
    refine splicedR_nil ⟨?in1, ?_⟩
    case in1 => k_in
    refine genR ?_
    intro tk8
    dsimp only [List.nil_append]
    k_dflt (refine' Mine.holds_R ?B ?F ?X ?N ?T ?hk ?hgd ?hd ?hu ?ret)
    case B => k_asm
    case F => k_asm
    case X => k_asm
    case N => k_asm
    case T => k_asm
    case hk => rfl
    case hgd => rfl
    case hd => ktr_room
    case hu => ktr_units
    intro h4 tk9 dr4 F4 N4
    (try dsimp only)
    k_steps
    all_goals first | exact F4 | exact N4 | rfl
  case c2 =>
    intro D h tk dr F3 N3 o1
    k_steps)
end

end Mine
end

set_option maxRecDepth 100000 in
theorem PySem.Challenge.cw_kp0085_04_holds : PySem.Challenge.rw_kp0085_04.Holds :=
  Mine.walk4
