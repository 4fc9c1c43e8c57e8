import PyProof.Rows.All
import Wide.All
import OpenK.AllK
import Wide.FinOn
import Lean
import PySem.Challenge.RW_mq0140_01
set_option Elab.async false
section
open PySem PySem.W PyProof.Rows
namespace Mine
set_option maxRecDepth 100000 in
set_option maxHeartbeats 8000000 in
open_top hd for PySem.Challenge.rw_mq0140_01
end Mine
end
section
open PySem PySem.W PyProof.Rows
namespace Mine
abbrev TellsH {D : Type} (w : World) (p : Program) (loose : List Str) (mean : ExcName → Option Value) (mg mb : Str → Option Value) (f : Addr) (c : ToldN D) : Prop :=
  ∀ d, TellsN Challenge.rw_mq0140_01.row.prog w (hd.heap_39 w.params) p loose mean mg mb f c d

theorem all_low {news : List (Addr × Obj)} {a b : Addr} (h : ∀ p ∈ news, p.1 < a) (hab : @LE.le Nat _ a b) : ∀ p ∈ news, p.1 ≠ b := fun p hp => Nat.ne_of_lt (Nat.lt_of_lt_of_le (h p hp) hab)
theorem allLt_low {news : List (Addr × Obj)} {a b : Addr} (h : AllLt a news) (hab : @LE.le Nat _ a b) : ∀ p ∈ news, p.1 ≠ b := all_low (ktn_ltOf h) hab

/-- a mark at which the walk stops -/
def Stop (P : Prop) : Prop := P
theorem stop_here {P : Prop} (h : Stop P) : P := h
theorem Stop.out {P : Prop} (h : P) : Stop P := h
/-- a fact that the closers are not to see -/
structure Hid (P : Prop) : Prop where
  out : P
/-- a list of texts in the ledger -/
def StrsIn (news : List (Addr × Obj)) (v : Value) (xs : List Str) : Prop :=
  ∃ a vs n, v = .ref a ∧ (a, listOf vs.toArray n) ∈ news ∧ StrsAre vs xs

def keptF (n : Int) : Int := if n < 3 then 0 else (n - 3) / 2
def keptE (n : Int) : Int := if n < 3 then 0 else (n - 3) - (n - 3) / 2
theorem news_one {h₀ h : Heap} {L : Addr} {news tl : List (Addr × Obj)} {q : Addr × Obj} (N : News h₀ L h (news ++ tl)) (hm : q ∈ news ++ tl) : News h₀ L h (q :: news) := fun p hp => by
  rcases List.mem_cons.mp hp with rfl | hp
  · exact N _ hm
  · exact N _ (List.mem_append_left _ hp)
theorem strs_at {vs : List Value} {xs : List Str} (hs : StrsAre vs xs) : ∀ {i : Nat} {v : Value}, vs[i]? = some v → ∃ x t, v = .str x t ∧ xs[i]? = some x := by
  induction hs with
  | nil => intro i v h; cases h
  | cons x t r ih =>
    intro i v h
    cases i with
    | zero => cases h; exact ⟨x, t, rfl, rfl⟩
    | succ i => exact ih h
theorem at_int {h₀ h : Heap} {L : Addr} {m : Str → Option Value} (_F : Fr h₀ L h m) (z : Str) (k : Int) (e : ∃ t, m z = some (.int k t)) : ∃ t, m z = some (.int k t) := e
theorem out_str {x y : Str} {t : Tok} (h : x = y) : ∃ t', Value.str x t = Value.str y t' := ⟨t, h ▸ rfl⟩
theorem out_bool {x y : Bool} (h : x = y) : Value.bool x = Value.bool y := h ▸ rfl
end Mine
end
section
open PySem PySem.W PySem.Calls PyProof.Rows PyProof.V PySem.Spec
namespace Mine
/-- lists of texts of the ledger, by reference -/
inductive ListsIn (news : List (Addr × Obj)) : List Value → List (List Str) → Prop
  | nil : ListsIn news [] []
  | cons {a : Addr} {ws : List Value} {k : Nat} {xs : List Str} {vs : List Value} {xss : List (List Str)} : (a, listOf ws.toArray k) ∈ news → StrsAre ws xs → ListsIn news vs xss → ListsIn news (.ref a :: vs) (xs :: xss)
theorem ListsIn.mono {news news' : List (Addr × Obj)} {vs : List Value} {xss : List (List Str)} (h : ListsIn news vs xss) (hs : ∀ p ∈ news, p ∈ news') : ListsIn news' vs xss := by
  induction h with
  | nil => exact .nil
  | cons hm hx _ ih => exact .cons (hs _ hm) hx ih
theorem ListsIn.length {news : List (Addr × Obj)} {vs : List Value} {xss : List (List Str)} (h : ListsIn news vs xss) : vs.length = xss.length := by
  induction h with
  | nil => rfl
  | cons _ _ _ ih => simp [ih]
theorem ListsIn.append {news : List (Addr × Obj)} {vs ws : List Value} {xss yss : List (List Str)} (h : ListsIn news vs xss) (h2 : ListsIn news ws yss) : ListsIn news (vs ++ ws) (xss ++ yss) := by
  induction h with
  | nil => exact h2
  | cons hm hx _ ih => exact .cons hm hx ih
theorem same_off {stored : List Str} {m₀ u : Str → Option Value} {z : Str} (h3 : stored.contains z = false) : ∀ {ps : List (Str × Value)}, (∀ p ∈ ps, z ≠ p.1) → kstB (fun z => if stored.contains z then u z else m₀ z) ps z = m₀ z
  | [], _ => by show (if stored.contains z = true then u z else m₀ z) = m₀ z; rw [h3]; rfl
  | p :: r, h => by
    show (if z = p.1 then some p.2 else kstB _ r z) = m₀ z
    rw [if_neg (h p (.head _))]
    exact same_off h3 fun q hq => h q (.tail _ hq)
section
variable {prog : Program} {w : World} {A : Around} {h₀ : Heap} {L : Addr} {m : Str → Option Value} {env : Env} {ct elt : Expr} {x : Str} {scope : Scope} {cl : List (Str × Addr)} {s : Shared} {S : List (Addr × Obj) → Prop} {P : Nat → Value → Prop} {Fin : List Value → List (Addr × Obj) → Prop} {news : List (Addr × Obj)}

/-- a comprehension with one test, by an invariant of what has been gathered -/
theorem compT_inv {n : Nat} (Inv : Nat → List Value → Prop) (h0 : Inv 0 [])
    (turn : ∀ i v ys I oI C oC D m₂ h tk (E' : Value → Shared → Prop), i < n → P i v → Inv i ys → LCg.NsObj oC m₂ → m₂ x = some v → Fr h₀ L h m → News h₀ L h ((I, oI) :: (C, oC) :: (D, LCg.lst ys) :: news) → LCg.Off3 I C D news → ((@Ne Nat I C) ∧ (@Ne Nat I D) ∧ (@Ne Nat C D)) →
      wpAny (model prog w) A (isTrue ct (compEnvC scope cl C env) (eval ct (compEnvC scope cl C env))) (fun b s' => if b = true then wpAny (model prog w) A (eval elt (compEnvC scope cl C env)) (LCg.CompEnd h₀ L m { s with heap := h, toks := tk } I oI C oC D (LCg.lst ys) S (fun y news' => news' = news ∧ Inv (i + 1) (ys ++ [y]))) E' s'
        else LCg.CompEnd h₀ L m { s with heap := h, toks := tk } I oI C oC D (LCg.lst ys) S (fun _ news' => news' = news ∧ Inv (i + 1) ys) Value.none s') E' { s with heap := h, toks := tk })
    (fin : ∀ ys, Inv n ys → Fin ys news) : LCt.CompRestT prog w A h₀ L m env ct elt x scope cl s S P Fin n 0 [] news := by
  have key : ∀ (j i : Nat) (ys : List Value), i + j = n → Inv i ys → LCt.CompRestT prog w A h₀ L m env ct elt x scope cl s S P Fin j i ys news := by
    intro j
    induction j with
    | zero =>
      intro i ys hi hy
      have e : i = n := by omega
      subst e
      exact LCt.CompRestT.zero (fin ys hy)
    | succ j ih =>
      intro i ys hi hy
      refine LCt.CompRestT.succ ?_
      intro v I oI C oC D m₂ h tk E' hv hC hx F N off ne
      refine wpAny_mono (turn i v ys I oI C oC D m₂ h tk E' (by omega) hv hy hC hx F N off ne) (fun b s₂ hq => ?_) fun _ _ e => e
      cases b with
      | true =>
        simp only [if_true] at hq ⊢
        refine wpAny_mono hq (fun y s₃ hr => ?_) fun _ _ e => e
        obtain ⟨h', tk', nw, e, F', N', off', hS, hn, hr'⟩ := hr
        rw [hn] at N' off' hS
        exact ⟨h', tk', news, e, F', N', off', hS, ih (i + 1) _ (by omega) hr'⟩
      | false =>
        simp only [Bool.false_eq_true, if_false] at hq ⊢
        obtain ⟨h', tk', nw, e, F', N', off', hS, hn, hr'⟩ := hq
        rw [hn] at N' off' hS
        exact ⟨h', tk', news, e, F', N', off', hS, ih (i + 1) _ (by omega) hr'⟩
  exact key n 0 [] (by omega) h0

/-- a comprehension without a test -/
theorem compU_inv {n : Nat} (Inv : Nat → List Value → Prop) (h0 : Inv 0 [])
    (turn : ∀ i v ys I oI C oC D m₂ h tk (E' : Value → Shared → Prop), i < n → P i v → Inv i ys → LCg.NsObj oC m₂ → m₂ x = some v → Fr h₀ L h m → News h₀ L h ((I, oI) :: (C, oC) :: (D, LCg.lst ys) :: news) → LCg.Off3 I C D news → ((@Ne Nat I C) ∧ (@Ne Nat I D) ∧ (@Ne Nat C D)) →
      wpAny (model prog w) A (eval elt (compEnvC scope cl C env)) (LCg.CompEnd h₀ L m { s with heap := h, toks := tk } I oI C oC D (LCg.lst ys) S (fun y news' => news' = news ∧ Inv (i + 1) (ys ++ [y]))) E' { s with heap := h, toks := tk })
    (fin : ∀ ys, Inv n ys → Fin ys news) : LCg.CompRest prog w A h₀ L m env elt x scope cl s S P Fin n 0 [] news := by
  have key : ∀ (j i : Nat) (ys : List Value), i + j = n → Inv i ys → LCg.CompRest prog w A h₀ L m env elt x scope cl s S P Fin j i ys news := by
    intro j
    induction j with
    | zero =>
      intro i ys hi hy
      have e : i = n := by omega
      subst e
      exact LCg.CompRest.zero (fin ys hy)
    | succ j ih =>
      intro i ys hi hy
      refine LCg.CompRest.succ ?_
      intro v I oI C oC D m₂ h tk E' hv hC hx F N off ne
      refine wpAny_mono (turn i v ys I oI C oC D m₂ h tk E' (by omega) hv hy hC hx F N off ne) (fun y s₃ hr => ?_) fun _ _ e => e
      obtain ⟨h', tk', nw, e, F', N', off', hS, hn, hr'⟩ := hr
      rw [hn] at N' off' hS
      exact ⟨h', tk', news, e, F', N', off', hS, ih (i + 1) _ (by omega) hr'⟩
  exact key n 0 [] (by omega) h0
end

section
variable {prog : Program} {w : World} {A : Around} {E : Value → Shared → Prop} {s : Shared} {env : Env} {h₀ : Heap} {x : Str} {body : List Stmt} {Q : Flow → Shared → Prop}

theorem truthy_led {L l : Addr} {vs : List Value} {n : Nat} {news : List (Addr × Obj)} {b : Bool} {Q : Bool → Shared → Prop} (N : News h₀ L s.heap news) (hm : (l, listOf vs.toArray n) ∈ news) (hz : vs.length ≤ 16384) (hb : decide (0 < vs.length) = b)
    (h : ∀ k, Q b { s with toks := k }) : wpAny (model prog w) A (truthy (.ref l)) Q E s := by
  refine wpAny_truthy_list ⟨_, (N _ hm).1, rfl, n, rfl⟩ (by rw [List.size_toArray]; omega) ?_
  have e : (!vs.toArray.isEmpty) = b := by
    rw [← hb]
    cases vs with
    | nil => rfl
    | cons _ _ => simp
  rw [e]
  exact h _
theorem pick_tail (v : Value) (r : List Value) : (slicePick (v :: r).toArray (some 1) none none).toList = r := by
  have e : sliceBounds (some 1) none none ((v :: r).toArray.size) = (((1 : Nat) : Int), (((v :: r).toArray.size : Nat) : Int), 1) := by
    simp [sliceBounds]
    omega
  rw [kmk_pick_nat _ e]
  simp
/-- the end of a turn over a list of the ledger -/
def LedEnd {σ : Type} (h₀ : Heap) (L : Addr) (s : Shared) (x : Str) (Led : σ → List (Addr × Obj)) (ps : σ → List (Str × Value)) (stored : List Str) (m₀ : Str → Option Value) (P : Nat → σ → Prop) (I : Addr) (oI : Obj) (i : Nat) (s₂ : Shared) : Prop :=
  ∃ (c' : σ) (h' : Heap) (tk : Nat) (m' : Str → Option Value) (news' : List (Addr × Obj)), s₂ = { s with heap := h', toks := tk } ∧ Fr h₀ L h' m' ∧ News h₀ L h' news' ∧ (∀ p ∈ (I, oI) :: Led c', p ∈ news') ∧ (∀ p ∈ Led c', p.1 ≠ I) ∧ (∀ p ∈ ps c', m' p.1 = some p.2) ∧ (∀ z, z ≠ x → (∀ p ∈ ps c', z ≠ p.1) → stored.contains z = false → m' z = m₀ z) ∧ P i c'
def LedPost {σ : Type} (h₀ : Heap) (L : Addr) (s : Shared) (x : Str) (Led : σ → List (Addr × Obj)) (ps : σ → List (Str × Value)) (stored : List Str) (m₀ : Str → Option Value) (P : Nat → σ → Prop) (I : Addr) (oI : Obj) (i : Nat) (Q : Flow → Shared → Prop) (f : Flow) (s₂ : Shared) : Prop :=
  match f with
  | .ret v => Q (.ret v) s₂
  | .brk => Q .next s₂
  | _ => LedEnd h₀ L s x Led ps stored m₀ P I oI i s₂

theorem led_end {σ : Type} {L : Addr} {Led : σ → List (Addr × Obj)} {ps : σ → List (Str × Value)} {stored : List Str} {m₀ m' : Str → Option Value} {P : Nat → σ → Prop} {I : Addr} {oI : Obj} {i : Nat} {h' : Heap} {tk : Nat} {news' : List (Addr × Obj)} (c' : σ)
    (F : Fr h₀ L h' m') (N : News h₀ L h' news') (hn : ∀ p ∈ (I, oI) :: Led c', p ∈ news') (ho : ∀ p ∈ Led c', p.1 ≠ I) (hk : ∀ p ∈ ps c', m' p.1 = some p.2) (hr : ∀ z, z ≠ x → (∀ p ∈ ps c', z ≠ p.1) → stored.contains z = false → m' z = m₀ z) (hp : P i c') :
    LedEnd h₀ L s x Led ps stored m₀ P I oI i { s with heap := h', toks := tk } := ⟨c', h', tk, m', news', rfl, F, N, hn, ho, hk, hr, hp⟩
theorem iter_led {σ : Type} {l : Addr} {vs : List Value} {nn : Nat} {m₀ : Str → Option Value} (Led : σ → List (Addr × Obj)) (ps : σ → List (Str × Value)) (stored : List Str) (P : Nat → σ → Prop) (c₀ : σ)
    (hh : A.handled = none) (hl : ∀ c : σ, (l, listOf vs.toArray nn) ∈ Led c) (F : Fr h₀ env.locals s.heap m₀) (N : News h₀ env.locals s.heap (Led c₀)) (hk : ∀ p ∈ ps c₀, m₀ p.1 = some p.2) (hp : P 0 c₀)
    (turn : ∀ (c : σ) (i : Nat) (v : Value) (I : Addr) (oI : Obj) (u : Str → Option Value) h tk, vs[i]? = some v → (∀ p ∈ Led c, p.1 ≠ I) → P i c →
      Fr h₀ env.locals h (fun y => if y = x then some v else kstB (fun z => if stored.contains z then u z else m₀ z) (ps c) y) → News h₀ env.locals h ((I, oI) :: Led c) →
      wpAny (model prog w) A (execs body env) (LedPost h₀ env.locals s x Led ps stored m₀ P I oI (i + 1) Q) E { s with heap := h, toks := tk })
    (done : ∀ (c : σ) (u : Str → Option Value) h tk, P vs.length c → Fr h₀ env.locals h (fun y => if y = x then u y else kstB (fun z => if stored.contains z then u z else m₀ z) (ps c) y) → News h₀ env.locals h (Led c) → Q .next { s with heap := h, toks := tk }) :
    wpAny (model prog w) A (pyIter (.ref l)) (fun it s₂ => LoopAtV prog w A h₀ env x body Q E it s₂) E s := by
  have hol : s.heap.get? l = some (listOf vs.toArray nn) := (N _ (hl c₀)).1
  have hls : s.heap.IsList l vs.toArray := ⟨_, hol, rfl, nn, rfl⟩
  have hne : l ≠ s.heap.objs.size := Nat.ne_of_lt (Heap.lt_size hol)
  refine wpAny_pyIter_list hls ?_
  have W := Walks.list (prog := prog) (w := w) hh s.heap.objs.size l hne vs.toArray
  have hlen : vs.toArray.size = vs.length := by simp
  rw [hlen] at W
  refine ⟨_, _, _, vs.length, _, _, m₀, Led c₀, (fun i m nx => ∃ c : σ, nx = Led c ∧ (∀ p ∈ ps c, m p.1 = some p.2) ∧ (∀ z, z ≠ x → (∀ p ∈ ps c, z ≠ p.1) → stored.contains z = false → m z = m₀ z) ∧ P i c), rfl, W, ?_, ?_, ?_, ⟨⟨_, Heap.get?_push_size _ rfl, rfl, rfl⟩, hls.at fun o e => Heap.get?_push_of_some _ e⟩, F.push _, (fun p hp => ⟨Heap.get?_push_of_some _ (N p hp).1, (N p hp).2⟩), ⟨c₀, rfl, hk, fun _ _ _ _ => rfl, hp⟩, ?_, ?_⟩
  · intro hm
    rcases List.mem_cons.mp hm with e | hm
    · exact absurd F.ns.lt (e ▸ Nat.lt_irrefl _)
    · exact (N _ (hl c₀)).2.1 ((List.mem_singleton.mp hm).symm)
  · intro b hb
    rw [List.mem_singleton.mp hb]
    exact next_is_new F
  · intro p hp hI
    exact absurd (Heap.lt_size (N p hp).1) ((List.mem_singleton.mp hI) ▸ Nat.lt_irrefl _)
  · rintro i v m₁ news₁ s₁ own ⟨hh', tk', rfl⟩ hin hP ⟨c, hnx, h1, h2, hp'⟩ hoff hown hget hfp hst F₁ N₁
    subst hnx
    obtain ⟨⟨oi, hoi, _⟩, _⟩ := hst
    have hI : (s.heap.objs.size, oi) ∈ own := hfp _ (.head _) (next_is_new F) oi hoi
    have hP' : vs[i]? = some v := by simpa using hP
    have hoff' : ∀ p ∈ Led c, p.1 ≠ s.heap.objs.size := fun p hp e => hoff p hp (List.mem_singleton.mpr e)
    have N₂ : News h₀ env.locals hh' ((s.heap.objs.size, oi) :: Led c) := fun p hp => by
      rcases List.mem_cons.mp hp with rfl | hp
      · exact N₁ _ (List.mem_append.mpr (.inl hI))
      · exact N₁ p (List.mem_append.mpr (.inr hp))
    have hlo : hh'.get? l = some (listOf vs.toArray nn) := (N₁ _ (List.mem_append.mpr (.inr (hl c)))).1
    refine wpAny_mono (turn c i v s.heap.objs.size oi m₁ hh' tk' hP' hoff' hp' (kst_fr h1 h2 F₁) N₂) (fun f s₂ p => ?_) fun _ _ e => e
    have fin : LedEnd h₀ env.locals s x Led ps stored m₀ P s.heap.objs.size oi (i + 1) s₂ →
        LoopStepU h₀ env.locals [s.heap.objs.size] own (fun m nx => ∃ c : σ, nx = Led c ∧ (∀ p ∈ ps c, m p.1 = some p.2) ∧ (∀ z, z ≠ x → (∀ p ∈ ps c, z ≠ p.1) → stored.contains z = false → m z = m₀ z) ∧ P (i + 1) c) { s with heap := hh', toks := tk' } .next s₂ := by
      rintro ⟨c', h', tk, m', news', e, F', N', hn, ho, hk', hr', hp''⟩
      refine ⟨rfl, h', tk, m', Led c', e, F', fun p hp => ?_, fun p hp hq => ho p hp (List.mem_singleton.mp hq), c', rfl, hk', hr', hp''⟩
      rcases List.mem_append.mp hp with h | h
      · have h2 : hh'.get? p.1 = some p.2 := hget p h
        rcases List.mem_cons.mp (hown p h) with h3 | h3
        · have h4 : p = (s.heap.objs.size, oi) := Prod.ext h3 (Option.some.inj (by rw [← h2, h3]; exact hoi))
          rw [h4]
          exact N' _ (hn _ (.head _))
        · have h3' := List.mem_singleton.mp h3
          rw [h3', hlo] at h2
          have h4 : p = (l, listOf vs.toArray nn) := Prod.ext h3' (Option.some.inj h2).symm
          rw [h4]
          exact N' _ (hn _ (.tail _ (hl c')))
      · exact N' p (hn p (.tail _ h))
    cases f with
    | ret v => exact .ret p
    | brk => exact .brk p
    | next => exact .next (fin p)
    | cont => exact .cont (fin p)
  · rintro h' tk m' news' F' N' _ ⟨c, hnx, h1, h2, hp'⟩
    subst hnx
    exact done c m' h' tk hp' (kst_frOut h1 h2 F') N'
end
end Mine
end
section
open PySem PySem.W PyProof.Rows PySem.Builtin PySem.Builtin.Str
namespace Mine
/-- the signs of a text -/
abbrev Ls (x : Str) : List Nat := x.cps.toList
theorem ls_len (x : Str) : (Ls x).length = x.length := by simp [Str.length]
theorem ls_inj {x y : Str} (h : Ls x = Ls y) : x = y := Str.ext' (Array.toList_inj.mp h)
theorem ls_append (x y : Str) : Ls (x ++ y) = Ls x ++ Ls y := by
  show (x ++ y).cps.toList = _
  rw [Str.cps_append, Array.toList_append]
theorem ls_beq (x y : Str) : (x == y) = decide (Ls x = Ls y) := by
  by_cases h : x = y
  · subst h; simp
  · have : ¬ Ls x = Ls y := fun e => h (ls_inj e)
    simp [h, this]
theorem sliceIdx_clip {i j : Int} (len : Nat) (h0 : 0 ≤ i) (h1 : 0 ≤ j) : strSliceIndices (some i) (some j) 1 len = strSliceIndices (some (min i len)) (some (min j len)) 1 len := by
  have a1 : ¬ i < 0 := Int.not_lt.mpr h0
  have a2 : ¬ j < 0 := Int.not_lt.mpr h1
  have a3 : ¬ min i (len : Int) < 0 := Int.not_lt.mpr (Int.le_min.mpr ⟨h0, Int.natCast_nonneg _⟩)
  have a4 : ¬ min j (len : Int) < 0 := Int.not_lt.mpr (Int.le_min.mpr ⟨h1, Int.natCast_nonneg _⟩)
  have e1 : min (min i (len : Int)) (len : Int) = min i (len : Int) := by rw [Int.min_assoc, Int.min_self]
  have e2 : min (min j (len : Int)) (len : Int) = min j (len : Int) := by rw [Int.min_assoc, Int.min_self]
  simp only [strSliceIndices, a1, a2, a3, a4, if_false, show ((1 : Int) > 0) = True from by simp, if_true, e1, e2]
theorem ls_slice {x : Str} {i j : Int} (h0 : 0 ≤ i) (h1 : i ≤ j) : Ls (Txt.slice x (some i) (some j)) = ((Ls x).drop i.toNat).take (j - i).toNat := by
  have e : Txt.slice x (some i) (some j) = StrLaws.sliceText x (some (min i x.length)) (some (min j x.length)) := by
    show StrLaws.sliceText x (some i) (some j) = _
    unfold StrLaws.sliceText
    rw [sliceIdx_clip x.length h0 (Int.le_trans h0 h1)]
  have hl : (Ls x).length = x.length := ls_len x
  rw [e, StrLaws.sliceText_plain (show 0 ≤ min i (x.length : Int) ∧ min i (x.length : Int) ≤ min j (x.length : Int) ∧ min j (x.length : Int) ≤ (x.length : Int) from ⟨Int.le_min.mpr ⟨h0, Int.natCast_nonneg _⟩, Int.le_min.mpr ⟨Int.le_trans (Int.min_le_left _ _) h1, Int.min_le_right _ _⟩, Int.min_le_right _ _⟩)]
  show ((Ls x).drop (min i x.length).toNat).take (min j x.length - min i x.length).toNat = _
  clear e
  by_cases hj : j ≤ (x.length : Int)
  · rw [Int.min_eq_left hj, Int.min_eq_left (Int.le_trans h1 hj)]
  · rw [Int.min_eq_right (Int.le_of_not_le hj)]
    by_cases hi : i ≤ (x.length : Int)
    · rw [Int.min_eq_left hi, List.take_of_length_le (by rw [List.length_drop, hl]; clear hl hj h1; omega), List.take_of_length_le (by rw [List.length_drop, hl]; clear hl hi h1; omega)]
    · rw [Int.min_eq_right (Int.le_of_not_le hi), Int.toNat_natCast, List.drop_eq_nil_of_le (Nat.le_of_eq hl), List.drop_eq_nil_of_le (by rw [hl]; clear hl hj h1; omega), List.take_nil, List.take_nil]
theorem ls_slice_to {x : Str} {j : Int} (h : 0 ≤ j) : Ls (Txt.slice x none (some j)) = (Ls x).take j.toNat := by
  have e : Txt.slice x none (some j) = Txt.slice x (some 0) (some j) := by
    show StrLaws.sliceText x none (some j) = StrLaws.sliceText x (some 0) (some j)
    unfold StrLaws.sliceText
    rw [StrLaws.sliceIdx_none_lo]
  rw [e, ls_slice (Int.le_refl 0) h]
  simp
theorem ls_slice_from {x : Str} {i : Int} (h : 0 ≤ i) : Ls (Txt.slice x (some i) none) = (Ls x).drop i.toNat := by
  have e : Txt.slice x (some i) none = StrLaws.sliceText x (some i) (some (x.length : Int)) := by
    show StrLaws.sliceText x (some i) none = _
    unfold StrLaws.sliceText
    rw [StrLaws.sliceIdx_none_hi]
  by_cases hi : i ≤ (x.length : Int)
  · rw [e, show StrLaws.sliceText x (some i) (some (x.length : Int)) = Txt.slice x (some i) (some (x.length : Int)) from rfl, ls_slice h hi]
    rw [List.take_of_length_le]
    rw [List.length_drop, ls_len]
    omega
  · rw [slice_from_beyond (by omega), List.drop_eq_nil_of_le (by rw [ls_len]; omega)]
theorem slice_out {y : Str} {j : Int} (h : (y.length : Int) ≤ j) : (Txt.slice y (some j) (some (j + 1))).length = 0 := by
  rw [← ls_len, ls_slice (by omega) (by omega), List.drop_eq_nil_of_le (by rw [ls_len]; omega)]
  simp
end Mine
end
section
open PySem PySem.W PyProof.Rows PySem.Builtin PySem.Builtin.Str
namespace Mine
/-- the places of sub in a list of places, none over another -/
def occL (s sub : Str) (hi : Nat) : List Nat → Nat → List Nat
  | [], _ => []
  | i :: l, free => if (free ≤ i ∧ i + sub.length ≤ hi) ∧ subAt s sub i = true then i :: occL s sub hi l (i + sub.length) else occL s sub hi l free
theorem occL_len (s sub : Str) (hi : Nat) : ∀ (l : List Nat) (free : Nat), (occL s sub hi l free).length ≤ l.length
  | [], _ => Nat.le_refl _
  | i :: l, free => by
    unfold occL
    split
    · have := occL_len s sub hi l (i + sub.length); simp only [List.length_cons]; omega
    · have := occL_len s sub hi l free; simp only [List.length_cons]; omega
theorem occ_run (s sub : Str) (hi limit : Nat) : ∀ (l : List Nat) (st : Array Nat × Nat), (forIn l st (StrLaws.occBody s sub hi limit)).run.fst.toList = st.fst.toList ++ (occL s sub hi l st.snd).take (limit - st.fst.size)
  | [], st => by simp [occL]
  | i :: l, st => by
    rw [List.forIn_cons]
    unfold StrLaws.occBody
    by_cases hc : ((st.fst.size < limit ∧ st.snd ≤ i) ∧ i + sub.length ≤ hi) ∧ subAt s sub i = true
    · rw [if_pos hc]
      refine (occ_run s sub hi limit l _).trans ?_
      conv => rhs; unfold occL
      rw [if_pos ⟨⟨hc.1.1.2, hc.1.2⟩, hc.2⟩]
      have h1 := hc.1.1.1
      have e : limit - st.fst.size = (limit - (st.fst.size + 1)) + 1 := by omega
      rw [e, List.take_succ_cons]
      simp
    · rw [if_neg hc]
      refine (occ_run s sub hi limit l _).trans ?_
      conv => rhs; unfold occL
      split
      · rename_i h2
        have h3 : ¬ st.fst.size < limit := fun h => hc ⟨⟨⟨h, h2.1.1⟩, h2.1.2⟩, h2.2⟩
        have e : limit - st.fst.size = 0 := by omega
        simp [e]
      · rfl
theorem occ_occL (s sub : Str) (lo hi limit : Nat) : occurrences s sub lo hi limit = (occL s sub hi (List.range' lo (hi + 1 - lo)) lo).take limit := by
  rw [StrLaws.occ_eq, occ_run]
  simp
theorem occL_skip (s sub : Str) (hi : Nat) : ∀ (k b n : Nat) (free : Nat), b + k ≤ free → k ≤ n → occL s sub hi (List.range' b n) free = occL s sub hi (List.range' (b + k) (n - k)) free
  | 0, b, n, free, _, _ => by simp
  | k + 1, b, n, free, h, hn => by
    obtain ⟨n, rfl⟩ : ∃ m, n = m + 1 := ⟨n - 1, by omega⟩
    rw [List.range'_succ]
    conv => lhs; unfold occL
    have hb : ¬ free ≤ b := by omega
    rw [if_neg (fun h => hb h.1.1), occL_skip s sub hi k (b + 1) n free (by omega) (by omega)]
    rw [show b + 1 + k = b + (k + 1) by omega, show n - k = n + 1 - (k + 1) by omega]
/-- cutting a list by d, from the left -/
def spl (d : List Nat) : Nat → List Nat → List (List Nat)
  | 0, l => [l]
  | _ + 1, [] => [[]]
  | f + 1, c :: r => if (c :: r).take d.length = d then [] :: spl d f ((c :: r).drop d.length) else (spl d f r).modifyHead (c :: ·)
theorem spl_fuel {d : List Nat} (hd : 0 < d.length) : ∀ (f g : Nat) (l : List Nat), l.length ≤ f → l.length ≤ g → spl d f l = spl d g l := by
  intro f
  induction f with
  | zero => intro g l h _; cases l with
    | nil => cases g <;> rfl
    | cons _ _ => simp at h
  | succ f ih => intro g l h1 h2; cases l with
    | nil => cases g <;> rfl
    | cons c r => cases g with
      | zero => simp at h2
      | succ g =>
        simp only [List.length_cons] at h1 h2
        simp only [spl]
        rw [ih g r (by omega) (by omega), ih g ((c :: r).drop d.length) (by simp; omega) (by simp; omega)]
abbrev splS (d l : List Nat) : List (List Nat) := spl d l.length l
theorem splS_nil (d : List Nat) : splS d [] = [[]] := rfl
theorem splS_hit {d l : List Nat} (hd : 0 < d.length) (h : l.take d.length = d) : splS d l = [] :: splS d (l.drop d.length) := by
  cases l with
  | nil => simp at h; rw [h] at hd; simp at hd
  | cons c r =>
    show spl d (r.length + 1) (c :: r) = _
    simp only [spl]
    rw [if_pos h]
    exact congrArg _ (spl_fuel hd _ _ _ (by simp; omega) (Nat.le_refl _))
theorem splS_miss {d r : List Nat} {c : Nat} (h : (c :: r).take d.length ≠ d) : splS d (c :: r) = (splS d r).modifyHead (c :: ·) := by
  show spl d (r.length + 1) (c :: r) = _
  simp only [spl]
  rw [if_neg h]
theorem splS_ne {d : List Nat} (hd : 0 < d.length) : ∀ (n : Nat) (l : List Nat), l.length ≤ n → ∃ p r, splS d l = p :: r
  | 0, [], _ => ⟨_, _, rfl⟩
  | 0, _ :: _, h => by simp at h
  | n + 1, [], _ => ⟨_, _, rfl⟩
  | n + 1, c :: r, h => by
    by_cases hc : (c :: r).take d.length = d
    · exact ⟨_, _, splS_hit hd hc⟩
    · obtain ⟨p, q, e⟩ := splS_ne hd n r (by simp at h; omega)
      exact ⟨_, _, by rw [splS_miss hc, e]; rfl⟩
theorem parts_spl (x y : Str) (hy : 0 < (Ls y).length) : ∀ (k a b free : Nat), b + k = x.length → a ≤ b → free ≤ b →
    (StrLaws.partsFrom x y.length a (occL x y x.length (List.range' b (x.length + 1 - b)) free)).map Ls = (splS (Ls y) ((Ls x).drop b)).modifyHead (((Ls x).drop a).take (b - a) ++ ·) := by
  have hl := ls_len x
  have hly := ls_len y
  have hat : ∀ i, subAt x y i = true ↔ ((Ls x).drop i).take (Ls y).length = Ls y := fun i => by
    rw [StrLaws.subAt_eq, hly]
    exact beq_iff_eq
  intro k
  induction k using Nat.strongRecOn with
  | _ k ih =>
    intro a b free hb hab hf
    cases k with
    | zero =>
      have e1 : x.length + 1 - b = 1 := by omega
      have e2 : (Ls x).drop b = [] := List.drop_eq_nil_of_le (by omega)
      rw [e1, e2, splS_nil]
      have e3 : occL x y x.length (List.range' b 1) free = [] := by
        show occL x y x.length [b] free = []
        unfold occL
        rw [if_neg (by omega)]
        rfl
      rw [e3]
      simp only [StrLaws.partsFrom, List.map_cons, List.map_nil, List.modifyHead_cons, List.append_nil]
      rw [show b = x.length by omega]
      congr 1
      exact StrLaws.strSub_toList _ _ _
    | succ k =>
      have e1 : x.length + 1 - b = (x.length - b) + 1 := by omega
      have hbl : b < (Ls x).length := by omega
      obtain ⟨c, hc⟩ : ∃ c, (Ls x).drop b = c :: (Ls x).drop (b + 1) := ⟨_, List.drop_eq_getElem_cons hbl⟩
      rw [e1, List.range'_succ]
      unfold occL
      by_cases hh : ((Ls x).drop b).take (Ls y).length = Ls y
      · have hlen : b + y.length ≤ x.length := by
          have := congrArg List.length hh
          rw [List.length_take, List.length_drop] at this
          omega
        rw [if_pos ⟨⟨hf, hlen⟩, (hat b).mpr hh⟩]
        simp only [StrLaws.partsFrom, List.map_cons]
        rw [splS_hit hy hh, List.modifyHead_cons, List.append_nil]
        congr 1
        · exact StrLaws.strSub_toList _ _ _
        · rw [occL_skip x y x.length (y.length - 1) (b + 1) _ _ (by omega) (by omega)]
          have e4 : b + 1 + (y.length - 1) = b + y.length := by omega
          have e5 : x.length - b - (y.length - 1) = x.length + 1 - (b + y.length) := by omega
          rw [e4, e5, ih (k + 1 - y.length) (by omega) (b + y.length) (b + y.length) (b + y.length) (by omega) (Nat.le_refl _) (Nat.le_refl _)]
          obtain ⟨p, q, e⟩ := splS_ne hy _ ((Ls x).drop (b + y.length)) (Nat.le_refl _)
          rw [List.drop_drop, hly, e]
          simp
      · rw [if_neg (fun h => hh ((hat b).mp h.2))]
        have e6 : x.length - b = x.length + 1 - (b + 1) := by omega
        rw [e6, ih k (by omega) a (b + 1) free (by omega) (by omega) (by omega), hc, splS_miss (by rw [← hc]; exact hh)]
        obtain ⟨p, q, e⟩ := splS_ne hy _ ((Ls x).drop (b + 1)) (Nat.le_refl _)
        rw [e]
        simp only [List.modifyHead_cons]
        congr 1
        have e7 : b + 1 - a = (b - a) + 1 := by omega
        rw [e7, List.take_add_one, List.getElem?_drop, show a + (b - a) = b by omega]
        have e8 : (Ls x)[b]? = some c := by
          have := congrArg (fun l => l[0]?) hc
          simpa using this
        rw [e8]
        simp
theorem split_parts (x y : Str) (hk : Builtin.Str.strKind y = 1) : Txt.split x y = StrLaws.partsFrom x y.length 0 (occL x y x.length (List.range' 0 (x.length + 1 - 0)) 0) := by
  have ho : occurrences x y 0 x.length (x.length + 1) = occL x y x.length (List.range' 0 (x.length + 1 - 0)) 0 := by
    rw [occ_occL]
    exact List.take_of_length_le (Nat.le_trans (occL_len _ _ _ _ _) (by simp))
  have hk1 : decide (Builtin.Str.strKind x < Builtin.Str.strKind y) = false := by
    rw [hk]
    unfold Builtin.Str.strKind
    refine decide_eq_false ?_
    split
    · omega
    · split <;> omega
  unfold Txt.split
  rw [hk1, Bool.or_false, ho]
  split
  · rename_i h
    have hlt : x.length < y.length := of_decide_eq_true h
    have e : occL x y x.length (List.range' 0 (x.length + 1 - 0)) 0 = [] := by
      generalize List.range' 0 (x.length + 1 - 0) = l
      generalize 0 = fr
      induction l with
      | nil => rfl
      | cons i l ih => unfold occL; rw [if_neg (by omega)]; exact ih
    rw [e]
    simp only [StrLaws.partsFrom]
    rw [StrLaws.sub_whole]
  · split
    · rename_i h
      rw [List.isEmpty_iff.mp h]
      simp only [StrLaws.partsFrom]
      rw [StrLaws.sub_whole]
    · exact StrLaws.partsBetween_eq _ _ _
theorem split_spl (x y : Str) (hy : 0 < (Ls y).length) (hk : Builtin.Str.strKind y = 1) : (Txt.split x y).map Ls = splS (Ls y) (Ls x) := by
  have hl := ls_len x
  rw [split_parts x y hk, parts_spl x y hy x.length 0 0 0 (by omega) (Nat.le_refl _) (Nat.le_refl _)]
  obtain ⟨p, q, e⟩ := splS_ne hy _ ((Ls x).drop 0) (Nat.le_refl _)
  rw [List.drop_zero] at e ⊢
  rw [e]
  simp
theorem occ1_occL (x y : Str) : (occurrences x y 0 x.length 1).isEmpty = (occL x y x.length (List.range' 0 (x.length + 1 - 0)) 0).isEmpty := by
  rw [occ_occL]
  cases occL x y x.length (List.range' 0 (x.length + 1 - 0)) 0 <;> simp
theorem split_none {x y : Str} (hk : Builtin.Str.strKind y = 1) (h : (occurrences x y 0 x.length 1).isEmpty = true) : Txt.split x y = [x] := by
  rw [occ1_occL] at h
  rw [split_parts x y hk, List.isEmpty_iff.mp h]
  simp only [StrLaws.partsFrom]
  rw [StrLaws.sub_whole]
theorem split_some {x y : Str} (hk : Builtin.Str.strKind y = 1) (h : (occurrences x y 0 x.length 1).isEmpty = false) : ∃ p0 mid pk, Txt.split x y = p0 :: (mid ++ [pk]) := by
  rw [occ1_occL] at h
  rw [split_parts x y hk]
  cases hc : occL x y x.length (List.range' 0 (x.length + 1 - 0)) 0 with
  | nil => rw [hc] at h; cases h
  | cons c r =>
    obtain ⟨p, q, e⟩ := StrLaws.partsFrom_ne x y.length (c + y.length) r
    refine ⟨strSub x 0 c, (p :: q).dropLast, (p :: q).getLast (by simp), ?_⟩
    rw [List.dropLast_concat_getLast]
    simp only [StrLaws.partsFrom]
    rw [e]
theorem mem_sum {l : List Str} {p : Str} (h : p ∈ l) : p.length ≤ (l.map (·.length)).sum := by
  induction l with
  | nil => cases h
  | cons a r ih =>
    rw [List.map_cons, List.sum_cons]
    rcases List.mem_cons.mp h with rfl | h
    · omega
    · have := ih h; omega
theorem split_pieces {x : Str} (hx : x.length ≤ 10) (h : (occurrences x (Str.ofString "...") 0 x.length 1).isEmpty = false) : ∃ p0 mid pk, Txt.split x (Str.ofString "...") = p0 :: (mid ++ [pk]) ∧ (∀ p ∈ p0 :: (mid ++ [pk]), p.length ≤ 10) ∧ mid.length ≤ 10 := by
  obtain ⟨p0, mid, pk, e⟩ := split_some (by decide +kernel) h
  have hw := split_weight x (Str.ofString "...") (by decide +kernel)
  rw [e] at hw
  refine ⟨p0, mid, pk, e, ?_, ?_⟩
  · intro p hp
    have := mem_sum hp
    simp only [List.length_cons] at hw
    omega
  · simp only [List.length_cons, List.length_append] at hw
    omega
abbrev dd : List Nat := [46, 46, 46]
theorem ls_dots : Ls (Str.ofString "...") = dd := by decide +kernel
end Mine
end
section
open PySem PySem.W PyProof.Rows
namespace Mine
theorem keptFE {f e d : Int} (h : f + e + 3 ≤ d ∨ (f = 0 ∧ e = 0)) (h0 : 0 ≤ f) (h1 : f ≤ e) (h2 : e ≤ f + 1) (h3 : ¬ f + e + 3 < d) : f = keptF d ∧ e = keptE d := by
  unfold keptF keptE
  split <;> omega
abbrev keptT : ToldN Int where
  Rel := fun _ vs d => ∃ t1, vs = [.int d t1]
  Ok := fun d => -1 ≤ d ∧ d ≤ 10
  size := fun _ => 1
  Tl := ktnAny
  Out := fun news r d => ∃ a t1 t2, r = .ref a ∧ (a, ({ cls := .type "tuple", data := .seq #[.int (keptF d) t1, .int (keptE d) t2] } : Obj)) ∈ news
set_option maxRecDepth 100000 in
set_option maxHeartbeats 8000000 in
theorem tells_kept (w : World) (p : Program) (loose : List Str) (mean : ExcName → Option Value) (mg mb : Str → Option Value) : TellsH w p loose mean mg mb 56 keptT := by
  w_strict (
  w_top off; unfold TellsH; k_fill; unfold TellsN; intro d dp un gd cn cs a ccd cl outer A₀ base h₀ L m news s vs Q E B F X N T hk hR hok hd hu hret
  obtain ⟨t1, rfl⟩ := hR
  obtain ⟨o2, o3⟩ := hok
  (try dsimp only)
  refine wpAny_call ?_
  k_dflt ktr_enter
  k_with_none
  k_with "exec While Compare cons nil" => k_while_given ["n"] (fun n (script : List Int) f e => 0 ≤ f ∧ f ≤ e ∧ e ≤ f + 1 ∧ (f + e + 3 ≤ n ∨ (f = 0 ∧ e = 0))) (fun n script f e => (20 - f - e).toNat) "front" "end"
  k_steps
  obtain ⟨e1, e2⟩ := keptFE (by assumption) (by assumption) (by assumption) (by assumption) (by assumption)
  subst e1; subst e2
  refine hret _ [(_, _)] _ _ (by k_asm) (ktn_tl1 (cb_drop (by k_asm) (by intro p hp; rcases List.mem_cons.mp hp with rfl | hp; exact List.Mem.head _; exact List.Mem.tail _ (List.Mem.tail _ hp)))) (ktn_ord1 (by first | assumption | exact And.right (by assumption))) trivial ?_
  exact ⟨_, _, _, rfl, ktn_new⟩)
def cramS (x : Str) (n : Int) : Str :=
  if n < (x.length : Int) then Txt.slice x none (some (keptF n)) ++ Str.ofString "..." ++ Txt.slice x (some ((x.length : Int) - keptE n)) none else x
theorem pre_eq (n : Int) : (if (n - 3).fdiv 2 > 0 then (n - 3).fdiv 2 else 0) = keptF n := by
  have h := fdiv_fmod_facts (n - 3) 2
  unfold keptF
  split <;> split <;> omega
theorem post_eq (n : Int) : (if (n - 3 - keptF n) > 0 then n - 3 - keptF n else 0) = keptE n := by
  unfold keptF keptE
  split <;> split <;> omega
theorem cram_eq1 {x : Str} {n : Int} (h : n < (x.length : Int)) : Txt.slice x none (some (if (n - 3).fdiv 2 > 0 then (n - 3).fdiv 2 else 0)) ++ Str.ofString "..." ++
    Txt.slice x (some ((x.length : Int) - if (n - 3 - if (n - 3).fdiv 2 > 0 then (n - 3).fdiv 2 else 0) > 0 then n - 3 - if (n - 3).fdiv 2 > 0 then (n - 3).fdiv 2 else 0 else 0)) none = cramS x n := by
  unfold cramS
  rw [if_pos h, pre_eq, post_eq]
theorem cram_eq2 {x : Str} {n : Int} (h : ¬ n < (x.length : Int)) : x = cramS x n := by
  unfold cramS
  rw [if_neg h]
abbrev cramT : ToldN (Str × Int) where
  Rel := fun _ vs d => ∃ t1 t2, vs = [.str d.1 t1, .int d.2 t2]
  Ok := fun d => d.1.length ≤ 20 ∧ -1 ≤ d.2 ∧ d.2 ≤ 10
  size := fun _ => 1
  Tl := fun tl => tl = []
  Out := fun _ r d => ∃ t, r = .str (cramS d.1 d.2) t
set_option maxRecDepth 100000 in
set_option maxHeartbeats 8000000 in
theorem tells_cram (w : World) (p : Program) (loose : List Str) (mean : ExcName → Option Value) (mg mb : Str → Option Value) : TellsH w p loose mean mg mb 28 cramT := by
  w_strict (
  w_top off; unfold TellsH; k_fill; unfold TellsN; intro d dp un gd cn cs a ccd cl outer A₀ base h₀ L m news s vs Q E B F X N T hk hR hok hd hu hret
  obtain ⟨x, n⟩ := d
  obtain ⟨t1, t2, rfl⟩ := hR
  obtain ⟨o1, o2, o3⟩ := hok
  dsimp only at o1 o2 o3
  (try dsimp only)
  refine wpAny_call ?_
  k_dflt ktr_enter
  k_with_none
  k_steps
  all_goals (refine hret _ [] _ _ (by k_asm) (ktn_tl0 (cb_drop (by k_asm) (by (intro p hp; repeat (first | exact hp | refine List.Mem.tail _ ?_))))) ktn_ord0 rfl ?_; refine out_str ?_)
  · exact cram_eq1 (by assumption)
  · exact cram_eq2 (by assumption))
end Mine
end
section
open PySem PySem.W PyProof.Rows
namespace Mine
/-- the places behind one sign -/
def stFilter (x y : Str) (i : Int) (ns : List Int) : List Int := (ns.filter (fun k => Txt.slice y (some k) (some (k + 1)) == Txt.item x i)).map (· + 1)
def stRange (y : Str) (ns : List Int) : List Int := rangeKs (ns.getD (Int.toNat 0) 0) ((y.length : Int) + 1 - ns.getD (Int.toNat 0) 0).toNat
def standsGo (x y : Str) : Nat → Int → List Int → Bool
  | 0, _, ns => ns.any fun k => k == (y.length : Int)
  | f + 1, i, ns =>
    if i < (x.length : Int) ∧ 0 < ns.length then
      (if Txt.startswith3 x (Str.ofString "...") i = true then standsGo x y f (i + 3) (stRange y ns) else standsGo x y f (i + 1) (stFilter x y i ns))
    else ns.any fun k => k == (y.length : Int)
theorem standsGo_stop {x y : Str} {i : Int} {ns : List Int} (h : ¬ (i < (x.length : Int) ∧ 0 < ns.length)) : ∀ f, standsGo x y f i ns = ns.any fun k => k == (y.length : Int)
  | 0 => rfl
  | f + 1 => by unfold standsGo; rw [if_neg h]
theorem standsGo_fuel {x y : Str} : ∀ (f g : Nat) (i : Int) (ns : List Int), (x.length : Int) ≤ i + f → (x.length : Int) ≤ i + g → standsGo x y f i ns = standsGo x y g i ns
  | 0, g, i, ns, h, _ => by rw [standsGo_stop (by omega), standsGo_stop (by omega)]
  | f + 1, 0, i, ns, _, h => by rw [standsGo_stop (by omega), standsGo_stop (by omega)]
  | f + 1, g + 1, i, ns, h, h' => by
    unfold standsGo
    rw [standsGo_fuel f g (i + 3) _ (by omega) (by omega), standsGo_fuel f g (i + 1) _ (by omega) (by omega)]
def standsS (x y : Str) : Bool := standsGo x y x.length 0 [0]
theorem stFilter_snoc (x y : Str) (i : Int) (ns : List Int) (k : Int) : stFilter x y i (ns ++ [k]) = stFilter x y i ns ++ (if (Txt.slice y (some k) (some (k + 1)) == Txt.item x i) = true then [k + 1] else []) := by
  unfold stFilter
  rw [List.filter_append, List.map_append]
  congr 1
  by_cases h : (Txt.slice y (some k) (some (k + 1)) == Txt.item x i) = true
  · simp [h]
  · simp [h]
theorem stFilter_len (x y : Str) (i : Int) (ns : List Int) : (stFilter x y i ns).length ≤ ns.length := by
  unfold stFilter
  rw [List.length_map]
  exact List.length_filter_le _ _
def StInv (x y : Str) (i : Int) (ns : List Int) : Prop :=
  0 ≤ i ∧ (ns.length : Int) ≤ y.length + 1 ∧ (∀ n ∈ ns, 0 ≤ n ∧ n ≤ (y.length : Int)) ∧ standsGo x y ((x.length : Int) - i).toNat i ns = standsS x y
theorem stInv_0 (x y : Str) : StInv x y 0 [0] := ⟨by omega, by simp; omega, fun n hn => by simp at hn; omega, by unfold standsS; congr 1⟩
theorem stInv_range {x y : Str} {i : Int} {ns : List Int} (h : StInv x y i ns) (h1 : i < (x.length : Int)) (h2 : 0 < ns.length) (h3 : Txt.startswith3 x (Str.ofString "...") i = true) :
    StInv x y (i + 3) (stRange y ns) := by
  obtain ⟨a, b, c, d⟩ := h
  have hg : 0 ≤ ns.getD (Int.toNat 0) 0 ∧ ns.getD (Int.toNat 0) 0 ≤ (y.length : Int) := by
    cases ns with
    | nil => simp at h2
    | cons e r => exact c e List.mem_cons_self
  refine ⟨by omega, ?_, ?_, ?_⟩
  · unfold stRange; rw [rangeKs_length]; omega
  · intro n hn
    have := mem_rangeKs hn
    omega
  · rw [← d]
    have e : ((x.length : Int) - i).toNat = ((x.length : Int) - i - 1).toNat + 1 := by omega
    rw [e]
    conv => rhs; unfold standsGo
    rw [if_pos ⟨h1, h2⟩, if_pos h3]
    exact standsGo_fuel _ _ _ _ (by omega) (by omega)
theorem mem_stFilter {x y : Str} {i k : Int} {ns : List Int} (h : k ∈ stFilter x y i ns) : ∃ j ∈ ns, k = j + 1 ∧ (Txt.slice y (some j) (some (j + 1)) == Txt.item x i) = true := by
  unfold stFilter at h
  obtain ⟨j, hj, e⟩ := List.mem_map.mp h
  obtain ⟨hj1, hj2⟩ := List.mem_filter.mp hj
  exact ⟨j, hj1, e.symm, hj2⟩
theorem stInv_filter {x y : Str} {i : Int} {ns : List Int} (h : StInv x y i ns) (h1 : i < (x.length : Int)) (h2 : 0 < ns.length) (h3 : Txt.startswith3 x (Str.ofString "...") i = false) :
    StInv x y (i + 1) (stFilter x y i ns) := by
  obtain ⟨a, b, c, d⟩ := h
  refine ⟨by omega, ?_, ?_, ?_⟩
  · have := stFilter_len x y i ns; omega
  · intro n hn
    obtain ⟨j, hj, e, hq⟩ := mem_stFilter hn
    have hc := c j hj
    have : j < (y.length : Int) := by
      apply Int.lt_of_not_ge
      intro hge
      have e1 := slice_out hge
      rw [eq_of_beq hq, len_item] at e1
      cases e1
    omega
  · rw [← d]
    have e : ((x.length : Int) - i).toNat = ((x.length : Int) - i - 1).toNat + 1 := by omega
    rw [e]
    conv => rhs; unfold standsGo
    rw [if_pos ⟨h1, h2⟩, if_neg (by rw [h3]; exact Bool.false_ne_true)]
    exact standsGo_fuel _ _ _ _ (by omega) (by omega)
theorem stInv_end {x y : Str} {i : Int} {ns : List Int} (h : StInv x y i ns) (h1 : ¬ (i < (x.length : Int) ∧ 0 < ns.length)) : (ns.any fun k => k == (y.length : Int)) = standsS x y := by
  rw [← h.2.2.2, standsGo_stop h1]
abbrev standsT : ToldN (Str × Str) where
  Rel := fun _ vs d => ∃ t1 t2, vs = [.str d.1 t1, .str d.2 t2]
  Ok := fun d => d.1.length ≤ 20 ∧ d.2.length ≤ 20
  size := fun _ => 2
  Tl := fun tl => tl = []
  Out := fun _ r d => r = .bool (standsS d.1 d.2)
structure StC where
  l : Addr
  vs : List Value
  ns : List Int
  nn : Nat
  i : Int
  t : Tok
  o : Obj
local macro_rules | `(tactic| k_all) => `(tactic| exact all_low (by assumption) (by omega))
set_option maxRecDepth 100000 in
set_option maxHeartbeats 8000000 in
theorem tells_stands (w : World) (p : Program) (loose : List Str) (mean : ExcName → Option Value) (mg mb : Str → Option Value) : TellsH w p loose mean mg mb 68 standsT := by
  w_strict (
  w_top off; unfold TellsH; k_fill; unfold TellsN; intro d dp un gd cn cs a ccd cl outer A₀ base h₀ L m news s vs Q E B F X N T hk hR hok hd hu hret
  obtain ⟨x, y⟩ := d
  obtain ⟨t1, t2, rfl⟩ := hR
  obtain ⟨o2, o3⟩ := hok
  dsimp only at o2 o3
  (try dsimp only)
  refine wpAny_call ?_
  k_dflt (refine' code_defC ?k1 ?k2 ?k3 ?k4 ?k5 ?kA ?kF ?kK ?k6 ?k7 ?k8 ?k9 ?kB ?kD ?_ ?c2 ?c3 ?c4; (case kA => exact rfl); (case kF => exact rfl); (case kK => assumption); (case k1 => k_asm); (case k2 => k_asm); (case k3 => k_asm); (case k4 => k_asm); (case k5 => k_asm); (case k6 => k_is); (case k7 => k_is); (case k8 => ktr_room); (case k9 => exact BindsTo.of_eq rfl); (case kB => exact rfl); (case kD => decide +kernel); (case c2 => exact rfl); (case c3 => exact rfl); (case c4 => exact rfl); k_whole; intro g' L' h' tk' cells' FG' F' N' Y' B' X' T' l1; have hY := CellsAre.three Y'; obtain ⟨o1', o2', o3', hE', d1', d2', d3'⟩ := hY; subst hE'; clear Y'; (try simp only [List.cons_append, List.nil_append] at N'); (try dsimp only); (try k_fold))
  replace d1' : o1'.data = .cell none := d1'
  replace d2' : o2'.data = .cell (some (.str y t2)) := d2'
  replace d3' : o3'.data = .cell (some (.str x t1)) := d3'
  k_with_none
  k_with "exec While BoolOp cons nil" => refine stop_here ?_
  k_steps
  refine Stop.out ?_
  rename_i l0 _ _ _ _ _ _ _ _ oat hF hN hd
  k_dflt (refine' ksw_while (σ := StC) (fun c => (c.l, listOf c.vs.toArray c.nn) :: (L' + 1 + 1 + 1, c.o) :: (L' + 1 + 1, o2') :: (L' + 1, o3') :: news) (fun c => [(Str.ofString "places", .ref c.l)]) (fun c => IntsAre c.vs c.ns ∧ c.o.data = .cell (some (.int c.i c.t)) ∧ @Ne Nat c.l (L' + 1 + 1 + 1)) [] (fun c => StInv x y c.i c.ns) (fun c => x.length - c.i.toNat) ⟨l0, [.int 0 tk'], [0], 0, 0, tk' + 1, oat⟩ hF (cb_drop hN ?kn) ?kf ?kk ?kp ?_ ?kE)
  case kn => (intro p hp; simp only [List.mem_cons] at hp ⊢; rcases hp with h | h | h | h | h <;> simp only [h, true_or, or_true])
  case kf => (dsimp only; exact ⟨IntsAre.cons _ _ IntsAre.nil, hd, by omega⟩)
  case kk => intro p hp; cases hp with
    | head => rfl
    | tail _ h => cases h
  case kp => exact stInv_0 x y
  case kE => (first | passes_own | with_unfolding_all passes_own)
  rintro ⟨l, vs, ns, nn, i, t, o⟩ u h tk ⟨hI, hdat, hlt⟩ hinv F1 N1
  dsimp only at hI hdat hlt hinv F1 N1
  have hinv' := hinv
  obtain ⟨hi0, hlen, hrng, -⟩ := hinv'
  dsimp only
  clear hF hN d1' hd
  have hg0 : 0 ≤ ns.getD (Int.toNat 0) 0 ∧ ns.getD (Int.toNat 0) 0 ≤ (y.length : Int) := by
    cases ns with
    | nil => exact ⟨by simp, by simp⟩
    | cons a r => exact hrng a (List.mem_cons_self)
  k_with "exec Assign cons ListComp" => refine stop_here ?_
  k_with "call type:list" => (k_here; (rename IsRange _ _ _ _ _ _ _ _ => rgX); (with_unfolding_all refine' kll_range ?k0 ?k1 ?k2 ?k3 ?k4 ?k5 ?k6 ?_; (case k0 => rfl); (case k1 => k_asm); (case k2 => k_asm); (case k3 => exact rgX); (case k4 => exact small_one (by omega) (by omega) (by omega) (by omega)); (case k5 => exact rangeSize_nat _ _); (case k6 => omega); k_whole); intro D' vs' c' h' tk' F' N' l1 hI'; (try k_lt l1); (try k_sweep))
  (try k_fold)
  k_steps
  rotate_left
  · refine Stop.out ?_
    k_dflt (refine LCt.Assign_ListComp_T (F₀ := by k_asm) (by rfl) (by with_unfolding_all rfl) (by with_unfolding_all rfl) (by decide) (by rfl) (by decide) (by rfl) (by rfl) (by rfl) ?_)
    (iterate 1 (first | (k_unfold; (try dsimp only)) | walk1 | (dsimp only; walk1) | (leave1; walk_say "STEP leave1"; (try dsimp only))))
    k_dflt (refine LCt.CompSrcT.ledger (by rfl) (by k_asm) (by k_asm) (by k_mem) ?z ?_; (case z => (rw [List.size_toArray, hI.length, sizeLine_eq]; omega)); intro g'')
    refine compT_inv (fun j ys => IntsAre ys (stFilter x y i (ns.take j))) IntsAre.nil ?turn ?fin
    case turn =>
      intro j v ys I oI C oC D m₂ h₂ tk₂ E' hj hv hys hC hx F2 N2 off2 ne2
      obtain ⟨k, t9, e9, hk9⟩ := IntsAre.at hI j v (by simpa using hv)
      subst e9
      have hkb := hrng k (List.mem_of_getElem? hk9)
      have hsn : ns.take (j + 1) = ns.take j ++ [k] := by simp [List.take_add_one, hk9]
      dsimp only at F2 N2 ⊢
      k_steps
      · refine LCg.CompEnd.intro (by k_asm) (by k_asm) _ (fun p hp => hp) off2 (Or.inr ⟨_, by k_mem, rfl, _, rfl⟩) ⟨rfl, ?_⟩
        rw [hsn, stFilter_snoc, if_pos (by assumption)]
        exact IntsAre.append hys (.cons _ _ .nil)
      · refine LCg.CompEnd.intro (by k_asm) (by k_asm) _ (fun p hp => hp) off2 (Or.inr ⟨_, by k_mem, rfl, _, rfl⟩) ⟨rfl, ?_⟩
        rw [hsn, stFilter_snoc, if_neg (by rename_i hb; rw [hb]; exact Bool.false_ne_true), List.append_nil]
        exact hys
    case fin =>
      intro ys hys
      rw [List.size_toArray, hI.length, List.take_length] at hys
      unfold LCg.FinA
      intro D3 h3 tk3 F3 N3 o3''
      simp only [LCg.Off1] at o3''
      dsimp only at F3 N3 ⊢
      k_steps
      refine ksw_end (⟨D3, ys, stFilter x y i ns, ys.length, i + 1, _, _⟩ : StC) (by k_asm) (by k_asm) ?_ ⟨hys, by assumption, ?_⟩ ?_ ?_ (stInv_filter hinv (by assumption) (by assumption) (by assumption)) ?_
      · (intro p hp; simp only [List.mem_cons] at hp ⊢; rcases hp with h | h | h | h | h <;> simp only [h, true_or, or_true])
      · dsimp only; omega
      · intro p hp; cases hp with
        | head => rfl
        | tail _ h => cases h
      · (intro z h2 h3; (have hz := h2 _ List.mem_cons_self); show (if z = Str.ofString "places" then _ else kstB _ _ z) = _; rw [if_neg hz]; exact same_off h3 (fun p hp => by cases hp with | head => exact hz | tail _ h => cases h))
      · dsimp only; omega
  · (refine hret _ [] _ _ (by k_asm) (ktn_tl0 (cb_drop (by k_asm) (by (intro p hp; repeat (first | exact hp | refine List.Mem.tail _ ?_))))) ktn_ord0 rfl ?_; exact out_bool (stInv_end hinv (fun h => absurd h.2 (by assumption))))
  · (refine hret _ [] _ _ (by k_asm) (ktn_tl0 (cb_drop (by k_asm) (by (intro p hp; repeat (first | exact hp | refine List.Mem.tail _ ?_))))) ktn_ord0 rfl ?_; exact out_bool (stInv_end hinv (fun h => absurd h.1 (by assumption))))
  · refine ksw_end (⟨D', vs', stRange y ns, c', i + 3, _, _⟩ : StC) (by k_asm) (by k_asm) ?_ ⟨by assumption, by assumption, ?_⟩ ?_ ?_ (stInv_range hinv (by assumption) (by assumption) (by assumption)) ?_
    · (intro p hp; simp only [List.mem_cons] at hp ⊢; rcases hp with h | h | h | h | h <;> simp only [h, true_or, or_true])
    · dsimp only; omega
    · intro p hp; cases hp with
      | head => rfl
      | tail _ h => cases h
    · (intro z h2 h3; (have hz := h2 _ List.mem_cons_self); show (if z = Str.ofString "places" then _ else kstB _ _ z) = _; rw [if_neg hz]; exact same_off h3 (fun p hp => by cases hp with | head => exact hz | tail _ h => cases h))
    · dsimp only; omega)
end Mine
end
section
open PySem PySem.W PyProof.Rows
namespace Mine
theorem cram_eq3 {x : Str} {n : Int} (h : n < (x.length : Int)) : Txt.slice x none (some (keptF n)) ++ Str.ofString "..." ++ Txt.slice x (some ((x.length : Int) - keptE n)) none = cramS x n := by
  unfold cramS
  rw [if_pos h]
abbrev restT : ToldN (Str × Int) where
  Rel := fun _ vs d => ∃ t1 t2, vs = [.str d.1 t1, .int d.2 t2]
  Ok := fun d => d.1.length ≤ 20 ∧ -1 ≤ d.2 ∧ d.2 ≤ 10
  size := fun _ => 2
  Tl := fun tl => tl = []
  Out := fun _ r d => ∃ t, r = .str (cramS d.1 d.2) t
set_option maxRecDepth 100000 in
set_option maxHeartbeats 8000000 in
theorem tells_rest (w : World) (p : Program) (loose : List Str) (mean : ExcName → Option Value) (mg mb : Str → Option Value) : TellsH w p loose mean mg mb 63 restT := by
  w_strict (
  w_top off; unfold TellsH; k_fill; unfold TellsN; intro d dp un gd cn cs a ccd cl outer A₀ base h₀ L m news s vs Q E B F X N T hk hR hok hd hu hret
  obtain ⟨x, n⟩ := d
  obtain ⟨t1, t2, rfl⟩ := hR
  obtain ⟨o1, o2, o3⟩ := hok
  dsimp only at o1 o2 o3
  (try dsimp only)
  refine wpAny_call ?_
  k_dflt ktr_enter
  k_with_none
  k_with "call ref" => refine stop_here ?_
  k_steps
  rotate_left
  · refine Stop.out ?_
    (k_here; (with_reducible show wpAny _ _ (call (Value.ref 56) _) _ _ _); k_dflt (refine' tellsN_use ?k1 ?k2 ?k3 ?k4 ?k5 ?kK ?kR (tells_kept _ _ _ _ _ _ n) ?ko ?kd ?ku ?_; (case k1 => k_asm); (case k2 => k_asm); (case k3 => k_asm); (case k4 => k_asm); (case k5 => k_asm); (case kK => first | exact rfl | assumption); (case kR => exact ⟨_, rfl⟩); (case ko => exact ⟨by assumption, by assumption⟩); (case kd => first | ktr_room | ((simp only [recursionLimit] at *); (try dsimp only at *); omega)); (case ku => ktr_units); intro r9 tl9 h9 tk9 F9 N9 hl9 ht9 ho9; skip; (try dsimp only); (try k_fold)))
    obtain ⟨a9, u9, v9, rfl, m9⟩ := ho9
    replace N9 := news_one N9 m9
    clear m9 hl9 ht9
    (try k_fold)
    k_steps
    (refine hret _ [] _ _ (by k_asm) (ktn_tl0 (cb_drop (by k_asm) (by (intro p hp; repeat (first | exact hp | refine List.Mem.tail _ ?_))))) ktn_ord0 rfl ?_; exact out_str (cram_eq3 (by omega)))
  · (refine hret _ [] _ _ (by k_asm) (ktn_tl0 (cb_drop (by k_asm) (by (intro p hp; repeat (first | exact hp | refine List.Mem.tail _ ?_))))) ktn_ord0 rfl ?_; exact out_str (cram_eq2 (by omega))))
end Mine
end
section
open PySem PySem.W PyProof.Rows
namespace Mine
theorem slice_tupL {prog : Program} {w : World} {A : Around} {E : Value → Shared → Prop} {s : Shared} {h₀ : Heap} {L : Addr} {m : Str → Option Value} {news : List (Addr × Obj)} {value slice : PySem.Expr} {t : Addr} {items : Array Value} {zs : List Value} {a k : Nat} {u : Tok} {Q : Value → Shared → Prop}
    (F : Fr h₀ L s.heap m) (N : News h₀ L s.heap news) (hm : (t, ({ cls := .type "tuple", data := .seq items k } : Obj)) ∈ news) (h1 : 1 ≤ a) (ha : a ≤ items.size) (e : items.toList.drop a = zs)
    (h : ∀ D h', Fr h₀ L h' m → News h₀ L h' ((D, ({ cls := .type "tuple", data := .seq zs.toArray } : Obj)) :: news) → (∀ p ∈ news, p.1 < D) → Q (.ref D) { s with heap := h' })
    (hs : subscripted slice false (.ref t) (.ref s.heap.objs.size) = operate [.ref s.heap.objs.size, .ref t] (getItem (.ref t) (.ref s.heap.objs.size)))
    (hg : ∀ r, letTemporaryGo value (.ref t) r = pure ())
    (hsz : items.size ≤ sizeLine) :
    wpAny (model prog w) A (subscriptTail value slice (.ref t) (.ref s.heap.objs.size)) Q E { s with heap := s.heap.push { cls := .type "slice", data := .fields #[.int a u, .none, .none] } } := by
  subst e
  exact slice_tuple_from F N ⟨_, (N _ hm).1, rfl, k, rfl⟩ h1 ha (fun h' F' N' => h _ h' F' N' fun p hp => Nat.lt_succ_of_lt (Heap.lt_size (N p hp).1)) hs hg hsz
def replS (x y z : Str) : Str := Txt.join z (Txt.split x y)
theorem split_weighs {x y : Str} (hy : (y.length == 0) = false) : ((Txt.split x y).map (·.length)).sum + (Txt.split x y).length ≤ x.length + 1 :=
  split_weight x y (by have h : ¬ y.length = 0 := fun e => by rw [e] at hy; cases hy
                       omega)
theorem split_joinOk {x y z : Str} (hy : (y.length == 0) = false) (hx : x.length ≤ 1000) (hz : z.length ≤ 20) : JoinOk z (Txt.split x y) = true := by
  have h := split_weighs (x := x) hy
  refine joinOk_of ?_
  have : (Txt.split x y).length * z.length ≤ 1001 * 20 := Nat.mul_le_mul (by omega) hz
  omega
theorem replS_len {x y z : Str} (hy : (y.length == 0) = false) (hx : x.length ≤ 20) (hz : z.length ≤ 20) : (Txt.join z (Txt.split x y)).length ≤ 1000 := by
  have h := split_weighs (x := x) hy
  have h2 := StrLaws.join_length_le z (Txt.split x y)
  have : (Txt.split x y).length * z.length ≤ 21 * 20 := Nat.mul_le_mul (by omega) hz
  have e : Txt.join z (Txt.split x y) = Str.join z (Txt.split x y) := StrLaws.glued_eq_join _ _
  rw [e]
  omega
abbrev repl2T : ToldN (Str × Str × Str) where
  Rel := fun _ vs d => ∃ t1 t2 t3, vs = [.str d.1 t1, .str d.2.1 t2, .str d.2.2 t3]
  Ok := fun d => d.1.length ≤ 20 ∧ d.2.1.length ≤ 20 ∧ d.2.2.length ≤ 20 ∧ (d.2.1.length == 0) = false
  size := fun _ => 1
  Tl := fun tl => tl = []
  Out := fun _ r d => ∃ t, r = .str (replS d.1 d.2.1 d.2.2) t
set_option maxRecDepth 100000 in
set_option maxHeartbeats 8000000 in
theorem tells_repl2 (w : World) (p : Program) (loose : List Str) (mean : ExcName → Option Value) (mg mb : Str → Option Value) : TellsH w p loose mean mg mb 21 repl2T := by
  w_strict (
  w_top off; unfold TellsH; k_fill; unfold TellsN; intro d dp un gd cn cs a ccd cl outer A₀ base h₀ L m news s vs Q E B F X N T hk hR hok hd hu hret
  obtain ⟨x, y, z⟩ := d
  obtain ⟨t1, t2, t3, rfl⟩ := hR
  obtain ⟨o2, o3, o4, o5⟩ := hok
  dsimp only at o2 o3 o4 o5
  (try dsimp only)
  refine wpAny_call ?_
  k_dflt (refine' kp_rest ?k1 ?k2 ?k3 ?k4 ?k5 ?kA ?kF ?kK ?k6 ?k7 ?k8 ?kV ?kP ?kG ?kB ?_ ?c2 ?c3 ?c4 ?c5; (case kA => exact rfl); (case kF => exact rfl); (case kK => assumption); (case k1 => k_asm); (case k2 => k_asm); (case k3 => k_asm); (case k4 => k_asm); (case k5 => k_asm); (case k6 => k_is); (case k7 => k_is); (case k8 => ktr_room); (case kV => kl_lit); (case kP => exact rfl); (case kG => exact fun _ => rfl); (case kB => exact fun _ => locs rfl); (case c5 => decide); (case c2 => exact rfl); (case c3 => exact rfl); (case c4 => exact rfl); k_whole; intro D' g' L' h' l1 FG' F' N' B' X' T'; (try dsimp only); (try k_fold))
  k_with_none
  k_with "exec While Name cons nil" => k_dflt (refine whl_start 100 ?_)
  k_with "call builtin:str.join" => (k_here; (with_reducible rename (List.map _ _ = Txt.split _ _) => hsp); refine SC.join (News.isList (by k_asm) (by k_mem)) hsp (split_joinOk (by assumption) (by omega) (by omega)) ?_; intro _ _)
  k_with "subscriptTail Name Slice ref ref" => (k_here; k_dflt (refine' slice_tupL (a := 2) ?F ?N ?m (by decide) ?b ?e ?_ ?s ?t ?z; (case F => k_asm); (case N => k_asm); (case m => k_mem); (case b => exact Nat.le_of_ble_eq_true rfl); (case e => kl_lit); (case s => with_unfolding_all rfl); (case t => (intro _; with_unfolding_all rfl)); (case z => (rw [sizeLine_eq]; exact Nat.le_of_ble_eq_true rfl))); intro D8' h8' F8' N8' l8)
  dsimp only at N' F'
  k_steps
  (refine hret _ [] _ _ (by k_asm) (ktn_tl0 (cb_drop (by k_asm) (by (intro p hp; repeat (first | exact hp | refine List.Mem.tail _ ?_))))) ktn_ord0 rfl ?_; exact out_str rfl))
abbrev repl4T : ToldN (Str × Str × Str × Str × Str) where
  Rel := fun _ vs d => ∃ t1 t2 t3 t4 t5, vs = [.str d.1 t1, .str d.2.1 t2, .str d.2.2.1 t3, .str d.2.2.2.1 t4, .str d.2.2.2.2 t5]
  Ok := fun d => d.1.length ≤ 20 ∧ d.2.1.length ≤ 20 ∧ d.2.2.1.length ≤ 20 ∧ (d.2.1.length == 0) = false ∧ d.2.2.2.1.length ≤ 20 ∧ d.2.2.2.2.length ≤ 20 ∧ (d.2.2.2.1.length == 0) = false
  size := fun _ => 1
  Tl := fun tl => tl = []
  Out := fun _ r d => ∃ t, r = .str (replS (replS d.1 d.2.1 d.2.2.1) d.2.2.2.1 d.2.2.2.2) t
set_option maxRecDepth 100000 in
set_option maxHeartbeats 8000000 in
theorem tells_repl4 (w : World) (p : Program) (loose : List Str) (mean : ExcName → Option Value) (mg mb : Str → Option Value) : TellsH w p loose mean mg mb 21 repl4T := by
  w_strict (
  w_top off; unfold TellsH; k_fill; unfold TellsN; intro d dp un gd cn cs a ccd cl outer A₀ base h₀ L m news s vs Q E B F X N T hk hR hok hd hu hret
  obtain ⟨x, y, z, y2, z2⟩ := d
  obtain ⟨t1, t2, t3, t4, t5, rfl⟩ := hR
  obtain ⟨o2, o3, o4, o5, o6, o7, o8⟩ := hok
  dsimp only at o2 o3 o4 o5 o6 o7 o8
  have hj := replS_len o5 o2 o4
  (try dsimp only)
  refine wpAny_call ?_
  k_dflt (refine' kp_rest ?k1 ?k2 ?k3 ?k4 ?k5 ?kA ?kF ?kK ?k6 ?k7 ?k8 ?kV ?kP ?kG ?kB ?_ ?c2 ?c3 ?c4 ?c5; (case kA => exact rfl); (case kF => exact rfl); (case kK => assumption); (case k1 => k_asm); (case k2 => k_asm); (case k3 => k_asm); (case k4 => k_asm); (case k5 => k_asm); (case k6 => k_is); (case k7 => k_is); (case k8 => ktr_room); (case kV => kl_lit); (case kP => exact rfl); (case kG => exact fun _ => rfl); (case kB => exact fun _ => locs rfl); (case c5 => decide); (case c2 => exact rfl); (case c3 => exact rfl); (case c4 => exact rfl); k_whole; intro D' g' L' h' l1 FG' F' N' B' X' T'; (try dsimp only); (try k_fold))
  k_with_none
  k_with "exec While Name cons nil" => k_dflt (refine whl_start 100 ?_)
  k_with "call builtin:str.join" => (k_here; (with_reducible rename (List.map _ _ = Txt.split _ _) => hsp); refine SC.join (News.isList (by k_asm) (by k_mem)) hsp (split_joinOk (by assumption) (by omega) (by omega)) ?_; intro _ _)
  k_with "subscriptTail Name Slice ref ref" => (k_here; k_dflt (refine' slice_tupL (a := 2) ?F ?N ?m (by decide) ?b ?e ?_ ?s ?t ?z; (case F => k_asm); (case N => k_asm); (case m => k_mem); (case b => exact Nat.le_of_ble_eq_true rfl); (case e => kl_lit); (case s => with_unfolding_all rfl); (case t => (intro _; with_unfolding_all rfl)); (case z => (rw [sizeLine_eq]; exact Nat.le_of_ble_eq_true rfl))); intro D8' h8' F8' N8' l8)
  dsimp only at N' F'
  k_steps
  (refine hret _ [] _ _ (by k_asm) (ktn_tl0 (cb_drop (by k_asm) (by (intro p hp; repeat (first | exact hp | refine List.Mem.tail _ ?_))))) ktn_ord0 rfl ?_; exact out_str rfl))
end Mine
end
section
open PySem PySem.W PyProof.Rows PySem.Builtin PySem.Builtin.Str
namespace Mine
/-- cram, on signs -/
def cramL (l : List Nat) (n : Int) : List Nat := if n < (l.length : Int) then l.take (keptF n).toNat ++ (dd ++ l.drop ((l.length : Int) - keptE n).toNat) else l
theorem kept_facts (n : Int) : 0 ≤ keptF n ∧ 0 ≤ keptE n ∧ ((3 ≤ n ∧ keptF n + keptE n + 3 = n) ∨ (n < 3 ∧ keptF n = 0 ∧ keptE n = 0)) := by
  unfold keptF keptE
  split <;> omega
theorem kept_mono {n m : Int} (h : n ≤ m) : keptF n ≤ keptF m ∧ keptE n ≤ keptE m := by
  unfold keptF keptE
  split <;> split <;> omega
theorem ls_cram (x : Str) (n : Int) : Ls (cramS x n) = cramL (Ls x) n := by
  have hl := ls_len x
  have hk := kept_facts n
  unfold cramS cramL
  rw [hl]
  split
  · rw [ls_append, ls_append, ls_dots, ls_slice_to hk.1, ls_slice_from (by omega), List.append_assoc]
  · rfl
theorem cramL_len (l : List Nat) (n : Int) : ((cramL l n).length : Int) = if n < (l.length : Int) then max n 3 else l.length := by
  have hk := kept_facts n
  unfold cramL
  split
  · rw [List.length_append, List.length_append, List.length_take, List.length_drop]
    simp only [List.length_cons, List.length_nil]
    omega
  · rfl
theorem cramS_len10 {x : Str} {n : Int} (h : x.length ≤ 10) (hn : n ≤ 10) : (cramS x n).length ≤ 10 := by
  have h1 := cramL_len (Ls x) n
  rw [← ls_cram, ls_len, ls_len] at h1
  split at h1 <;> omega
theorem cramS_len {x : Str} (n : Int) (h : x.length ≤ 10) : (cramS x n).length ≤ 13 := by
  have h1 := cramL_len (Ls x) n
  rw [← ls_cram, ls_len, ls_len] at h1
  split at h1 <;> omega
theorem cramL_pos {l : List Nat} {n : Int} (h : n < (l.length : Int)) : cramL l n = l.take (keptF n).toNat ++ (dd ++ l.drop ((l.length : Int) - keptE n).toNat) := by unfold cramL; rw [if_pos h]
theorem cramL_neg {l : List Nat} {n : Int} (h : ¬ n < (l.length : Int)) : cramL l n = l := by unfold cramL; rw [if_neg h]
theorem cramL_lt3 {l : List Nat} {n : Int} (h : n < (l.length : Int)) (h3 : n < 3) : cramL l n = dd := by
  have e1 : keptF n = 0 := if_pos h3
  have e2 : keptE n = 0 := if_pos h3
  rw [cramL_pos h, e1, e2, Int.sub_zero, Int.toNat_natCast, List.drop_length]
  rfl
/-- a narrower cram of glued pieces -/
theorem cram_glued {u v : List Nat} {f e : Nat} (hf : f ≤ u.length) (he : e ≤ v.length) : (u ++ (dd ++ v)).take f ++ (dd ++ (u ++ (dd ++ v)).drop (u.length + (3 + (v.length - e)))) = u.take f ++ (dd ++ v.drop (v.length - e)) := by
  rw [List.take_append_of_le_length hf, ← List.drop_drop, List.drop_left, ← List.drop_drop]
  rfl
theorem cramL_twice (l : List Nat) (n m : Int) : cramL (cramL l n) m = cramL l (min n m) := by
  by_cases h1 : n < (l.length : Int)
  · by_cases h3 : n < 3
    · rw [cramL_lt3 h1 h3, cramL_lt3 (l := l) (Int.lt_of_le_of_lt (Int.min_le_left n m) h1) (Int.lt_of_le_of_lt (Int.min_le_left n m) h3)]
      by_cases h4 : m < 3
      · exact cramL_lt3 h4 h4
      · exact cramL_neg h4
    · have hlen := cramL_len l n
      rw [if_pos h1, Int.max_eq_left (Int.not_lt.mp h3)] at hlen
      by_cases h4 : m < n
      · rw [Int.min_eq_right (Int.le_of_lt h4), cramL_pos (l := cramL l n) (by rw [hlen]; exact h4), cramL_pos (Int.lt_trans h4 h1), hlen]
        have hk := kept_facts n
        have hkm := kept_facts m
        obtain ⟨q1, q2⟩ := kept_mono (Int.le_of_lt h4)
        have hlt : (l.take (keptF n).toNat).length = (keptF n).toNat := by rw [List.length_take]; clear hkm hlen; omega
        have hln : (l.drop ((l.length : Int) - keptE n).toNat).length = (keptE n).toNat := by rw [List.length_drop]; clear hkm hlen hlt; omega
        have hg := cram_glued (u := l.take (keptF n).toNat) (v := l.drop ((l.length : Int) - keptE n).toNat) (f := (keptF m).toNat) (e := (keptE m).toNat) (by rw [hlt]; clear hlt hln hlen; omega) (by rw [hln]; clear hlt hln hlen; omega)
        rw [← cramL_pos h1, hlt, hln, List.take_take, List.drop_drop] at hg
        rw [show (n - keptE m).toNat = (keptF n).toNat + (3 + ((keptE n).toNat - (keptE m).toNat)) by clear hg hlt hln hlen h1; omega, hg,
          show min (keptF m).toNat (keptF n).toNat = (keptF m).toNat by clear hg hlt hln hlen h1 hk hkm; omega,
          show ((l.length : Int) - keptE n).toNat + ((keptE n).toNat - (keptE m).toNat) = ((l.length : Int) - keptE m).toNat by clear hg hlt hln hlen; omega]
      · rw [cramL_neg (l := cramL l n) (by rw [hlen]; exact h4), Int.min_eq_left (Int.not_lt.mp h4)]
  · rw [cramL_neg h1]
    by_cases h4 : m < n
    · rw [Int.min_eq_right (Int.le_of_lt h4)]
    · rw [Int.min_eq_left (Int.not_lt.mp h4), cramL_neg h1, cramL_neg (fun h => h1 (Int.lt_of_le_of_lt (Int.not_lt.mp h4) h))]
theorem cram_twice (x : Str) (n m : Int) : cramS (cramS x n) m = cramS x (min n m) := by
  apply ls_inj
  rw [ls_cram, ls_cram, ls_cram, cramL_twice]
def joinL (z : List Nat) : List (List Nat) → List Nat
  | [] => []
  | [p] => p
  | p :: q :: r => p ++ (z ++ joinL z (q :: r))
theorem ls_join (z : Str) : ∀ (ps : List Str), Ls (Txt.join z ps) = joinL (Ls z) (ps.map Ls) := by
  intro ps
  have e : Txt.join z ps = Str.join z ps := StrLaws.glued_eq_join _ _
  rw [e]
  have key : ∀ ps : List Str, Ls (Str.join z ps) = joinL (Ls z) (ps.map Ls) := by
    intro ps
    induction ps with
    | nil => rfl
    | cons p r ih =>
      cases r with
      | nil => rfl
      | cons q t =>
        show Ls (p ++ z ++ Str.join z (q :: t)) = _
        rw [ls_append, ls_append, ih, List.append_assoc]
        rfl
  exact key ps
theorem joinL_head {z : List Nat} {a : Nat} {p : List (List Nat)} (hp : p ≠ []) : joinL z (p.modifyHead (a :: ·)) = a :: joinL z p := by
  match p, hp with
  | [_], _ => rfl
  | _ :: _ :: _, _ => rfl
theorem joinL_nil {z : List Nat} {p : List (List Nat)} (hp : p ≠ []) : joinL z ([] :: p) = z ++ joinL z p := by
  match p, hp with
  | _ :: _, _ => rfl
theorem splS_ne' {d l : List Nat} (hd : 0 < d.length) : splS d l ≠ [] := by
  obtain ⟨p, q, e⟩ := splS_ne hd _ l (Nat.le_refl _)
  rw [e]; simp
theorem join_one (c : Nat) (z : List Nat) : ∀ l : List Nat, joinL z (splS [c] l) = l.flatMap fun a => if a = c then z else [a]
  | [] => rfl
  | a :: r => by
    have hc : 0 < [c].length := by simp
    rw [List.flatMap_cons]
    by_cases h : a = c
    · subst h
      rw [splS_hit hc (by simp), joinL_nil (splS_ne' hc), if_pos rfl]
      congr 1
      exact join_one a z r
    · rw [splS_miss (by simpa using h), joinL_head (splS_ne' hc), if_neg h]
      show _ = a :: _
      congr 1
      exact join_one c z r
theorem spl_free {v : List Nat} (h : ∀ c ∈ v, c ≠ 46) : splS dd v = [v] := by
  induction v with
  | nil => rfl
  | cons c r ih =>
    have hc := h c List.mem_cons_self
    rw [splS_miss (by simp [hc]), ih fun d hd => h d (List.mem_cons_of_mem _ hd)]
    rfl
theorem spl_dots {u v : List Nat} (h : ∀ c ∈ u, c ≠ 46) : splS dd (u ++ (dd ++ v)) = u :: splS dd v := by
  induction u with
  | nil => exact splS_hit (by decide) (by simp)
  | cons c r ih =>
    have hc := h c List.mem_cons_self
    rw [List.cons_append, splS_miss (by simp [hc]), ih fun d hd => h d (List.mem_cons_of_mem _ hd)]
    rfl
end Mine
end
section
open PySem PySem.W PyProof.Rows PySem.Builtin PySem.Builtin.Str
namespace Mine
def hidS (x : Str) : Str := replS x (Str.ofString ".") (Str.ofString ":")
def gapS (x : Str) (n : Int) : Str := Txt.slice (hidS x) (some (keptF n)) (some (((hidS x).length : Int) - keptE n))
def backS (x : Str) (n : Int) : Str := replS (replS (cramS (hidS x) n) (Str.ofString "...") (gapS x n)) (Str.ofString ":") (Str.ofString ".")
theorem ls_repl (x y z : Str) (hy : 0 < (Ls y).length) (hk : Builtin.Str.strKind y = 1) : Ls (replS x y z) = joinL (Ls z) (splS (Ls y) (Ls x)) := by
  show Ls (Txt.join z (Txt.split x y)) = _
  rw [ls_join, split_spl x y hy hk]
def swapL (a b : Nat) (l : List Nat) : List Nat := l.map fun c => if c = a then b else c
theorem flat_swap (a b : Nat) (l : List Nat) : (l.flatMap fun c => if c = a then [b] else [c]) = swapL a b l := by
  unfold swapL
  induction l with
  | nil => rfl
  | cons c r ih =>
    rw [List.flatMap_cons, List.map_cons, ih]
    by_cases h : c = a <;> simp [h]
theorem ls_hid (x : Str) : Ls (hidS x) = swapL 46 58 (Ls x) := by
  unfold hidS
  rw [ls_repl _ _ _ (by decide +kernel) (by decide +kernel), show Ls (Str.ofString ".") = [46] by decide +kernel, show Ls (Str.ofString ":") = [58] by decide +kernel, join_one, flat_swap]
theorem hidS_len (x : Str) : (hidS x).length = x.length := by
  rw [← ls_len, ls_hid, ← ls_len]
  simp [swapL]
theorem gapS_len {x : Str} (n : Int) (h : x.length ≤ 10) : (gapS x n).length ≤ 10 := by
  have h1 := hidS_len x
  have h2 := Txt.slice_le (hidS x) (some (keptF n)) (some (((hidS x).length : Int) - keptE n))
  unfold gapS
  omega
theorem back_id {x : Str} (n : Int) (hx : ∀ c ∈ Ls x, c = 97 ∨ c = 98 ∨ c = 46) : backS x n = x := by
  apply ls_inj
  have hk := kept_facts n
  have h46 : ∀ c ∈ Ls (hidS x), c ≠ 46 := by
    intro c hc
    rw [ls_hid] at hc
    obtain ⟨d, hd, rfl⟩ := List.mem_map.mp hc
    have := hx d hd
    split <;> omega
  have hin : Ls (replS (cramS (hidS x) n) (Str.ofString "...") (gapS x n)) = Ls (hidS x) := by
    rw [ls_repl _ _ _ (by decide +kernel) (by decide +kernel), ls_dots, ls_cram]
    by_cases h : n < ((Ls (hidS x)).length : Int)
    · have hl := ls_len (hidS x)
      have hg : Ls (gapS x n) = ((Ls (hidS x)).drop (keptF n).toNat).take (((hidS x).length : Int) - keptE n - keptF n).toNat := ls_slice hk.1 (by omega)
      rw [cramL_pos h, spl_dots (fun c hc => h46 c (List.mem_of_mem_take hc)), spl_free (fun c hc => h46 c (List.mem_of_mem_drop hc)), hg]
      show (Ls (hidS x)).take (keptF n).toNat ++ (_ ++ joinL _ [_]) = _
      show (Ls (hidS x)).take (keptF n).toNat ++ (_ ++ (Ls (hidS x)).drop _) = _
      have e : (Ls (hidS x)).drop (((Ls (hidS x)).length : Int) - keptE n).toNat = ((Ls (hidS x)).drop (keptF n).toNat).drop (((hidS x).length : Int) - keptE n - keptF n).toNat := by
        rw [List.drop_drop]; congr 1; omega
      rw [e, List.take_append_drop, List.take_append_drop]
    · rw [cramL_neg h, spl_free h46]
      rfl
  unfold backS
  rw [ls_repl _ _ _ (by decide +kernel) (by decide +kernel), hin, show Ls (Str.ofString ":") = [58] by decide +kernel, show Ls (Str.ofString ".") = [46] by decide +kernel, join_one, flat_swap, ls_hid]
  unfold swapL
  rw [List.map_map]
  conv => rhs; rw [← List.map_id (Ls x)]
  apply List.map_congr_left
  intro c hc
  have := hx c hc
  show (if (if c = 46 then 58 else c) = 58 then 46 else if c = 46 then 58 else c) = c
  rcases this with rfl | rfl | rfl <;> rfl
end Mine
end
section
open PySem PySem.W PyProof.Rows
namespace Mine
abbrev backT : ToldN (Str × Int) where
  Rel := fun _ vs d => ∃ t1 t2, vs = [.str d.1 t1, .int d.2 t2]
  Ok := fun d => d.1.length ≤ 10 ∧ -1 ≤ d.2 ∧ d.2 ≤ 10
  size := fun _ => 2
  Tl := fun tl => tl = []
  Out := fun _ r d => ∃ t, r = .str (backS d.1 d.2) t
set_option maxRecDepth 100000 in
set_option maxHeartbeats 8000000 in
theorem tells_back (w : World) (p : Program) (loose : List Str) (mean : ExcName → Option Value) (mg mb : Str → Option Value) : TellsH w p loose mean mg mb 87 backT := by
  w_strict (
  w_top off; unfold TellsH; k_fill; unfold TellsN; intro d dp un gd cn cs a ccd cl outer A₀ base h₀ L m news s vs Q E B F X N T hk hR hok hd hu hret
  obtain ⟨x, n⟩ := d
  obtain ⟨t1, t2, rfl⟩ := hR
  obtain ⟨o1, o2, o3⟩ := hok
  dsimp only at o1 o2 o3
  have hl1 := hidS_len x
  have hl2 := gapS_len n o1
  have hl3 := cramS_len (x := hidS x) n (by omega)
  (try dsimp only)
  refine wpAny_call ?_
  k_dflt ktr_enter
  k_with_none
  k_with "call ref" => (k_here; (with_reducible show wpAny _ _ (call (Value.ref 21) _) _ _ _); k_dflt (refine' tellsN_use ?k1 ?k2 ?k3 ?k4 ?k5 ?kK ?kR (tells_repl4 _ _ _ _ _ _ (cramS (hidS x) n, Str.ofString "...", gapS x n, Str.ofString ":", Str.ofString ".")) ?ko ?kd ?ku ?_; (case k1 => k_asm); (case k2 => k_asm); (case k3 => k_asm); (case k4 => k_asm); (case k5 => k_asm); (case kK => first | exact rfl | assumption); (case kR => exact ⟨_, _, _, _, _, rfl⟩); (case ko => (refine ⟨?_, ?_, ?_, ?_, ?_, ?_, ?_⟩ <;> dsimp only <;> first | omega | decide +kernel)); (case kd => first | ktr_room | ((simp only [recursionLimit] at *); (try dsimp only at *); omega)); (case ku => ktr_units); intro r9 tl9 h9 tk9 F9 N9 hl9 ht9 ho9; (obtain ⟨u9, e9⟩ := ho9; subst e9; subst ht9; rw [List.append_nil] at N9; clear hl9); (try dsimp only); (try k_fold)))
  k_with "call ref" => (k_here; (with_reducible show wpAny _ _ (call (Value.ref 21) _) _ _ _); k_dflt (refine' tellsN_use ?k1 ?k2 ?k3 ?k4 ?k5 ?kK ?kR (tells_repl2 _ _ _ _ _ _ (x, Str.ofString ".", Str.ofString ":")) ?ko ?kd ?ku ?_; (case k1 => k_asm); (case k2 => k_asm); (case k3 => k_asm); (case k4 => k_asm); (case k5 => k_asm); (case kK => first | exact rfl | assumption); (case kR => exact ⟨_, _, _, rfl⟩); (case ko => (refine ⟨?_, ?_, ?_, ?_⟩ <;> dsimp only <;> first | omega | decide +kernel)); (case kd => first | ktr_room | ((simp only [recursionLimit] at *); (try dsimp only at *); omega)); (case ku => ktr_units); intro r9 tl9 h9 tk9 F9 N9 hl9 ht9 ho9; (obtain ⟨u9, e9⟩ := ho9; replace e9 : r9 = Value.str (hidS x) u9 := e9; subst e9; subst ht9; rw [List.append_nil] at N9; clear hl9); (try dsimp only); (try k_fold)))
  k_with "call ref" => (k_here; (with_reducible show wpAny _ _ (call (Value.ref 56) _) _ _ _); k_dflt (refine' tellsN_use ?k1 ?k2 ?k3 ?k4 ?k5 ?kK ?kR (tells_kept _ _ _ _ _ _ n) ?ko ?kd ?ku ?_; (case k1 => k_asm); (case k2 => k_asm); (case k3 => k_asm); (case k4 => k_asm); (case k5 => k_asm); (case kK => first | exact rfl | assumption); (case kR => exact ⟨_, rfl⟩); (case ko => exact ⟨by assumption, by assumption⟩); (case kd => first | ktr_room | ((simp only [recursionLimit] at *); (try dsimp only at *); omega)); (case ku => ktr_units); intro r9 tl9 h9 tk9 F9 N9 hl9 ht9 ho9; (obtain ⟨a9, u9, v9, rfl, m9⟩ := ho9; replace N9 := news_one N9 m9; clear m9 hl9 ht9); (try dsimp only); (try k_fold)))
  k_with "call ref" => (k_here; (with_reducible show wpAny _ _ (call (Value.ref 28) _) _ _ _); k_dflt (refine' tellsN_use ?k1 ?k2 ?k3 ?k4 ?k5 ?kK ?kR (tells_cram _ _ _ _ _ _ (hidS x, n)) ?ko ?kd ?ku ?_; (case k1 => k_asm); (case k2 => k_asm); (case k3 => k_asm); (case k4 => k_asm); (case k5 => k_asm); (case kK => first | exact rfl | assumption); (case kR => exact ⟨_, _, rfl⟩); (case ko => (refine ⟨?_, ?_, ?_⟩ <;> dsimp only <;> omega)); (case kd => first | ktr_room | ((simp only [recursionLimit] at *); (try dsimp only at *); omega)); (case ku => ktr_units); intro r9 tl9 h9 tk9 F9 N9 hl9 ht9 ho9; (obtain ⟨u9, e9⟩ := ho9; subst e9; subst ht9; rw [List.append_nil] at N9; clear hl9); (try dsimp only); (try k_fold)))
  k_steps
  (refine hret _ [] _ _ (by k_asm) (ktn_tl0 (cb_drop (by k_asm) (by (intro p hp; repeat (first | exact hp | refine List.Mem.tail _ ?_))))) ktn_ord0 rfl ?_; exact out_str rfl))
end Mine
end
section
open PySem PySem.W PyProof.Rows
namespace Mine
open PySem.Builtin PySem.Builtin.Str in
/-- find between two places -/
def find4 (x y : Str) (i j : Int) : Int := match occurrences x y (fromIndex x.length i) (min (fromIndex x.length j) x.length) 1 with | k :: _ => (k : Int) | [] => -1
open PySem.Builtin PySem.Builtin.Str in
theorem gives_find4 (x y : Str) (i j : Int) (t u v v' : Tok) : Gives (PySem.Builtin.«str.find» ⟨[.str x t, .str y u, .int i v, .int j v'], []⟩) (.int (find4 x y i j)) := by
  show Gives (match occurrences x y (fromIndex x.length i) (min (fromIndex x.length j) x.length) 1 with | k :: _ => retInt k | [] => (do rule "str.find.not-found"; retInt (-1))) _
  unfold find4
  cases occurrences x y (fromIndex x.length i) (min (fromIndex x.length j) x.length) 1 with
  | nil => exact .rule (.of_eq rfl)
  | cons k _ => exact .of_eq rfl
theorem call_find4 {prog : Program} {w : World} {A : Around} {E : Value → Shared → Prop} {s : Shared} {x y : Str} {t u v v' : Tok} {i j : Int} {Q : Value → Shared → Prop}
    (hq : Q (.int (find4 x y i j) s.toks) { s with toks := s.toks + 1 }) : wpAny (model prog w) A (call (.builtin "str.find") [.str x t, .str y u, .int i v, .int j v']) Q E s :=
  call_gives F.slot_str_find (typeIs_str _ _ _) F.entry_str_find (F.args_str_find_4 _ _ _ _) (gives_find4 x y i j t u v v') hq
theorem map_ends {l : List (Str × Tok)} {a b : Str} {mid : List Str} (h : l.map (·.1) = a :: (mid ++ [b])) : ∃ t u lm, l = (a, t) :: (lm ++ [(b, u)]) ∧ lm.map (·.1) = mid := by
  match l, h with
  | (_, t) :: r, h =>
    obtain ⟨rfl, h2⟩ := List.cons.inj h
    obtain ⟨lm, l2, rfl, h3, h4⟩ := List.map_eq_append_iff.mp h2
    match l2, h4 with
    | [(_, u)], h4 => cases h4; exact ⟨t, u, lm, rfl, h3⟩
theorem strsAre_of (l : List (Str × Tok)) : StrsAre (strValues l) (l.map (·.1)) := by
  induction l with
  | nil => exact .nil
  | cons p r ih => exact .cons _ _ ih
theorem split_ends {prog : Program} {w : World} {A : Around} {E : Value → Shared → Prop} {s : Shared} {h₀ : Heap} {L : Addr} {m : Str → Option Value} {news : List (Addr × Obj)} {Q : Value → Shared → Prop} {x y a b : Str} {mid : List Str} {t u : Tok}
    (F : Fr h₀ L s.heap m) (N : News h₀ L s.heap news) (hy : (y.length == 0) = false) (hsp : Txt.split x y = a :: (mid ++ [b])) (hsz : x.length + 2 ≤ sizeLine)
    (h : ∀ D ta tb V V1 Vi vm h' k, V = Value.str a ta :: V1 → V = Vi ++ [Value.str b tb] → V1 = vm ++ [Value.str b tb] → StrsAre V (a :: (mid ++ [b])) → StrsAre V1 (mid ++ [b]) → StrsAre Vi (a :: mid) → StrsAre vm mid →
      Fr h₀ L h' m → News h₀ L h' ((D, listOf (List.toArray V) 0) :: news) → (∀ p ∈ news, p.1 < D) → Q (.ref D) { s with heap := h', toks := k }) :
    wpAny (model prog w) A (call (.builtin "str.split") [.str x t, .str y u]) Q E s := by
  refine splitN1 F N hy (fun l h' k e F' N' => ?_) hsz
  rw [hsp] at e
  obtain ⟨ta, tb, lm, rfl, hm⟩ := map_ends e
  have hs := strsAre_of lm
  rw [hm] at hs
  have h1 : StrsAre (strValues lm ++ [Value.str b tb]) (mid ++ [b]) := StrsAre.append' hs (.cons _ _ .nil)
  refine h _ ta tb (Value.str a ta :: (strValues lm ++ [Value.str b tb])) (strValues lm ++ [Value.str b tb]) (Value.str a ta :: strValues lm) (strValues lm) h' k rfl rfl rfl (.cons _ _ h1) h1 (.cons _ _ hs) hs F' ?_ (fun p hp => Heap.lt_size (N p hp).1)
  have e2 : strValues ((a, ta) :: (lm ++ [(b, tb)])) = Value.str a ta :: (strValues lm ++ [Value.str b tb]) := by simp [strValues]
  rw [e2] at N'
  exact N'
theorem del_first {D : Addr} {v : Value} {V r : List Value} {n : Nat} {u : Tok} {Q : Unit → Shared → Prop} {prog : Program} {w : World} {A : Around} {E : Value → Shared → Prop} {s : Shared} {h₀ : Heap} {L : Addr} {m : Str → Option Value} {news news' : List (Addr × Obj)} (e : V = v :: r)
    (F : Fr h₀ L s.heap m) (N : News h₀ L s.heap news) (U : Upd D (listOf V.toArray n) (listOf r.toArray (n + 1)) news news') (hz : V.length ≤ sizeLine)
    (h : ∀ h', Fr h₀ L h' m → News h₀ L h' news' → Q () { s with heap := h' }) : wpAny (model prog w) A (delItem (.ref D) (.int 0 u)) Q E s := by
  subst e
  exact ki_del (k := 0) F N (by decide) (by simp [seqIndex?]) (by rfl) U hz h
theorem item_first {D : Addr} {v : Value} {V r : List Value} {n : Nat} {u : Tok} {Q : Value → Shared → Prop} {value slice : PySem.Expr} {prog : Program} {w : World} {A : Around} {E : Value → Shared → Prop} {s : Shared} {h₀ : Heap} {L : Addr} {news : List (Addr × Obj)} (e : V = v :: r)
    (N : News h₀ L s.heap news) (hm : (D, listOf V.toArray n) ∈ news) (h : Q v s)
    (hs : subscripted slice false (.ref D) (.int 0 u) = operate [.ref D, .int 0 u] (getItem (.ref D) (.int 0 u))) (hg : ∀ q, letTemporaryGo value (.ref D) q = pure ()) :
    wpAny (model prog w) A (subscriptTail value slice (.ref D) (.int 0 u)) Q E s := by
  subst e
  exact kim_list (l := v :: r) N hm rfl rfl (by omega) (by omega) rfl h hs hg
theorem ki_delL_last : ∀ (r : List Value) (v : Value), ki_delL (r ++ [v]) r.length = some r
  | [], _ => rfl
  | a :: r, v => by
    show (match ki_delL (r ++ [v]) r.length with | some q => some (a :: q) | none => none) = _
    rw [ki_delL_last r v]
theorem del_last {D : Addr} {v : Value} {V r : List Value} {n : Nat} {u : Tok} {Q : Unit → Shared → Prop} {prog : Program} {w : World} {A : Around} {E : Value → Shared → Prop} {s : Shared} {h₀ : Heap} {L : Addr} {m : Str → Option Value} {news news' : List (Addr × Obj)} (e : V = r ++ [v])
    (F : Fr h₀ L s.heap m) (N : News h₀ L s.heap news) (U : Upd D (listOf V.toArray n) (listOf r.toArray (n + 1)) news news') (hz : V.length ≤ sizeLine)
    (h : ∀ h', Fr h₀ L h' m → News h₀ L h' news' → Q () { s with heap := h' }) : wpAny (model prog w) A (delItem (.ref D) (.int (-1) u)) Q E s := by
  subst e
  exact ki_del (k := r.length) F N (by decide) (by simp [seqIndex?]; omega) (by rw [List.toList_toArray]; exact ki_delL_last r v) U (by rw [List.toList_toArray]; exact hz) h
theorem item_last {D : Addr} {v : Value} {V r : List Value} {n : Nat} {u : Tok} {Q : Value → Shared → Prop} {value slice : PySem.Expr} {prog : Program} {w : World} {A : Around} {E : Value → Shared → Prop} {s : Shared} {h₀ : Heap} {L : Addr} {news : List (Addr × Obj)} (e : V = r ++ [v])
    (N : News h₀ L s.heap news) (hm : (D, listOf V.toArray n) ∈ news) (h : Q v s)
    (hs : subscripted slice false (.ref D) (.int (-1) u) = operate [.ref D, .int (-1) u] (getItem (.ref D) (.int (-1) u))) (hg : ∀ q, letTemporaryGo value (.ref D) q = pure ()) :
    wpAny (model prog w) A (subscriptTail value slice (.ref D) (.int (-1) u)) Q E s := by
  subst e
  exact kim_back (l := r ++ [v]) N hm rfl rfl (by omega) (by simp; omega) (by omega) (by rw [List.length_append, List.length_singleton, show (-1 + ((r.length + 1 : Nat) : Int)).toNat = r.length by omega]; simp) h hs hg
/-- the pieces, one behind the other -/
def findAll (y : Str) (ep : Int) : List Str → Int → Option Int
  | [], sp => some sp
  | p :: r, sp => if find4 y p sp ep < 0 then none else findAll y ep r (find4 y p sp ep + p.length)
def midS (y : Str) (ws : List Str) (sp ep : Int) : Bool := if sp > ep then false else (findAll y ep ws sp).isSome
def lastS (y : Str) (ws : List Str) (pk : Str) (sp : Int) : Bool := if (pk.length : Int) ≠ 0 then (if Txt.endswith y pk = true then midS y ws sp ((y.length : Int) - pk.length) else false) else midS y (ws ++ [pk]) sp y.length
def firstS (y : Str) (p0 : Str) (mid : List Str) (pk : Str) : Bool := if (p0.length : Int) ≠ 0 then (if Txt.startswith y p0 = true then lastS y mid pk p0.length else false) else lastS y (p0 :: mid) pk 0
def matchS (x y : Str) : Bool :=
  if (Builtin.Str.occurrences x (Str.ofString "...") 0 x.length 1).isEmpty = true then x == y
  else match Txt.split x (Str.ofString "...") with
    | [] => false
    | p0 :: r => firstS y p0 r.dropLast (r.getLast?.getD Str.empty)
theorem m_noStart {y p0 pk : Str} {mid : List Str} (h0 : (p0.length : Int) ≠ 0) (h1 : Txt.startswith y p0 = false) : firstS y p0 mid pk = false := by unfold firstS; rw [if_pos h0, h1]; rfl
theorem m_start {y p0 pk : Str} {mid : List Str} (h0 : (p0.length : Int) ≠ 0) (h1 : Txt.startswith y p0 = true) : firstS y p0 mid pk = lastS y mid pk p0.length := by unfold firstS; rw [if_pos h0, if_pos h1]
theorem m_none {y p0 pk : Str} {mid : List Str} (h0 : (p0.length : Int) = 0) : firstS y p0 mid pk = lastS y (p0 :: mid) pk 0 := by unfold firstS; rw [if_neg (fun h => h h0)]
theorem l_noEnd {y pk : Str} {ws : List Str} {sp : Int} (h0 : (pk.length : Int) ≠ 0) (h1 : Txt.endswith y pk = false) : lastS y ws pk sp = false := by unfold lastS; rw [if_pos h0, h1]; rfl
theorem l_end {y pk : Str} {ws : List Str} {sp : Int} (h0 : (pk.length : Int) ≠ 0) (h1 : Txt.endswith y pk = true) : lastS y ws pk sp = midS y ws sp ((y.length : Int) - pk.length) := by unfold lastS; rw [if_pos h0, if_pos h1]
theorem l_none {y pk : Str} {ws : List Str} {sp : Int} (h0 : (pk.length : Int) = 0) : lastS y ws pk sp = midS y (ws ++ [pk]) sp y.length := by unfold lastS; rw [if_neg (fun h => h h0)]
theorem d_false {y : Str} {ws : List Str} {sp ep : Int} (h : ep < sp) : midS y ws sp ep = false := by unfold midS; rw [if_pos h]
theorem d_loop {y : Str} {ws : List Str} {sp ep : Int} (h : ¬ ep < sp) : midS y ws sp ep = (findAll y ep ws sp).isSome := by unfold midS; rw [if_neg h]
theorem findAll_snoc {y : Str} {ep : Int} : ∀ {ws : List Str} {p : Str} {sp k : Int}, findAll y ep ws sp = some k → findAll y ep (ws ++ [p]) sp = if find4 y p k ep < 0 then none else some (find4 y p k ep + p.length)
  | [], p, sp, k, h => by cases h; rfl
  | q :: r, p, sp, k, h => by
    unfold findAll at h
    rw [List.cons_append, findAll]
    split at h
    · cases h
    · rename_i hq
      rw [if_neg hq]
      exact findAll_snoc h
theorem findAll_none {y : Str} {ep : Int} : ∀ {ws r : List Str} {sp : Int}, findAll y ep ws sp = none → findAll y ep (ws ++ r) sp = none
  | [], r, sp, h => by cases h
  | q :: t, r, sp, h => by
    unfold findAll at h
    rw [List.cons_append, findAll]
    split at h
    · rename_i hq; rw [if_pos hq]
    · rename_i hq
      rw [if_neg hq]
      exact findAll_none h
theorem findAll_stop {y : Str} {ep : Int} {ws : List Str} {p : Str} {sp k : Int} {i : Nat} (h : findAll y ep (ws.take i) sp = some k) (hp : ws[i]? = some p) (hn : find4 y p k ep < 0) : findAll y ep ws sp = none := by
  have e : ws = (ws.take i ++ [p]) ++ ws.drop (i + 1) := by
    have ht := List.take_append_drop (i + 1) ws
    rw [List.take_add_one, hp] at ht
    simpa using ht.symm
  rw [e]
  refine findAll_none ?_
  rw [findAll_snoc h, if_pos hn]
theorem findAll_next {y : Str} {ep : Int} {ws : List Str} {p : Str} {sp k : Int} {i : Nat} (h : findAll y ep (ws.take i) sp = some k) (hp : ws[i]? = some p) (hn : ¬ find4 y p k ep < 0) : findAll y ep (ws.take (i + 1)) sp = some (find4 y p k ep + p.length) := by
  rw [List.take_add_one, hp]
  show findAll y ep (ws.take i ++ [p]) sp = _
  rw [findAll_snoc h, if_neg hn]
theorem matchS_no {x y : Str} (h : (Builtin.Str.occurrences x (Str.ofString "...") 0 x.length 1).isEmpty = true) : matchS x y = (x == y) := by
  unfold matchS
  rw [if_pos h]
theorem matchS_of {x y p0 pk : Str} {mid : List Str} (h : (Builtin.Str.occurrences x (Str.ofString "...") 0 x.length 1).isEmpty = false) (hsp : Txt.split x (Str.ofString "...") = p0 :: (mid ++ [pk])) : matchS x y = firstS y p0 mid pk := by
  unfold matchS
  rw [h, hsp]
  simp
abbrev matchT : ToldN (Str × Str) where
  Rel := fun _ vs d => ∃ t1 t2, vs = [.str d.1 t1, .str d.2 t2]
  Ok := fun d => d.1.length ≤ 10 ∧ d.2.length ≤ 10
  size := fun _ => 1
  Tl := fun tl => tl = []
  Out := fun _ r d => r = .bool (matchS d.1 d.2)
local macro_rules | `(tactic| k_all) => `(tactic| exact all_low (by assumption) (by omega))
set_option maxRecDepth 100000 in
set_option maxHeartbeats 8000000 in
theorem tells_match (w : World) (p : Program) (loose : List Str) (mean : ExcName → Option Value) (mg mb : Str → Option Value) : TellsH w p loose mean mg mb 42 matchT := by
  w_strict (
  w_top off; unfold TellsH; k_fill; unfold TellsN; intro d dp un gd cn cs a ccd cl outer A₀ base h₀ L m news s vs Q E B F X N T hk hR hok hd hu hret
  obtain ⟨x, y⟩ := d
  obtain ⟨t1, t2, rfl⟩ := hR
  obtain ⟨o2, o3⟩ := hok
  dsimp only at o2 o3
  have hc : (Builtin.Str.occurrences x (Str.ofString "...") 0 x.length 1).isEmpty = false → ∃ p0 mid pk, Txt.split x (Str.ofString "...") = p0 :: (mid ++ [pk]) ∧ (∀ p ∈ p0 :: (mid ++ [pk]), p.length ≤ 10) ∧ mid.length ≤ 10 := split_pieces o2
  (try dsimp only)
  refine wpAny_call ?_
  k_dflt ktr_enter
  k_with_none
  k_with "call builtin:str.split" => refine stop_here ?_
  k_with "call builtin:str.find" => refine call_find4 ?_
  k_steps
  · (refine hret _ [] _ _ (by k_asm) (ktn_tl0 (cb_drop (by k_asm) (by (intro p hp; repeat (first | exact hp | refine List.Mem.tail _ ?_))))) ktn_ord0 rfl ?_; exact out_bool (matchS_no (by assumption)).symm)
  refine Stop.out ?_
  obtain ⟨p0, mid, pk, hsp, hl4, hmid⟩ := hc (by assumption)
  have hp0 := hl4 p0 List.mem_cons_self
  have hpk := hl4 pk (List.mem_cons_of_mem _ (List.mem_append_right _ List.mem_cons_self))
  have hl3 : ∀ p ∈ mid ++ [pk], p.length ≤ 10 := fun p hp => hl4 p (List.mem_cons_of_mem p0 hp)
  have hl1 : ∀ p ∈ mid, p.length ≤ 10 := fun p hp => hl3 p (List.mem_append_left [pk] hp)
  have hl2 : ∀ p ∈ p0 :: mid, p.length ≤ 10 := fun p hp => (List.mem_cons.mp hp).elim (fun e => e ▸ hp0) (hl1 p)
  refine split_ends (by k_asm) (by k_asm) (by decide +kernel) hsp (by rw [sizeLine_eq]; omega) ?_
  intro D9 ta tb V V1 Vi vm h9 k9 eV eVi e1 hSV hSV1 hSVi hSvm F9 N9 l9
  replace eV := Hid.mk eV
  replace eVi := Hid.mk eVi
  replace e1 := Hid.mk e1
  have hlV := hSV.length
  have hlV1 := hSV1.length
  have hlVi := hSVi.length
  have hlvm := hSvm.length
  simp only [List.length_cons, List.length_append, List.length_nil] at hlV hlV1 hlVi hlvm
  dsimp only
  k_with "subscriptTail" => (k_here; (with_reducible show wpAny _ _ (subscriptTail _ _ (Value.ref _) (Value.int 0 _)) _ _ _); k_dflt (refine' item_first eV.out ?N ?m ?_ ?s ?t; (case N => k_asm); (case m => k_mem); (case s => with_unfolding_all rfl); (case t => (intro _; with_unfolding_all rfl))))
  k_with "subscriptTail" => (k_here; (with_reducible show wpAny _ _ (subscriptTail _ _ (Value.ref _) (Value.int (-1) _)) _ _ _); k_dflt (first | (refine' item_last eVi.out ?N ?m ?_ ?s ?t; (case N => k_asm); (case m => k_mem); (case s => with_unfolding_all rfl); (case t => (intro _; with_unfolding_all rfl))) | (refine' item_last e1.out ?N ?m ?_ ?s ?t; (case N => k_asm); (case m => k_mem); (case s => with_unfolding_all rfl); (case t => (intro _; with_unfolding_all rfl)))))
  k_with "delItem ref int" => (k_here; (with_reducible show wpAny _ _ (delItem (Value.ref _) (Value.int 0 _)) _ _ _); k_dflt (refine' del_first eV.out ?F ?N ?U ?z ?_; (case F => k_asm); (case N => k_asm); (case U => k_upd); (case z => (rw [sizeLine_eq]; omega))); intro h7' F7' N7')
  k_with "delItem ref int" => (k_here; (with_reducible show wpAny _ _ (delItem (Value.ref _) (Value.int (-1) _)) _ _ _); k_dflt (refine' del_last eVi.out ?F ?N ?U ?z ?_; (case F => k_asm); (case N => k_asm); (case U => k_upd); (case z => (rw [sizeLine_eq]; omega))); intro h7' F7' N7')
  k_with "delItem ref int" => (k_here; (with_reducible show wpAny _ _ (delItem (Value.ref _) (Value.int (-1) _)) _ _ _); k_dflt (refine' del_last e1.out ?F ?N ?U ?z ?_; (case F => k_asm); (case N => k_asm); (case U => k_upd); (case z => (rw [sizeLine_eq]; omega))); intro h7' F7' N7')
  k_with "call builtin:len" => (k_here; (with_reducible show wpAny _ _ (call (Value.builtin "len") [Value.ref _]) _ _ _); k_dflt (refine' kun_lenL (k := (mid.length : Int) + 2) (News.isList (by k_asm) (by k_mem)) ?k2 ?k3 ?_; (case k2 => (rw [List.size_toArray]; omega)); (case k3 => omega)))
  k_with "exec For Name Name cons nil" => refine stop_here ?_
  have hm := fun y => matchS_of (y := y) (by assumption) hsp
  k_with "exec For Name Name cons nil" => ((rename Fr _ _ _ _ => lF'); (with_unfolding_all refine' For_invVF lF' ?k1 ?k2 ?_; (case k1 => exact rfl); (case k2 => exact rfl)))
  k_with "pyIter ref" => refine stop_here ?_
  (repeat' (first | (k_unfold; (try dsimp only)) | (unfold LedPost; dsimp only) | walk1 | (dsimp only; walk1)))
  · (refine hret _ [] _ _ (by k_asm) (ktn_tl0 (cb_drop (by k_asm) (by (intro p hp; repeat (first | exact hp | refine List.Mem.tail _ ?_))))) ktn_ord0 rfl ?_; exact out_bool ((hm y).trans ((m_start (by assumption) (by assumption)).trans ((l_end (by assumption) (by assumption)).trans (d_false (by assumption))))).symm)
  · refine Stop.out ?_
    (rename Fr _ _ _ _ => lF)
    (rename News _ _ _ _ => lN)
    obtain ⟨t0, ht0⟩ := at_int lF (Str.ofString "startpos") (p0.length : Int) ⟨_, rfl⟩
    have hmt : matchS x y = (findAll y ((y.length : Int) - (pk.length : Int)) mid (p0.length : Int)).isSome := (hm y).trans ((m_start (by assumption) (by assumption)).trans ((l_end (by assumption) (by assumption)).trans (d_loop (by assumption))))
    k_dflt (refine' iter_led (σ := Int × Tok) (l := D9) (vs := vm) (nn := (0 + 1 + 1)) (fun _ => (D9, listOf (List.toArray vm) (0 + 1 + 1)) :: news) (fun c => [(Str.ofString "startpos", .int c.1 c.2)]) [] (fun i c => findAll y ((y.length : Int) - (pk.length : Int)) ((mid).take i) (p0.length : Int) = some c.1) ((p0.length : Int), t0) ?hh (fun _ => List.Mem.head _) lF (cb_drop lN ?hsub) ?hk ?hp ?turn ?done)
    case hh => rfl
    case hsub => (intro p hp; rcases List.mem_cons.mp hp with rfl | hp; exact .tail _ (.head _); exact .tail _ (.tail _ hp))
    case hk => (intro p hp; cases hp with | head => exact ht0 | tail _ h => cases h)
    case hp => rfl
    case turn =>
      rintro ⟨sp, t⟩ i v I oI u h2 tk2 hv hoff hP F2 N2
      obtain ⟨wd, tw, rfl, hw⟩ := strs_at hSvm hv
      have hwl := hl1 wd (List.mem_of_getElem? hw)
      dsimp only at hP F2 N2 ⊢
      clear lF lN ht0
      (repeat' (first | (k_unfold; (try dsimp only)) | (unfold LedPost; dsimp only) | walk1 | (dsimp only; walk1)))
      · (refine hret _ [] _ _ (by k_asm) (ktn_tl0 (cb_drop (by k_asm) (by (intro p hp; repeat (first | exact hp | refine List.Mem.tail _ ?_))))) ktn_ord0 rfl ?_; exact out_bool (by rw [hmt, findAll_stop hP hw (by assumption)]; rfl))
      · (rename Fr _ _ _ _ => lF2)
        obtain ⟨t4, ht4⟩ := at_int lF2 (Str.ofString "startpos") (find4 y wd sp ((y.length : Int) - (pk.length : Int)) + wd.length) ⟨_, rfl⟩
        refine led_end (_, t4) lF2 (by k_asm) (fun p hp => hp) hoff ?_ ?_ (findAll_next hP hw (by assumption))
        · intro p hp; cases hp with
          | head => exact ht4
          | tail _ h => cases h
        · intro z hzx h2 h3
          have hz := h2 _ List.mem_cons_self
          show (if z = Str.ofString "startpos" then _ else if z = Str.ofString "startpos" then _ else if z = Str.ofString "w" then _ else kstB _ _ z) = _
          rw [if_neg hz, if_neg hz, if_neg hzx]
          exact same_off h3 (fun p hp => by cases hp with | head => exact hz | tail _ h => cases h)
    case done =>
      rintro ⟨sp, t⟩ u h2 tk2 hP F2 N2
      dsimp only at hP F2 N2 ⊢
      rw [show List.length vm = List.length (mid) from (hSvm).length, List.take_length] at hP
      clear lF lN ht0
      (repeat' (first | (k_unfold; (try dsimp only)) | (unfold LedPost; dsimp only) | walk1 | (dsimp only; walk1)))
      (refine hret _ [] _ _ (by k_asm) (ktn_tl0 (cb_drop (by k_asm) (by (intro p hp; repeat (first | exact hp | refine List.Mem.tail _ ?_))))) ktn_ord0 rfl ?_; exact out_bool (by rw [hmt, hP]; rfl))
  · (refine hret _ [] _ _ (by k_asm) (ktn_tl0 (cb_drop (by k_asm) (by (intro p hp; repeat (first | exact hp | refine List.Mem.tail _ ?_))))) ktn_ord0 rfl ?_; exact out_bool ((hm y).trans ((m_start (by assumption) (by assumption)).trans (l_noEnd (by assumption) (by assumption)))).symm)
  · (refine hret _ [] _ _ (by k_asm) (ktn_tl0 (cb_drop (by k_asm) (by (intro p hp; repeat (first | exact hp | refine List.Mem.tail _ ?_))))) ktn_ord0 rfl ?_; exact out_bool ((hm y).trans ((m_start (by assumption) (by assumption)).trans ((l_none (by assumption)).trans (d_false (by assumption))))).symm)
  · refine Stop.out ?_
    (rename Fr _ _ _ _ => lF)
    (rename News _ _ _ _ => lN)
    obtain ⟨t0, ht0⟩ := at_int lF (Str.ofString "startpos") (p0.length : Int) ⟨_, rfl⟩
    have hmt : matchS x y = (findAll y (y.length : Int) (mid ++ [pk]) (p0.length : Int)).isSome := (hm y).trans ((m_start (by assumption) (by assumption)).trans ((l_none (by assumption)).trans (d_loop (by assumption))))
    k_dflt (refine' iter_led (σ := Int × Tok) (l := D9) (vs := V1) (nn := (0 + 1)) (fun _ => (D9, listOf (List.toArray V1) (0 + 1)) :: news) (fun c => [(Str.ofString "startpos", .int c.1 c.2)]) [] (fun i c => findAll y (y.length : Int) (((mid ++ [pk])).take i) (p0.length : Int) = some c.1) ((p0.length : Int), t0) ?hh (fun _ => List.Mem.head _) lF (cb_drop lN ?hsub) ?hk ?hp ?turn ?done)
    case hh => rfl
    case hsub => (intro p hp; rcases List.mem_cons.mp hp with rfl | hp; exact .tail _ (.head _); exact .tail _ (.tail _ hp))
    case hk => (intro p hp; cases hp with | head => exact ht0 | tail _ h => cases h)
    case hp => rfl
    case turn =>
      rintro ⟨sp, t⟩ i v I oI u h2 tk2 hv hoff hP F2 N2
      obtain ⟨wd, tw, rfl, hw⟩ := strs_at hSV1 hv
      have hwl := hl3 wd (List.mem_of_getElem? hw)
      dsimp only at hP F2 N2 ⊢
      clear lF lN ht0
      (repeat' (first | (k_unfold; (try dsimp only)) | (unfold LedPost; dsimp only) | walk1 | (dsimp only; walk1)))
      · (refine hret _ [] _ _ (by k_asm) (ktn_tl0 (cb_drop (by k_asm) (by (intro p hp; repeat (first | exact hp | refine List.Mem.tail _ ?_))))) ktn_ord0 rfl ?_; exact out_bool (by rw [hmt, findAll_stop hP hw (by assumption)]; rfl))
      · (rename Fr _ _ _ _ => lF2)
        obtain ⟨t4, ht4⟩ := at_int lF2 (Str.ofString "startpos") (find4 y wd sp (y.length : Int) + wd.length) ⟨_, rfl⟩
        refine led_end (_, t4) lF2 (by k_asm) (fun p hp => hp) hoff ?_ ?_ (findAll_next hP hw (by assumption))
        · intro p hp; cases hp with
          | head => exact ht4
          | tail _ h => cases h
        · intro z hzx h2 h3
          have hz := h2 _ List.mem_cons_self
          show (if z = Str.ofString "startpos" then _ else if z = Str.ofString "startpos" then _ else if z = Str.ofString "w" then _ else kstB _ _ z) = _
          rw [if_neg hz, if_neg hz, if_neg hzx]
          exact same_off h3 (fun p hp => by cases hp with | head => exact hz | tail _ h => cases h)
    case done =>
      rintro ⟨sp, t⟩ u h2 tk2 hP F2 N2
      dsimp only at hP F2 N2 ⊢
      rw [show List.length V1 = List.length ((mid ++ [pk])) from (hSV1).length, List.take_length] at hP
      clear lF lN ht0
      (repeat' (first | (k_unfold; (try dsimp only)) | (unfold LedPost; dsimp only) | walk1 | (dsimp only; walk1)))
      (refine hret _ [] _ _ (by k_asm) (ktn_tl0 (cb_drop (by k_asm) (by (intro p hp; repeat (first | exact hp | refine List.Mem.tail _ ?_))))) ktn_ord0 rfl ?_; exact out_bool (by rw [hmt, hP]; rfl))
  · (refine hret _ [] _ _ (by k_asm) (ktn_tl0 (cb_drop (by k_asm) (by (intro p hp; repeat (first | exact hp | refine List.Mem.tail _ ?_))))) ktn_ord0 rfl ?_; exact out_bool ((hm y).trans (m_noStart (by assumption) (by assumption))).symm)
  · (refine hret _ [] _ _ (by k_asm) (ktn_tl0 (cb_drop (by k_asm) (by (intro p hp; repeat (first | exact hp | refine List.Mem.tail _ ?_))))) ktn_ord0 rfl ?_; exact out_bool ((hm y).trans ((m_none (by assumption)).trans ((l_end (by assumption) (by assumption)).trans (d_false (by assumption))))).symm)
  · refine Stop.out ?_
    (rename Fr _ _ _ _ => lF)
    (rename News _ _ _ _ => lN)
    obtain ⟨t0, ht0⟩ := at_int lF (Str.ofString "startpos") (0 : Int) ⟨_, rfl⟩
    have hmt : matchS x y = (findAll y ((y.length : Int) - (pk.length : Int)) (p0 :: mid) (0 : Int)).isSome := (hm y).trans ((m_none (by assumption)).trans ((l_end (by assumption) (by assumption)).trans (d_loop (by assumption))))
    k_dflt (refine' iter_led (σ := Int × Tok) (l := D9) (vs := Vi) (nn := (0 + 1)) (fun _ => (D9, listOf (List.toArray Vi) (0 + 1)) :: news) (fun c => [(Str.ofString "startpos", .int c.1 c.2)]) [] (fun i c => findAll y ((y.length : Int) - (pk.length : Int)) (((p0 :: mid)).take i) (0 : Int) = some c.1) ((0 : Int), t0) ?hh (fun _ => List.Mem.head _) lF (cb_drop lN ?hsub) ?hk ?hp ?turn ?done)
    case hh => rfl
    case hsub => (intro p hp; rcases List.mem_cons.mp hp with rfl | hp; exact .tail _ (.head _); exact .tail _ (.tail _ hp))
    case hk => (intro p hp; cases hp with | head => exact ht0 | tail _ h => cases h)
    case hp => rfl
    case turn =>
      rintro ⟨sp, t⟩ i v I oI u h2 tk2 hv hoff hP F2 N2
      obtain ⟨wd, tw, rfl, hw⟩ := strs_at hSVi hv
      have hwl := hl2 wd (List.mem_of_getElem? hw)
      dsimp only at hP F2 N2 ⊢
      clear lF lN ht0
      (repeat' (first | (k_unfold; (try dsimp only)) | (unfold LedPost; dsimp only) | walk1 | (dsimp only; walk1)))
      · (refine hret _ [] _ _ (by k_asm) (ktn_tl0 (cb_drop (by k_asm) (by (intro p hp; repeat (first | exact hp | refine List.Mem.tail _ ?_))))) ktn_ord0 rfl ?_; exact out_bool (by rw [hmt, findAll_stop hP hw (by assumption)]; rfl))
      · (rename Fr _ _ _ _ => lF2)
        obtain ⟨t4, ht4⟩ := at_int lF2 (Str.ofString "startpos") (find4 y wd sp ((y.length : Int) - (pk.length : Int)) + wd.length) ⟨_, rfl⟩
        refine led_end (_, t4) lF2 (by k_asm) (fun p hp => hp) hoff ?_ ?_ (findAll_next hP hw (by assumption))
        · intro p hp; cases hp with
          | head => exact ht4
          | tail _ h => cases h
        · intro z hzx h2 h3
          have hz := h2 _ List.mem_cons_self
          show (if z = Str.ofString "startpos" then _ else if z = Str.ofString "startpos" then _ else if z = Str.ofString "w" then _ else kstB _ _ z) = _
          rw [if_neg hz, if_neg hz, if_neg hzx]
          exact same_off h3 (fun p hp => by cases hp with | head => exact hz | tail _ h => cases h)
    case done =>
      rintro ⟨sp, t⟩ u h2 tk2 hP F2 N2
      dsimp only at hP F2 N2 ⊢
      rw [show List.length Vi = List.length ((p0 :: mid)) from (hSVi).length, List.take_length] at hP
      clear lF lN ht0
      (repeat' (first | (k_unfold; (try dsimp only)) | (unfold LedPost; dsimp only) | walk1 | (dsimp only; walk1)))
      (refine hret _ [] _ _ (by k_asm) (ktn_tl0 (cb_drop (by k_asm) (by (intro p hp; repeat (first | exact hp | refine List.Mem.tail _ ?_))))) ktn_ord0 rfl ?_; exact out_bool (by rw [hmt, hP]; rfl))
  · (refine hret _ [] _ _ (by k_asm) (ktn_tl0 (cb_drop (by k_asm) (by (intro p hp; repeat (first | exact hp | refine List.Mem.tail _ ?_))))) ktn_ord0 rfl ?_; exact out_bool ((hm y).trans ((m_none (by assumption)).trans (l_noEnd (by assumption) (by assumption)))).symm)
  · refine Stop.out ?_
    (rename Fr _ _ _ _ => lF)
    (rename News _ _ _ _ => lN)
    obtain ⟨t0, ht0⟩ := at_int lF (Str.ofString "startpos") (0 : Int) ⟨_, rfl⟩
    have hmt : matchS x y = (findAll y (y.length : Int) (p0 :: mid ++ [pk]) (0 : Int)).isSome := (hm y).trans ((m_none (by assumption)).trans ((l_none (by assumption)).trans (d_loop (by omega))))
    k_dflt (refine' iter_led (σ := Int × Tok) (l := D9) (vs := V) (nn := 0) (fun _ => (D9, listOf (List.toArray V) 0) :: news) (fun c => [(Str.ofString "startpos", .int c.1 c.2)]) [] (fun i c => findAll y (y.length : Int) (((p0 :: mid ++ [pk])).take i) (0 : Int) = some c.1) ((0 : Int), t0) ?hh (fun _ => List.Mem.head _) lF (cb_drop lN ?hsub) ?hk ?hp ?turn ?done)
    case hh => rfl
    case hsub => (intro p hp; rcases List.mem_cons.mp hp with rfl | hp; exact .tail _ (.head _); exact .tail _ (.tail _ hp))
    case hk => (intro p hp; cases hp with | head => exact ht0 | tail _ h => cases h)
    case hp => rfl
    case turn =>
      rintro ⟨sp, t⟩ i v I oI u h2 tk2 hv hoff hP F2 N2
      obtain ⟨wd, tw, rfl, hw⟩ := strs_at hSV hv
      have hwl := hl4 wd (List.mem_of_getElem? hw)
      dsimp only at hP F2 N2 ⊢
      clear lF lN ht0
      (repeat' (first | (k_unfold; (try dsimp only)) | (unfold LedPost; dsimp only) | walk1 | (dsimp only; walk1)))
      · (refine hret _ [] _ _ (by k_asm) (ktn_tl0 (cb_drop (by k_asm) (by (intro p hp; repeat (first | exact hp | refine List.Mem.tail _ ?_))))) ktn_ord0 rfl ?_; exact out_bool (by rw [hmt, findAll_stop hP hw (by assumption)]; rfl))
      · (rename Fr _ _ _ _ => lF2)
        obtain ⟨t4, ht4⟩ := at_int lF2 (Str.ofString "startpos") (find4 y wd sp (y.length : Int) + wd.length) ⟨_, rfl⟩
        refine led_end (_, t4) lF2 (by k_asm) (fun p hp => hp) hoff ?_ ?_ (findAll_next hP hw (by assumption))
        · intro p hp; cases hp with
          | head => exact ht4
          | tail _ h => cases h
        · intro z hzx h2 h3
          have hz := h2 _ List.mem_cons_self
          show (if z = Str.ofString "startpos" then _ else if z = Str.ofString "startpos" then _ else if z = Str.ofString "w" then _ else kstB _ _ z) = _
          rw [if_neg hz, if_neg hz, if_neg hzx]
          exact same_off h3 (fun p hp => by cases hp with | head => exact hz | tail _ h => cases h)
    case done =>
      rintro ⟨sp, t⟩ u h2 tk2 hP F2 N2
      dsimp only at hP F2 N2 ⊢
      rw [show List.length V = List.length ((p0 :: mid ++ [pk])) from (hSV).length, List.take_length] at hP
      clear lF lN ht0
      (repeat' (first | (k_unfold; (try dsimp only)) | (unfold LedPost; dsimp only) | walk1 | (dsimp only; walk1)))
      (refine hret _ [] _ _ (by k_asm) (ktn_tl0 (cb_drop (by k_asm) (by (intro p hp; repeat (first | exact hp | refine List.Mem.tail _ ?_))))) ktn_ord0 rfl ?_; exact out_bool (by rw [hmt, hP]; rfl)))
end Mine
end
section
open PySem PySem.W PyProof.Rows
namespace Mine
/-- what a predicate tells, wherever the ledger bears led -/
abbrev predT (led : List (Addr × Obj)) (P : Str → Bool) : ToldN Str where
  Rel := fun news vs x => (∀ q ∈ led, q ∈ news) ∧ ∃ t, vs = [.str x t]
  Ok := fun x => x.length ≤ 10
  size := fun _ => 2
  Tl := fun tl => tl = []
  Out := fun _ r x => r = .bool (P x)
abbrev splitT (led : List (Addr × Obj)) (f : Addr) (P : Str → Bool) : ToldN (List Str) where
  Rel := fun news vs xs => (∀ q ∈ led, q ∈ news) ∧ (∃ oc od fd sl, (f, (⟨oc, od, .func fd, sl⟩ : Obj)) ∈ led) ∧ ∃ a ws k, vs = [.ref a, .ref f] ∧ (a, listOf ws.toArray k) ∈ news ∧ StrsAre ws xs
  Ok := fun xs => (∀ x ∈ xs, x.length ≤ 10) ∧ xs.length ≤ 8
  size := fun _ => 3
  Tl := fun tl => tl.length = 3
  Out := fun news r xs => ∃ old a ya yn za zn vy vz, news = old ++ [(a, ({ cls := .type "tuple", data := .seq #[.ref ya, .ref za] } : Obj)), (za, listOf (List.toArray vz) zn), (ya, listOf (List.toArray vy) yn)] ∧ r = .ref a ∧ StrsAre vy (xs.filter P) ∧ StrsAre vz (xs.filter fun x => !P x)
structure SpC where
  vy : List Value
  yn : Nat
  vz : List Value
  zn : Nat
local macro_rules | `(tactic| k_all) => `(tactic| exact all_low (by assumption) (by omega))
set_option maxRecDepth 100000 in
set_option maxHeartbeats 8000000 in
theorem tells_split (w : World) (p : Program) (loose : List Str) (mean : ExcName → Option Value) (mg mb : Str → Option Value) (led : List (Addr × Obj)) (f : Addr) (P : Str → Bool) (hf : TellsH w p loose mean mg mb f (predT led P)) : TellsH w p loose mean mg mb 35 (splitT led f P) := by
  w_strict (
  w_top off; unfold TellsH; k_fill; unfold TellsN; intro d dp un gd cn cs a ccd cl outer A₀ base h₀ L m news s vs Q E B F X N T hk hR hok hd hu hret

  obtain ⟨hled, hfn, a0, ws, k, rfl, ha0, hws⟩ := hR
  obtain ⟨o1, o4⟩ := hok
  rename List Str => xs
  refine wpAny_call ?_
  k_dflt ktr_enter
  k_with_none
  k_with "exec For Name Name cons nil" => ((rename Fr _ _ _ _ => lF'); (with_unfolding_all refine' For_invVF lF' ?k1 ?k2 ?_; (case k1 => exact rfl); (case k2 => exact rfl)))
  k_with "pyIter ref" => refine stop_here ?_
  (repeat' (first | (k_unfold; (try dsimp only)) | (unfold LedPost; dsimp only) | walk1 | (dsimp only; walk1)))
  refine Stop.out ?_
  obtain ⟨foc, fod, ffd, fsl, hfm⟩ := hfn
  have hfm' := hled _ hfm
  rename_i ya _ lya _ za _ lza _ lF lN
  have hmem : ∀ x ∈ news, x.1 < za := fun q hq => Nat.lt_trans (lya q hq) (by have := lza.1; omega)
  k_dflt (refine' iter_led (σ := SpC) (l := a0) (vs := ws) (nn := k) (fun c => (za, listOf (List.toArray c.vz) c.zn) :: (ya, listOf (List.toArray c.vy) c.yn) :: news) (fun _ => []) [] (fun i c => StrsAre c.vy ((xs.take i).filter P) ∧ StrsAre c.vz ((xs.take i).filter fun x => !P x)) ⟨[], 0, [], 0⟩ ?hh (fun _ => List.Mem.tail _ (List.Mem.tail _ ha0)) lF lN ?hk ?hp ?turn ?done)
  case hh => rfl
  case hk => (intro p hp; cases hp)
  case hp => exact ⟨StrsAre.nil, StrsAre.nil⟩
  case turn =>
    rintro ⟨vy, yn, vz, zn⟩ i v I oI u h2 tk2 hv hoff ⟨hy, hz⟩ F2 N2
    obtain ⟨wd, tw, rfl, hw⟩ := strs_at hws hv
    have hwl := o1 wd (List.mem_of_getElem? hw)
    have hsn : xs.take (i + 1) = xs.take i ++ [wd] := by simp [List.take_add_one, hw]
    dsimp only at hy hz hoff F2 N2 ⊢
    clear lF lN
    have hI1 : @Ne Nat za I := hoff _ (List.Mem.head _)
    have hI2 : @Ne Nat ya I := hoff _ (List.Mem.tail _ (List.Mem.head _))
    have hlt : (xs.take i).length ≤ 8 := by rw [List.length_take]; omega
    have hly : vy.length ≤ 8 := by rw [hy.length]; exact Nat.le_trans (List.length_filter_le _ _) hlt
    have hlz : vz.length ≤ 8 := by rw [hz.length]; exact Nat.le_trans (List.length_filter_le _ _) hlt
    k_with "callWith ref" => (k_here; k_dflt (refine' callWith_F ?kX ?_; (case kX => exact FnAt.of (by k_asm) (by simp only [List.mem_cons]; exact Or.inr (Or.inr (Or.inr hfm'))))))
    k_with "And" => (refine And.intro ?kX ?_; (case kX => exact FnAt.of (by k_asm) (by simp only [List.mem_cons]; exact Or.inr (Or.inr (Or.inr hfm')))))
    k_with "call builtin:list.append" => (k_here; (with_reducible show wpAny _ _ (call (Value.builtin _) [Value.ref _, _]) _ _ _); k_dflt (refine' append_K ?k1 ?k2 ?k3 ?_ ?z; (case k1 => k_asm); (case k2 => k_asm); (case k3 => k_upd); (case z => (rw [List.size_toArray, sizeLine_eq]; omega)); k_whole); intro h5' F5' N5'; (try dsimp only))
    k_with "call ref" => (k_here; (with_reducible show wpAny _ _ (call (Value.ref f) _) _ _ _); k_dflt (refine' tellsN_use ?k1 ?k2 ?k3 ?k4 ?k5 ?kK ?kR (hf wd) ?ko ?kd ?ku ?_; (case k1 => k_asm); (case k2 => k_asm); (case k3 => k_asm); (case k4 => k_asm); (case k5 => k_asm); (case kK => first | exact rfl | assumption); (case kR => exact ⟨fun q hq => by simp only [List.mem_cons]; exact Or.inr (Or.inr (Or.inr (hled q hq))), _, rfl⟩); (case ko => exact hwl); (case kd => first | ktr_room | ((simp only [recursionLimit] at *); (try dsimp only at *); omega)); (case ku => ktr_units); intro r9 tl9 h9 tk9 F9 N9 hl9 ht9 ho9; (replace ho9 : r9 = Value.bool (P wd) := ho9; subst ho9; subst ht9; rw [List.append_nil] at N9; clear hl9); (try dsimp only); (try k_fold)))
    (repeat' (first | (k_unfold; (try dsimp only)) | (unfold LedPost; dsimp only) | walk1 | (dsimp only; walk1)))
    · refine led_end (⟨vy ++ [.str wd tw], yn + 1, vz, zn⟩ : SpC) (by k_asm) (by k_asm) ?_ ?_ (fun p hp => by cases hp) ?_ ⟨?_, ?_⟩
      · dsimp only; intro p hp; rw [List.push_toArray]; exact hp
      · dsimp only; intro p hp; rcases List.mem_cons.mp hp with rfl | hp
        · exact hI1
        · rcases List.mem_cons.mp hp with rfl | hp
          · exact hI2
          · exact hoff p (List.Mem.tail _ (List.Mem.tail _ hp))
      · intro z hzx h2 h3; show (if z = Str.ofString "x" then _ else kstB _ _ z) = _; rw [if_neg hzx]; exact same_off h3 (fun p hp => by cases hp)
      · dsimp only; rw [hsn, List.filter_append]; refine StrsAre.append' hy ?_; simp [*]; exact .cons _ _ .nil
      · dsimp only; rw [hsn, List.filter_append]; simpa [*] using hz
    · refine led_end (⟨vy, yn, vz ++ [.str wd tw], zn + 1⟩ : SpC) (by k_asm) (by k_asm) ?_ ?_ (fun p hp => by cases hp) ?_ ⟨?_, ?_⟩
      · dsimp only; intro p hp; rw [List.push_toArray]; exact hp
      · dsimp only; intro p hp; rcases List.mem_cons.mp hp with rfl | hp
        · exact hI1
        · rcases List.mem_cons.mp hp with rfl | hp
          · exact hI2
          · exact hoff p (List.Mem.tail _ (List.Mem.tail _ hp))
      · intro z hzx h2 h3; show (if z = Str.ofString "x" then _ else kstB _ _ z) = _; rw [if_neg hzx]; exact same_off h3 (fun p hp => by cases hp)
      · dsimp only; rw [hsn, List.filter_append]; simpa [*] using hy
      · dsimp only; rw [hsn, List.filter_append]; refine StrsAre.append' hz ?_; simp [*]; exact .cons _ _ .nil
  case done =>
    rintro ⟨vy, yn, vz, zn⟩ u h2 tk2 ⟨hy, hz⟩ F2 N2
    dsimp only at hy hz F2 N2 ⊢
    rw [hws.length, List.take_length] at hy hz
    clear lF lN
    (repeat' (first | (k_unfold; (try dsimp only)) | (unfold LedPost; dsimp only) | walk1 | (dsimp only; walk1)))
    rename_i D5 _ _ _ lD kF kN _ _
    refine hret _ [(D5, ({ cls := .type "tuple", data := .seq #[.ref ya, .ref za] } : Obj)), (za, listOf vz.toArray zn), (ya, listOf vy.toArray yn)] _ _ kF ?_ ?_ rfl ?_
    · intro q hq
      refine kN q ?_
      rcases List.mem_append.mp hq with hq | hq
      · exact .tail _ (.tail _ (.tail _ hq))
      · exact (List.mem_append_left news hq : q ∈ [_, _, _] ++ news)
    · intro q hq r hr
      rcases List.mem_cons.mp hr with rfl | hr
      · exact ktn_ltOf lD.2.2 q hq
      · rcases List.mem_cons.mp hr with rfl | hr
        · exact hmem q hq
        · rcases List.mem_cons.mp hr with rfl | hr
          · exact lya q hq
          · cases hr
    · exact ⟨news, D5, ya, yn, za, zn, vy, vz, rfl, rfl, hy, hz⟩)
end Mine
end
section
open PySem PySem.W PyProof.Rows
namespace Mine
/-- a list of lists of texts in the ledger -/
def DrawsIn (news : List (Addr × Obj)) (v : Value) (xss : List (List Str)) : Prop := ∃ a vs k, v = .ref a ∧ (a, listOf (List.toArray vs) k) ∈ news ∧ ListsIn news vs xss
end Mine
end
section
open PySem PySem.W PyProof.Rows
namespace Mine
def drawF (n : Int) : Nat → List Str → List (List Str)
  | 0, _ => []
  | _ + 1, [] => []
  | f + 1, x :: r => (x :: r.filter fun y => matchS (cramS x n) y) :: drawF n f (r.filter fun y => !matchS (cramS x n) y)
def drawS (xs : List Str) (n : Int) : List (List Str) := drawF n xs.length xs
theorem drawF_fuel (n : Int) : ∀ (f g : Nat) (xs : List Str), xs.length ≤ f → xs.length ≤ g → drawF n f xs = drawF n g xs := by
  intro f
  induction f with
  | zero => intro g xs h _; cases xs with
    | nil => cases g <;> rfl
    | cons _ _ => simp at h
  | succ f ih => intro g xs h1 h2; cases xs with
    | nil => cases g <;> rfl
    | cons x r => cases g with
      | zero => simp at h2
      | succ g =>
        simp only [List.length_cons] at h1 h2
        have := List.length_filter_le (fun y => !matchS (cramS x n) y) r
        simp only [drawF]
        rw [ih g _ (by omega) (by omega)]
theorem drawS_cons (n : Int) (x : Str) (r : List Str) : drawS (x :: r) n = (x :: r.filter fun y => matchS (cramS x n) y) :: drawS (r.filter fun y => !matchS (cramS x n) y) n := by
  have := List.length_filter_le (fun y => !matchS (cramS x n) y) r
  simp only [drawS, List.length_cons, drawF]
  rw [drawF_fuel n r.length _ _ (by omega) (Nat.le_refl _)]
theorem list_nc {z a b : Str} (h : [a, b].contains z = false) : z ≠ a ∧ z ≠ b := by
  constructor <;> (intro e; subst e; simp at h)
/-- the table of the lambda's code: empty, or laid once -/
def TabOk (news : List (Addr × Obj)) (ps : Array Value) : Prop :=
  ps = #[] ∨ ∃ c oc vs t, ps = #[rawInt 97, rawInt 47, .ref c] ∧ (c, oc) ∈ news ∧ oc.data = .fields vs ∧ vs[1]? = some (.str (Str.ofString "_law_drawers" ++ Str.ofString ".<locals>." ++ Str.ofString "<lambda>") t)
theorem TabOk.mono {news news' : List (Addr × Obj)} {ps : Array Value} (h : TabOk news ps) (hs : ∀ q ∈ news, q ∈ news') : TabOk news' ps := by
  rcases h with h | ⟨c, oc, vs, t, h1, h2, h3⟩
  · exact .inl h
  · exact .inr ⟨c, oc, vs, t, h1, hs _ h2, h3⟩
theorem lam_of {h₀ h : Heap} {L f : Addr} {fo : Obj} {rest : List (Addr × Obj)} {R : Prop} (_N : News h₀ L h ((f, fo) :: rest)) (k : ∀ g : Addr × Obj, g = (f, fo) → R) : R := k _ rfl
structure DrC where
  dvs : List Value
  dn : Nat
  dss : List (List Str)
  tl : List (Addr × Obj)
  la : Addr
  lvs : List Value
  lk : Nat
  lxs : List Str
  oc : Obj
  cv : Option Value
  ps : Array Value
structure DrInv (news : List (Addr × Obj)) (tps : Array Value) (L' dl : Addr) (xs : List Str) (n : Int) (c : DrC) : Prop where
  cell : c.oc.data = .cell c.cv
  lists : ListsIn (c.tl ++ news) c.dvs c.dss
  left : (c.la, listOf c.lvs.toArray c.lk) ∈ c.tl ++ news
  lstrs : StrsAre c.lvs c.lxs
  tab : TabOk (c.tl ++ news) c.ps
  stay : c.ps = tps ∨ TabOk c.tl c.ps
  offd : ∀ q ∈ c.tl ++ news, q.1 ≠ dl
  offc : ∀ q ∈ c.tl ++ news, q.1 ≠ L' + 1
  off75 : ∀ q ∈ c.tl ++ news, q.1 ≠ 75
  high : ∀ q ∈ c.tl, L' < q.1
  few : c.lxs.length + c.dss.length ≤ 8
  short : ∀ x ∈ c.lxs, x.length ≤ 10
  goes : c.dss ++ drawS c.lxs n = drawS xs n
theorem cons_ne {q0 : Addr × Obj} {l : List (Addr × Obj)} {X : Addr} (h : q0.1 ≠ X) (t : ∀ q ∈ l, q.1 ≠ X) : ∀ q ∈ q0 :: l, q.1 ≠ X := fun q hq => by
  rcases List.mem_cons.mp hq with rfl | hq
  · exact h
  · exact t q hq
theorem cons_gt {q0 : Addr × Obj} {l : List (Addr × Obj)} {X : Addr} (h : X < q0.1) (t : ∀ q ∈ l, X < q.1) : ∀ q ∈ q0 :: l, X < q.1 := fun q hq => by
  rcases List.mem_cons.mp hq with rfl | hq
  · exact h
  · exact t q hq
structure DrMid (news tl tl8 : List (Addr × Obj)) (tps : Array Value) (L' dl za ya : Addr) (vz vy : List Value) (zn yn : Nat) (PS : Array Value) : Prop where
  hz : (za, listOf vz.toArray zn) ∈ tl8 ++ news
  hy : (ya, listOf vy.toArray yn) ∈ tl8 ++ news
  mono : ∀ q ∈ tl ++ news, q ∈ tl8 ++ news
  tab : TabOk (tl8 ++ news) PS
  stay : PS = tps ∨ TabOk tl8 PS
  offd : ∀ q ∈ tl8 ++ news, q.1 ≠ dl
  offc : ∀ q ∈ tl8 ++ news, q.1 ≠ L' + 1
  off75 : ∀ q ∈ tl8 ++ news, q.1 ≠ 75
  high : ∀ q ∈ tl8, L' < q.1
local macro_rules | `(tactic| k_mem) => `(tactic| first | assumption | (refine List.Mem.tail _ ?_; first | assumption | (refine List.Mem.tail _ ?_; first | assumption | (refine List.Mem.tail _ ?_; first | assumption | (refine List.Mem.tail _ ?_; first | assumption | (refine List.Mem.tail _ ?_; first | assumption | (refine List.Mem.tail _ ?_; first | assumption | (refine List.Mem.tail _ ?_; assumption))))))))
local macro_rules | `(tactic| k_all) => `(tactic| first | assumption | exact all_low (by assumption) (by omega))
set_option maxRecDepth 100000 in
set_option maxHeartbeats 8000000 in
theorem tells_drawers (w : World) (p : Program) (loose : List Str) (mean : ExcName → Option Value) (mg mb : Str → Option Value) (dp un : Nat) (gd : Option (List Code)) (cn : Str) (cs : Scope) (a : Addr) (ccd : Value) (cl : List (Str × Addr)) (outer : List Env) (A₀ : Around) (base h₀ : Heap) (L : Addr) (m : Str → Option Value) (news : List (Addr × Obj)) (tps : Array Value) (s : Shared) (a0 : Addr) (t1 : Tok) (ws : List Value) (k : Nat) (xs : List Str) (n : Int)
    (Q E : Value → Shared → Prop) (B : Below A₀ base outer h₀) (F : Fr h₀ L s.heap m) (X : (hd.heap_39 w.params).In h₀) (N : News h₀ L s.heap ((75, tabObj tps) :: news)) (T : Top p loose mean mg mb h₀) (hk : cs.kind = .function) (C : CodeHd h₀ 79 75) (htab : TabOk news tps) (h75 : ∀ q ∈ news, q.1 ≠ 75)
    (ha0 : (a0, listOf ws.toArray k) ∈ news) (hws : StrsAre ws xs) (o1 : ∀ x ∈ xs, x.length ≤ 10) (o2 : -1 ≤ n) (o3 : n ≤ 10) (o4 : xs.length ≤ 8) (hd : dp + 4 < recursionLimit) (hu : un + 8 * 4 < cLine)
    (hret : ∀ r ps' tl h' tk', Fr h₀ L h' m → News h₀ L h' ((75, tabObj ps') :: (news ++ tl)) → (ps' = tps ∨ TabOk tl ps') → (∀ q ∈ news, ∀ p ∈ tl, q.1 < p.1) → (∀ p ∈ tl, 75 < p.1) → DrawsIn (news ++ tl) r (drawS xs n) → Q r { s with heap := h', toks := tk' }) :
    wpAny (model Challenge.rw_mq0140_01.row.prog w) (ktrTop dp un gd cn cs L a ccd cl outer) (call (.ref 80) [.ref a0, .int n t1]) Q E s := by
  w_strict (
  w_top off
  revert X; k_fill; intro X
  refine wpAny_call ?_
  k_dflt (refine' code_defC ?k1 ?k2 ?k3 ?k4 ?k5 ?kA ?kF ?kK ?k6 ?k7 ?k8 ?k9 ?kB ?kD ?_ ?c2 ?c3 ?c4; (case kA => exact rfl); (case kF => exact rfl); (case kK => assumption); (case k1 => k_asm); (case k2 => k_asm); (case k3 => k_asm); (case k4 => k_asm); (case k5 => k_asm); (case k6 => k_is); (case k7 => k_is); (case k8 => ktr_room); (case k9 => exact BindsTo.of_eq rfl); (case kB => exact rfl); (case kD => decide +kernel); (case c2 => exact rfl); (case c3 => exact rfl); (case c4 => exact rfl); k_whole; intro g' L' h' tk' cells' FG' F' N' Y' B' X' T' l1; have hY := CellsAre.one Y'; obtain ⟨o1', hE', d1'⟩ := hY; subst hE'; clear Y'; (try simp only [List.cons_append, List.nil_append] at N'); (try dsimp only); (try k_fold))
  replace d1' : o1'.data = .cell none := d1'
  have C' : CodeHd g' 79 75 := C.keeps FG'.keep
  k_with_none
  k_with "exec While Name cons nil" => refine stop_here ?_
  (repeat' (first | (k_unfold; (try dsimp only)) | (unfold LedPost; dsimp only) | walk1 | (dsimp only; walk1)))
  refine Stop.out ?_
  rename_i dl _ ldl D _ lD _ _ _ hF hN
  have hL75 : @LT.lt Nat _ 75 L' := l1 _ (List.Mem.head _)
  have hnL : ∀ q ∈ news, q.1 < L' := fun q hq => l1 q (List.Mem.tail _ hq)
  k_dflt (refine' ksw_while (σ := DrC) (fun c => (dl, listOf (List.toArray c.dvs) c.dn) :: (L' + 1, c.oc) :: (75, tabObj c.ps) :: (c.tl ++ news)) (fun c => [(Str.ofString "left", .ref c.la)]) (fun _ => True) [Str.ofString "inside", Str.ofString "others"] (DrInv news tps L' dl xs n) (fun c => c.lxs.length) ⟨[], 0, [], [], a0, ws, k, xs, o1', none, tps⟩ hF (cb_drop hN ?kn) ?kf ?kk ?kp ?_ ?kE)
  case kn => (dsimp only [List.nil_append]; intro p hp; exact .tail _ hp)
  case kf => trivial
  case kk => intro p hp; cases hp with
    | head => rfl
    | tail _ h => cases h
  case kp =>
    refine ⟨d1', .nil, ha0, hws, htab, .inl rfl, ?_, ?_, h75, fun q hq => absurd hq List.not_mem_nil, ?_, o1, ?_⟩
    · exact all_low hnL (by have := ldl.1; omega)
    · exact all_low hnL (by omega)
    · dsimp only [List.length_nil]; omega
    · rfl
  case kE => (first | passes_own | with_unfolding_all passes_own)
  rintro ⟨dvs, dn, dss, tl, la, lvs, lk, lxs, oc, cv, ps⟩ u h tk - hinv F1 N1
  have hinv' := hinv
  obtain ⟨hcell, hlists, hleft, hstrs, htb, hstay, hoffd, hoffc, hoff75, hhigh, hfew, hshort, hgoes⟩ := hinv'
  dsimp only at hcell hlists hleft hstrs htb hstay hoffd hoffc hoff75 hhigh hfew hshort hgoes F1 N1 ⊢
  clear hF hN lD
  have hlr := hstrs.length
  k_with "truthy ref" => (k_here; k_dflt (refine' truthy_led ?N ?m ?z ?b ?_; (case N => k_asm); (case m => k_mem); (case z => (simp only [List.length_cons, List.length_nil] at *; omega)); (case b => first | exact decide_eq_true (Nat.succ_pos _) | exact (rfl : decide (0 < 0) = false))); intro _)
  k_with "subscriptTail Name Constant ref int" => (k_here; k_dflt (refine' kim_list (k := 0) ?N ?m ?c ?d ?h0 ?h1 ?x ?_ ?s ?t; (case N => k_asm); (case m => k_mem); (case c => rfl); (case d => rfl); (case h0 => decide); (case h1 => decide); (case x => rfl); (case s => with_unfolding_all rfl); (case t => (intro _; with_unfolding_all rfl))))
  k_with "subscriptTail Name Slice ref ref" => (k_here; k_dflt (refine' kmk_slice_lit ?zF ?zN ?zl ?zp ?zq ?ze ?_ ?zs ?zt ?zz; (case zF => k_asm); (case zN => k_asm); (case zl => exact News.isList (by k_asm) (by k_mem)); (case zp => kmk_part); (case zq => kmk_part); (case ze => exact pick_tail _ _); (case zs => with_unfolding_all rfl); (case zt => kmk_pure); (case zz => (rw [List.size_toArray, List.length_cons, sizeLine_eq]; simp only [List.length_cons] at *; omega))); intro D6' h6' F6' N6' l6'; (try k_lt l6'))
  cases hstrs with
  | nil =>
    (repeat' (first | (k_unfold; (try dsimp only)) | (unfold LedPost; dsimp only) | walk1 | (dsimp only; walk1)))
    (rename News h₀ L _ _ => kN)
    refine hret _ ps ((dl, listOf dvs.toArray dn) :: tl) _ _ (by k_asm) ?_ ?_ ?_ ?_ ?_
    · refine cb_drop kN (fun q hq => ?_)
      simp only [List.mem_cons, List.mem_append] at hq ⊢
      rcases hq with h | h | h | h <;> simp [h]
    · exact hstay.imp id fun h => h.mono fun q hq => .tail _ hq
    · intro q hq p hp
      rcases List.mem_cons.mp hp with rfl | hp
      · exact Nat.lt_trans (hnL q hq) (by have := ldl.1; omega)
      · exact Nat.lt_trans (hnL q hq) (hhigh p hp)
    · intro p hp
      rcases List.mem_cons.mp hp with rfl | hp
      · (show @LT.lt Nat _ 75 dl); have := ldl.1; omega
      · exact Nat.lt_trans hL75 (hhigh p hp)
    · refine ⟨dl, dvs, dn, rfl, by simp, ?_⟩
      have e : dss = drawS xs n := by rw [← hgoes]; simp [drawS, drawF]
      rw [← e]
      exact hlists.mono (fun q hq => by simp only [List.mem_cons, List.mem_append] at hq ⊢; rcases hq with h | h <;> simp [h])
  | cons x tx hr =>
    rename_i lr xr
    have hx10 := hshort x List.mem_cons_self
    k_with "call ref" => refine stop_here ?_
    k_with "call ref" => (k_here; (with_reducible show wpAny _ _ (call (Value.ref 28) _) _ _ _); k_dflt (refine' tellsN_use ?k1 ?k2 ?k3 ?k4 ?k5 ?kK ?kR (tells_cram _ _ _ _ _ _ (x, n)) ?ko ?kd ?ku ?_; (case k1 => k_asm); (case k2 => k_asm); (case k3 => k_asm); (case k4 => k_asm); (case k5 => k_asm); (case kK => first | exact rfl | assumption); (case kR => exact ⟨_, _, rfl⟩); (case ko => (refine ⟨?_, ?_, ?_⟩ <;> dsimp only <;> omega)); (case kd => first | ktr_room | ((simp only [recursionLimit] at *); (try dsimp only at *); omega)); (case ku => ktr_units); intro r9 tl9 h9 tk9 F9 N9 hl9 ht9 ho9; (obtain ⟨u9, e9⟩ := ho9; subst e9; subst ht9; rw [List.append_nil] at N9; clear hl9); (try dsimp only); (try k_fold)))
    rcases htb with rfl | ⟨c8, oc8, vs8, t8, rfl, hm8, hd8, hv8⟩
    · (repeat' (first | (k_unfold; (try dsimp only)) | (unfold LedPost; dsimp only) | walk1 | (dsimp only; walk1)))
      refine Stop.out ?_
      rename_i o8 _ _ d8 f8 c8 oc8 vs8 t8 ct8 h8 tk8 F8 N8 hd8 hv8 l8 l8'
      refine lam_of N8 ?_
      intro g8 hg8
      have hf : TellsH w p loose mean mg mb f8 (predT [g8, (L' + 1, o8), (c8, oc8)] (fun y => matchS (cramS x n) y)) := by
        subst hg8
        clear hret hgoes hinv
        unfold TellsH; unfold TellsN
        intro xd dp un gd cn cs a ccd cl outer A₀ base h₀ L m news s vs Q E B F X N T hk hR hok hd hu hret
        obtain ⟨hled, t9, rfl⟩ := hR
        have hn1 := hled _ (List.Mem.head _)
        have hn2 := hled _ (List.Mem.tail _ (List.Mem.head _))
        have hn3 := hled _ (List.Mem.tail _ (List.Mem.tail _ (List.Mem.head _)))
        refine wpAny_call ?_
        k_dflt (refine' kla_code ?k1 ?k2 ?k3 ?k4 ?k5 ?kA ?kF ?kK ?k6 ?k7 ?k8 ?k9 ?kB ?_ ?c2 ?c3 ?c4 ?c5; (case kA => exact rfl); (case kF => exact rfl); (case kK => assumption); (case k1 => exact B); (case k2 => exact F); (case k3 => exact X); (case k4 => exact N); (case k5 => exact T); (case k6 => exact hn1); (case k7 => exact codeRec_news N hn3 hd8 hv8); (case k8 => ktr_room); (case k9 => exact rfl); (case c5 => decide); (case kB => exact locs rfl); (case c2 => exact rfl); (case c3 => exact rfl); (case c4 => exact rfl); k_whole; intro g2 L2 h2 FG2 F2 N2 B2 X2 T2; (try dsimp only); (try k_fold))
        k_with "call ref" => (k_here; (with_reducible show wpAny _ _ (call (Value.ref 42) _) _ _ _); k_dflt (refine' tellsN_use ?k1 ?k2 ?k3 ?k4 ?k5 ?kK ?kR (tells_match _ _ _ _ _ _ (cramS x n, xd)) ?ko ?kd ?ku ?_; (case k1 => k_asm); (case k2 => k_asm); (case k3 => k_asm); (case k4 => k_asm); (case k5 => k_asm); (case kK => first | exact rfl | assumption); (case kR => exact ⟨_, _, rfl⟩); (case ko => exact ⟨cramS_len10 hx10 o3, hok⟩); (case kd => first | ktr_room | ((simp only [recursionLimit] at *); (try dsimp only at *); omega)); (case ku => ktr_units); intro r9 tl9 h9 tk9 F9 N9 hl9 ht9 ho9; (replace ho9 : r9 = Value.bool (matchS (cramS x n) xd) := ho9; subst ho9; subst ht9; rw [List.append_nil] at N9; clear hl9); (try dsimp only); (try k_fold)))
        (repeat' (first | (k_unfold; (try dsimp only)) | (unfold LedPost; dsimp only) | walk1 | (dsimp only; walk1)))
        (refine hret _ [] _ _ (by k_asm) (ktn_tl0 (cb_drop (by k_asm) (by (intro p hp; repeat (first | exact hp | refine List.Mem.tail _ ?_))))) ktn_ord0 rfl ?_; exact out_bool rfl)
      rw [← hg8] at N8
      (k_here; (with_reducible show wpAny _ _ (call (Value.ref 35) _) _ _ _); k_dflt (refine' tellsN_use ?k1 ?k2 ?k3 ?k4 ?k5 ?kK ?kR (tells_split w p loose mean mg mb [g8, (L' + 1, o8), (c8, oc8)] f8 _ hf xr) ?ko ?kd ?ku ?_; (case k1 => k_asm); (case k2 => k_asm); (case k3 => k_asm); (case k4 => k_asm); (case k5 => k_asm); (case kK => first | exact rfl | assumption); (case kR => exact ⟨fun q hq => by simp only [List.mem_cons, List.not_mem_nil, or_false] at hq; rcases hq with h | h | h; (simp [h]); (simp [h]); (rw [h]; k_mem), ⟨_, _, _, _, List.mem_cons.mpr (.inl hg8.symm)⟩, D6', lr, 0, rfl, by k_mem, hr⟩); (case ko => exact ⟨fun y hy => hshort y (List.mem_cons_of_mem _ hy), by simp only [List.length_cons] at hfew; omega⟩); (case kd => first | ktr_room | ((simp only [recursionLimit] at *); (try dsimp only at *); omega)); (case ku => ktr_units); intro r9 tl9 h9 tk9 F9 N9 hl9 ht9 ho9; (obtain ⟨old9, a9, ya, yn, za, zn, vy, vz, e9, rfl, hvy, hvz⟩ := ho9; (have hq9 := (List.append_inj' e9 (by rw [ht9]; rfl)).2); subst hq9); (try dsimp only); (try k_fold)))
      have hlt : ∀ q ∈ [(dl, listOf dvs.toArray dn), (L' + 1, o8), (75, tabObj (#[] ++ #[rawInt 97, rawInt 47, .ref c8]))], @LT.lt Nat _ q.1 a9 ∧ @LT.lt Nat _ q.1 za ∧ @LT.lt Nat _ q.1 ya := fun q hq => by
        have hq' := List.Mem.tail g8 (List.Mem.tail (c8, oc8) (List.Mem.tail (D6', listOf lr.toArray 0) (List.mem_append_left (tl ++ news) hq)))
        exact ⟨hl9 q hq' _ (List.Mem.head _), hl9 q hq' _ (List.Mem.tail _ (List.Mem.head _)), hl9 q hq' _ (List.Mem.tail _ (List.Mem.tail _ (List.Mem.head _)))⟩
      obtain ⟨ld1, ld2, ld3⟩ := hlt _ (List.Mem.head _)
      obtain ⟨lc1, lc2, lc3⟩ := hlt _ (List.Mem.tail _ (List.Mem.head _))
      obtain ⟨lt1, lt2, lt3⟩ := hlt _ (List.Mem.tail _ (List.Mem.tail _ (List.Mem.head _)))
      clear hlt
      dsimp only at ld1 ld2 ld3 lc1 lc2 lc3 lt1 lt2 lt3
      have lcc : @LT.lt Nat _ dl c8 ∧ @LT.lt Nat _ (L' + 1) c8 ∧ @LT.lt Nat _ 75 c8 := ⟨l8.2.1, l8.2.2.1, l8.2.2.2.1⟩
      obtain ⟨tl8, hmid, N10⟩ : ∃ tl8, DrMid news tl tl8 tps L' dl za ya vz vy zn yn (#[] ++ #[rawInt 97, rawInt 47, .ref c8]) ∧ News g' L' h9 ((a9, ({ cls := .type "tuple", data := .seq #[.ref ya, .ref za] } : Obj)) :: (dl, listOf dvs.toArray dn) :: (L' + 1, o8) :: (75, tabObj (#[] ++ #[rawInt 97, rawInt 47, .ref c8])) :: (tl8 ++ news)) := by
        refine ⟨(za, listOf vz.toArray zn) :: (ya, listOf vy.toArray yn) :: (c8, oc8) :: tl, ⟨.head _, .tail _ (.head _), fun q hq => .tail _ (.tail _ (.tail _ hq)), .inr ⟨c8, oc8, vs8, t8, by simp, .tail _ (.tail _ (.head _)), hd8, hv8⟩, .inr (.inr ⟨c8, oc8, vs8, t8, by simp, .tail _ (.tail _ (.head _)), hd8, hv8⟩), ?_, ?_, ?_, ?_⟩, ?_⟩
        · exact cons_ne (Nat.ne_of_gt ld2) (cons_ne (Nat.ne_of_gt ld3) (cons_ne (Nat.ne_of_gt lcc.1) hoffd))
        · exact cons_ne (Nat.ne_of_gt lc2) (cons_ne (Nat.ne_of_gt lc3) (cons_ne (Nat.ne_of_gt lcc.2.1) hoffc))
        · exact cons_ne (Nat.ne_of_gt lt2) (cons_ne (Nat.ne_of_gt lt3) (cons_ne (Nat.ne_of_gt lcc.2.2) hoff75))
        · exact cons_gt (Nat.lt_trans (Nat.lt_succ_self _) lc2) (cons_gt (Nat.lt_trans (Nat.lt_succ_self _) lc3) (cons_gt (Nat.lt_trans (Nat.lt_succ_self _) lcc.2.1) hhigh))
        · refine cb_drop N9 (fun q hq => ?_)
          simp only [List.mem_cons, List.mem_append, List.cons_append, List.not_mem_nil, or_false] at hq ⊢
          rcases hq with h | h | h | h | h | h | h | h | h <;> simp [h]
      obtain ⟨hmz, hmy, hmo, hmt, hms, hmd, hmc, hm7, hmh⟩ := hmid
      replace hleft := hmo _ hleft
      have hlists8 := hlists.mono hmo
      clear e9 hl9 ht9 hlists hoffd hoffc hoff75 hhigh N9
      k_with "binaryOp Add ref ref" => (k_here; k_dflt (refine' kmk_add_lit ?zF ?zN ?zl ?zp ?ze ?_ ?zz; (case zF => k_asm); (case zN => k_asm); (case zl => exact News.isList (by k_asm) (by k_mem)); (case zp => exact News.isList (by k_asm) (by k_mem)); (case ze => exact rfl); (case zz => (simp only [sizeLine_eq]; have := hvy.length; have := List.length_filter_le (fun y => matchS (cramS x n) y) xr; simp at *; omega))); intro D5' h5' F5' N5' l5'; (try k_lt l5'))
      have hdn : dvs.length ≤ 8 := by (rw [hlists8.length]; omega)
      have hdc : @LT.lt Nat _ (L' + 1) dl := by (have := ldl.1; omega)
      have hd75 : @LT.lt Nat _ 75 dl := by omega
      k_with "call builtin:list.append" => (k_here; (with_reducible show wpAny _ _ (call (Value.builtin _) [Value.ref _, _]) _ _ _); k_dflt (refine' append_K ?k1 ?k2 ?k3 ?_ ?z; (case k1 => k_asm); (case k2 => k_asm); (case k3 => k_upd); (case z => (rw [List.size_toArray, sizeLine_eq]; omega)); k_whole); intro h5' F5' N5'; (try dsimp only))
      (repeat' (first | (k_unfold; (try dsimp only)) | (unfold LedPost; dsimp only) | walk1 | (dsimp only; walk1)))
      refine ksw_end (⟨dvs ++ [.ref D5'], dn + 1, dss ++ [x :: xr.filter fun y => matchS (cramS x n) y], (D5', listOf ([Value.str x tx] ++ vy).toArray 0) :: tl8, za, vz, zn, xr.filter fun y => !matchS (cramS x n) y, o8, _, #[] ++ #[rawInt 97, rawInt 47, .ref c8]⟩ : DrC) (by k_asm) (by k_asm) ?_ trivial ?_ ?_ ⟨d8, ?_, ?_, hvz, ?_, ?_, ?_, ?_, ?_, ?_, ?_, ?_, ?_⟩ ?_
      · dsimp only; intro p hp; rw [List.push_toArray]; simp only [List.mem_cons, List.cons_append] at hp ⊢; rcases hp with h | h | h | h | h <;> simp [h]
      · intro p hp; cases hp with
        | head => rfl
        | tail _ h => cases h
      · intro z h2 h3
        have hz := h2 _ List.mem_cons_self
        have hz2 := (list_nc h3 : z ≠ Str.ofString "inside" ∧ z ≠ Str.ofString "others")
        show (if z = Str.ofString "left" then _ else if z = Str.ofString "others" then _ else if z = Str.ofString "inside" then _ else kstB _ _ z) = _
        rw [if_neg hz, if_neg hz2.2, if_neg hz2.1]
        exact same_off h3 (fun p hp => by cases hp with | head => exact hz | tail _ h => cases h)
      · exact (hlists8.mono fun q hq => .tail _ hq).append (.cons (.head _) (.cons _ _ hvy) .nil)
      · exact .tail _ hmz
      · exact hmt.mono fun q hq => .tail _ hq
      · exact hms.imp id fun h => h.mono fun q hq => .tail _ hq
      · exact cons_ne (Nat.ne_of_gt (by omega)) hmd
      · exact cons_ne (Nat.ne_of_gt (by omega)) hmc
      · exact cons_ne (Nat.ne_of_gt (by omega)) hm7
      · exact cons_gt (by (show @LT.lt Nat _ L' D5'); omega) hmh
      · (have := List.length_filter_le (fun y => !matchS (cramS x n) y) xr); simp only [List.length_append, List.length_cons, List.length_nil] at hfew ⊢; omega
      · exact fun y hy => hshort y (List.mem_cons_of_mem _ (List.mem_filter.mp hy).1)
      · (show (dss ++ [_]) ++ drawS _ n = _); rw [← hgoes, drawS_cons, List.append_assoc]; rfl
      · (have := List.length_filter_le (fun y => !matchS (cramS x n) y) xr); simp only [List.length_cons]; omega
    · k_with "subscriptTail Name Constant ref int" => (k_here; k_dflt (refine' kim_list (k := 0) ?yN ?ym ?yc ?yd ?yh0 ?yh1 ?yx ?_ ?ys ?yt; (case yN => k_asm); (case ym => k_mem); (case yc => rfl); (case yd => rfl); (case yh0 => decide); (case yh1 => decide); (case yx => rfl); (case ys => with_unfolding_all rfl); (case yt => (intro _; with_unfolding_all rfl))))
      k_with "call ref" => refine stop_here ?_
      k_with "call ref" => (k_here; (with_reducible show wpAny _ _ (call (Value.ref 28) _) _ _ _); k_dflt (refine' tellsN_use ?k1 ?k2 ?k3 ?k4 ?k5 ?kK ?kR (tells_cram _ _ _ _ _ _ (x, n)) ?ko ?kd ?ku ?_; (case k1 => k_asm); (case k2 => k_asm); (case k3 => k_asm); (case k4 => k_asm); (case k5 => k_asm); (case kK => first | exact rfl | assumption); (case kR => exact ⟨_, _, rfl⟩); (case ko => (refine ⟨?_, ?_, ?_⟩ <;> dsimp only <;> omega)); (case kd => first | ktr_room | ((simp only [recursionLimit] at *); (try dsimp only at *); omega)); (case ku => ktr_units); intro r9 tl9 h9 tk9 F9 N9 hl9 ht9 ho9; (obtain ⟨u9, e9⟩ := ho9; subst e9; subst ht9; rw [List.append_nil] at N9; clear hl9); (try dsimp only); (try k_fold)))
      (repeat' (first | (k_unfold; (try dsimp only)) | (unfold LedPost; dsimp only) | walk1 | (dsimp only; walk1)))
      refine Stop.out ?_
      rename_i o8 _ _ d8 f8 ct8 h8 tk8 F8 N8 l8
      refine lam_of N8 ?_
      intro g8 hg8
      have hf : TellsH w p loose mean mg mb f8 (predT [g8, (L' + 1, o8), (c8, oc8)] (fun y => matchS (cramS x n) y)) := by
        subst hg8
        clear hret hgoes hinv
        unfold TellsH; unfold TellsN
        intro xd dp un gd cn cs a ccd cl outer A₀ base h₀ L m news s vs Q E B F X N T hk hR hok hd hu hret
        obtain ⟨hled, t9, rfl⟩ := hR
        have hn1 := hled _ (List.Mem.head _)
        have hn2 := hled _ (List.Mem.tail _ (List.Mem.head _))
        have hn3 := hled _ (List.Mem.tail _ (List.Mem.tail _ (List.Mem.head _)))
        refine wpAny_call ?_
        k_dflt (refine' kla_code ?k1 ?k2 ?k3 ?k4 ?k5 ?kA ?kF ?kK ?k6 ?k7 ?k8 ?k9 ?kB ?_ ?c2 ?c3 ?c4 ?c5; (case kA => exact rfl); (case kF => exact rfl); (case kK => assumption); (case k1 => exact B); (case k2 => exact F); (case k3 => exact X); (case k4 => exact N); (case k5 => exact T); (case k6 => exact hn1); (case k7 => exact codeRec_news N hn3 hd8 hv8); (case k8 => ktr_room); (case k9 => exact rfl); (case c5 => decide); (case kB => exact locs rfl); (case c2 => exact rfl); (case c3 => exact rfl); (case c4 => exact rfl); k_whole; intro g2 L2 h2 FG2 F2 N2 B2 X2 T2; (try dsimp only); (try k_fold))
        k_with "call ref" => (k_here; (with_reducible show wpAny _ _ (call (Value.ref 42) _) _ _ _); k_dflt (refine' tellsN_use ?k1 ?k2 ?k3 ?k4 ?k5 ?kK ?kR (tells_match _ _ _ _ _ _ (cramS x n, xd)) ?ko ?kd ?ku ?_; (case k1 => k_asm); (case k2 => k_asm); (case k3 => k_asm); (case k4 => k_asm); (case k5 => k_asm); (case kK => first | exact rfl | assumption); (case kR => exact ⟨_, _, rfl⟩); (case ko => exact ⟨cramS_len10 hx10 o3, hok⟩); (case kd => first | ktr_room | ((simp only [recursionLimit] at *); (try dsimp only at *); omega)); (case ku => ktr_units); intro r9 tl9 h9 tk9 F9 N9 hl9 ht9 ho9; (replace ho9 : r9 = Value.bool (matchS (cramS x n) xd) := ho9; subst ho9; subst ht9; rw [List.append_nil] at N9; clear hl9); (try dsimp only); (try k_fold)))
        (repeat' (first | (k_unfold; (try dsimp only)) | (unfold LedPost; dsimp only) | walk1 | (dsimp only; walk1)))
        (refine hret _ [] _ _ (by k_asm) (ktn_tl0 (cb_drop (by k_asm) (by (intro p hp; repeat (first | exact hp | refine List.Mem.tail _ ?_))))) ktn_ord0 rfl ?_; exact out_bool rfl)
      rw [← hg8] at N8
      (k_here; (with_reducible show wpAny _ _ (call (Value.ref 35) _) _ _ _); k_dflt (refine' tellsN_use ?k1 ?k2 ?k3 ?k4 ?k5 ?kK ?kR (tells_split w p loose mean mg mb [g8, (L' + 1, o8), (c8, oc8)] f8 _ hf xr) ?ko ?kd ?ku ?_; (case k1 => k_asm); (case k2 => k_asm); (case k3 => k_asm); (case k4 => k_asm); (case k5 => k_asm); (case kK => first | exact rfl | assumption); (case kR => exact ⟨fun q hq => by simp only [List.mem_cons, List.not_mem_nil, or_false] at hq; rcases hq with h | h | h; (simp [h]); (simp [h]); (rw [h]; k_mem), ⟨_, _, _, _, List.mem_cons.mpr (.inl hg8.symm)⟩, D6', lr, 0, rfl, by k_mem, hr⟩); (case ko => exact ⟨fun y hy => hshort y (List.mem_cons_of_mem _ hy), by simp only [List.length_cons] at hfew; omega⟩); (case kd => first | ktr_room | ((simp only [recursionLimit] at *); (try dsimp only at *); omega)); (case ku => ktr_units); intro r9 tl9 h9 tk9 F9 N9 hl9 ht9 ho9; (obtain ⟨old9, a9, ya, yn, za, zn, vy, vz, e9, rfl, hvy, hvz⟩ := ho9; (have hq9 := (List.append_inj' e9 (by rw [ht9]; rfl)).2); subst hq9); (try dsimp only); (try k_fold)))
      have hlt : ∀ q ∈ [(dl, listOf dvs.toArray dn), (L' + 1, o8), (75, tabObj #[rawInt 97, rawInt 47, .ref c8])], @LT.lt Nat _ q.1 a9 ∧ @LT.lt Nat _ q.1 za ∧ @LT.lt Nat _ q.1 ya := fun q hq => by
        have hq' := List.Mem.tail g8 (List.Mem.tail (D6', listOf lr.toArray 0) (List.mem_append_left (tl ++ news) hq))
        exact ⟨hl9 q hq' _ (List.Mem.head _), hl9 q hq' _ (List.Mem.tail _ (List.Mem.head _)), hl9 q hq' _ (List.Mem.tail _ (List.Mem.tail _ (List.Mem.head _)))⟩
      obtain ⟨ld1, ld2, ld3⟩ := hlt _ (List.Mem.head _)
      obtain ⟨lc1, lc2, lc3⟩ := hlt _ (List.Mem.tail _ (List.Mem.head _))
      obtain ⟨lt1, lt2, lt3⟩ := hlt _ (List.Mem.tail _ (List.Mem.tail _ (List.Mem.head _)))
      clear hlt
      dsimp only at ld1 ld2 ld3 lc1 lc2 lc3 lt1 lt2 lt3
      obtain ⟨tl8, hmid, N10⟩ : ∃ tl8, DrMid news tl tl8 tps L' dl za ya vz vy zn yn #[rawInt 97, rawInt 47, .ref c8] ∧ News g' L' h9 ((a9, ({ cls := .type "tuple", data := .seq #[.ref ya, .ref za] } : Obj)) :: (dl, listOf dvs.toArray dn) :: (L' + 1, o8) :: (75, tabObj #[rawInt 97, rawInt 47, .ref c8]) :: (tl8 ++ news)) := by
        refine ⟨(za, listOf vz.toArray zn) :: (ya, listOf vy.toArray yn) :: tl, ⟨.head _, .tail _ (.head _), fun q hq => .tail _ (.tail _ hq), .inr ⟨c8, oc8, vs8, t8, rfl, .tail _ (.tail _ hm8), hd8, hv8⟩, hstay.imp id (fun h => h.mono fun q hq => .tail _ (.tail _ hq)), ?_, ?_, ?_, ?_⟩, ?_⟩
        · exact cons_ne (Nat.ne_of_gt ld2) (cons_ne (Nat.ne_of_gt ld3) hoffd)
        · exact cons_ne (Nat.ne_of_gt lc2) (cons_ne (Nat.ne_of_gt lc3) hoffc)
        · exact cons_ne (Nat.ne_of_gt lt2) (cons_ne (Nat.ne_of_gt lt3) hoff75)
        · exact cons_gt (Nat.lt_trans (Nat.lt_succ_self _) lc2) (cons_gt (Nat.lt_trans (Nat.lt_succ_self _) lc3) hhigh)
        · refine cb_drop N9 (fun q hq => ?_)
          simp only [List.mem_cons, List.mem_append, List.cons_append, List.not_mem_nil, or_false] at hq ⊢
          rcases hq with h | h | h | h | h | h | h | h <;> simp [h]
      obtain ⟨hmz, hmy, hmo, hmt, hms, hmd, hmc, hm7, hmh⟩ := hmid
      replace hleft := hmo _ hleft
      have hlists8 := hlists.mono hmo
      clear e9 hl9 ht9 hlists hoffd hoffc hoff75 hhigh N9
      k_with "binaryOp Add ref ref" => (k_here; k_dflt (refine' kmk_add_lit ?zF ?zN ?zl ?zp ?ze ?_ ?zz; (case zF => k_asm); (case zN => k_asm); (case zl => exact News.isList (by k_asm) (by k_mem)); (case zp => exact News.isList (by k_asm) (by k_mem)); (case ze => exact rfl); (case zz => (simp only [sizeLine_eq]; have := hvy.length; have := List.length_filter_le (fun y => matchS (cramS x n) y) xr; simp at *; omega))); intro D5' h5' F5' N5' l5'; (try k_lt l5'))
      have hdn : dvs.length ≤ 8 := by (rw [hlists8.length]; omega)
      have hdc : @LT.lt Nat _ (L' + 1) dl := by (have := ldl.1; omega)
      have hd75 : @LT.lt Nat _ 75 dl := by omega
      k_with "call builtin:list.append" => (k_here; (with_reducible show wpAny _ _ (call (Value.builtin _) [Value.ref _, _]) _ _ _); k_dflt (refine' append_K ?k1 ?k2 ?k3 ?_ ?z; (case k1 => k_asm); (case k2 => k_asm); (case k3 => k_upd); (case z => (rw [List.size_toArray, sizeLine_eq]; omega)); k_whole); intro h5' F5' N5'; (try dsimp only))
      (repeat' (first | (k_unfold; (try dsimp only)) | (unfold LedPost; dsimp only) | walk1 | (dsimp only; walk1)))
      refine ksw_end (⟨dvs ++ [.ref D5'], dn + 1, dss ++ [x :: xr.filter fun y => matchS (cramS x n) y], (D5', listOf ([Value.str x tx] ++ vy).toArray 0) :: tl8, za, vz, zn, xr.filter fun y => !matchS (cramS x n) y, o8, _, #[rawInt 97, rawInt 47, .ref c8]⟩ : DrC) (by k_asm) (by k_asm) ?_ trivial ?_ ?_ ⟨d8, ?_, ?_, hvz, ?_, ?_, ?_, ?_, ?_, ?_, ?_, ?_, ?_⟩ ?_
      · dsimp only; intro p hp; rw [List.push_toArray]; simp only [List.mem_cons, List.cons_append] at hp ⊢; rcases hp with h | h | h | h | h <;> simp [h]
      · intro p hp; cases hp with
        | head => rfl
        | tail _ h => cases h
      · intro z h2 h3
        have hz := h2 _ List.mem_cons_self
        have hz2 := (list_nc h3 : z ≠ Str.ofString "inside" ∧ z ≠ Str.ofString "others")
        show (if z = Str.ofString "left" then _ else if z = Str.ofString "others" then _ else if z = Str.ofString "inside" then _ else kstB _ _ z) = _
        rw [if_neg hz, if_neg hz2.2, if_neg hz2.1]
        exact same_off h3 (fun p hp => by cases hp with | head => exact hz | tail _ h => cases h)
      · exact (hlists8.mono fun q hq => .tail _ hq).append (.cons (.head _) (.cons _ _ hvy) .nil)
      · exact .tail _ hmz
      · exact hmt.mono fun q hq => .tail _ hq
      · exact hms.imp id fun h => h.mono fun q hq => .tail _ hq
      · exact cons_ne (Nat.ne_of_gt (by omega)) hmd
      · exact cons_ne (Nat.ne_of_gt (by omega)) hmc
      · exact cons_ne (Nat.ne_of_gt (by omega)) hm7
      · exact cons_gt (by (show @LT.lt Nat _ L' D5'); omega) hmh
      · (have := List.length_filter_le (fun y => !matchS (cramS x n) y) xr); simp only [List.length_append, List.length_cons, List.length_nil] at hfew ⊢; omega
      · exact fun y hy => hshort y (List.mem_cons_of_mem _ (List.mem_filter.mp hy).1)
      · (show (dss ++ [_]) ++ drawS _ n = _); rw [← hgoes, drawS_cons, List.append_assoc]; rfl
      · (have := List.length_filter_le (fun y => !matchS (cramS x n) y) xr); simp only [List.length_cons]; omega)
end Mine
end
section
open PySem PySem.W PySem.Calls PyProof.Rows PyProof.V PySem.Spec
namespace Mine
section
variable {prog : Program} {w : World} {A : Around} {E : Value → Shared → Prop} {s : Shared} {env : Env} {h₀ : Heap} {x : Str} {px : Pos} {body : List Stmt} {Q : Flow → Shared → Prop}
/-- the end of a turn over a range, the turning name being a cell of the ledger -/
def RngEnd {σ : Type} (h₀ : Heap) (L : Addr) (s : Shared) (Led : σ → List (Addr × Obj)) (ps : σ → List (Str × Value)) (stored : List Str) (m₀ : Str → Option Value) (P : Nat → σ → Prop) (I : Addr) (oI : Obj) (i : Nat) (s₂ : Shared) : Prop :=
  ∃ (c' : σ) (h' : Heap) (tk : Nat) (m' : Str → Option Value) (news' : List (Addr × Obj)), s₂ = { s with heap := h', toks := tk } ∧ Fr h₀ L h' m' ∧ News h₀ L h' news' ∧ (∀ p ∈ (I, oI) :: Led c', p ∈ news') ∧ (∀ p ∈ Led c', p.1 ≠ I) ∧ (∀ p ∈ ps c', m' p.1 = some p.2) ∧ (∀ z, (∀ p ∈ ps c', z ≠ p.1) → stored.contains z = false → m' z = m₀ z) ∧ P i c'
def RngPost {σ : Type} (h₀ : Heap) (L : Addr) (s : Shared) (Led : σ → List (Addr × Obj)) (ps : σ → List (Str × Value)) (stored : List Str) (m₀ : Str → Option Value) (P : Nat → σ → Prop) (I : Addr) (oI : Obj) (i : Nat) (f : Flow) (s₂ : Shared) : Prop :=
  f = .next ∧ RngEnd h₀ L s Led ps stored m₀ P I oI i s₂
theorem rng_end {σ : Type} {L : Addr} {Led : σ → List (Addr × Obj)} {ps : σ → List (Str × Value)} {stored : List Str} {m₀ m' : Str → Option Value} {P : Nat → σ → Prop} {I : Addr} {oI : Obj} {i : Nat} {h' : Heap} {tk : Nat} {news' : List (Addr × Obj)} (c' : σ)
    (F : Fr h₀ L h' m') (N : News h₀ L h' news') (hn : ∀ p ∈ (I, oI) :: Led c', p ∈ news') (ho : ∀ p ∈ Led c', p.1 ≠ I) (hk : ∀ p ∈ ps c', m' p.1 = some p.2) (hr : ∀ z, (∀ p ∈ ps c', z ≠ p.1) → stored.contains z = false → m' z = m₀ z) (hp : P i c') :
    RngPost h₀ L s Led ps stored m₀ P I oI i .next { s with heap := h', toks := tk } := ⟨rfl, c', h', tk, m', news', rfl, F, N, hn, ho, hk, hr, hp⟩
theorem iter_rng {σ : Type} {r : Addr} {b₀ : Int} {n : Nat} {t₀ u₀ v₀ : Tok} {m₀ : Str → Option Value} (Led : σ → List (Addr × Obj)) (ps : σ → List (Str × Value)) (stored : List Str) (P : Nat → σ → Prop) (c₀ : σ)
    (hh : A.handled = none) (hr : IsRange s.heap r 0 b₀ 1 t₀ u₀ v₀) (hsmall : Builtin.Range.small 0 b₀ 1 = true) (hn : Builtin.Range.rangeSize 0 b₀ 1 = (n : Int)) (F : Fr h₀ env.locals s.heap m₀) (N : News h₀ env.locals s.heap (Led c₀)) (hk : ∀ p ∈ ps c₀, m₀ p.1 = some p.2) (hp : P 0 c₀)
    (turn : ∀ (c : σ) (i : Nat) t (I : Addr) (oI : Obj) (u : Str → Option Value) (s₁ : Shared), i < n → (∀ p ∈ Led c, p.1 ≠ I) → P i c →
      Fr h₀ env.locals s₁.heap (kstB (fun z => if stored.contains z then u z else m₀ z) (ps c)) → News h₀ env.locals s₁.heap ((I, oI) :: Led c) →
      wpAny (model prog w) A (assign (.Name x px) env (.int i t)) (fun _ s₃ => wpAny (model prog w) A (execs body env) (RngPost h₀ env.locals s₁ Led ps stored m₀ P I oI (i + 1)) E s₃) E s₁)
    (done : ∀ (c : σ) (u : Str → Option Value) h tk, P n c → Fr h₀ env.locals h (kstB (fun z => if stored.contains z then u z else m₀ z) (ps c)) → News h₀ env.locals h (Led c) → Q .next { s with heap := h, toks := tk }) :
    wpAny (model prog w) A (pyIter (.ref r)) (fun it s₂ => LoopAtT prog w A h₀ env (.Name x px) body Q E it s₂) E s := by
  refine wpAny_pyIter_range hr hsmall ?_
  have W : Walks prog w A s.heap.objs.size [s.heap.objs.size] [s.heap.objs.size] n (fun i v => i < n ∧ ∃ t, v = .int (0 + i * 1) t)
      (fun i h => IsRangeIter h s.heap.objs.size (0 + (i : Nat) * 1) ((n : Int) - (i : Nat)) 1) := (Walks.range hh _ 0 1 n).bound
  refine ⟨_, _, _, n, _, _, m₀, Led c₀, (fun i m nx => ∃ c : σ, nx = Led c ∧ (∀ p ∈ ps c, m p.1 = some p.2) ∧ (∀ z, (∀ p ∈ ps c, z ≠ p.1) → stored.contains z = false → m z = m₀ z) ∧ P i c), rfl, W, ?_, ?_, ?_, (by show IsRangeIter _ _ _ _ _; rw [hn]; simpa using Heap.get?_push_size _ rfl), F.push _, (fun p hp => ⟨Heap.get?_push_of_some _ (N p hp).1, (N p hp).2⟩), ?_, ⟨c₀, rfl, hk, fun _ _ _ => rfl, hp⟩, ?_, ?_⟩
  · intro hm
    exact absurd F.ns.lt ((List.mem_singleton.mp hm) ▸ Nat.lt_irrefl _)
  · intro b hb
    rw [List.mem_singleton.mp hb]
    exact next_is_new F
  · intro p hp hI
    exact absurd (Heap.lt_size (N p hp).1) ((List.mem_singleton.mp hI) ▸ Nat.lt_irrefl _)
  · intro i s' v Q' _ hQ
    exact wpAny_pure hQ
  · rintro i v m₁ news₁ s₁ own hi ⟨_, t, rfl⟩ ⟨c, rfl, h1, h2, hp'⟩ hoff hsub hget hfp hst F₁ N₁
    have hoi : (s.heap.objs.size, _) ∈ own := hfp _ (.head _) (next_is_new F) _ hst
    have hoff' : ∀ p ∈ Led c, p.1 ≠ s.heap.objs.size := fun p hp e => hoff p hp (List.mem_singleton.mpr e)
    have e1 : (0 : Int) + (i : Int) * 1 = (i : Int) := by omega
    rw [e1]
    have N₂ : News h₀ env.locals s₁.heap ((s.heap.objs.size, _) :: Led c) := fun p hp => by
      rcases List.mem_cons.mp hp with rfl | hp
      · exact N₁ _ (List.mem_append.mpr (.inl hoi))
      · exact N₁ p (List.mem_append.mpr (.inr hp))
    refine wpAny_mono (turn c i t s.heap.objs.size _ m₁ s₁ hi hoff' hp' (ksw_fr h1 h2 F₁) N₂) (fun _ s₃ hq => wpAny_mono hq (fun f s₂ p => ?_) fun _ _ e => e) fun _ _ e => e
    obtain ⟨rfl, c', h', tk, m', news', e, F', N', hn', ho, hk', hr', hp''⟩ := p
    refine ⟨rfl, h', tk, m', Led c', e, F', fun p hp => ?_, fun p hp hq => ho p hp (List.mem_singleton.mp hq), c', rfl, hk', hr', hp''⟩
    rcases List.mem_append.mp hp with h | h
    · have h2 : s₁.heap.get? p.1 = some p.2 := hget p h
      have h3 := List.mem_singleton.mp (hsub p h)
      have h5 := N' _ (hn' _ (.head _))
      have h6 : some p.2 = some _ := h2.symm.trans ((congrArg _ h3).trans hst)
      obtain ⟨p1, p2⟩ := p
      dsimp only at h3 h6
      subst h3
      injection h6 with h6
      subst h6
      exact h5
    · exact N' p (hn' p (.tail _ h))
  · rintro h' tk m' news' F' N' _ ⟨c, rfl, h1, h2, hp'⟩
    exact done c m' h' tk hp' (ksw_fr h1 h2 F') N'
end
end Mine
end
section
open PySem PySem.W PyProof.Rows
namespace Mine
/-- the first opener that stands before the text -/
def ownS (os : List Str) (x : Str) : List Nat := (List.range os.length).filter fun k => standsS (os.getD k Str.empty) x
def toldStep (c : List (List Str) × List Str) (q : Str × Str) : List (List Str) × List Str :=
  match ownS c.2 q.1 with
  | k :: _ => (c.1.set k (c.1.getD k [] ++ [q.1]), c.2)
  | [] => (c.1 ++ [[q.1]], c.2 ++ [q.2])
def toldS (xs ps : List Str) : List (List Str) := ((xs.zip ps).foldl toldStep ([], [])).1
theorem own_eq (os : List Str) (x : Str) : (List.range os.length).filterMap (fun k => if standsS (os.getD k Str.empty) x then some (k : Int) else none) = (ownS os x).map fun (k : Nat) => (k : Int) := by
  unfold ownS
  induction List.range os.length with
  | nil => rfl
  | cons a r ih =>
    rw [List.filterMap_cons, List.filter_cons, ih]
    cases standsS (os.getD a Str.empty) x <;> simp
abbrev toldT : ToldN (List Str × List Str) where
  Rel := fun news vs d => ∃ a ws k b us j, vs = [.ref a, .ref b] ∧ (a, listOf (List.toArray ws) k) ∈ news ∧ StrsAre ws d.1 ∧ (b, listOf (List.toArray us) j) ∈ news ∧ StrsAre us d.2
  Ok := fun d => (∀ x ∈ d.1, x.length ≤ 10) ∧ (∀ x ∈ d.2, x.length ≤ 10) ∧ d.1.length ≤ 8 ∧ d.2.length = d.1.length
  size := fun _ => 4
  Tl := ktnAny
  Out := fun news r d => DrawsIn news r (toldS d.1 d.2)
/-- one drawer: its list's address, values, count and texts -/
structure Dr where
  a : Addr
  vs : List Value
  k : Nat
  xs : List Str
abbrev Dr.cell (d : Dr) : Addr × Obj := (d.a, listOf d.vs.toArray d.k)
structure ToC where
  ds : List Dr
  dn : Nat
  ovs : List Value
  on : Nat
  os : List Str
  oi : Obj
  ci : Option Value
structure ToInv (news : List (Addr × Obj)) (ol : Addr) (xs ps : List Str) (i : Nat) (c : ToC) : Prop where
  cell : c.oi.data = .cell c.ci
  dst : ∀ d ∈ c.ds, StrsAre d.vs d.xs
  ost : StrsAre c.ovs c.os
  goes : ((xs.zip ps).take i).foldl toldStep ([], []) = (c.ds.map Dr.xs, c.os)
  nodup : (c.ds.map Dr.a).Nodup
  high : ∀ d ∈ c.ds, ol < d.a
  low : ∀ q ∈ news, q.1 < ol
  few : c.ds.length ≤ i
  same : c.os.length = c.ds.length
  short : ∀ d ∈ c.ds, d.xs.length ≤ i
  oshort : ∀ x ∈ c.os, x.length ≤ 10
theorem app_off {ds : List Dr} {news : List (Addr × Obj)} {ol X : Addr} (hh : ∀ d ∈ ds, ol < d.a) (h1 : ∀ {a : Addr}, ol < a → a ≠ X) (h2 : ∀ q ∈ news, q.1 ≠ X) : ∀ q ∈ ds.map Dr.cell ++ news, q.1 ≠ X := fun q hq => by
  rcases List.mem_append.mp hq with h | h
  · obtain ⟨d, hd, rfl⟩ := List.mem_map.mp h
    exact h1 (hh d hd)
  · exact h2 q h
theorem split_at {ds : List Dr} {k : Nat} (h : k < ds.length) : ∃ ds1 d9 ds2, ds = ds1 ++ d9 :: ds2 ∧ ds1.length = k :=
  ⟨ds.take k, ds[k], ds.drop (k + 1), by simp, by simp; omega⟩
theorem off1_at {D : Addr} {l : List (Addr × Obj)} (h : LCg.Off1 D l) : ∀ q ∈ l, q.1 ≠ D := by
  induction l with
  | nil => intro q hq; cases hq
  | cons p r ih =>
    simp only [LCg.Off1] at h
    intro q hq
    rcases List.mem_cons.mp hq with rfl | hq
    · exact h.1
    · exact ih h.2 q hq
theorem drawer_off {ds1 ds2 : List Dr} {d9 : Dr} {news : List (Addr × Obj)} {ol : Addr} (hn : ((ds1 ++ d9 :: ds2).map Dr.a).Nodup) (hh : ∀ d ∈ ds1 ++ d9 :: ds2, ol < d.a) (hl : ∀ q ∈ news, q.1 < ol) : ∀ q ∈ (ds1 ++ ds2).map Dr.cell ++ news, q.1 ≠ d9.a := fun q hq => by
  rcases List.mem_append.mp hq with h | h
  · obtain ⟨d, hd, rfl⟩ := List.mem_map.mp h
    intro e
    replace e : d.a = d9.a := e
    rw [List.map_append, List.map_cons, List.nodup_append] at hn
    obtain ⟨_, h2, h3⟩ := hn
    rcases List.mem_append.mp hd with hd | hd
    · exact h3 d.a (List.mem_map_of_mem hd) d9.a List.mem_cons_self e
    · exact (List.nodup_cons.mp h2).1 (e ▸ List.mem_map_of_mem hd)
  · exact Nat.ne_of_lt (Nat.lt_trans (hl q h) (hh d9 (by simp)))
theorem draws_in {news : List (Addr × Obj)} {ds : List Dr} (h : ∀ d ∈ ds, StrsAre d.vs d.xs) (hm : ∀ q ∈ ds.map Dr.cell, q ∈ news) : ListsIn news (ds.map fun d => Value.ref d.a) (ds.map Dr.xs) := by
  induction ds with
  | nil => exact .nil
  | cons d r ih => exact .cons (hm d.cell List.mem_cons_self) (h d List.mem_cons_self) (ih (fun x hx => h x (List.mem_cons_of_mem _ hx)) (fun q hq => hm q (List.mem_cons_of_mem _ hq)))
local macro_rules | `(tactic| k_mem) => `(tactic| first | assumption | (refine List.Mem.tail _ ?_; first | assumption | (refine List.Mem.tail _ ?_; first | assumption | (refine List.Mem.tail _ ?_; first | assumption | (refine List.Mem.tail _ ?_; first | assumption | (refine List.Mem.tail _ ?_; first | assumption | (refine List.Mem.tail _ ?_; first | assumption | (refine List.Mem.tail _ ?_; first | assumption | (refine List.Mem.tail _ ?_; first | assumption | (refine List.Mem.tail _ ?_; first | assumption | (refine List.Mem.tail _ ?_; first | assumption | (refine List.Mem.tail _ ?_; first | assumption | (refine List.Mem.tail _ ?_; first | assumption | (refine List.Mem.tail _ ?_; assumption))))))))))))))
local macro_rules | `(tactic| k_all) => `(tactic| first | assumption | exact all_low (by assumption) (by omega))
set_option maxRecDepth 100000 in
set_option maxHeartbeats 8000000 in
theorem tells_told (w : World) (p : Program) (loose : List Str) (mean : ExcName → Option Value) (mg mb : Str → Option Value) : TellsH w p loose mean mg mb 73 toldT := by
  w_strict (
  w_top off; unfold TellsH; k_fill; unfold TellsN; intro d dp un gd cn cs a ccd cl outer A₀ base h₀ L m news s vs Q E B F X N T hk hR hok hd hu hret
  obtain ⟨xs, ps⟩ := d
  obtain ⟨a0, ws, k, b0, us, j0, rfl, ha0, hws, hb0, hus⟩ := hR
  obtain ⟨o1, ok2, o3, o4⟩ := hok
  dsimp only at o1 ok2 o3 o4 ha0 hws hb0 hus
  (try dsimp only)
  refine wpAny_call ?_
  k_dflt (refine' code_defC ?k1 ?k2 ?k3 ?k4 ?k5 ?kA ?kF ?kK ?k6 ?k7 ?k8 ?k9 ?kB ?kD ?_ ?c2 ?c3 ?c4; (case kA => exact rfl); (case kF => exact rfl); (case kK => assumption); (case k1 => k_asm); (case k2 => k_asm); (case k3 => k_asm); (case k4 => k_asm); (case k5 => k_asm); (case k6 => k_is); (case k7 => k_is); (case k8 => ktr_room); (case k9 => exact BindsTo.of_eq rfl); (case kB => exact rfl); (case kD => decide +kernel); (case c2 => exact rfl); (case c3 => exact rfl); (case c4 => exact rfl); k_whole; intro g' L' h' tk' cells' FG' F' N' Y' B' X' T' l1; have hY := CellsAre.three Y'; obtain ⟨o1', o2', o3', hE', d1', d2', d3'⟩ := hY; subst hE'; clear Y'; (try simp only [List.cons_append, List.nil_append] at N'); (try dsimp only); (try k_fold))
  replace d1' : o1'.data = .cell none := d1'
  replace d2' : o2'.data = .cell none := d2'
  replace d3' : o3'.data = .cell (some (.ref a0)) := d3'
  have hwl := hws.length
  k_with_none
  k_with "exec For Name Call cons nil" => ((rename Fr _ _ _ _ => lF'); (with_unfolding_all refine' For_invTF lF' ?_ ?k1; (case k1 => (intro _; rfl))))
  k_with "call builtin:len" => (k_here; k_dflt (refine' kst_len ?vN ?vm ?ve ?vf ?_; (case vN => k_asm); (case vm => k_mem); (case ve => rfl); (case vf => omega)); intros)
  k_with "pyIter ref" => refine stop_here ?_
  (repeat' (first | (k_unfold; (try dsimp only)) | (unfold LedPost; dsimp only) | walk1 | (dsimp only; walk1)))
  refine Stop.out ?_
  (rename IsRange _ _ _ _ _ _ _ _ => rgX)
  rename_i dl _ ldl ol _ lol _ _ _ _ _ _ o2 _ _ hd2 _ _ _ _ _ lF lN _
  have lnl : ∀ q ∈ news, q.1 < ol := fun q hq => ktn_ltOf lol.2.2.2.2 q hq
  k_dflt (refine' iter_rng (σ := ToC) (n := ws.length) (fun c => (dl, listOf (List.toArray (c.ds.map fun d => Value.ref d.a)) c.dn) :: (ol, listOf (List.toArray c.ovs) c.on) :: (L' + 1 + 1 + 1, c.oi) :: (L' + 1 + 1, o2) :: (L' + 1, o3') :: (c.ds.map Dr.cell ++ news)) (fun _ => []) [Str.ofString "own"] (ToInv news ol xs ps) ⟨[], 0, [], 0, [], o1', none⟩ ?hh rgX ?hs ?hn lF (cb_drop lN ?hsub) ?hk ?hp ?turn ?done)
  case hh => rfl
  case hs => exact small_one (by omega) (by omega) (by omega) (by omega)
  case hn => (rw [rangeSize_nat]; simp)
  case hsub => (intro p hp; rcases List.mem_cons.mp hp with rfl | hp; exact .tail _ (.tail _ (.head _)); rcases List.mem_cons.mp hp with rfl | hp; exact .tail _ (.head _); exact .tail _ (.tail _ (.tail _ hp)))
  case hk => (intro p hp; cases hp)
  case hp => exact ⟨d1', fun d hd => absurd hd List.not_mem_nil, .nil, rfl, .nil, fun d hd => absurd hd List.not_mem_nil, lnl, Nat.le_refl _, rfl, fun d hd => absurd hd List.not_mem_nil, fun d hd => absurd hd List.not_mem_nil⟩
  case turn =>
    rintro ⟨ds, dn, ovs, on, os, oi, ci⟩ i t I oI u s₁ hi hoff hinv F2 N2
    have hinv' := hinv
    obtain ⟨hcell, hdst, host, hgoes, hnodup, hhigh, hlow, hfew, hsame, hshort, hosh⟩ := hinv'
    dsimp only at hcell hdst host hgoes hnodup hhigh hlow hfew hsame hshort hosh hoff F2 N2 ⊢
    clear lF lN rgX
    have hdl3 : @LT.lt Nat _ (L' + 1 + 1 + 1) dl := ldl.1
    have hol3 : @LT.lt Nat _ dl ol := lol.1
    have offc : ∀ q ∈ ds.map Dr.cell ++ news, q.1 ≠ L' + 1 + 1 + 1 := app_off hhigh (fun d => Nat.ne_of_gt (Nat.lt_trans (Nat.lt_trans hdl3 hol3) d)) (fun q hq => Nat.ne_of_lt (Nat.lt_trans (l1 q hq) (by omega)))
    have offd : ∀ q ∈ ds.map Dr.cell ++ news, q.1 ≠ dl := app_off hhigh (fun d => Nat.ne_of_gt (Nat.lt_trans hol3 d)) (fun q hq => Nat.ne_of_lt (Nat.lt_trans (l1 q hq) (by omega)))
    have offo : ∀ q ∈ ds.map Dr.cell ++ news, q.1 ≠ ol := app_off hhigh (fun d => Nat.ne_of_gt d) (fun q hq => Nat.ne_of_lt (lnl q hq))
    have hI1 : @Ne Nat dl I := hoff _ (List.Mem.head _)
    have hI2 : @Ne Nat ol I := hoff _ (List.Mem.tail _ (List.Mem.head _))
    have hI3 : @Ne Nat (L' + 1 + 1 + 1) I := hoff _ (List.Mem.tail _ (List.Mem.tail _ (List.Mem.head _)))
    have hovl := host.length
    have ha1 : (a0, listOf ws.toArray k) ∈ ds.map Dr.cell ++ news := List.mem_append_right _ ha0
    have hb1 : (b0, listOf us.toArray j0) ∈ ds.map Dr.cell ++ news := List.mem_append_right _ hb0
    obtain ⟨x9, tx9, ex9, hx9⟩ := strs_at hws (List.getElem?_eq_getElem hi)
    have hwi : ws[((i : Int)).toNat]? = some (.str x9 tx9) := by rw [← ex9, show ((i : Int)).toNat = i by omega]; exact List.getElem?_eq_getElem hi
    have hxd : xs.getD i Str.empty = x9 := by rw [List.getD_eq_getElem?_getD, hx9]; rfl
    have hiu : i < us.length := by rw [hus.length, o4, ← hws.length]; exact hi
    obtain ⟨p9, tp9, ep9, hp9⟩ := strs_at hus (List.getElem?_eq_getElem hiu)
    have hui : us[((i : Int)).toNat]? = some (.str p9 tp9) := by rw [← ep9, show ((i : Int)).toNat = i by omega]; exact List.getElem?_eq_getElem hiu
    have hzt : (xs.zip ps).take (i + 1) = (xs.zip ps).take i ++ [(x9, p9)] := by
      have : (xs.zip ps)[i]? = some (x9, p9) := by simp [List.getElem?_zip_eq_some, hx9, hp9]
      rw [List.take_add_one, this]; rfl
    have hp10 := ok2 p9 (List.mem_of_getElem? hp9)
    have hx10 := o1 x9 (List.mem_of_getElem? hx9)
    iterate 3 (first | (k_unfold; (try dsimp only)) | walk1 | (dsimp only; walk1))
    rename_i s3 oi3 _ _ hd3
    k_dflt (refine LCt.Assign_ListComp_T (F₀ := by k_asm) (by rfl) (by with_unfolding_all rfl) (by with_unfolding_all rfl) (by decide) (by rfl) (by decide) (by rfl) (by rfl) (by rfl) ?_)
    iterate 13 (first | (k_unfold; (try dsimp only)) | walk1 | (dsimp only; walk1))
    (rename IsRange _ _ _ _ _ _ _ _ => rgX)
    k_dflt (refine LCt.CompSrcT.range (n := ovs.length) (by rfl) (by k_asm) (by k_asm) rgX (small_one (by omega) (by omega) (by omega) (by omega)) (by rw [rangeSize_nat]; simp) ?z ?_; (case z => (rw [sizeLine_eq]; omega)); intro g'')
    refine compT_inv (fun j ys => IntsAre ys (((List.range os.length).take j).filterMap fun k => if standsS (os.getD k Str.empty) x9 then some (k : Int) else none)) IntsAre.nil ?turn2 ?fin2
    case turn2 =>
      intro j v ys I2 oI2 C2 oC2 D2 m₂ h₂ tk₂ E' hj hv hys hC hx F3 N3 off3 ne3
      obtain ⟨t9, rfl⟩ := hv
      dsimp only at F3 N3 ⊢
      obtain ⟨o9, to9, eo9, ho9⟩ := strs_at host (List.getElem?_eq_getElem hj)
      have hoj : ovs[(0 + (j : Int)).toNat]? = some (.str o9 to9) := by rw [← eo9, show (0 + (j : Int)).toNat = j by omega]; exact List.getElem?_eq_getElem hj
      have ho10 := hosh o9 (List.mem_of_getElem? ho9)
      have hjr : (List.range os.length)[j]? = some j := List.getElem?_range (by omega)
      have hsn : (List.range os.length).take (j + 1) = (List.range os.length).take j ++ [j] := by rw [List.take_add_one, hjr]; rfl
      have hjd : os.getD j Str.empty = o9 := by rw [List.getD_eq_getElem?_getD, ho9]; rfl
      k_with "call ref" => (k_here; (with_reducible show wpAny _ _ (call (Value.ref 68) _) _ _ _); k_dflt (refine' tellsN_use ?k1 ?k2 ?k3 ?k4 ?k5 ?kK ?kR (tells_stands _ _ _ _ _ _ (o9, x9)) ?ko ?kd ?ku ?_; (case k1 => k_asm); (case k2 => k_asm); (case k3 => k_asm); (case k4 => k_asm); (case k5 => k_asm); (case kK => first | exact rfl | assumption); (case kR => exact ⟨_, _, rfl⟩); (case ko => exact ⟨by dsimp only; omega, by dsimp only; omega⟩); (case kd => first | ktr_room | ((simp only [recursionLimit] at *); (try dsimp only at *); omega)); (case ku => ktr_units); intro r9 tl9 h9 tk9 F9 N9 hl9 ht9 ho9; (replace ho9 : r9 = Value.bool (standsS o9 x9) := ho9; subst ho9; subst ht9; rw [List.append_nil] at N9; clear hl9); (try dsimp only); (try k_fold)))
      k_with "subscriptTail Name Name ref int" => (k_here; k_dflt (refine' kim_list ?jN ?jm ?jc ?jd ?jh0 ?jh1 ?jx ?_ ?js ?jt; (case jN => k_asm); (case jm => k_mem); (case jc => rfl); (case jd => rfl); (case jh0 => omega); (case jh1 => omega); (case jx => first | exact hoj | exact hwi); (case js => with_unfolding_all rfl); (case jt => (intro _; with_unfolding_all rfl))))
      (repeat' (first | (k_unfold; (try dsimp only)) | (unfold LedPost; dsimp only) | walk1 | (dsimp only; walk1)))
      · refine LCg.CompEnd.intro (by k_asm) (by k_asm) _ (fun p hp => hp) off3 trivial ⟨rfl, ?_⟩
        rw [hsn, List.filterMap_append]
        refine IntsAre.append hys ?_
        rw [List.filterMap_cons, hjd, if_pos (by assumption), Int.zero_add]
        exact .cons _ _ .nil
      · refine LCg.CompEnd.intro (by k_asm) (by k_asm) _ (fun p hp => hp) off3 trivial ⟨rfl, ?_⟩
        rw [hsn, List.filterMap_append, List.filterMap_cons, hjd, if_neg (by rename_i hb; rw [hb]; exact Bool.false_ne_true)]
        exact (List.append_nil _).symm ▸ hys
    case fin2 =>
      intro ys hys
      rw [hovl, List.take_of_length_le (by simp)] at hys
      unfold LCg.FinA
      intro D3 h3 tk3 F3 N3 o3''
      simp only [LCg.Off1] at o3''
      dsimp only at F3 N3 ⊢
      have hyl := hys.length
      have hown : (List.range os.length).filterMap (fun k => if standsS (os.getD k Str.empty) x9 then some (k : Int) else none) = (ownS os x9).map fun (k : Nat) => (k : Int) := by
        exact own_eq _ _
      rw [hown] at hys
      cases hw : ownS os x9 with
      | nil =>
        rw [hw] at hys
        cases hys
        k_with "subscriptTail Name Name ref int" => (k_here; k_dflt (refine' kim_list ?jaN ?jam ?jac ?jad ?jah0 ?jah1 ?jax ?_ ?jas ?jat; (case jaN => k_asm); (case jam => k_mem); (case jac => rfl); (case jad => rfl); (case jah0 => omega); (case jah1 => omega); (case jax => first | exact hwi | exact hui); (case jas => with_unfolding_all rfl); (case jat => (intro _; with_unfolding_all rfl))))
        (repeat' (first | (k_unfold; (try dsimp only)) | (unfold LedPost; dsimp only) | walk1 | (dsimp only; walk1)))
        rename_i nl _ ll _ _ _ F9 N9
        refine rng_end (⟨ds ++ [⟨nl, [.str x9 tx9], 0, [x9]⟩], dn + 1, ovs ++ [.str p9 tp9], on + 1, os ++ [p9], oi3, some (.int i t)⟩ : ToC) F9 N9 ?_ ?_ (fun p hp => by cases hp) ?_ ?_
        · dsimp only; intro p hp
          rw [List.push_toArray, List.push_toArray]
          simp only [List.map_append, List.map_cons, List.map_nil, List.mem_cons, List.mem_append, List.not_mem_nil, or_false] at hp ⊢
          rcases hp with h | h | h | h | h | h | (h | h) | h <;> simp [h]
        · dsimp only; intro p hp
          simp only [List.map_append, List.map_cons, List.map_nil, List.mem_cons, List.mem_append, List.not_mem_nil, or_false] at hp
          have ho := hoff p
          simp only [List.mem_cons, List.mem_append] at ho
          rcases hp with h | h | h | h | h | (h | h) | h
          · rw [h]; exact hI1
          · rw [h]; exact hI2
          · rw [h]; exact hI3
          · exact ho (by simp [h])
          · exact ho (by simp [h])
          · exact ho (by simp [h])
          · rw [h]; exact Nat.ne_of_gt ll.2.1
          · exact ho (by simp [h])
        · intro z h2 h3
          have hz : z ≠ Str.ofString "own" := fun e => by subst e; simp at h3
          show (if z = Str.ofString "own" then _ else kstB _ _ z) = _
          rw [if_neg hz]
          exact same_off h3 (fun p hp => by cases hp)
        · refine ⟨hd3, ?_, host.append' (.cons _ _ .nil), ?_, ?_, ?_, hlow, ?_, ?_, ?_, ?_⟩
          · intro d hd
            rcases List.mem_append.mp hd with h | h
            · exact hdst d h
            · rw [List.mem_singleton.mp h]; exact .cons _ _ .nil
          · rw [hzt, List.foldl_append, hgoes]
            simp [toldStep, hw]
          · rw [List.map_append, List.nodup_append]
            refine ⟨hnodup, by simp, ?_⟩
            intro a ha b hb e
            obtain ⟨d, hd, rfl⟩ := List.mem_map.mp ha
            have h5 : @LT.lt Nat _ d.a nl := ktn_ltOf ll.2.2.2.2.2.2.2 d.cell (List.mem_append_left _ (List.mem_map_of_mem hd))
            rw [List.map_cons, List.map_nil, List.mem_singleton] at hb
            rw [e, hb] at h5
            exact Nat.lt_irrefl _ h5
          · intro d hd
            rcases List.mem_append.mp hd with h | h
            · exact hhigh d h
            · rw [List.mem_singleton.mp h]; exact ll.2.2.2.1
          · simp; omega
          · simp; omega
          · intro d hd
            rcases List.mem_append.mp hd with h | h
            · exact Nat.le_succ_of_le (hshort d h)
            · rw [List.mem_singleton.mp h]; simp
          · intro y hy
            rcases List.mem_append.mp hy with h | h
            · exact hosh y h
            · rw [List.mem_singleton.mp h]; exact hp10
      | cons k0 kr =>
        rw [hw] at hys
        cases hys
        rename_i t0 v0 hv0
        have hkr : (k0 :: kr).length ≤ os.length := by
          rw [← hw]
          exact Nat.le_trans (List.length_filter_le _ _) (by simp)
        have hk0 : k0 < os.length := by
          have h5 : k0 ∈ ownS os x9 := by rw [hw]; exact List.mem_cons_self
          exact List.mem_range.mp (List.mem_filter.mp h5).1
        have hv8 : v0.length + 1 ≤ 8 := by
          have h5 := hv0.length
          rw [List.length_map] at h5
          rw [List.length_cons] at hkr
          have := hsame
          omega
        replace N3 : News g' L' h3 ((D3, listOf (List.toArray (.int (k0 : Int) t0 :: v0)) _) :: _) := N3
        obtain ⟨ds1, d9, ds2, rfl, hl1⟩ : ∃ ds1 d9 ds2, ds = ds1 ++ d9 :: ds2 ∧ ds1.length = k0 := split_at (by omega)
        have hT := drawer_off hnodup hhigh hlow
        have hD3 : @Ne Nat d9.a D3 := off1_at o3''.2.2.2.2.2.2 d9.cell (by simp)
        have hI9 : @Ne Nat d9.a I := hoff d9.cell (by simp)
        have hd9 : @LT.lt Nat _ ol d9.a := hhigh d9 (by simp)
        have hs9 := hdst d9 (by simp)
        have hn9 : d9.vs.length ≤ 8 := by (rw [hs9.length]; have := hshort d9 (by simp); omega)
        have ha2 : (a0, listOf ws.toArray k) ∈ (ds1 ++ ds2).map Dr.cell ++ news := List.mem_append_right _ ha0
        have N4 : News g' L' h3 (d9.cell :: (D3, listOf (List.toArray (.int (k0 : Int) t0 :: v0)) (v0.length + 1)) :: (I, oI) :: (dl, listOf (List.toArray ((ds1 ++ d9 :: ds2).map fun d => Value.ref d.a)) dn) :: (ol, listOf (List.toArray ovs) on) :: (L' + 1 + 1 + 1, oi3) :: (L' + 1 + 1, o2) :: (L' + 1, o3') :: ((ds1 ++ ds2).map Dr.cell ++ news)) := by
          refine cb_drop N3 (fun q hq => ?_)
          simp only [List.map_append, List.map_cons, List.mem_cons, List.mem_append] at hq ⊢
          rcases hq with h | h | h | h | h | h | h | h | (h | h) | h <;> simp [h]
        clear N3
        have hk9 : ((ds1 ++ d9 :: ds2).map fun d => Value.ref d.a)[(((k0 : Int) :: kr.map fun (k : Nat) => (k : Int)).getD (Int.toNat 0) 0).toNat]? = some (.ref d9.a) := by
          show _[((k0 : Int)).toNat]? = _
          rw [Int.toNat_natCast, ← hl1]
          simp
        k_with "subscriptTail Name Subscript ref int" => (k_here; k_dflt (refine' kim_list ?jdN ?jdm ?jdc ?jdd ?jdh0 ?jdh1 ?jdx ?_ ?jds ?jdt; (case jdN => k_asm); (case jdm => k_mem); (case jdc => rfl); (case jdd => rfl); (case jdh0 => exact Int.natCast_nonneg k0); (case jdh1 => (show (k0 : Int) < _; omega)); (case jdx => exact hk9); (case jds => with_unfolding_all rfl); (case jdt => (intro _; with_unfolding_all rfl))))
        k_with "call builtin:list.append" => (k_here; (with_reducible show wpAny _ _ (call (Value.builtin _) [Value.ref _, _]) _ _ _); k_dflt (refine' append_K ?k1 ?k2 ?k3 ?_ ?z; (case k1 => k_asm); (case k2 => k_asm); (case k3 => k_upd); (case z => (rw [List.size_toArray, sizeLine_eq]; omega)); k_whole); intro h5' F5' N5'; (try dsimp only))
        k_with "truthy ref" => (k_here; k_dflt (refine' truthy_led ?jbN ?jbm ?jbz ?jbb ?_; (case jbN => k_asm); (case jbm => k_mem); (case jbz => (rw [List.length_cons]; omega)); (case jbb => first | exact decide_eq_true (Nat.succ_pos _) | exact (rfl : decide (0 < 0) = false))); intro _)
        k_with "subscriptTail Name Name ref int" => (k_here; k_dflt (refine' kim_list ?jcN ?jcm ?jcc ?jcd ?jch0 ?jch1 ?jcx ?_ ?jcs ?jct; (case jcN => k_asm); (case jcm => k_mem); (case jcc => rfl); (case jcd => rfl); (case jch0 => omega); (case jch1 => omega); (case jcx => first | exact hwi | exact hui); (case jcs => with_unfolding_all rfl); (case jct => (intro _; with_unfolding_all rfl))))
        (repeat' (first | (k_unfold; (try dsimp only)) | (unfold LedPost; dsimp only) | walk1 | (dsimp only; walk1)))
        refine rng_end (⟨ds1 ++ ⟨d9.a, d9.vs ++ [.str x9 tx9], d9.k + 1, d9.xs ++ [x9]⟩ :: ds2, dn, ovs, on, os, oi3, some (.int i t)⟩ : ToC) F5' N5' ?_ ?_ (fun p hp => by cases hp) ?_ ?_
        · dsimp only; intro p hp
          rw [List.push_toArray]
          simp only [List.map_append, List.map_cons, List.mem_cons, List.mem_append] at hp ⊢
          rcases hp with h | h | h | h | h | h | (h | h | h) | h <;> simp [h]
        · dsimp only; intro p hp
          have ho := hoff p
          simp only [List.map_append, List.map_cons, List.mem_cons, List.mem_append] at hp ho
          rcases hp with h | h | h | h | h | (h | h | h) | h
          · rw [h]; exact hI1
          · rw [h]; exact hI2
          · rw [h]; exact hI3
          · exact ho (by simp [h])
          · exact ho (by simp [h])
          · exact ho (by simp [h])
          · rw [h]; exact hI9
          · exact ho (by simp [h])
          · exact ho (by simp [h])
        · intro z h2 h3
          have hz : z ≠ Str.ofString "own" := fun e => by subst e; simp at h3
          show (if z = Str.ofString "own" then _ else kstB _ _ z) = _
          rw [if_neg hz]
          exact same_off h3 (fun p hp => by cases hp)
        · refine ⟨hd3, ?_, host, ?_, ?_, ?_, hlow, ?_, ?_, ?_, hosh⟩
          · intro d hd
            rcases List.mem_append.mp hd with h | h
            · exact hdst d (List.mem_append_left _ h)
            · rcases List.mem_cons.mp h with rfl | h
              · exact hs9.append' (.cons _ _ .nil)
              · exact hdst d (List.mem_append_right _ (List.mem_cons_of_mem _ h))
          · rw [hzt, List.foldl_append, hgoes]
            simp [toldStep, hw, ← hl1]
          · simpa using hnodup
          · intro d hd
            rcases List.mem_append.mp hd with h | h
            · exact hhigh d (List.mem_append_left _ h)
            · rcases List.mem_cons.mp h with rfl | h
              · exact hd9
              · exact hhigh d (List.mem_append_right _ (List.mem_cons_of_mem _ h))
          · simp only [List.length_append, List.length_cons] at hfew ⊢; omega
          · simp only [List.length_append, List.length_cons] at hsame ⊢; omega
          · intro d hd
            rcases List.mem_append.mp hd with h | h
            · exact Nat.le_succ_of_le (hshort d (List.mem_append_left _ h))
            · rcases List.mem_cons.mp h with rfl | h
              · have := hshort d9 (by simp)
                simp; omega
              · exact Nat.le_succ_of_le (hshort d (List.mem_append_right _ (List.mem_cons_of_mem _ h)))
  case done =>
    rintro ⟨ds, dn, ovs, on, os, oi, ci⟩ u h2 tk2 hinv F2 N2
    obtain ⟨hcell, hdst, host, hgoes, hnodup, hhigh, hlow, hfew, hsame, hshort, hosh⟩ := hinv
    dsimp only at hcell hdst host hgoes hnodup hhigh hlow hfew hsame hshort hosh F2 N2 ⊢
    clear lF lN rgX
    (repeat' (first | (k_unfold; (try dsimp only)) | (unfold LedPost; dsimp only) | walk1 | (dsimp only; walk1)))
    (rename News h₀ L _ _ => kN)
    refine hret _ ((dl, listOf (List.toArray (ds.map fun d => Value.ref d.a)) dn) :: ds.map Dr.cell) _ _ (by k_asm) ?_ ?_ trivial ?_
    · refine cb_drop kN (fun q hq => ?_)
      simp only [List.mem_cons, List.mem_append] at hq ⊢
      rcases hq with h | h | h <;> simp [h]
    · intro q hq p hp
      rcases List.mem_cons.mp hp with rfl | hp
      · exact Nat.lt_trans (l1 q hq) (Nat.lt_trans (show @LT.lt Nat _ L' (L' + 1 + 1 + 1) by omega) ldl.1)
      · obtain ⟨d, hd, rfl⟩ := List.mem_map.mp hp
        exact Nat.lt_trans (hlow q hq) (hhigh d hd)
    · refine ⟨dl, _, dn, rfl, List.mem_append_right _ (List.Mem.head _), ?_⟩
      have e : toldS xs ps = ds.map Dr.xs := by
        unfold toldS
        rw [← List.take_of_length_le (l := xs.zip ps) (i := ws.length) (by simp; omega), hgoes]
      show ListsIn _ _ (toldS xs ps)
      rw [e]
      exact draws_in hdst (fun q hq => List.mem_append_right _ (List.mem_cons_of_mem _ hq)))
end Mine
end
section
open PySem PySem.W PyProof.Rows
namespace Mine
/-- one sign of the three -/
def Sg (s : Str) : Prop := ∃ c, Ls s = [c] ∧ (c = 97 ∨ c = 98 ∨ c = 46)
structure TextOk (y : Str) : Prop where
  len : y.length ≤ 9
  sgs : ∀ c ∈ Ls y, c = 97 ∨ c = 98 ∨ c = 46
abbrev textT : ToldN Int where
  Rel := fun _ vs d => ∃ t1, vs = [.int d t1]
  Ok := fun _ => True
  size := fun _ => 1
  Tl := fun tl => tl = []
  Out := fun _ r _ => ∃ y t, r = .str y t ∧ TextOk y
theorem strs_vals {vs : List Value} {xs : List Str} (h : StrsAre vs xs) : ∃ l : List (Str × Tok), vs = strValues l ∧ l.map (·.1) = xs := by
  induction h with
  | nil => exact ⟨[], rfl, rfl⟩
  | cons x t _ ih =>
    obtain ⟨l, h1, h2⟩ := ih
    exact ⟨(x, t) :: l, by rw [h1]; rfl, by rw [← h2]; rfl⟩
theorem join_sgs : ∀ {xs : List Str}, (∀ s ∈ xs, Sg s) → (Ls (Str.join (Str.ofString "") xs)).length = xs.length ∧ ∀ c ∈ Ls (Str.join (Str.ofString "") xs), c = 97 ∨ c = 98 ∨ c = 46
  | [], _ => ⟨rfl, fun c hc => by cases hc⟩
  | [x], h => by
    obtain ⟨c, h1, h2⟩ := h x List.mem_cons_self
    show (Ls x).length = 1 ∧ _
    refine ⟨by rw [h1]; rfl, fun d hd => ?_⟩
    replace hd : d ∈ Ls x := hd
    rw [h1, List.mem_singleton] at hd
    rw [hd]; exact h2
  | x :: y :: r, h => by
    obtain ⟨c, h1, h2⟩ := h x List.mem_cons_self
    obtain ⟨h3, h4⟩ := join_sgs (xs := y :: r) fun s hs => h s (List.mem_cons_of_mem _ hs)
    have e : Ls (Str.join (Str.ofString "") (x :: y :: r)) = c :: Ls (Str.join (Str.ofString "") (y :: r)) := by
      show Ls (x ++ Str.ofString "" ++ Str.join (Str.ofString "") (y :: r)) = _
      rw [ls_append, ls_append, h1, show Ls (Str.ofString "") = [] from rfl]
      rfl
    rw [e]
    refine ⟨by rw [List.length_cons, h3]; rfl, fun d hd => ?_⟩
    rcases List.mem_cons.mp hd with rfl | hd
    · exact h2
    · exact h4 d hd
theorem join_ok {xs : List Str} (h : ∀ s ∈ xs, Sg s) (hn : xs.length ≤ 9) : TextOk (Txt.join (Str.ofString "") xs) := by
  have e : Txt.join (Str.ofString "") xs = Str.join (Str.ofString "") xs := StrLaws.glued_eq_join _ _
  obtain ⟨h1, h2⟩ := join_sgs h
  rw [e]
  exact ⟨by rw [← ls_len]; omega, h2⟩
theorem sg_len {s : Str} (h : Sg s) : s.length = 1 := by
  obtain ⟨c, h1, _⟩ := h
  rw [← ls_len, h1]; rfl
theorem sum_sg : ∀ {xs : List Str}, (∀ s ∈ xs, Sg s) → (xs.map (·.length)).sum = xs.length
  | [], _ => rfl
  | x :: r, h => by
    rw [List.map_cons, List.sum_cons, sg_len (h x List.mem_cons_self), sum_sg fun s hs => h s (List.mem_cons_of_mem _ hs), List.length_cons]
    omega
theorem join_fits {xs : List Str} (h : ∀ s ∈ xs, Sg s) (hn : xs.length ≤ 9) : JoinOk (Str.ofString "") xs = true := by
  refine joinOk_of ?_
  rw [sum_sg h, show (Str.ofString "").length = 0 from rfl]
  omega
theorem sg_item {q : Int} : Sg (Txt.item (Str.ofString "ab.") (q.fmod 3)) := by
  have h := (fdiv_fmod_facts q 3).2.2.1 (by decide)
  generalize q.fmod 3 = k at h
  have h3 : k = 0 ∨ k = 1 ∨ k = 2 := by omega
  rcases h3 with rfl | rfl | rfl
  · exact ⟨97, by decide +kernel, .inl rfl⟩
  · exact ⟨98, by decide +kernel, .inr (.inl rfl)⟩
  · exact ⟨46, by decide +kernel, .inr (.inr rfl)⟩
structure TxC where
  vs : List Value
  k : Nat
  q : Int
  tq : Tok
  xs : List Str
local macro_rules | `(tactic| k_all) => `(tactic| first | assumption | exact all_low (by assumption) (by omega))
set_option maxRecDepth 100000 in
set_option maxHeartbeats 8000000 in
theorem tells_text (w : World) (p : Program) (loose : List Str) (mean : ExcName → Option Value) (mg mb : Str → Option Value) : TellsH w p loose mean mg mb 49 textT := by
  w_strict (
  w_top off; unfold TellsH; k_fill; unfold TellsN; intro d dp un gd cn cs a ccd cl outer A₀ base h₀ L m news s vs Q E B F X N T hk hR hok hd hu hret
  obtain ⟨t1, rfl⟩ := hR
  refine wpAny_call ?_
  k_dflt ktr_enter
  k_with_none
  k_with "exec For Name Call cons nil" => ((rename Fr _ _ _ _ => lF'); (with_unfolding_all refine' For_invTF lF' ?_ ?k1; (case k1 => (intro _; rfl))))
  k_with "pyIter ref" => refine stop_here ?_
  (repeat' (first | (k_unfold; (try dsimp only)) | (unfold LedPost; dsimp only) | walk1 | (dsimp only; walk1)))
  refine Stop.out ?_
  (rename IsRange _ _ _ _ _ _ _ _ => rgX)
  rename_i l0 _ ll D0 _ lD _ _ _ _ _ _ _ _ _ _ lF lN _
  have hb0 := fdiv_fmod_facts (d.fmod 196830) 10
  have hb1 := fdiv_fmod_facts d 196830
  obtain ⟨n, hn, hn9⟩ : ∃ n : Nat, (d.fmod 196830).fmod 10 = (n : Int) ∧ n ≤ 9 := ⟨((d.fmod 196830).fmod 10).toNat, by omega, by omega⟩
  have hq0 : 0 ≤ (d.fmod 196830).fdiv 10 := by omega
  rw [hn] at rgX
  obtain ⟨tq0, hq00⟩ := at_int lF (Str.ofString "q") ((d.fmod 196830).fdiv 10) ⟨_, rfl⟩
  k_dflt (refine' iter_rng (σ := TxC) (n := n) (fun c => (l0, listOf (List.toArray c.vs) c.k) :: news) (fun c => [(Str.ofString "q", .int c.q c.tq)]) [Str.ofString "step"] (fun i c => StrsAre c.vs c.xs ∧ c.xs.length = i ∧ 0 ≤ c.q ∧ ∀ s ∈ c.xs, Sg s) ⟨[], 0, (d.fmod 196830).fdiv 10, tq0, []⟩ ?hh rgX ?hs ?hn lF (cb_drop lN ?hsub) ?hk ?hp ?turn ?done)
  case hh => rfl
  case hs => exact small_one (by omega) (by omega) (by omega) (by omega)
  case hn => (rw [rangeSize_nat]; simp)
  case hsub => (intro p hp; exact .tail _ hp)
  case hk => (intro p hp; cases hp with | head => exact hq00 | tail _ h => cases h)
  case hp => exact ⟨.nil, rfl, hq0, fun s hs => absurd hs List.not_mem_nil⟩
  case turn =>
    rintro ⟨vs, k, q, tq, xs⟩ i t I oI u s₁ hi hoff ⟨hvs, hlen, hq, hsg⟩ F2 N2
    dsimp only at hvs hlen hq hsg hoff F2 N2 ⊢
    clear lF lN rgX
    have hvl := hvs.length
    have hI0 : @Ne Nat l0 I := hoff _ (List.Mem.head _)
    k_with "call builtin:list.append" => (k_here; (with_reducible show wpAny _ _ (call (Value.builtin _) [Value.ref _, _]) _ _ _); k_dflt (refine' append_K ?k1 ?k2 ?k3 ?_ ?z; (case k1 => k_asm); (case k2 => k_asm); (case k3 => k_upd); (case z => (rw [List.size_toArray, sizeLine_eq]; omega)); k_whole); intro h5' F5' N5'; (try dsimp only))
    k_with "subscriptTail Constant BinOp str int" => refine stop_here ?_
    (repeat' (first | (k_unfold; (try dsimp only)) | (unfold LedPost; dsimp only) | walk1 | (dsimp only; walk1)))
    (rename Fr _ _ _ _ => lF2)
    obtain ⟨t4, ht4⟩ := at_int lF2 (Str.ofString "q") (q.fdiv 3) ⟨_, rfl⟩
    have hqf := fdiv_fmod_facts q 3
    (rename News _ _ _ _ => lN2)
    obtain ⟨t5, lN3⟩ : ∃ t5, News _ _ _ ((I, oI) :: (l0, listOf (vs.toArray.push (.str (Txt.item (Str.ofString "ab.") (q.fmod 3)) t5)) (k + 1)) :: news) := ⟨_, lN2⟩
    refine rng_end (⟨vs ++ [.str (Txt.item (Str.ofString "ab.") (q.fmod 3)) t5], k + 1, q.fdiv 3, t4, xs ++ [Txt.item (Str.ofString "ab.") (q.fmod 3)]⟩ : TxC) lF2 lN3 ?_ ?_ ?_ ?_ ⟨hvs.append' (.cons _ _ .nil), ?_, ?_, ?_⟩
    · dsimp only; intro p hp; rw [List.push_toArray]; exact hp
    · intro p hp
      rcases List.mem_cons.mp hp with rfl | hp
      · exact hI0
      · exact hoff p (.tail _ hp)
    · intro p hp; cases hp with
      | head => exact ht4
      | tail _ h => cases h
    · intro z h2 h3
      have hz := h2 _ List.mem_cons_self
      have hz2 : z ≠ Str.ofString "step" := fun e => by subst e; simp at h3
      show (if z = Str.ofString "q" then _ else if z = Str.ofString "step" then _ else kstB _ _ z) = _
      rw [if_neg hz, if_neg hz2]
      exact same_off h3 (fun p hp => by cases hp with | head => exact hz | tail _ h => cases h)
    · simp [hlen]
    · (show 0 ≤ q.fdiv 3); omega
    · intro s hs
      rcases List.mem_append.mp hs with h | h
      · exact hsg s h
      · rw [List.mem_singleton.mp h]; exact sg_item
  case done =>
    rintro ⟨vs, k, q, tq, xs⟩ u h2 tk2 ⟨hvs, hlen, hq, hsg⟩ F2 N2
    dsimp only at hvs hlen hq hsg F2 N2 ⊢
    clear lF lN rgX
    obtain ⟨l9, rfl, hl9⟩ := strs_vals hvs
    k_with "call builtin:str.join" => (k_here; refine SC.join (News.isList (by k_asm) (by k_mem)) hl9 (join_fits hsg (by omega)) ?_; intro _ _)
    (repeat' (first | (k_unfold; (try dsimp only)) | (unfold LedPost; dsimp only) | walk1 | (dsimp only; walk1)))
    (refine hret _ [] _ _ (by k_asm) (ktn_tl0 (cb_drop (by k_asm) (by (intro p hp; repeat (first | exact hp | refine List.Mem.tail _ ?_))))) ktn_ord0 rfl ?_; exact ⟨_, _, rfl, join_ok hsg (by omega)⟩))
end Mine
end
section
open PySem PySem.W PyProof.Rows PySem.Builtin PySem.Builtin.Str
namespace Mine
/-- pieces stand in t, whole, with any runs between them -/
def PM : List (List Nat) → List Nat → Prop
  | [], _ => False
  | [p], t => t = p
  | p :: q :: r, t => ∃ s t', t = p ++ (s ++ t') ∧ PM (q :: r) t'
/-- pieces lie in t in their order -/
def FM : List (List Nat) → List Nat → Prop
  | [], _ => True
  | p :: r, t => ∃ s t', t = s ++ (p ++ t') ∧ FM r t'
theorem FM_mono : ∀ {ws : List (List Nat)} {t : List Nat} (s : List Nat), FM ws t → FM ws (s ++ t)
  | [], _, _, _ => trivial
  | p :: r, t, s, ⟨s', t', e, h⟩ => ⟨s ++ s', t', by rw [e, List.append_assoc], h⟩
theorem FM_monoR : ∀ {ws : List (List Nat)} {t : List Nat} (s : List Nat), FM ws t → FM ws (t ++ s)
  | [], _, _, _ => trivial
  | p :: r, t, s, ⟨s', t', e, h⟩ => ⟨s', t' ++ s, by rw [e]; simp, FM_monoR s h⟩
theorem FM_nilL {ws : List (List Nat)} {t : List Nat} : FM ([] :: ws) t ↔ FM ws t := by
  constructor
  · rintro ⟨s, t', e, h⟩
    rw [e]
    exact FM_mono _ (by simpa using h)
  · intro h
    exact ⟨[], t, by simp, h⟩
theorem FM_nilR : ∀ {ws : List (List Nat)} {t : List Nat}, FM (ws ++ [[]]) t ↔ FM ws t
  | [], t => by constructor
                · intro _; trivial
                · intro _; exact ⟨[], t, by simp, trivial⟩
  | p :: r, t => by
    constructor
    · rintro ⟨s, t', e, h⟩
      exact ⟨s, t', e, FM_nilR.mp h⟩
    · rintro ⟨s, t', e, h⟩
      exact ⟨s, t', e, FM_nilR.mpr h⟩
theorem PM_FM : ∀ {mid : List (List Nat)} {p0 pk t : List Nat}, PM (p0 :: (mid ++ [pk])) t ↔ ∃ core, t = p0 ++ (core ++ pk) ∧ FM mid core
  | [], p0, pk, t => by
    constructor
    · rintro ⟨s, t', e, h⟩
      replace h : t' = pk := h
      subst h
      exact ⟨s, e, trivial⟩
    · rintro ⟨core, e, _⟩
      exact ⟨core, pk, e, rfl⟩
  | q :: mid, p0, pk, t => by
    constructor
    · rintro ⟨s, t', e, h⟩
      obtain ⟨core, e2, h2⟩ := PM_FM.mp h
      exact ⟨s ++ (q ++ core), by rw [e, e2]; simp, s, core, rfl, h2⟩
    · rintro ⟨core, e, s, t', e2, h⟩
      exact ⟨s, q ++ (t' ++ pk), by rw [e, e2]; simp, PM_FM.mpr ⟨t', rfl, h⟩⟩
theorem PM_head {c : Nat} {p : List (List Nat)} {t : List Nat} (hp : p ≠ []) : PM (p.modifyHead (c :: ·)) t ↔ ∃ t', t = c :: t' ∧ PM p t' := by
  match p, hp with
  | [a], _ =>
    show t = c :: a ↔ _
    constructor
    · intro h; exact ⟨a, h, rfl⟩
    · rintro ⟨t', h, h2⟩
      replace h2 : t' = a := h2
      rw [h, h2]
  | a :: q :: r, _ =>
    constructor
    · rintro ⟨s, t', e, h⟩
      exact ⟨a ++ (s ++ t'), e, s, t', rfl, h⟩
    · rintro ⟨t1, e, s, t', e2, h⟩
      exact ⟨s, t', by rw [e, e2]; rfl, h⟩
theorem PM_nil {p : List (List Nat)} {t : List Nat} (hp : p ≠ []) : PM ([] :: p) t ↔ ∃ s t', t = s ++ t' ∧ PM p t' := by
  match p, hp with
  | q :: r, _ => exact Iff.rfl
theorem starts3_iff {x y : Str} {i : Int} (h0 : 0 ≤ i) (hy : 0 < (Ls y).length) : Txt.startswith3 x y i = true ↔ ((Ls x).drop i.toNat).take (Ls y).length = Ls y := by
  have hl := ls_len x
  have hly := ls_len y
  have e : fromIndex x.length i = i.toNat := by unfold fromIndex; rw [if_neg (by omega)]; omega
  show (decide (fromIndex x.length i + y.length ≤ x.length) && subAt x y (fromIndex x.length i)) = true ↔ _
  rw [e, StrLaws.subAt_eq, Bool.and_eq_true, beq_iff_eq, hly, decide_eq_true_eq]
  constructor
  · exact fun h => h.2
  · intro h
    refine ⟨?_, h⟩
    have := congrArg List.length h
    rw [List.length_take, List.length_drop] at this
    omega
theorem ls_item {x : Str} {i : Int} (h0 : 0 ≤ i) (h1 : i < (x.length : Int)) : (Ls x).drop i.toNat = (Ls (Txt.item x i)) ++ (Ls x).drop (i.toNat + 1) ∧ ∃ c, Ls (Txt.item x i) = [c] := by
  have hl := ls_len x
  have hb : i.toNat < (Ls x).length := by omega
  have e1 : seqIndex? i x.length = some i.toNat := by
    unfold seqIndex?
    simp
    omega
  have e2 : Txt.charAt x i = some ((Ls x)[i.toNat]) := by
    unfold Txt.charAt
    rw [e1]
    show x.cps[i.toNat]? = _
    rw [← Array.getElem?_toList]
    exact List.getElem?_eq_getElem hb
  have e3 : Ls (Txt.item x i) = [(Ls x)[i.toNat]] := by
    unfold Txt.item
    rw [e2]
    rfl
  refine ⟨?_, _, e3⟩
  rw [e3]
  exact List.drop_eq_getElem_cons hb
def Asc (ns : List Int) : Prop := ns.Pairwise (· < ·)
theorem asc_filter {x y : Str} {i : Int} {ns : List Int} (h : Asc ns) : Asc (stFilter x y i ns) := by
  unfold stFilter Asc
  exact (List.Pairwise.filter _ h).map _ fun a b hab => by omega
theorem mem_rangeL {a k : Int} {n : Nat} : k ∈ rangeKs a n ↔ a ≤ k ∧ k < a + n := by
  constructor
  · intro h
    have := mem_rangeKs h
    omega
  · intro h
    unfold rangeKs
    simp
    exact ⟨(k - a).toNat, by omega, by omega⟩
theorem asc_range (a : Int) (n : Nat) : Asc (rangeKs a n) := by
  unfold rangeKs Asc
  rw [List.pairwise_map]
  exact List.Pairwise.imp (fun h => by omega) List.pairwise_lt_range
theorem standsGo_PM {x y : Str} : ∀ (f : Nat) (i : Int) (ns : List Int), 0 ≤ i → (x.length : Int) ≤ i + f → Asc ns → (∀ n ∈ ns, 0 ≤ n ∧ n ≤ (y.length : Int)) →
    (standsGo x y f i ns = true ↔ ∃ k ∈ ns, PM (splS dd ((Ls x).drop i.toNat)) ((Ls y).drop k.toNat)) := by
  have hl := ls_len x
  have hly := ls_len y
  have hdd : 0 < dd.length := by decide
  have base : ∀ (i : Int) (ns : List Int), ¬ (i < (x.length : Int) ∧ 0 < ns.length) → 0 ≤ i → (∀ n ∈ ns, 0 ≤ n ∧ n ≤ (y.length : Int)) →
      ((ns.any fun k => k == (y.length : Int)) = true ↔ ∃ k ∈ ns, PM (splS dd ((Ls x).drop i.toNat)) ((Ls y).drop k.toNat)) := by
    intro i ns h h0 hr
    cases ns with
    | nil => simp
    | cons a r =>
      have hi : (x.length : Int) ≤ i := by
        apply Int.le_of_not_gt
        intro h2
        exact h ⟨h2, by simp⟩
      rw [List.drop_eq_nil_of_le (by omega), splS_nil, List.any_eq_true]
      constructor
      · rintro ⟨k, hk, e⟩
        refine ⟨k, hk, ?_⟩
        have : k = (y.length : Int) := eq_of_beq e
        show (Ls y).drop k.toNat = []
        exact List.drop_eq_nil_of_le (by omega)
      · rintro ⟨k, hk, e⟩
        refine ⟨k, hk, ?_⟩
        replace e : (Ls y).drop k.toNat = [] := e
        have := hr k hk
        have h3 := congrArg List.length e
        rw [List.length_drop, List.length_nil] at h3
        exact beq_iff_eq.mpr (by omega)
  intro f
  induction f with
  | zero =>
    intro i ns h0 hf _ hr
    exact base i ns (by omega) h0 hr
  | succ f ih =>
    intro i ns h0 hf ha hr
    by_cases hc : i < (x.length : Int) ∧ 0 < ns.length
    · conv => lhs; unfold standsGo
      rw [if_pos hc]
      split
      · rename_i hs
        have hs' := (starts3_iff h0 (by decide +kernel)).mp hs
        rw [ls_dots] at hs'
        rw [splS_hit hdd hs', List.drop_drop]
        obtain ⟨p, q, e⟩ := splS_ne hdd _ ((Ls x).drop (i.toNat + dd.length)) (Nat.le_refl _)
        have e9 : (i + 3).toNat = i.toNat + dd.length := by show (i + 3).toNat = i.toNat + 3; omega
        obtain ⟨n0, nr, rfl⟩ : ∃ a r, ns = a :: r := by
          cases ns with
          | nil => simp at hc
          | cons a r => exact ⟨a, r, rfl⟩
        have hn0 := hr n0 List.mem_cons_self
        have hrange : ∀ k, k ∈ stRange y (n0 :: nr) ↔ n0 ≤ k ∧ k ≤ (y.length : Int) := by
          intro k
          show k ∈ rangeKs n0 ((y.length : Int) + 1 - n0).toNat ↔ _
          rw [mem_rangeL]
          constructor <;> (intro h; omega)
        rw [ih (i + 3) (stRange y (n0 :: nr)) (by omega) (by omega) (asc_range _ _) (fun k hk => by have := (hrange k).mp hk; omega), e9]
        constructor
        · rintro ⟨k, hk, h⟩
          have hk' := (hrange k).mp hk
          refine ⟨n0, List.mem_cons_self, (PM_nil (by rw [e]; simp)).mpr ⟨((Ls y).drop n0.toNat).take (k.toNat - n0.toNat), (Ls y).drop k.toNat, ?_, h⟩⟩
          have e8 : (Ls y).drop k.toNat = ((Ls y).drop n0.toNat).drop (k.toNat - n0.toNat) := by rw [List.drop_drop]; congr 1; omega
          rw [e8, List.take_append_drop]
        · rintro ⟨k, hk, h⟩
          obtain ⟨s, t', e7, h2⟩ := (PM_nil (by rw [e]; simp)).mp h
          have hk' := hr k hk
          have hle : n0 ≤ k := by
            rcases List.mem_cons.mp hk with rfl | hk2
            · omega
            · exact Int.le_of_lt (List.rel_of_pairwise_cons ha hk2)
          have e6 := congrArg List.length e7
          rw [List.length_drop, List.length_append] at e6
          refine ⟨k + s.length, (hrange _).mpr ⟨by omega, by omega⟩, ?_⟩
          have e5 : (Ls y).drop (k + s.length).toNat = t' := by
            rw [show (k + (s.length : Int)).toNat = k.toNat + s.length by omega, ← List.drop_drop, e7]
            simp
          rw [e5]
          exact h2
      · rename_i hs
        have hs' := fun h => hs ((starts3_iff (x := x) (y := Str.ofString "...") h0 (by decide +kernel)).mpr h)
        rw [ls_dots] at hs'
        obtain ⟨e1, c, e2⟩ := ls_item h0 hc.1
        rw [e2] at e1
        have e1' : (Ls x).drop i.toNat = c :: (Ls x).drop (i.toNat + 1) := e1
        rw [e1'] at hs' ⊢
        rw [splS_miss hs', ih (i + 1) (stFilter x y i ns) (by omega) (by omega) (asc_filter ha) ?_]
        · obtain ⟨p, q, e⟩ := splS_ne hdd _ ((Ls x).drop (i.toNat + 1)) (Nat.le_refl _)
          have e9 : (i + 1).toNat = i.toNat + 1 := by omega
          rw [e9]
          have hsl : ∀ j : Int, 0 ≤ j → ((Txt.slice y (some j) (some (j + 1)) == Txt.item x i) = true ↔ ∃ t', (Ls y).drop j.toNat = c :: t') := by
            intro j hj
            rw [ls_beq, decide_eq_true_eq, ls_slice hj (by omega), e2, show (j + 1 - j).toNat = 1 by omega]
            cases (Ls y).drop j.toNat with
            | nil => simp
            | cons a r => simp
          constructor
          · rintro ⟨k, hk, h⟩
            obtain ⟨j, hj, rfl, hq⟩ := mem_stFilter hk
            have hj' := hr j hj
            obtain ⟨t', e3⟩ := (hsl j hj'.1).mp hq
            refine ⟨j, hj, (PM_head (by rw [e]; simp)).mpr ⟨t', e3, ?_⟩⟩
            have e4 : (Ls y).drop (j + 1).toNat = t' := by
              rw [show (j + 1).toNat = j.toNat + 1 by omega, ← List.drop_drop, e3]
              simp
            rw [e4] at h
            exact h
          · rintro ⟨j, hj, h⟩
            obtain ⟨t', e3, h2⟩ := (PM_head (by rw [e]; simp)).mp h
            have hj' := hr j hj
            refine ⟨j + 1, ?_, ?_⟩
            · unfold stFilter
              exact List.mem_map.mpr ⟨j, List.mem_filter.mpr ⟨hj, (hsl j hj'.1).mpr ⟨t', e3⟩⟩, rfl⟩
            · have e4 : (Ls y).drop (j + 1).toNat = t' := by
                rw [show (j + 1).toNat = j.toNat + 1 by omega, ← List.drop_drop, e3]
                simp
              rw [e4]
              exact h2
        · intro k hk
          obtain ⟨j, hj, rfl, hq⟩ := mem_stFilter hk
          have hj' := hr j hj
          have : j < (y.length : Int) := by
            apply Int.lt_of_not_ge
            intro hge
            have e5 := slice_out hge
            rw [eq_of_beq hq, len_item] at e5
            cases e5
          omega
    · rw [standsGo_stop hc]
      exact base i ns hc h0 hr
theorem stands_PM (x y : Str) : standsS x y = true ↔ PM (splS dd (Ls x)) (Ls y) := by
  unfold standsS
  rw [standsGo_PM x.length 0 [0] (by omega) (by omega) (by simp [Asc]) (fun n hn => by simp at hn; omega)]
  simp
end Mine
end
section
open PySem PySem.W PyProof.Rows PySem.Builtin PySem.Builtin.Str
namespace Mine
/-- a stretch of a list -/
def cut (l : List Nat) (a b : Int) : List Nat := (l.drop a.toNat).take (b - a).toNat
theorem cut_len {l : List Nat} {a b : Int} (h0 : 0 ≤ a) (h1 : a ≤ b) (h2 : b ≤ (l.length : Int)) : ((cut l a b).length : Int) = b - a := by
  unfold cut
  rw [List.length_take, List.length_drop]
  omega
theorem cut_split {l : List Nat} {a b c : Int} (h0 : 0 ≤ a) (h1 : a ≤ b) (h2 : b ≤ c) : cut l a c = cut l a b ++ cut l b c := by
  unfold cut
  have e1 : (c - a).toNat = (b - a).toNat + (c - b).toNat := by omega
  have e2 : l.drop b.toNat = (l.drop a.toNat).drop (b - a).toNat := by rw [List.drop_drop]; congr 1; omega
  rw [e1, e2, List.take_add]
theorem occL_mem {x y : Str} {hi : Nat} : ∀ {l : List Nat} {free : Nat}, ∀ i ∈ occL x y hi l free, i ∈ l ∧ i + y.length ≤ hi ∧ subAt x y i = true
  | [], _, i, h => by cases h
  | a :: l, free, i, h => by
    unfold occL at h
    split at h
    · rename_i hc
      rcases List.mem_cons.mp h with rfl | h
      · exact ⟨List.mem_cons_self, hc.1.2, hc.2⟩
      · have := occL_mem i h
        exact ⟨List.mem_cons_of_mem _ this.1, this.2⟩
    · have := occL_mem i h
      exact ⟨List.mem_cons_of_mem _ this.1, this.2⟩
/-- the first place -/
theorem occL_head {x y : Str} {hi : Nat} : ∀ (n b free : Nat), free ≤ b →
    (occL x y hi (List.range' b n) free = [] ∧ ∀ i, b ≤ i → i < b + n → ¬ (i + y.length ≤ hi ∧ subAt x y i = true)) ∨
    ∃ i r, occL x y hi (List.range' b n) free = i :: r ∧ b ≤ i ∧ i + y.length ≤ hi ∧ subAt x y i = true ∧ ∀ j, b ≤ j → j < i → ¬ (j + y.length ≤ hi ∧ subAt x y j = true)
  | 0, b, free, _ => .inl ⟨rfl, fun i h1 h2 => by omega⟩
  | n + 1, b, free, hf => by
    rw [List.range'_succ]
    unfold occL
    by_cases hc : b + y.length ≤ hi ∧ subAt x y b = true
    · rw [if_pos ⟨⟨hf, hc.1⟩, hc.2⟩]
      exact .inr ⟨b, _, rfl, Nat.le_refl _, hc.1, hc.2, fun j h1 h2 => by omega⟩
    · rw [if_neg (fun h => hc ⟨h.1.2, h.2⟩)]
      rcases occL_head n (b + 1) free (by omega) with ⟨h1, h2⟩ | ⟨i, r, h1, h2, h3, h4, h5⟩
      · refine .inl ⟨h1, fun i hi1 hi2 => ?_⟩
        by_cases e : i = b
        · rw [e]; exact hc
        · exact h2 i (by omega) (by omega)
      · refine .inr ⟨i, r, h1, by omega, h3, h4, fun j hj1 hj2 => ?_⟩
        by_cases e : j = b
        · rw [e]; exact hc
        · exact h5 j (by omega) hj2
theorem sub_cut {y p : Str} {i : Nat} (hi : i + p.length ≤ y.length) : subAt y p i = true ↔ ∃ t', (Ls y).drop i = Ls p ++ t' := by
  have hl := ls_len y
  have hp := ls_len p
  rw [StrLaws.subAt_eq, beq_iff_eq]
  constructor
  · intro h
    refine ⟨((Ls y).drop i).drop p.length, ?_⟩
    have h2 := List.take_append_drop p.length ((Ls y).drop i)
    replace h : ((Ls y).drop i).take p.length = Ls p := h
    rw [h] at h2
    exact h2.symm
  · rintro ⟨t', h⟩
    show ((Ls y).drop i).take p.length = Ls p
    rw [h, ← hp]
    simp
theorem find4_spec (y p : Str) {sp ep : Int} (h0 : 0 ≤ sp) (h1 : sp ≤ ep) (h2 : ep ≤ (y.length : Int)) :
    (find4 y p sp ep < 0 ∧ ∀ s t', cut (Ls y) sp ep ≠ s ++ (Ls p ++ t')) ∨
    (sp ≤ find4 y p sp ep ∧ find4 y p sp ep + p.length ≤ ep ∧ cut (Ls y) (find4 y p sp ep) (find4 y p sp ep + p.length) = Ls p ∧ ∀ s t', cut (Ls y) sp ep = s ++ (Ls p ++ t') → find4 y p sp ep ≤ sp + s.length) := by
  have hl := ls_len y
  have hp := ls_len p
  have e1 : fromIndex y.length sp = sp.toNat := by unfold fromIndex; rw [if_neg (by omega)]; omega
  have e2 : min (fromIndex y.length ep) y.length = ep.toNat := by unfold fromIndex; rw [if_neg (by omega)]; omega
  -- a place of p within the stretch
  have hat : ∀ s t', cut (Ls y) sp ep = s ++ (Ls p ++ t') → (sp.toNat + s.length) + p.length ≤ ep.toNat ∧ subAt y p (sp.toNat + s.length) = true := by
    intro s t' e
    have e4 := congrArg List.length e
    have e5 := cut_len h0 h1 (show ep ≤ ((Ls y).length : Int) by omega)
    simp only [List.length_append] at e4
    have e6 : sp.toNat + s.length + p.length ≤ ep.toNat := by omega
    refine ⟨e6, (sub_cut (by omega)).mpr ⟨t' ++ (Ls y).drop ep.toNat, ?_⟩⟩
    have e7 : (Ls y).drop sp.toNat = cut (Ls y) sp ep ++ (Ls y).drop ep.toNat := by
      unfold cut
      have e8 : (Ls y).drop ep.toNat = ((Ls y).drop sp.toNat).drop (ep - sp).toNat := by rw [List.drop_drop]; congr 1; omega
      rw [e8, List.take_append_drop]
    rw [← List.drop_drop, e7, e]
    simp
  unfold find4
  rw [e1, e2, occ_occL]
  rcases occL_head (x := y) (y := p) (hi := ep.toNat) (ep.toNat + 1 - sp.toNat) sp.toNat sp.toNat (Nat.le_refl _) with ⟨k1, k2⟩ | ⟨i, r, k1, k2, k3, k4, k5⟩
  · left
    rw [k1]
    refine ⟨by simp, fun s t' e => ?_⟩
    obtain ⟨a1, a2⟩ := hat s t' e
    exact k2 _ (by omega) (by omega) ⟨a1, a2⟩
  · right
    rw [k1]
    simp only [List.take_succ_cons]
    refine ⟨by omega, by omega, ?_, fun s t' e => ?_⟩
    · obtain ⟨t', e⟩ := (sub_cut (by omega)).mp k4
      unfold cut
      rw [Int.toNat_natCast, e, show ((i : Int) + p.length - i).toNat = (Ls p).length by omega]
      simp
    · obtain ⟨a1, a2⟩ := hat s t' e
      apply Int.le_of_not_gt
      intro hlt
      exact k5 _ (by omega) (by omega) ⟨a1, a2⟩
theorem find_FM {y : Str} {ep : Int} (h2 : ep ≤ (y.length : Int)) : ∀ (ws : List Str) (sp : Int), 0 ≤ sp → sp ≤ ep → ((findAll y ep ws sp).isSome = true ↔ FM (ws.map Ls) (cut (Ls y) sp ep))
  | [], sp, _, _ => by simp [findAll, FM]
  | p :: r, sp, h0, h1 => by
    have hl := ls_len y
    unfold findAll
    rcases find4_spec y p h0 h1 h2 with ⟨k1, k2⟩ | ⟨k1, k2, k3, k4⟩
    · rw [if_pos k1]
      constructor
      · intro h; cases h
      · rintro ⟨s, t', e, _⟩
        exact absurd e (k2 s t')
    · rw [if_neg (by omega), find_FM h2 r _ (by omega) k2]
      have e1 : cut (Ls y) sp ep = cut (Ls y) sp (find4 y p sp ep) ++ (Ls p ++ cut (Ls y) (find4 y p sp ep + p.length) ep) := by
        rw [cut_split h0 k1 (by omega), cut_split (b := find4 y p sp ep + p.length) (by omega) (by omega) k2, k3]
      constructor
      · intro h
        exact ⟨_, _, e1, h⟩
      · rintro ⟨s, t', e, h⟩
        have h3 := k4 s t' e
        have e4 := congrArg List.length e
        have e5 := cut_len h0 h1 (show ep ≤ ((Ls y).length : Int) by omega)
        have hp := ls_len p
        simp only [List.length_append] at e4
        have e6 : cut (Ls y) (sp + s.length + p.length) ep = t' := by
          have a1 := cut_split (l := Ls y) (a := sp) (b := sp + s.length + p.length) (c := ep) (by omega) (by omega) (by omega)
          rw [e, ← List.append_assoc] at a1
          exact (List.append_inj_right a1 (by
            have := cut_len (l := Ls y) (a := sp) (b := sp + s.length + p.length) (by omega) (by omega) (by omega)
            rw [List.length_append]; omega)).symm
        rw [cut_split (b := sp + s.length + p.length) (by omega) (by omega) (by omega), e6]
        exact FM_mono _ h
theorem starts_iff (y p : Str) : Txt.startswith y p = true ↔ ∃ t', Ls y = Ls p ++ t' := by
  have hl := ls_len y
  have hp := ls_len p
  show (decide (0 + p.length ≤ y.length) && subAt y p 0) = true ↔ _
  rw [Bool.and_eq_true, decide_eq_true_eq]
  constructor
  · rintro ⟨h1, h2⟩
    exact (sub_cut h1).mp h2
  · rintro ⟨t', h⟩
    have e := congrArg List.length h
    rw [List.length_append] at e
    exact ⟨by omega, (sub_cut (by omega)).mpr ⟨t', h⟩⟩
theorem ends_iff (y p : Str) : Txt.endswith y p = true ↔ ∃ t', Ls y = t' ++ Ls p := by
  have hl := ls_len y
  have hp := ls_len p
  show (decide (0 + p.length ≤ y.length) && subAt y p (y.length - p.length)) = true ↔ _
  rw [Bool.and_eq_true, decide_eq_true_eq]
  constructor
  · rintro ⟨h1, h2⟩
    obtain ⟨t', h⟩ := (sub_cut (by omega)).mp h2
    have e := congrArg List.length h
    rw [List.length_append, List.length_drop] at e
    have : t' = [] := List.eq_nil_of_length_eq_zero (by omega)
    rw [this, List.append_nil] at h
    exact ⟨(Ls y).take (y.length - p.length), by rw [← h, List.take_append_drop]⟩
  · rintro ⟨t', h⟩
    have e := congrArg List.length h
    rw [List.length_append] at e
    refine ⟨by omega, (sub_cut (by omega)).mpr ⟨[], ?_⟩⟩
    rw [h, show y.length - p.length = t'.length by omega]
    simp
theorem mid_FM {y : Str} {ws : List Str} {sp ep : Int} (h0 : 0 ≤ sp) (h2 : ep ≤ (y.length : Int)) : midS y ws sp ep = true ↔ sp ≤ ep ∧ FM (ws.map Ls) (cut (Ls y) sp ep) := by
  unfold midS
  split
  · constructor
    · intro h; cases h
    · rintro ⟨h, _⟩; omega
  · rw [find_FM h2 ws sp h0 (by omega)]
    exact ⟨fun h => ⟨by omega, h⟩, fun h => h.2⟩
theorem last_FM {y pk : Str} {ws : List Str} {sp : Int} (h0 : 0 ≤ sp) (h1 : sp ≤ (y.length : Int)) : lastS y ws pk sp = true ↔ ∃ core, (Ls y).drop sp.toNat = core ++ Ls pk ∧ FM (ws.map Ls) core := by
  have hl := ls_len y
  have hp := ls_len pk
  unfold lastS
  split
  · rename_i hz
    split
    · rename_i he
      obtain ⟨t', e⟩ := (ends_iff y pk).mp he
      have e4 := congrArg List.length e
      rw [List.length_append] at e4
      rw [mid_FM h0 (by omega)]
      constructor
      · rintro ⟨h2, h3⟩
        refine ⟨_, ?_, h3⟩
        unfold cut
        rw [e, show ((y.length : Int) - pk.length - sp).toNat = t'.length - sp.toNat by omega, List.drop_append_of_le_length (by omega), List.take_left']
        simp
      · rintro ⟨core, h2, h3⟩
        have e5 := congrArg List.length h2
        rw [List.length_drop, List.length_append] at e5
        refine ⟨by omega, ?_⟩
        have : cut (Ls y) sp ((y.length : Int) - pk.length) = core := by
          unfold cut
          rw [h2, show ((y.length : Int) - pk.length - sp).toNat = core.length by omega]
          simp
        rw [this]
        exact h3
    · rename_i he
      constructor
      · intro h; cases h
      · rintro ⟨core, h2, h3⟩
        refine absurd ((ends_iff y pk).mpr ⟨(Ls y).take sp.toNat ++ core, ?_⟩) he
        rw [List.append_assoc, ← h2, List.take_append_drop]
  · rename_i hz
    have hpk : Ls pk = [] := List.eq_nil_of_length_eq_zero (by omega)
    rw [mid_FM h0 (Int.le_refl _), List.map_append, List.map_cons, List.map_nil, hpk, FM_nilR]
    have e : cut (Ls y) sp y.length = (Ls y).drop sp.toNat := by
      unfold cut
      exact List.take_of_length_le (by rw [List.length_drop]; omega)
    rw [e]
    constructor
    · rintro ⟨_, h⟩; exact ⟨_, by simp, h⟩
    · rintro ⟨core, h2, h3⟩
      rw [List.append_nil] at h2
      rw [h2]
      exact ⟨h1, h3⟩
theorem first_PM {y p0 pk : Str} {mid : List Str} : firstS y p0 mid pk = true ↔ PM (Ls p0 :: (mid.map Ls ++ [Ls pk])) (Ls y) := by
  have hl := ls_len y
  have hp := ls_len p0
  rw [PM_FM]
  unfold firstS
  split
  · split
    · rename_i he
      obtain ⟨t', e⟩ := (starts_iff y p0).mp he
      have e4 := congrArg List.length e
      rw [List.length_append] at e4
      rw [last_FM (by omega) (by omega)]
      have e5 : (Ls y).drop ((p0.length : Int)).toNat = t' := by
        rw [Int.toNat_natCast, e, ← hp]
        simp
      rw [e5, e]
      constructor
      · rintro ⟨core, h2, h3⟩
        exact ⟨core, by rw [h2], h3⟩
      · rintro ⟨core, h2, h3⟩
        exact ⟨core, List.append_cancel_left h2, h3⟩
    · rename_i he
      constructor
      · intro h; cases h
      · rintro ⟨core, h2, h3⟩
        exact absurd ((starts_iff y p0).mpr ⟨_, h2⟩) he
  · have hp0 : Ls p0 = [] := List.eq_nil_of_length_eq_zero (by omega)
    rw [last_FM (by omega) (by omega), List.map_cons, hp0]
    constructor
    · rintro ⟨core, h2, h3⟩
      exact ⟨core, h2, FM_nilL.mp h3⟩
    · rintro ⟨core, h2, h3⟩
      exact ⟨core, h2, FM_nilL.mpr h3⟩
theorem match_PM (x y : Str) : matchS x y = true ↔ PM (splS dd (Ls x)) (Ls y) := by
  have hs := split_spl x (Str.ofString "...") (by decide +kernel) (by decide +kernel)
  rw [ls_dots] at hs
  cases h : (occurrences x (Str.ofString "...") 0 x.length 1).isEmpty with
  | true =>
    rw [matchS_no h, ← hs, split_none (by decide +kernel) h]
    show _ ↔ Ls y = Ls x
    rw [beq_iff_eq]
    exact ⟨fun e => by rw [e], fun e => (ls_inj e).symm⟩
  | false =>
    obtain ⟨p0, mid, pk, e⟩ := split_some (y := Str.ofString "...") (by decide +kernel) h
    rw [matchS_of h e, ← hs, e, first_PM]
    simp
theorem match_stands (x y : Str) : matchS x y = standsS x y := by
  rw [Bool.eq_iff_iff, match_PM, stands_PM]
end Mine
end
section
open PySem PySem.W PySem.Calls PyProof.Rows PyProof.V PySem.Spec
namespace Mine
/-- a text of the three signs -/
def Sg3 (x : Str) : Prop := ∀ c ∈ Ls x, c = 97 ∨ c = 98 ∨ c = 46
theorem sg3_ok {x : Str} (h : Sg3 x) : PyData.strOk x = true := by
  unfold PyData.strOk
  rw [Array.all_eq_true_iff_forall_mem]
  intro c hc
  have := h c (Array.mem_toList_iff.mpr hc)
  exact decide_eq_true (by omega)
abbrev datS (xs : List Str) : PyData := .list (xs.map .str)
abbrev datL (xss : List (List Str)) : PyData := .list (xss.map datS)
theorem reads_strs (h : Heap) {vs : List Value} {xs : List Str} (hs : StrsAre vs xs) : ReadsAll h vs (xs.map .str) [] := by
  induction hs with
  | nil => exact .nil
  | cons x t _ ih => exact .cons (as := []) (.str x t) ih
theorem reads_lists {h₀ h : Heap} {L : Addr} {news : List (Addr × Obj)} (N : News h₀ L h news) {vs : List Value} {xss : List (List Str)} (hl : ListsIn news vs xss) : ∃ as, ReadsAll h vs (xss.map datS) as := by
  induction hl with
  | nil => exact ⟨_, .nil⟩
  | cons hm hx _ ih =>
    obtain ⟨as, ih⟩ := ih
    exact ⟨_, .cons (reads_list_at (N _ hm).1 rfl rfl (by rw [List.toList_toArray]; exact reads_strs h hx)) ih⟩
theorem reads_draws {h₀ h : Heap} {L : Addr} {news : List (Addr × Obj)} (N : News h₀ L h news) {v : Value} {xss : List (List Str)} (hd : DrawsIn news v xss) : ∃ as, Reads h v (datL xss) as := by
  obtain ⟨a, vs, k, rfl, hm, hl⟩ := hd
  obtain ⟨as, hr⟩ := reads_lists N hl
  exact ⟨_, reads_list_at (N _ hm).1 rfl rfl (by rw [List.toList_toArray]; exact hr)⟩
theorem shape_strs {xs : List Str} (h : ∀ x ∈ xs, Sg3 x) : PyData.canLayAll0 (xs.map .str) = true ∧ PyData.depthAll (xs.map .str) = 0 := by
  induction xs with
  | nil => exact ⟨rfl, rfl⟩
  | cons x r ih =>
    obtain ⟨h1, h2⟩ := ih fun y hy => h y (List.mem_cons_of_mem _ hy)
    refine ⟨?_, ?_⟩
    · show (PyData.strOk x && PyData.canLayAll0 (r.map .str)) = true
      rw [h1, sg3_ok (h x List.mem_cons_self)]; rfl
    · show max (PyData.depth (.str x)) (PyData.depthAll (r.map .str)) = 0
      rw [h2]; rfl
theorem shaped_strs {xs : List Str} (h : ∀ x ∈ xs, Sg3 x) : SeqAt.shaped (datS xs) = true := by
  obtain ⟨h1, h2⟩ := shape_strs h
  simp [SeqAt.shaped, PyData.canLay0, PyData.depth, h1, h2]
theorem shape_lists {xss : List (List Str)} (h : ∀ xs ∈ xss, ∀ x ∈ xs, Sg3 x) : PyData.canLayAll0 (xss.map datS) = true ∧ PyData.depthAll (xss.map datS) ≤ 1 := by
  induction xss with
  | nil => exact ⟨rfl, by decide⟩
  | cons xs r ih =>
    obtain ⟨h1, h2⟩ := ih fun y hy => h y (List.mem_cons_of_mem _ hy)
    obtain ⟨h3, h4⟩ := shape_strs (h xs List.mem_cons_self)
    refine ⟨?_, ?_⟩
    · show (PyData.canLayAll0 (xs.map .str) && PyData.canLayAll0 (r.map datS)) = true
      rw [h1, h3]; rfl
    · show max (PyData.depthAll (xs.map .str) + 1) (PyData.depthAll (r.map datS)) ≤ 1
      omega
theorem shaped_lists {xss : List (List Str)} (h : ∀ xs ∈ xss, ∀ x ∈ xs, Sg3 x) : SeqAt.shaped (datL xss) = true := by
  obtain ⟨h1, h2⟩ := shape_lists h
  simp only [SeqAt.shaped, PyData.canLay0, PyData.depth, h1, Bool.true_and]
  exact decide_eq_true (by omega)
theorem eqv_strs : ∀ xs : List Str, PyData.eqvAll (xs.map .str) (xs.map .str) = true
  | [] => by simp [PyData.eqvAll]
  | x :: r => by simp only [List.map_cons, PyData.eqvAll, PyData.eqv, eqv_strs r, beq_self_eq_true, Bool.and_true]
theorem eqv_lists : ∀ xss : List (List Str), PyData.eqvAll (xss.map datS) (xss.map datS) = true
  | [] => by simp [PyData.eqvAll]
  | xs :: r => by
    simp only [List.map_cons, PyData.eqvAll, eqv_lists r, Bool.and_true]
    show PyData.eqv (.list (xs.map .str)) (.list (xs.map .str)) = true
    simp only [PyData.eqv]
    exact eqv_strs xs
section
variable {prog : Program} {w : World} {A : Around} {E : Value → Shared → Prop} {s : Shared} {h₀ : Heap} {L : Addr} {news : List (Addr × Obj)} {Q : Value → Shared → Prop} {v v' : Value}
theorem ne_draws {xss yss : List (List Str)} (N : News h₀ L s.heap news) (h1 : DrawsIn news v xss) (h2 : DrawsIn news v' yss) (e : xss = yss) (hs : ∀ xs ∈ xss, ∀ x ∈ xs, Sg3 x) (hu : A.units + 64 < cLine) (h : Q (.bool false) s) : wpAny (model prog w) A (compareOp .NotEq v v') Q E s := by
  subst e
  obtain ⟨as, r1⟩ := reads_draws N h1
  obtain ⟨bs, r2⟩ := reads_draws N h2
  refine ne_dataH r1 r2 (shaped_lists hs) (shaped_lists hs) hu ?_
  have e : PyData.eqv (datL xss) (datL xss) = true := by
    show PyData.eqv (.list (xss.map datS)) (.list (xss.map datS)) = true
    simp only [PyData.eqv]
    exact eqv_lists xss
  rw [e]
  exact h
theorem eq_strs {xs ys : List Str} (N : News h₀ L s.heap news) (h1 : StrsIn news v xs) (h2 : StrsIn news v' ys) (e : xs = ys) (hs : ∀ x ∈ xs, Sg3 x) (hu : A.units + 64 < cLine) (h : Q (.bool true) s) : wpAny (model prog w) A (compareOp .Eq v v') Q E s := by
  subst e
  obtain ⟨a, vs, n, rfl, m1, s1⟩ := h1
  obtain ⟨b, us, k, rfl, m2, s2⟩ := h2
  refine eq_dataH (reads_list_at (N _ m1).1 rfl rfl (by rw [List.toList_toArray]; exact reads_strs _ s1)) (reads_list_at (N _ m2).1 rfl rfl (by rw [List.toList_toArray]; exact reads_strs _ s2)) (shaped_strs hs) (shaped_strs hs) hu ?_
  have e : PyData.eqv (datS xs) (datS xs) = true := by
    show PyData.eqv (.list (xs.map .str)) (.list (xs.map .str)) = true
    simp only [PyData.eqv]
    exact eqv_strs xs
  rw [e]
  exact h
end
end Mine
end
section
open PySem PySem.W PyProof.Rows PySem.Builtin PySem.Builtin.Str
namespace Mine
theorem ownS_nil (x : Str) : ownS [] x = [] := rfl
theorem ownS_cons (o : Str) (os : List Str) (x : Str) : ownS (o :: os) x = if standsS o x = true then 0 :: (ownS os x).map (· + 1) else (ownS os x).map (· + 1) := by
  unfold ownS
  rw [List.length_cons, List.range_succ_eq_map, List.filter_cons, List.filter_map]
  show (if standsS o x = true then _ else _) = _
  rfl
theorem told_fold (o : Str) : ∀ (qs : List (Str × Str)) (D : List Str) (ds : List (List Str)) (os : List Str),
    qs.foldl toldStep (D :: ds, o :: os) = ((D ++ (qs.filter fun q => standsS o q.1).map (·.1)) :: ((qs.filter fun q => !standsS o q.1).foldl toldStep (ds, os)).1, o :: ((qs.filter fun q => !standsS o q.1).foldl toldStep (ds, os)).2)
  | [], D, ds, os => by simp
  | q :: qs, D, ds, os => by
    rw [List.foldl_cons]
    cases h : standsS o q.1 with
    | true =>
      have e : toldStep (D :: ds, o :: os) q = ((D ++ [q.1]) :: ds, o :: os) := by
        unfold toldStep
        show (match ownS (o :: os) q.1 with | _ => _) = _
        rw [ownS_cons, if_pos h]
        rfl
      rw [e, told_fold o qs, List.filter_cons_of_pos (by exact h), List.filter_cons_of_neg (by simp [h])]
      simp
    | false =>
      have e : toldStep (D :: ds, o :: os) q = (D :: (toldStep (ds, os) q).1, o :: (toldStep (ds, os) q).2) := by
        unfold toldStep
        dsimp only
        rw [ownS_cons, if_neg (by rw [h]; exact Bool.false_ne_true)]
        cases ownS os q.1 with
        | nil => rfl
        | cons k r => rfl
      rw [e, told_fold o qs, List.filter_cons_of_neg (by rw [h]; exact Bool.false_ne_true), List.filter_cons_of_pos (by simp [h]), List.foldl_cons]
theorem filter_zip (g : Str → Str) (P : Str → Bool) : ∀ r : List Str, (r.zip (r.map g)).filter (fun q => P q.1) = (r.filter P).zip ((r.filter P).map g)
  | [] => rfl
  | x :: r => by
    rw [List.map_cons, List.zip_cons_cons, List.filter_cons, List.filter_cons, filter_zip g P r]
    cases P x <;> rfl
theorem told_cons (g : Str → Str) (x : Str) (r : List Str) : toldS (x :: r) ((x :: r).map g) = (x :: r.filter fun y => standsS (g x) y) :: toldS (r.filter fun y => !standsS (g x) y) ((r.filter fun y => !standsS (g x) y).map g) := by
  unfold toldS
  rw [List.map_cons, List.zip_cons_cons, List.foldl_cons]
  have e : toldStep ([], []) (x, g x) = ([[x]], [g x]) := rfl
  rw [e, told_fold (g x)]
  have e1 := filter_zip g (fun y => standsS (g x) y) r
  have e2 := filter_zip g (fun y => !standsS (g x) y) r
  rw [e1, e2]
  congr 1
  rw [List.map_fst_zip (by simp)]
  rfl
theorem draw_told (n : Int) (g : Str → Str) : ∀ (k : Nat) (xs : List Str), xs.length ≤ k → (∀ x ∈ xs, g x = cramS x n) → drawS xs n = toldS xs (xs.map g)
  | _, [], _, _ => rfl
  | 0, _ :: _, h, _ => by simp at h
  | k + 1, x :: r, h, hg => by
    rw [drawS_cons, told_cons, hg x List.mem_cons_self]
    have e : (fun y => matchS (cramS x n) y) = fun y => standsS (cramS x n) y := funext fun y => match_stands _ y
    have e2 : (fun y => !matchS (cramS x n) y) = fun y => !standsS (cramS x n) y := funext fun y => by rw [match_stands]
    rw [e, e2]
    congr 1
    refine draw_told n g k _ ?_ ?_
    · have := List.length_filter_le (fun y => !standsS (cramS x n) y) r
      simp only [List.length_cons] at h
      omega
    · exact fun y hy => hg y (List.mem_cons_of_mem _ (List.mem_filter.mp hy).1)
/-- the law's first asking -/
theorem law_one (xs : List Str) (n : Int) : drawS xs n = toldS xs (xs.map fun x => cramS x n) := draw_told n _ _ xs (Nat.le_refl _) fun _ _ => rfl
/-- the law's second asking -/
theorem law_two (xs : List Str) (n m : Int) : drawS (xs.map fun x => cramS x n) m = toldS (xs.map fun x => cramS x n) (xs.map fun x => cramS x (min n m)) := by
  rw [law_one]
  congr 1
  rw [List.map_map]
  exact List.map_congr_left fun x _ => cram_twice x n m
end Mine
end
section
open PySem PySem.W PySem.Calls PyProof.Rows PyProof.V PySem.Spec
namespace Mine
section
variable {prog : Program} {w : World} {A : Around} {E : Value → Shared → Prop} {s : Shared} {env : Env} {h₀ : Heap} {L : Addr} {m : Str → Option Value} {news : List (Addr × Obj)} {Q : Value → Shared → Prop} {e : PySem.Expr}
/-- the numbers: one to six ints in a list of the call's own -/
def NumPost (h₀ : Heap) (L : Addr) (m : Str → Option Value) (news : List (Addr × Obj)) (s : Shared) (v : Value) (s₂ : Shared) : Prop :=
  ∃ D ws ns h' tk, v = .ref D ∧ s₂ = { s with heap := h', toks := tk } ∧ IntsAre ws ns ∧ 1 ≤ ns.length ∧ ns.length ≤ 6 ∧ Fr h₀ L h' m ∧ News h₀ L h' ((D, listOf (List.toArray ws) 0) :: news) ∧ ∀ p ∈ news, p.1 < D
theorem num_eval (_F : Fr h₀ L s.heap m) (_N : News h₀ L s.heap news) (h1 : wpAny (model prog w) A (eval e env) (NumPost h₀ L m news s) E s)
    (h2 : ∀ D ws ns h' tk, IntsAre ws ns → 1 ≤ ns.length → ns.length ≤ 6 → Fr h₀ L h' m → News h₀ L h' ((D, listOf (List.toArray ws) 0) :: news) → (∀ p ∈ news, p.1 < D) → Q (.ref D) { s with heap := h', toks := tk }) : wpAny (model prog w) A (eval e env) Q E s :=
  wpAny_mono h1 (fun v s₂ ⟨D, ws, ns, h', tk, e1, e2, a, b, c, d, f, g⟩ => by subst e1; subst e2; exact h2 D ws ns h' tk a b c d f g) fun _ _ h => h
end
theorem text_sg3 {x : Str} (h : TextOk x) : Sg3 x := h.sgs
theorem sg3_cram {x : Str} {n : Int} (h : Sg3 x) : Sg3 (cramS x n) := by
  intro c hc
  rw [ls_cram] at hc
  unfold cramL at hc
  split at hc
  · rcases List.mem_append.mp hc with hc | hc
    · exact h c (List.mem_of_mem_take hc)
    · rcases List.mem_append.mp hc with hc | hc
      · simp at hc; omega
      · exact h c (List.mem_of_mem_drop hc)
  · exact h c hc
theorem drawF_mem (n : Int) : ∀ (f : Nat) (xs d : List Str), d ∈ drawF n f xs → (∀ x ∈ d, x ∈ xs) ∧ d.length ≤ xs.length
  | 0, _, _, h => by cases h
  | _ + 1, [], _, h => by cases h
  | f + 1, x :: r, d, h => by
    have hf := List.length_filter_le (fun y => matchS (cramS x n) y) r
    have hg := List.length_filter_le (fun y => !matchS (cramS x n) y) r
    rcases List.mem_cons.mp h with rfl | h
    · refine ⟨fun y hy => ?_, by simp only [List.length_cons]; omega⟩
      rcases List.mem_cons.mp hy with rfl | hy
      · exact List.mem_cons_self
      · exact List.mem_cons_of_mem _ (List.mem_filter.mp hy).1
    · obtain ⟨h1, h2⟩ := drawF_mem n f _ d h
      exact ⟨fun y hy => List.mem_cons_of_mem _ (List.mem_filter.mp (h1 y hy)).1, by simp only [List.length_cons]; omega⟩
theorem drawS_mem {n : Int} {xs d : List Str} (h : d ∈ drawS xs n) : (∀ x ∈ d, x ∈ xs) ∧ d.length ≤ xs.length := drawF_mem n _ xs d h
theorem lists_at {news : List (Addr × Obj)} {vs : List Value} {xss : List (List Str)} (hl : ListsIn news vs xss) : ∀ {i : Nat} {v : Value}, vs[i]? = some v → ∃ a ws k xs, v = .ref a ∧ (a, listOf (List.toArray ws) k) ∈ news ∧ StrsAre ws xs ∧ xss[i]? = some xs := by
  induction hl with
  | nil => intro i v h; cases h
  | cons hm hx _ ih =>
    intro i v h
    cases i with
    | zero => cases h; exact ⟨_, _, _, _, rfl, hm, hx, rfl⟩
    | succ i => exact ih h
/-- a text that the law takes -/
structure Tx (x : Str) : Prop where
  len : x.length ≤ 10
  sgs : Sg3 x
theorem Tx.cram {x : Str} {n : Int} (h : Tx x) (hn : n ≤ 10) : Tx (cramS x n) := ⟨cramS_len10 h.len hn, sg3_cram h.sgs⟩
end Mine
end
section
open PySem PySem.W PyProof.Rows
namespace Mine
local macro_rules | `(tactic| k_mem) => `(tactic| first | assumption | (refine List.Mem.tail _ ?_; first | assumption | (refine List.Mem.tail _ ?_; first | assumption | (refine List.Mem.tail _ ?_; first | assumption | (refine List.Mem.tail _ ?_; first | assumption | (refine List.Mem.tail _ ?_; first | assumption | (refine List.Mem.tail _ ?_; first | assumption | (refine List.Mem.tail _ ?_; first | assumption | (refine List.Mem.tail _ ?_; assumption)))))))))
local macro_rules | `(tactic| k_all) => `(tactic| first | assumption | exact all_low (by assumption) (by omega))
structure LwC where
  ps : Array Value
  rest : List (Addr × Obj)
structure LwInv (dvs : List Value) (dss : List (List Str)) (c : LwC) : Prop where
  tab : TabOk c.rest c.ps
  off : ∀ q ∈ c.rest, q.1 ≠ 75
  lists : ListsIn c.rest dvs dss
set_option maxRecDepth 100000 in
set_option maxHeartbeats 8000000 in
theorem law_holds : PySem.Challenge.rw_mq0140_01.Holds := hd (by
  w_strict (
  k_go0
  (all_goals try k_fold)
  k_with_none
  (repeat' ((fail_if_success (with_reducible show wpAny _ _ (eval (Expr.Subscript (Expr.BoolOp _ _ _) _ _) _) _ _ _)); first | (k_unfold; (try dsimp only)) | (unfold LedPost; dsimp only) | walk1 | (dsimp only; walk1)))
  k_dflt (refine num_eval (by k_asm) (by k_asm) ?_ ?_)
  · (repeat' (first | (k_unfold; (try dsimp only)) | (unfold LedPost; dsimp only) | walk1 | (dsimp only; walk1)))
    · (rename News _ _ _ _ => kN)
      (rename IntsAre _ _ => kI)
      refine ⟨_, _, _, _, _, rfl, rfl, kI, by omega, by omega, by k_asm, kN, fun p hp => ?_⟩
      simp only [List.mem_cons, List.not_mem_nil, or_false] at hp
      rcases hp with h | h | h <;> (subst h; show @LT.lt Nat _ _ _; omega)
    · (rename News _ _ _ _ => kN)
      obtain ⟨u1, u2, u3, u4, u5, u6, kN⟩ : ∃ u1 u2 u3 u4 u5 u6, News _ _ _ ((_, listOf #[.int 368 u1, .int 5048 u2, .int 69 u3, .int 248 u4, .int 3 u5, .int 38 u6] 0) :: _) := ⟨_, _, _, _, _, _, kN⟩
      refine ⟨_, [.int 368 u1, .int 5048 u2, .int 69 u3, .int 248 u4, .int 3 u5, .int 38 u6], [368, 5048, 69, 248, 3, 38], _, _, rfl, rfl, .cons _ _ (.cons _ _ (.cons _ _ (.cons _ _ (.cons _ _ (.cons _ _ .nil))))), by decide, by decide, by k_asm, cb_drop kN (fun p hp => ?_), fun p hp => ?_⟩
      · rcases List.mem_cons.mp hp with h | h
        · subst h; exact .head _
        · exact .tail _ (.tail _ h)
      · simp only [List.mem_cons, List.not_mem_nil, or_false] at hp
        rcases hp with h | h | h <;> (subst h; show @LT.lt Nat _ _ _; omega)
  · intro D ws ns h9 k9 hI hn1 hn6 F9 N9 l9
    dsimp only
    (repeat' ((fail_if_success (with_reducible show wpAny _ _ (eval (Expr.ListComp _ _ _ _) _) _ _ _)); first | (k_unfold; (try dsimp only)) | (unfold LedPost; dsimp only) | walk1 | (dsimp only; walk1)))
    rename_i l0 _ _ _ tD _ lt9 _ _ _ _ on _ _ hdn _ om lF lN hdm
    (rename Shared => s1)
    have hbn := (fdiv_fmod_facts (ns.getD (Int.toNat 0) 0) 12).2.2.1 (by decide)
    have hbm := (fdiv_fmod_facts ((ns.getD (Int.toNat 0) 0).fdiv 12) 12).2.2.1 (by decide)
    obtain ⟨n, t1, hn, n0, n9⟩ : ∃ n t1, on.data = .cell (some (.int n t1)) ∧ -1 ≤ n ∧ n ≤ 10 := ⟨_, _, hdn, by omega, by omega⟩
    obtain ⟨m, t2, hm, m0, m9⟩ : ∃ n t1, om.data = .cell (some (.int n t1)) ∧ -1 ≤ n ∧ n ≤ 10 := ⟨_, _, hdm, by omega, by omega⟩
    have N1 : News (ghostOf s1.heap [(79, 75)]) s1.heap.objs.size _ [(75, tabObj #[]), (s1.heap.objs.size + 1 + 1, om), (s1.heap.objs.size + 1, on), (D, listOf ws.toArray 0)] := cb_drop lN (fun q hq => by
      simp only [List.mem_cons, List.mem_append, List.not_mem_nil, or_false] at hq ⊢
      rcases hq with h | h | h | h <;> simp [h])
    have lD75 : @LT.lt Nat _ 75 D := l9 _ (.tail _ (.tail _ (.head _)))
    clear lN hdn hdm hbn hbm lt9 l9
    k_dflt (refine LCg.ListComp_U (F₀ := by k_asm) (by with_unfolding_all rfl) (by decide) (by rfl) (by decide) (by rfl) ?_)
    (iterate 1 (first | (k_unfold; (try dsimp only)) | walk1 | (dsimp only; walk1) | (leave1; walk_say "STEP leave1"; (try dsimp only))))
    have hwl := hI.length
    k_dflt (refine LCg.CompSrc.ledger (by rfl) (by k_asm) (by k_asm) (by k_mem) ?z ?_; (case z => (rw [List.size_toArray, sizeLine_eq]; omega)); intro g9)
    refine compU_inv (fun j ys => ∃ xs, StrsAre ys xs ∧ xs.length = j ∧ ∀ x ∈ xs, TextOk x) ⟨[], .nil, rfl, fun x hx => absurd hx List.not_mem_nil⟩ ?turn ?fin
    case turn =>
      rintro j v ys I oI C oC D2 m₂ h₂ tk₂ E' hj hv ⟨xs, hxs, hxl, hxo⟩ hC hx F2 N2 off2 ne2
      obtain ⟨k, t9, rfl, hk9⟩ := IntsAre.at hI j v (by simpa using hv)
      dsimp only at F2 N2 ⊢
      (repeat' ((fail_if_success (with_reducible show wpAny _ _ (call (Value.ref 49) _) _ _ _)); first | (k_unfold; (try dsimp only)) | (unfold LedPost; dsimp only) | walk1 | (dsimp only; walk1)))
      (k_here; (with_reducible show wpAny _ _ (call (Value.ref 49) _) _ _ _); k_dflt (refine' tellsN_use ?k1 ?k2 ?k3 ?k4 ?k5 ?kK ?kR (tells_text _ _ _ _ _ _ k) ?ko ?kd ?ku ?_; (case k1 => k_asm); (case k2 => k_asm); (case k3 => k_asm); (case k4 => k_asm); (case k5 => k_asm); (case kK => first | exact rfl | assumption); (case kR => exact ⟨_, rfl⟩); (case ko => exact trivial); (case kd => first | ktr_room | ((simp only [recursionLimit] at *); (try dsimp only at *); omega)); (case ku => ktr_units); intro r9 tl9 h9 tk9 F9 N9 hl9 ht9 ho9; (obtain ⟨y9, u9, e9, hy9⟩ := ho9; subst e9; subst ht9; rw [List.append_nil] at N9; clear hl9); (try dsimp only); (try k_fold)))
      (repeat' (first | (k_unfold; (try dsimp only)) | (unfold LedPost; dsimp only) | walk1 | (dsimp only; walk1)))
      refine LCg.CompEnd.intro (by k_asm) (by k_asm) _ (fun p hp => hp) off2 (Or.inr ⟨_, by k_mem, rfl, _, rfl⟩) ⟨rfl, xs ++ [y9], hxs.append' (.cons _ _ .nil), by simp [hxl], ?_⟩
      intro x hx
      rcases List.mem_append.mp hx with h | h
      · exact hxo x h
      · rw [List.mem_singleton.mp h]; exact hy9
    case fin =>
      rintro ys ⟨xs, hxs, hxl, hxo⟩
      rw [List.size_toArray] at hxl
      unfold LCg.FinE
      intro D3 h3 tk3 F3 N3 o3
      simp only [LCg.Off1] at o3
      have hyl := hxs.length
      dsimp only at F3 N3 ⊢
      (repeat' ((fail_if_success (with_reducible show wpAny _ _ (call (Value.ref 80) _) _ _ _)); first | (k_unfold; (try dsimp only)) | (unfold LedPost; dsimp only) | walk1 | (dsimp only; walk1)))
      rename_i l7 h5 l8 _ _ F4 N4
      (rename StrsAre ys xs => hxs)
      generalize h5.objs.size = T0 at F4 N4 ⊢
      have hT75 : T0 ≠ 75 := fun e => by
        have a1 := (N4 _ (List.Mem.head _)).1
        have a2 := (N4 (75, tabObj #[]) (by simp)).1
        dsimp only at a1 a2
        rw [e, a2] at a1
        cases a1
      obtain ⟨u1, u2, N4⟩ : ∃ u1 u2, News _ _ _ ((T0, listOf (List.toArray (ys ++ [Value.str (Str.ofString "ab.aa") u1, Value.str (Str.ofString "...") u2])) 0) :: _) := ⟨_, _, N4⟩
      obtain ⟨tws, txs, htws, htxs, htl, N5⟩ : ∃ tws txs, StrsAre tws txs ∧ (∀ x ∈ txs, Tx x) ∧ txs.length ≤ 8 ∧ News (ghostOf s1.heap [(79, 75)]) s1.heap.objs.size _ ((75, tabObj #[]) :: [(s1.heap.objs.size + 1 + 1, om), (s1.heap.objs.size + 1, on), (T0, listOf (List.toArray tws) 0)]) := by
        refine ⟨ys ++ [Value.str (Str.ofString "ab.aa") u1, Value.str (Str.ofString "...") u2], xs ++ [Str.ofString "ab.aa", Str.ofString "..."], hxs.append' (.cons _ _ (.cons _ _ .nil)), ?_, by simp; omega, cb_drop N4 (fun q hq => ?_)⟩
        · intro x hx
          rcases List.mem_append.mp hx with h | h
          · exact ⟨Nat.le_succ_of_le (hxo x h).len, (hxo x h).sgs⟩
          · simp only [List.mem_cons, List.not_mem_nil, or_false] at h
            rcases h with rfl | rfl
            · exact ⟨by decide +kernel, by unfold Sg3; decide +kernel⟩
            · exact ⟨by decide +kernel, by unfold Sg3; decide +kernel⟩
        · simp only [List.mem_cons, List.not_mem_nil, or_false] at hq ⊢
          rcases hq with h | h | h | h <;> simp [h]
      clear N4 hxs hxo hxl hyl hI hwl
      k_dflt (refine' (tells_drawers _ _ _ _ _ _ _ _ _ _ _ _ _ _ _ _ _ _ _ _ _ _ _ _ _ tws 0 txs _ _ _ ?fdB ?fdF ?fdX N5 ?fdT ?fdK ?fdC ?fdtab ?fd75 ?fda0 ?fdws ?fdo1 ?fdo2 ?fdo3 ?fdo4 ?fdd ?fdu ?fdret); (case fdB => k_asm); (case fdF => k_asm); (case fdX => k_asm); (case fdT => k_asm); (case fdK => first | exact rfl | assumption); (case fdC => assumption); (case fdo2 => omega); (case fdo3 => omega); (case fdd => first | ktr_room | ((simp only [recursionLimit] at *); (try dsimp only at *); omega)); (case fdu => ktr_units))
      case fdtab => exact .inl rfl
      case fd75 =>
        intro q hq
        simp only [List.mem_cons, List.not_mem_nil, or_false] at hq
        rcases hq with rfl | rfl | rfl
        · (show @Ne Nat _ 75); omega
        · (show @Ne Nat _ 75); omega
        · exact hT75
      case fda0 => exact .tail _ (.tail _ (.head _))
      case fdws => exact htws
      case fdo1 => exact fun x hx => (htxs x hx).len
      case fdo4 => exact htl
      intro r9 ps9 tl9 h9 tk9 F9 N9 hst9 hl9 hg9 hd9
      obtain ⟨dl, dvs, dk, rfl, hdm, hdl⟩ := hd9
      have htw := htws.length
      obtain ⟨rest, hT, hD, hL, htab, h75, N6⟩ : ∃ rest, (T0, listOf (List.toArray tws) 0) ∈ rest ∧ (dl, listOf (List.toArray dvs) dk) ∈ rest ∧ ListsIn rest dvs (drawS txs n) ∧ TabOk rest ps9 ∧ (∀ q ∈ rest, q.1 ≠ 75) ∧ News (ghostOf s1.heap [(79, 75)]) s1.heap.objs.size h9 ((75, tabObj ps9) :: (s1.heap.objs.size + 1 + 1, om) :: (s1.heap.objs.size + 1, on) :: rest) := by
        refine ⟨_, by simp, hdm, hdl, ?_, ?_, cb_drop N9 (fun q hq => ?_)⟩
        · rcases hst9 with rfl | h
          · exact .inl rfl
          · exact h.mono fun q hq => List.mem_append_right _ hq
        · intro q hq
          rcases List.mem_append.mp hq with hq | hq
          · simp only [List.mem_cons, List.not_mem_nil, or_false] at hq
            rcases hq with rfl | rfl | rfl
            · (show @Ne Nat _ 75); omega
            · (show @Ne Nat _ 75); omega
            · exact hT75
          · exact Nat.ne_of_gt (hg9 q hq)
        · simp only [List.mem_cons, List.mem_append] at hq ⊢
          rcases hq with h | h | h | h
          · exact .inl h
          · exact .inr (.inl (.inl h))
          · exact .inr (.inl (.inr (.inl h)))
          · exact .inr h
      clear N9 hst9 hg9 hl9 hdm hdl N5
      dsimp only
      (try k_fold)
      (repeat' ((fail_if_success (with_reducible show wpAny _ _ (eval (Expr.ListComp _ _ _ _) _) _ _ _)); first | (k_unfold; (try dsimp only)) | (unfold LedPost; dsimp only) | walk1 | (dsimp only; walk1)))
      k_dflt (refine LCg.ListComp_U (F₀ := by k_asm) (by with_unfolding_all rfl) (by decide) (by rfl) (by decide) (by rfl) ?_)
      (iterate 1 (first | (k_unfold; (try dsimp only)) | walk1 | (dsimp only; walk1) | (leave1; walk_say "STEP leave1"; (try dsimp only))))
      k_dflt (refine LCg.CompSrc.ledger (by rfl) (by k_asm) (by k_asm) (by k_mem) ?z ?_; (case z => (rw [List.size_toArray, sizeLine_eq]; omega)); intro g9)
      refine compU_inv (fun j ys => StrsAre ys ((txs.take j).map fun x => cramS x n)) .nil ?turn1 ?fin1
      case turn1 =>
        (intro j v ys I oI C oC D2 m₂ h₂ tk₂ E' hj hv hys hC hx F2 N2 off2 ne2; obtain ⟨x9, t9, rfl, hx9⟩ := strs_at htws (by simpa using hv); dsimp only at F2 N2 ⊢; have hok9 := htxs x9 (List.mem_of_getElem? hx9); (repeat' ((fail_if_success (with_reducible show wpAny _ _ (call (Value.ref 63) _) _ _ _)); first | (k_unfold; (try dsimp only)) | (unfold LedPost; dsimp only) | walk1 | (dsimp only; walk1))); (k_here; (with_reducible show wpAny _ _ (call (Value.ref 63) _) _ _ _); k_dflt (refine' tellsN_use ?k1 ?k2 ?k3 ?k4 ?k5 ?kK ?kR (tells_rest _ _ _ _ _ _ (x9, n)) ?ko ?kd ?ku ?_; (case k1 => k_asm); (case k2 => k_asm); (case k3 => k_asm); (case k4 => k_asm); (case k5 => k_asm); (case kK => first | exact rfl | assumption); (case kR => exact ⟨_, _, rfl⟩); (case ko => exact ⟨Nat.le_trans hok9.len (by decide), n0, n9⟩); (case kd => first | ktr_room | ((simp only [recursionLimit] at *); (try dsimp only at *); omega)); (case ku => ktr_units); intro r9 tl9 h9 tk9 F9 N9 hl9 ht9 ho9; (obtain ⟨u9, e9⟩ := ho9; subst e9; subst ht9; rw [List.append_nil] at N9; clear hl9); (try dsimp only); (try k_fold))); (repeat' (first | (k_unfold; (try dsimp only)) | (unfold LedPost; dsimp only) | walk1 | (dsimp only; walk1))); refine LCg.CompEnd.intro (by k_asm) (by k_asm) _ (fun p hp => hp) off2 (Or.inr ⟨_, by k_mem, rfl, _, rfl⟩) ⟨rfl, ?_⟩; rw [List.take_add_one, hx9, List.map_append]; refine hys.append' ?_; exact .cons _ _ .nil)
      case fin1 =>
        intro ys hys
        rw [List.size_toArray, htw, List.take_length] at hys
        unfold LCg.FinE
        intro D3 h3 tk3 F3 N3 o3
        dsimp only at F3 N3 ⊢
        replace N3 : News _ _ _ ((D3, listOf (List.toArray ys) ys.length) :: _) := N3
        (repeat' ((fail_if_success (with_reducible show wpAny _ _ (call (Value.ref 73) _) _ _ _)); first | (k_unfold; (try dsimp only)) | (unfold LedPost; dsimp only) | walk1 | (dsimp only; walk1)))
        (k_here; (with_reducible show wpAny _ _ (call (Value.ref 73) _) _ _ _); k_dflt (refine' tellsN_use ?k1 ?k2 ?k3 ?k4 ?k5 ?kK ?kR (tells_told _ _ _ _ _ _ (txs, txs.map fun x => cramS x n)) ?ko ?kd ?ku ?_; (case k1 => k_asm); (case k2 => k_asm); (case k3 => k_asm); (case k4 => k_asm); (case k5 => k_asm); (case kK => first | exact rfl | assumption); (case kR => exact ⟨T0, tws, 0, D3, _, _, rfl, by k_mem, htws, by k_mem, hys⟩); (case ko => exact ⟨fun x hx => (htxs x hx).len, fun x hx => by (obtain ⟨y, hy, rfl⟩ := List.mem_map.mp hx; exact ((htxs y hy).cram n9).len), htl, by simp⟩); (case kd => first | ktr_room | ((simp only [recursionLimit] at *); (try dsimp only at *); omega)); (case ku => ktr_units); intro r9 tl9 h9 tk9 F9 N9 hl9 ht9 ho9; skip; (try dsimp only); (try k_fold)))
        (repeat' ((fail_if_success (with_reducible show wpAny _ _ (compareOp CmpOp.NotEq _ _) _ _ _)); first | (k_unfold; (try dsimp only)) | (unfold LedPost; dsimp only) | walk1 | (dsimp only; walk1)))
        k_dflt (refine ne_draws N9 ⟨dl, dvs, dk, rfl, List.mem_append_left _ (by k_mem), hL.mono (fun q hq => List.mem_append_left _ (by simp [hq]))⟩ ho9 (law_one txs n) (fun xs hxs x hx => (htxs x ((drawS_mem hxs).1 x hx)).sgs) (by ke_room) ?_)
        (repeat' ((fail_if_success (with_reducible show wpAny _ _ (exec (Stmt.For _ _ _ _ _) _) _ _ _)); first | (k_unfold; (try dsimp only)) | (unfold LedPost; dsimp only) | walk1 | (dsimp only; walk1)))
        ((rename Fr _ _ _ _ => lF'); (with_unfolding_all refine' For_invVF lF' ?k1 ?k2 ?_; (case k1 => exact rfl); (case k2 => exact rfl)))
        (repeat' ((fail_if_success (with_reducible show wpAny _ _ (pyIter _) _ _ _)); first | (k_unfold; (try dsimp only)) | (unfold LedPost; dsimp only) | walk1 | (dsimp only; walk1)))
        (rename Fr _ _ _ _ => lF)
        (rename News _ _ _ _ => lN)
        k_dflt (refine' iter_led (σ := LwC) (l := dl) (vs := dvs) (nn := dk) (fun c => (75, tabObj c.ps) :: (s1.heap.objs.size + 1 + 1, om) :: (s1.heap.objs.size + 1, on) :: (dl, listOf (List.toArray dvs) dk) :: (T0, listOf (List.toArray tws) 0) :: c.rest) (fun _ => []) [Str.ofString "again", Str.ofString "shown"] (fun _ c => LwInv dvs (drawS txs n) c) ⟨ps9, rest⟩ ?hh (fun _ => .tail _ (.tail _ (.tail _ (.head _)))) lF (cb_drop lN ?hsub) ?hk ⟨htab, h75, hL⟩ ?turn ?done)
        case hh => rfl
        case hk => (intro p hp; cases hp)
        case hsub =>
          intro q hq
          simp only [List.mem_cons] at hq
          simp only [List.mem_cons, List.mem_append, List.cons_append]
          rcases hq with h | h | h | h | h | h
          · exact .inr (.inl h)
          · exact .inr (.inr (.inl h))
          · exact .inr (.inr (.inr (.inl h)))
          · exact .inr (.inr (.inr (.inr (.inl (h ▸ hD)))))
          · exact .inr (.inr (.inr (.inr (.inl (h ▸ hT)))))
          · exact .inr (.inr (.inr (.inr (.inl h))))
        case turn =>
          rintro ⟨ps, rest2⟩ i v I oI u h2 tk2 hv hoff ⟨htab2, h752, hL2⟩ F2 N2
          dsimp only at htab2 h752 hL2 hoff F2 N2 ⊢
          obtain ⟨a, wsd, kd, xs, rfl, hA, hxs, hxd⟩ := lists_at hL2 hv
          clear lF lN N3 F3 ho9 hl9
          have hmemd := List.mem_of_getElem? hxd
          have hxo : ∀ x ∈ xs, Tx x := fun x hx => htxs x ((drawS_mem hmemd).1 x hx)
          have hx8 : xs.length ≤ 8 := Nat.le_trans (drawS_mem hmemd).2 htl
          have hwd := hxs.length
          (repeat' ((fail_if_success (with_reducible show wpAny _ _ (eval (Expr.ListComp _ _ _ _) _) _ _ _)); first | (k_unfold; (try dsimp only)) | (unfold LedPost; dsimp only) | walk1 | (dsimp only; walk1)))
          (k_dflt (refine LCg.ListComp_U (F₀ := by k_asm) (by with_unfolding_all rfl) (by decide) (by rfl) (by decide) (by rfl) ?_); (first | (k_unfold; (try dsimp only)) | walk1 | (dsimp only; walk1) | (leave1; walk_say "STEP leave1"; (try dsimp only))); k_dflt (refine LCg.CompSrc.ledger (by rfl) (by k_asm) (by k_asm) (by k_mem) ?z ?_; (case z => (rw [List.size_toArray, sizeLine_eq]; omega)); intro g9))
          refine compU_inv (fun j ys => StrsAre ys ((xs.take j).map fun x => cramS x n)) .nil ?turn2 ?fin2
          case turn2 =>
            (intro j v ys I oI C oC D2 m₂ h₂ tk₂ E' hj hv hys hC hx F2 N2 off2 ne2; obtain ⟨x9, t9, rfl, hx9⟩ := strs_at hxs (by simpa using hv); dsimp only at F2 N2 ⊢; have hok9 := hxo x9 (List.mem_of_getElem? hx9); (repeat' ((fail_if_success (with_reducible show wpAny _ _ (call (Value.ref 28) _) _ _ _)); first | (k_unfold; (try dsimp only)) | (unfold LedPost; dsimp only) | walk1 | (dsimp only; walk1))); (k_here; (with_reducible show wpAny _ _ (call (Value.ref 28) _) _ _ _); k_dflt (refine' tellsN_use ?k1 ?k2 ?k3 ?k4 ?k5 ?kK ?kR (tells_cram _ _ _ _ _ _ (x9, n)) ?ko ?kd ?ku ?_; (case k1 => k_asm); (case k2 => k_asm); (case k3 => k_asm); (case k4 => k_asm); (case k5 => k_asm); (case kK => first | exact rfl | assumption); (case kR => exact ⟨_, _, rfl⟩); (case ko => exact ⟨Nat.le_trans hok9.len (by decide), n0, n9⟩); (case kd => first | ktr_room | ((simp only [recursionLimit] at *); (try dsimp only at *); omega)); (case ku => ktr_units); intro r9 tl9 h9 tk9 F9 N9 hl9 ht9 ho9; (obtain ⟨u9, e9⟩ := ho9; subst e9; subst ht9; rw [List.append_nil] at N9; clear hl9); (try dsimp only); (try k_fold))); (repeat' (first | (k_unfold; (try dsimp only)) | (unfold LedPost; dsimp only) | walk1 | (dsimp only; walk1))); refine LCg.CompEnd.intro (by k_asm) (by k_asm) _ (fun p hp => hp) off2 (Or.inr ⟨_, by k_mem, rfl, _, rfl⟩) ⟨rfl, ?_⟩; rw [List.take_add_one, hx9, List.map_append]; refine hys.append' ?_; exact .cons _ _ .nil)
          case fin2 =>
            intro ys hys
            rw [List.size_toArray, hwd, List.take_length] at hys
            unfold LCg.FinE
            intro D3 h3 tk3 F3 N3 o3
            dsimp only at F3 N3 ⊢
            (repeat' ((fail_if_success (with_reducible show wpAny _ _ (call (Value.ref 80) _) _ _ _)); first | (k_unfold; (try dsimp only)) | (unfold LedPost; dsimp only) | walk1 | (dsimp only; walk1)))
            replace N3 : News _ _ _ ((D3, listOf (List.toArray ys) ys.length) :: _) := N3
            have hyl := hys.length
            rw [List.length_map] at hyl
            have hI75 : I ≠ 75 := fun e => hoff _ (.head _) e.symm
            have hD75 : D3 ≠ 75 := fun e => off1_at o3 _ (.tail _ (.head _)) e.symm
            have N5 : News (ghostOf s1.heap [(79, 75)]) s1.heap.objs.size _ ((75, tabObj ps) :: (D3, listOf (List.toArray ys) ys.length) :: (I, oI) :: (s1.heap.objs.size + 1 + 1, om) :: (s1.heap.objs.size + 1, on) :: (dl, listOf (List.toArray dvs) dk) :: (T0, listOf (List.toArray tws) 0) :: rest2) := cb_drop N3 (fun q hq => by
              simp only [List.mem_cons] at hq ⊢
              rcases hq with h | h | h | h | h | h | h | h <;> simp [h])
            k_dflt (refine' (tells_drawers _ _ _ _ _ _ _ _ _ _ _ _ _ _ _ _ _ _ _ _ _ _ _ _ _ ys ys.length (xs.map fun x => cramS x n) _ _ _ ?gdB ?gdF ?gdX N5 ?gdT ?gdK ?gdC ?gdtab ?gd75 ?gda0 ?gdws ?gdo1 ?gdo2 ?gdo3 ?gdo4 ?gdd ?gdu ?gdret); (case gdB => k_asm); (case gdF => k_asm); (case gdX => k_asm); (case gdT => k_asm); (case gdK => first | exact rfl | assumption); (case gdC => assumption); (case gdo2 => omega); (case gdo3 => omega); (case gdd => first | ktr_room | ((simp only [recursionLimit] at *); (try dsimp only at *); omega)); (case gdu => ktr_units))
            case gdtab => exact htab2.mono (fun q hq => by simp [hq])
            case gd75 =>
              intro q hq
              simp only [List.mem_cons] at hq
              rcases hq with rfl | rfl | rfl | rfl | rfl | rfl | hq
              · exact hD75
              · exact hI75
              · (show @Ne Nat _ 75); omega
              · (show @Ne Nat _ 75); omega
              · exact h75 _ hD
              · exact hT75
              · exact h752 q hq
            case gda0 => exact .head _
            case gdws => exact hys
            case gdo1 =>
              intro x hx
              obtain ⟨y, hy, rfl⟩ := List.mem_map.mp hx
              exact ((hxo y hy).cram n9).len
            case gdo4 => (rw [List.length_map]; exact hx8)
            intro r8 ps8 tl8 h8 tk8 F8 N8 hst8 hl8 hg8 hd8
            have htab3 : TabOk (rest2 ++ tl8) ps8 := by
              rcases hst8 with rfl | h
              · exact htab2.mono fun q hq => List.mem_append_left _ hq
              · exact h.mono fun q hq => List.mem_append_right _ hq
            have h753 : ∀ q ∈ rest2 ++ tl8, q.1 ≠ 75 := fun q hq => (List.mem_append.mp hq).elim (h752 q) fun h => Nat.ne_of_gt (hg8 q h)
            have hI3 : ∀ q ∈ rest2 ++ tl8, q.1 ≠ I := fun q hq => (List.mem_append.mp hq).elim (fun h => hoff q (by simp [h])) fun h => Nat.ne_of_gt (hl8 (I, oI) (.tail _ (.head _)) q h)
            have hL3 : ListsIn (rest2 ++ tl8) dvs (drawS txs n) := hL2.mono fun q hq => List.mem_append_left _ hq
            obtain ⟨rest3, hsub3, hA3, hd3, N6⟩ : ∃ rest3, (∀ q ∈ rest2 ++ tl8, q ∈ rest3) ∧ (a, listOf (List.toArray wsd) kd) ∈ rest3 ∧ DrawsIn rest3 r8 (drawS (xs.map fun x => cramS x n) m) ∧ News (ghostOf s1.heap [(79, 75)]) s1.heap.objs.size h8 ((75, tabObj ps8) :: (I, oI) :: (s1.heap.objs.size + 1 + 1, om) :: (s1.heap.objs.size + 1, on) :: (dl, listOf (List.toArray dvs) dk) :: (T0, listOf (List.toArray tws) 0) :: rest3) := by
              refine ⟨_, ?_, ?_, hd8, cb_drop N8 (fun q hq => ?_)⟩
              · intro q hq
                rcases List.mem_append.mp hq with h | h
                · exact List.mem_append_left _ (by simp [h])
                · exact List.mem_append_right _ h
              · exact List.mem_append_left _ (by simp [hA])
              · simp only [List.mem_cons, List.mem_append] at hq ⊢
                rcases hq with h | h | h | h | h | h | h
                · exact .inl h
                · exact .inr (.inl (.inr (.inl h)))
                · exact .inr (.inl (.inr (.inr (.inl h))))
                · exact .inr (.inl (.inr (.inr (.inr (.inl h)))))
                · exact .inr (.inl (.inr (.inr (.inr (.inr (.inl h))))))
                · exact .inr (.inl (.inr (.inr (.inr (.inr (.inr (.inl h)))))))
                · exact .inr h
            obtain ⟨al, avs, ak, rfl, ham, hal⟩ := hd3
            clear N8 hst8 hg8 hl8 hd8 N3 N5 F3 N2 F2 hys
            dsimp only
            (try k_fold)
            (repeat' ((fail_if_success (with_reducible show wpAny _ _ (exec (Stmt.Assign _ (Expr.ListComp _ _ _ _) _) _) _ _ _)); first | (k_unfold; (try dsimp only)) | (unfold LedPost; dsimp only) | walk1 | (dsimp only; walk1)))
            (k_dflt (refine LCg.Assign_ListComp_U (F₀ := by k_asm) (by rfl) (by with_unfolding_all rfl) (by with_unfolding_all rfl) (by decide) (by rfl) (by decide) (by rfl) (by rfl) (by rfl) ?_); (first | (k_unfold; (try dsimp only)) | walk1 | (dsimp only; walk1) | (leave1; walk_say "STEP leave1"; (try dsimp only))); k_dflt (refine LCg.CompSrc.ledger (by rfl) (by k_asm) (by k_asm) (by k_mem) ?z ?_; (case z => (rw [List.size_toArray, sizeLine_eq]; omega)); intro g9))
            refine compU_inv (fun j ys => StrsAre ys ((xs.take j).map fun x => cramS x n)) .nil ?turn3 ?fin3
            case turn3 =>
              (intro j v ys I oI C oC D2 m₂ h₂ tk₂ E' hj hv hys hC hx F2 N2 off2 ne2; obtain ⟨x9, t9, rfl, hx9⟩ := strs_at hxs (by simpa using hv); dsimp only at F2 N2 ⊢; have hok9 := hxo x9 (List.mem_of_getElem? hx9); (repeat' ((fail_if_success (with_reducible show wpAny _ _ (call (Value.ref 63) _) _ _ _)); first | (k_unfold; (try dsimp only)) | (unfold LedPost; dsimp only) | walk1 | (dsimp only; walk1))); (k_here; (with_reducible show wpAny _ _ (call (Value.ref 63) _) _ _ _); k_dflt (refine' tellsN_use ?k1 ?k2 ?k3 ?k4 ?k5 ?kK ?kR (tells_rest _ _ _ _ _ _ (x9, n)) ?ko ?kd ?ku ?_; (case k1 => k_asm); (case k2 => k_asm); (case k3 => k_asm); (case k4 => k_asm); (case k5 => k_asm); (case kK => first | exact rfl | assumption); (case kR => exact ⟨_, _, rfl⟩); (case ko => exact ⟨Nat.le_trans hok9.len (by decide), n0, n9⟩); (case kd => first | ktr_room | ((simp only [recursionLimit] at *); (try dsimp only at *); omega)); (case ku => ktr_units); intro r9 tl9 h9 tk9 F9 N9 hl9 ht9 ho9; (obtain ⟨u9, e9⟩ := ho9; subst e9; subst ht9; rw [List.append_nil] at N9; clear hl9); (try dsimp only); (try k_fold))); (repeat' (first | (k_unfold; (try dsimp only)) | (unfold LedPost; dsimp only) | walk1 | (dsimp only; walk1))); refine LCg.CompEnd.intro (by k_asm) (by k_asm) _ (fun p hp => hp) off2 (Or.inr ⟨_, by k_mem, rfl, _, rfl⟩) ⟨rfl, ?_⟩; rw [List.take_add_one, hx9, List.map_append]; refine hys.append' ?_; exact .cons _ _ .nil)
            case fin3 =>
              intro ys4 hys4
              rw [List.size_toArray, hwd, List.take_length] at hys4
              unfold LCg.FinA
              intro D4 h4 tk4 F4 N4 o4
              dsimp only at F4 N4 ⊢
              replace N4 : News _ _ _ ((D4, listOf (List.toArray ys4) ys4.length) :: _) := N4
              (repeat' ((fail_if_success (with_reducible show wpAny _ _ (eval (Expr.ListComp _ _ _ _) _) _ _ _)); first | (k_unfold; (try dsimp only)) | (unfold LedPost; dsimp only) | walk1 | (dsimp only; walk1)))
              (k_dflt (refine LCg.ListComp_U (F₀ := by k_asm) (by with_unfolding_all rfl) (by decide) (by rfl) (by decide) (by rfl) ?_); (first | (k_unfold; (try dsimp only)) | walk1 | (dsimp only; walk1) | (leave1; walk_say "STEP leave1"; (try dsimp only))); k_dflt (refine LCg.CompSrc.ledger (by rfl) (by k_asm) (by k_asm) (by k_mem) ?z ?_; (case z => (rw [List.size_toArray, sizeLine_eq]; omega)); intro g9))
              have hmin : (if m < n then m else n) = min n m := by split <;> omega
              refine compU_inv (fun j ys => StrsAre ys ((xs.take j).map fun x => cramS x (if m < n then m else n))) .nil ?turn4 ?fin4
              case turn4 =>
                (intro j v ys I oI C oC D2 m₂ h₂ tk₂ E' hj hv hys hC hx F2 N2 off2 ne2; obtain ⟨x9, t9, rfl, hx9⟩ := strs_at hxs (by simpa using hv); dsimp only at F2 N2 ⊢; have hok9 := hxo x9 (List.mem_of_getElem? hx9); (repeat' ((fail_if_success (with_reducible show wpAny _ _ (call (Value.ref 63) _) _ _ _)); first | (k_unfold; (try dsimp only)) | (unfold LedPost; dsimp only) | walk1 | (dsimp only; walk1))); (k_here; (with_reducible show wpAny _ _ (call (Value.ref 63) _) _ _ _); k_dflt (refine' tellsN_use ?k1 ?k2 ?k3 ?k4 ?k5 ?kK ?kR (tells_rest _ _ _ _ _ _ (x9, if m < n then m else n)) ?ko ?kd ?ku ?_; (case k1 => k_asm); (case k2 => k_asm); (case k3 => k_asm); (case k4 => k_asm); (case k5 => k_asm); (case kK => first | exact rfl | assumption); (case kR => exact ⟨_, _, rfl⟩); (case ko => exact ⟨Nat.le_trans hok9.len (by decide), by (dsimp only; split <;> omega), by (dsimp only; split <;> omega)⟩); (case kd => first | ktr_room | ((simp only [recursionLimit] at *); (try dsimp only at *); omega)); (case ku => ktr_units); intro r9 tl9 h9 tk9 F9 N9 hl9 ht9 ho9; (obtain ⟨u9, e9⟩ := ho9; subst e9; subst ht9; rw [List.append_nil] at N9; clear hl9); (try dsimp only); (try k_fold))); (repeat' (first | (k_unfold; (try dsimp only)) | (unfold LedPost; dsimp only) | walk1 | (dsimp only; walk1))); refine LCg.CompEnd.intro (by k_asm) (by k_asm) _ (fun p hp => hp) off2 (Or.inr ⟨_, by k_mem, rfl, _, rfl⟩) ⟨rfl, ?_⟩; rw [List.take_add_one, hx9, List.map_append]; refine hys.append' ?_; exact .cons _ _ .nil)
              case fin4 =>
                intro ys hys
                rw [List.size_toArray, hwd, List.take_length, hmin] at hys
                unfold LCg.FinE
                intro D5 h5 tk5 F5 N5 o5
                dsimp only at F5 N5 ⊢
                replace N5 : News _ _ _ ((D5, listOf (List.toArray ys) ys.length) :: _) := N5
                (repeat' ((fail_if_success (with_reducible show wpAny _ _ (call (Value.ref 73) _) _ _ _)); first | (k_unfold; (try dsimp only)) | (unfold LedPost; dsimp only) | walk1 | (dsimp only; walk1)))
                (k_here; (with_reducible show wpAny _ _ (call (Value.ref 73) _) _ _ _); k_dflt (refine' tellsN_use ?k1 ?k2 ?k3 ?k4 ?k5 ?kK ?kR (tells_told _ _ _ _ _ _ (xs.map fun x => cramS x n, xs.map fun x => cramS x (min n m))) ?ko ?kd ?ku ?_; (case k1 => k_asm); (case k2 => k_asm); (case k3 => k_asm); (case k4 => k_asm); (case k5 => k_asm); (case kK => first | exact rfl | assumption); (case kR => exact ⟨D4, ys4, _, D5, _, _, rfl, by k_mem, hys4, by k_mem, hys⟩); (case ko => exact ⟨fun x hx => by (obtain ⟨y, hy, rfl⟩ := List.mem_map.mp hx; exact ((hxo y hy).cram n9).len), fun x hx => by (obtain ⟨y, hy, rfl⟩ := List.mem_map.mp hx; exact ((hxo y hy).cram (by omega)).len), by (rw [List.length_map]; exact hx8), by simp⟩); (case kd => first | ktr_room | ((simp only [recursionLimit] at *); (try dsimp only at *); omega)); (case ku => ktr_units); intro r9 tl9 h9 tk9 F9 N9 hl9 ht9 ho9; skip; (try dsimp only); (try k_fold)))
                (repeat' ((fail_if_success (with_reducible show wpAny _ _ (compareOp CmpOp.NotEq _ _) _ _ _)); first | (k_unfold; (try dsimp only)) | (unfold LedPost; dsimp only) | walk1 | (dsimp only; walk1)))
                k_dflt (refine ne_draws N9 ⟨al, avs, ak, rfl, List.mem_append_left _ (by k_mem), hal.mono (fun q hq => List.mem_append_left _ (by simp [hq]))⟩ ho9 (law_two xs n m) ?sg (by ke_room) ?_)
                case sg =>
                  intro d hd x hx
                  obtain ⟨y, hy, rfl⟩ := List.mem_map.mp ((drawS_mem hd).1 x hx)
                  exact ((hxo y hy).cram n9).sgs
                (repeat' (first | (k_unfold; (try dsimp only)) | (unfold LedPost; dsimp only) | walk1 | (dsimp only; walk1)))
                (rename Fr _ _ _ _ => lF2)
                (rename News _ _ _ _ => lN2)
                refine led_end (⟨ps8, rest2 ++ tl8⟩ : LwC) lF2 lN2 ?_ ?_ (fun p hp => by cases hp) ?_ ⟨htab3, h753, hL3⟩
                · intro q hq
                  simp only [List.mem_cons] at hq
                  simp only [List.mem_cons, List.mem_append]
                  rcases hq with h | h | h | h | h | h | h
                  · simp [h]
                  · simp [h]
                  · simp [h]
                  · simp [h]
                  · simp [h]
                  · simp [h]
                  · simp [hsub3 q h]
                · intro q hq
                  have ho := hoff q
                  simp only [List.mem_cons] at hq ho
                  rcases hq with h | h | h | h | h | h
                  · rw [h]; exact hI75.symm
                  · exact ho (by simp [h])
                  · exact ho (by simp [h])
                  · exact ho (by simp [h])
                  · exact ho (by simp [h])
                  · exact hI3 q h
                · intro z hz h2 h3
                  have hz2 := (list_nc h3 : z ≠ Str.ofString "again" ∧ z ≠ Str.ofString "shown")
                  show (if z = Str.ofString "shown" then _ else if z = Str.ofString "again" then _ else if z = Str.ofString "drawer" then _ else kstB _ _ z) = _
                  rw [if_neg hz2.2, if_neg hz2.1, if_neg hz]
                  exact same_off h3 (fun p hp => by cases hp)
        case done =>
          rintro ⟨ps, rest2⟩ u h2 tk2 ⟨htab2, h752, hL2⟩ F2 N2
          dsimp only at htab2 h752 hL2 F2 N2 ⊢
          clear lF lN N3 F3 ho9 hl9
          (repeat' ((fail_if_success (with_reducible show wpAny _ _ (eval (Expr.ListComp _ _ _ _) _) _ _ _)); first | (k_unfold; (try dsimp only)) | (unfold LedPost; dsimp only) | walk1 | (dsimp only; walk1)))
          (k_dflt (refine LCg.ListComp_U (F₀ := by k_asm) (by with_unfolding_all rfl) (by decide) (by rfl) (by decide) (by rfl) ?_); (first | (k_unfold; (try dsimp only)) | walk1 | (dsimp only; walk1) | (leave1; walk_say "STEP leave1"; (try dsimp only))); k_dflt (refine LCg.CompSrc.ledger (by rfl) (by k_asm) (by k_asm) (by k_mem) ?z ?_; (case z => (rw [List.size_toArray, sizeLine_eq]; omega)); intro g9))
          refine compU_inv (fun j ys => StrsAre ys ((txs.take j).map fun x => backS x n)) .nil ?turn9 ?fin9
          case turn9 =>
            (intro j v ys I oI C oC D2 m₂ h₂ tk₂ E' hj hv hys hC hx F2 N2 off2 ne2; obtain ⟨x9, t9, rfl, hx9⟩ := strs_at htws (by simpa using hv); dsimp only at F2 N2 ⊢; have hok9 := htxs x9 (List.mem_of_getElem? hx9); (repeat' ((fail_if_success (with_reducible show wpAny _ _ (call (Value.ref 87) _) _ _ _)); first | (k_unfold; (try dsimp only)) | (unfold LedPost; dsimp only) | walk1 | (dsimp only; walk1))); (k_here; (with_reducible show wpAny _ _ (call (Value.ref 87) _) _ _ _); k_dflt (refine' tellsN_use ?k1 ?k2 ?k3 ?k4 ?k5 ?kK ?kR (tells_back _ _ _ _ _ _ (x9, n)) ?ko ?kd ?ku ?_; (case k1 => k_asm); (case k2 => k_asm); (case k3 => k_asm); (case k4 => k_asm); (case k5 => k_asm); (case kK => first | exact rfl | assumption); (case kR => exact ⟨_, _, rfl⟩); (case ko => exact ⟨hok9.len, n0, n9⟩); (case kd => first | ktr_room | ((simp only [recursionLimit] at *); (try dsimp only at *); omega)); (case ku => ktr_units); intro r9 tl9 h9 tk9 F9 N9 hl9 ht9 ho9; (obtain ⟨u9, e9⟩ := ho9; subst e9; subst ht9; rw [List.append_nil] at N9; clear hl9); (try dsimp only); (try k_fold))); (repeat' (first | (k_unfold; (try dsimp only)) | (unfold LedPost; dsimp only) | walk1 | (dsimp only; walk1))); refine LCg.CompEnd.intro (by k_asm) (by k_asm) _ (fun p hp => hp) off2 (Or.inr ⟨_, by k_mem, rfl, _, rfl⟩) ⟨rfl, ?_⟩; rw [List.take_add_one, hx9, List.map_append]; refine hys.append' ?_; exact .cons _ _ .nil)
          case fin9 =>
            intro ys hys
            rw [List.size_toArray, htw, List.take_length] at hys
            unfold LCg.FinE
            intro D3 h3 tk3 F3 N3 o3
            dsimp only at F3 N3 ⊢
            replace N3 : News _ _ _ ((D3, listOf (List.toArray ys) ys.length) :: _) := N3
            (repeat' ((fail_if_success (with_reducible show wpAny _ _ (compareOp CmpOp.Eq _ _) _ _ _)); first | (k_unfold; (try dsimp only)) | (unfold LedPost; dsimp only) | walk1 | (dsimp only; walk1)))
            k_dflt (refine eq_strs (by k_asm) ⟨D3, _, _, rfl, List.Mem.head _, hys⟩ ⟨T0, tws, 0, rfl, by k_mem, htws⟩ ?be ?bs (by ke_room) ?_)
            case be =>
              conv => rhs; rw [← List.map_id txs]
              exact List.map_congr_left fun x hx => back_id n (htxs x hx).sgs
            case bs =>
              intro x hx
              obtain ⟨y, hy, rfl⟩ := List.mem_map.mp hx
              rw [back_id n (htxs y hy).sgs]
              exact (htxs y hy).sgs
            k_steps))
end Mine
end
theorem PySem.Challenge.cw_mq0140_01_holds : PySem.Challenge.rw_mq0140_01.Holds := by
  exact Mine.law_holds
