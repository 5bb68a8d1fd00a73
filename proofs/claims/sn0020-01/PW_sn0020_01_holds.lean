import PyProof.Rows.All
import Wide.All
import OpenK.AllK
import Wide.FinOn
import PySem.Challenge.RW_sn0020_01
open PySem PySem.W PyProof.Rows
set_option Elab.async false
set_option rowWalk.seconds 0
set_option compiler.extract_closed false
set_option linter.unusedVariables false
set_option linter.unusedSectionVars false
namespace Mine
set_option maxRecDepth 100000 in
set_option maxHeartbeats 8000000 in
open_top hd for PySem.Challenge.rw_sn0020_01
open PySem.Calls PySem.Spec
theorem off_now : True := by
  w_top off
  k_with_none
  exact True.intro
local macro_rules | `(tactic| walk_at $s:str) => `(tactic| k_extra $s)
section
open PyProof.V
abbrev TopM (mean : ExcName → Option Value) (mg mb : Str → Option Value) (h₀ : Heap) : Prop :=
  Top topProg (looseW hd.view_39
          [Str.ofString "_twin_re_1", Str.ofString "_twin_re_2", Str.ofString "insort_right",
            Str.ofString "bisect_right", Str.ofString "insort_left", Str.ofString "bisect_left"] ++
        List.map (fun x => x.name) (recsOf hd.view_39) ++
      List.map (fun x => x.fst) (litsOf hd.view_39) ++
    List.map (fun x => x.name)
      (clssOf hd.view_39
        (looseW hd.view_39
          [Str.ofString "_twin_re_1", Str.ofString "_twin_re_2", Str.ofString "insort_right",
            Str.ofString "bisect_right", Str.ofString "insort_left", Str.ofString "bisect_left"]))) mean mg mb h₀

/-- a goal that the walk leaves alone -/
structure Hold (P : Prop) : Prop where
  out : P

def bnd (rest : Str → Option Value) : List (Str × Value) → Str → Option Value
  | [] => rest
  | (x, v) :: r => fun z => if z = x then some v else bnd rest r z
theorem bnd_self {m : Str → Option Value} : ∀ {ps : List (Str × Value)}, (∀ p ∈ ps, m p.1 = some p.2) → bnd m ps = m
  | [], _ => rfl
  | (x, v) :: r, h => by
    funext z
    show (if z = x then some v else bnd m r z) = m z
    by_cases e : z = x
    · rw [if_pos e, e]; exact (h (x, v) (.head _)).symm
    · rw [if_neg e, bnd_self fun q hq => h q (.tail _ hq)]
theorem ne_of_lt {d : Addr} {l : List (Addr × Obj)} (h : ∀ p ∈ l, p.1 < d) : ∀ p ∈ l, p.1 ≠ d := fun p hp => Nat.ne_of_lt (h p hp)
theorem lt_of_all {d : Addr} : ∀ {l : List (Addr × Obj)}, AllLt d l → ∀ p ∈ l, p.1 < d
  | [], _, _, hp => nomatch hp
  | _ :: _, h, p, hp => by
    rcases List.mem_cons.mp hp with rfl | hp
    · exact h.1
    · exact lt_of_all h.2 p hp
theorem ne_of_all {d : Addr} {l : List (Addr × Obj)} (h : AllLt d l) : ∀ p ∈ l, p.1 ≠ d := ne_of_lt (lt_of_all h)
theorem need_tail {need news : List (Addr × Obj)} {x : Addr × Obj} (h : ∀ p ∈ need, p ∈ news) : ∀ p ∈ need, p ∈ x :: news := fun p hp => .tail _ (h p hp)
theorem newsOf {h₀ h : Heap} {L : Addr} {p₀ : Addr × Obj} {l l' : List (Addr × Obj)} (N : News h₀ L h l) (h0 : p₀ ∈ l) (hs : ∀ p ∈ l', p ∈ l) : News h₀ L h (p₀ :: l') := fun p hp => by
  rcases List.mem_cons.mp hp with rfl | hp
  · exact N _ h0
  · exact N p (hs p hp)
theorem fits_of {x : Int} (h0 : 0 ≤ x) (h1 : x ≤ 1048576) : Builtin.List.listFitsIndex x = true := by
  unfold Builtin.List.listFitsIndex
  simp
  omega

theorem frB {h₀ h : Heap} {L : Addr} {m : Str → Option Value} (ps : List (Str × Value)) (F : Fr h₀ L h m) (hk : ∀ p ∈ ps, m p.1 = some p.2) : ∃ u, Fr h₀ L h (bnd u ps) :=
  ⟨m, by rw [bnd_self hk]; exact F⟩

theorem frI1 {h₀ h : Heap} {L : Addr} {m : Str → Option Value} {x : Str} {i : Int} (ps : List (Str × Value)) (F : Fr h₀ L h m) (hk : ∀ p ∈ ps, m p.1 = some p.2) (hx : ∃ t, m x = some (.int i t)) :
    ∃ u t1, Fr h₀ L h (bnd u ((x, .int i t1) :: ps)) := by
  obtain ⟨t1, hx⟩ := hx
  exact ⟨m, t1, by rw [bnd_self (List.forall_mem_cons.mpr ⟨hx, hk⟩)]; exact F⟩
theorem frI {h₀ h : Heap} {L : Addr} {m : Str → Option Value} {x y : Str} {i j : Int} (ps : List (Str × Value)) (F : Fr h₀ L h m) (hk : ∀ p ∈ ps, m p.1 = some p.2) (hx : ∃ t, m x = some (.int i t)) (hy : ∃ t, m y = some (.int j t)) :
    ∃ u t1 t2, Fr h₀ L h (bnd u ((x, .int i t1) :: (y, .int j t2) :: ps)) := by
  obtain ⟨t1, hx⟩ := hx
  obtain ⟨t2, hy⟩ := hy
  exact ⟨m, t1, t2, by rw [bnd_self (List.forall_mem_cons.mpr ⟨hx, List.forall_mem_cons.mpr ⟨hy, hk⟩⟩)]; exact F⟩
theorem addL {prog : Program} {w : World} {A : Around} {E : Value → Shared → Prop} {s : Shared} {h₀ : Heap} {L a b : Addr} {m : Str → Option Value} {news : List (Addr × Obj)} {us vs : List Value} {Q : Value → Shared → Prop}
    (F : Fr h₀ L s.heap m) (N : News h₀ L s.heap news) (ha : s.heap.IsList a us.toArray) (hb : s.heap.IsList b vs.toArray)
    (h : ∀ D h', Fr h₀ L h' m → News h₀ L h' ((D, listOf (us ++ vs).toArray 0) :: news) → (∀ p ∈ news, p.1 < D) → Q (.ref D) { s with heap := h' })
    (hz : us.length + vs.length ≤ 1000000) : wpAny (model prog w) A (binaryOp .Add (.ref a) (.ref b)) Q E s :=
  kmk_add_lit F N ha hb rfl h (by simpa using Nat.le_trans hz (by rw [sizeLine_eq]; omega))
theorem insL {prog : Program} {w : World} {A : Around} {E : Value → Shared → Prop} {s : Shared} {h₀ : Heap} {L D : Addr} {m : Str → Option Value} {news news' : List (Addr × Obj)} {vs : List Value} {n : Nat} {x : Int} {u : Tok} {y : Value} {Q : Value → Shared → Prop}
    (F : Fr h₀ L s.heap m) (N : News h₀ L s.heap news) (h0 : 0 ≤ x) (h1 : x ≤ 1000000)
    (U : Upd D (listOf vs.toArray n) (listOf (vs.take x.toNat ++ y :: vs.drop x.toNat).toArray (n + 1)) news news') (hz : vs.length ≤ 1000000) (h : ∀ h', Fr h₀ L h' m → News h₀ L h' news' → Q .none { s with heap := h' }) :
    wpAny (model prog w) A (call (.builtin "list.insert") [.ref D, .int x u, y]) Q E s := by
  refine kl_insert F N (fits_of h0 (by omega)) (l := vs.take x.toNat ++ y :: vs.drop x.toNat) ?_ U (Nat.le_trans (by simpa using hz) (by rw [sizeLine_eq]; omega)) h
  show kl_ins vs x y = _
  unfold kl_ins
  rw [if_neg (by omega)]
  by_cases hl : x.toNat ≤ vs.length
  · rw [Nat.min_eq_left hl]
  · rw [Nat.min_eq_right (by omega), List.take_of_length_le (Nat.le_refl _), List.drop_of_length_le (Nat.le_refl _), List.take_of_length_le (by omega), List.drop_of_length_le (by omega)]
theorem intsAt : ∀ {vs : List Value} {ns : List Int}, IntsAre vs ns → ∀ (i : Nat), i < ns.length → ∃ t, vs[i]? = some (.int (ns.getD i 0) t)
  | _, _, .nil, i, h => absurd h (Nat.not_lt_zero _)
  | _, _, .cons n t r, 0, _ => ⟨t, rfl⟩
  | _, _, .cons n t r, i + 1, h => by
    obtain ⟨t', e⟩ := intsAt r i (Nat.lt_of_succ_lt_succ h)
    exact ⟨t', by simpa using e⟩
section
variable {prog : Program} {w : World} {A : Around} {E : Value → Shared → Prop} {s : Shared} {h₀ : Heap} {L l : Addr} {m : Str → Option Value} {news : List (Addr × Obj)} {vs : List Value} {ns : List Int} {Q : Value → Shared → Prop}
theorem lenL {k : Nat} (N : News h₀ L s.heap news) (hm : (l, listOf vs.toArray k) ∈ news) (hb : vs.length ≤ 1000000) (h : Q (.int (vs.length : Int) (s.toks + 1)) { s with toks := s.toks + 1 + 1 }) :
    wpAny (model prog w) A (call (.builtin "len") [.ref l]) Q E s :=
  have hL : s.heap.IsList l vs.toArray := N.isList hm
  len_list hL (by rw [List.size_toArray]; omega) (by rw [List.size_toArray]; exact h)
theorem popL {k : Nat} {i : Int} {u : Tok} {v : Value} {news' : List (Addr × Obj)}
    (F' : Fr h₀ L s.heap m) (N : News h₀ L s.heap news) (h0 : 0 ≤ i) (hv : vs[i.toNat]? = some v) (hb : vs.length ≤ 1000000)
    (U : Upd l (listOf vs.toArray k) (listOf (vs.take i.toNat ++ vs.drop (i.toNat + 1)).toArray (k + 1)) news news')
    (h : ∀ h', Fr h₀ L h' m → News h₀ L h' news' → Q v { s with heap := h' }) :
    wpAny (model prog w) A (call (.builtin "list.pop") [.ref l, .int i u]) Q E s := by
  have hi : i.toNat < vs.length := (List.getElem?_eq_some_iff.mp hv).1
  have e : ∀ (l : List Value) (n : Nat) (v : Value), l[n]? = some v → kl_cut l n = some (l.take n, v, l.drop (n + 1)) := by
    intro l
    induction l with
    | nil => intro n v h; simp at h
    | cons x r ih =>
      intro n v h
      cases n with
      | zero => simp at h; subst h; rfl
      | succ n =>
        have := ih n v (by simpa using h)
        simp [kl_cut, this]
  exact kl_popAt F' N (fits_of h0 (by omega)) (by rw [List.size_toArray]; exact seqIndex_of h0 (by omega)) (e _ _ _ hv) U (by simpa using Nat.le_trans hb (by rw [sizeLine_eq]; omega)) h
theorem itemL {value slice : Expr} {k : Nat} {i : Int} {u : Tok} {v : Value}
    (N : News h₀ L s.heap news) (hm : (l, listOf vs.toArray k) ∈ news) (h0 : 0 ≤ i) (h1 : i ≤ 1000000) (hv : vs[i.toNat]? = some v) (h : Q v s)
    (hs : subscripted slice false (.ref l) (.int i u) = operate [.ref l, .int i u] (getItem (.ref l) (.int i u)) := by with_unfolding_all rfl) :
    wpAny (model prog w) A (subscriptTail value slice (.ref l) (.int i u)) Q E s :=
  have hL : s.heap.IsList l vs.toArray := N.isList hm
  tail_any hL.typeIs slot_list_getitem.lookup (wpAny_getItem_list hL h0 (by omega) (by simpa using hv) h) hs
theorem itemI {value slice : Expr} {k : Nat} {i : Int} {u : Tok}
    (N : News h₀ L s.heap news) (hm : (l, listOf vs.toArray k) ∈ news) (hI : IntsAre vs ns) (h0 : 0 ≤ i) (h1 : i < ns.length) (hb : ns.length ≤ 1000000)
    (h : ∀ t, Q (.int (ns.getD i.toNat 0) t) s)
    (hs : subscripted slice false (.ref l) (.int i u) = operate [.ref l, .int i u] (getItem (.ref l) (.int i u)) := by with_unfolding_all rfl) :
    wpAny (model prog w) A (subscriptTail value slice (.ref l) (.int i u)) Q E s := by
  obtain ⟨t, e⟩ := intsAt hI i.toNat (by omega)
  exact itemL N hm h0 (by omega) e (h t) hs
end

section
variable {prog : Program} {w : World} {A : Around} {E : Value → Shared → Prop} {Q : Flow → Shared → Prop} {s : Shared} {env : Env} {h₀ : Heap} {L : Addr}

/-- the end of a turn -/
def WEnd {σ : Type} (h₀ : Heap) (L : Addr) (s : Shared) (Led : σ → List (Addr × Obj)) (ps : σ → List (Str × Value)) (P : σ → Prop) (s₂ : Shared) : Prop :=
  ∃ (c : σ) (h' : Heap) (tk : Nat) (m' : Str → Option Value), s₂ = { s with heap := h', toks := tk } ∧ Fr h₀ L h' m' ∧ News h₀ L h' (Led c) ∧ (∀ p ∈ ps c, m' p.1 = some p.2) ∧ P c

def WPost {σ : Type} (h₀ : Heap) (L : Addr) (s : Shared) (Led : σ → List (Addr × Obj)) (ps : σ → List (Str × Value)) (P : σ → Prop) (Q : Flow → Shared → Prop) (f : Flow) (s₂ : Shared) : Prop :=
  match f with
  | .ret v => Q (.ret v) s₂
  | .brk => Q .next s₂
  | .next => WEnd h₀ L s Led ps P s₂
  | .cont => WEnd h₀ L s Led ps P s₂

theorem wEnd {σ : Type} {Led : σ → List (Addr × Obj)} {ps : σ → List (Str × Value)} {P : σ → Prop} {h' : Heap} {tk : Nat} {m' : Str → Option Value} {news' : List (Addr × Obj)} (c : σ)
    (F : Fr h₀ L h' m') (N : News h₀ L h' news') (hn : ∀ p ∈ Led c, p ∈ news') (hk : ∀ p ∈ ps c, m' p.1 = some p.2) (hp : P c) :
    WEnd h₀ L s Led ps P { s with heap := h', toks := tk } := ⟨c, h', tk, m', rfl, F, fun p hp => N p (hn p hp), hk, hp⟩

theorem whileR {σ : Type} {test : Expr} {body : List Stmt} {pos : Pos} {m₀ : Str → Option Value} {news : List (Addr × Obj)} (Led : σ → List (Addr × Obj)) (ps : σ → List (Str × Value)) (P : σ → Prop) (μ : σ → Nat) (c₀ : σ)
    (F : Fr h₀ L s.heap m₀) (N : News h₀ L s.heap news) (hn : ∀ p ∈ Led c₀, p ∈ news) (hk : ∀ p ∈ ps c₀, m₀ p.1 = some p.2) (hp : P c₀)
    (turn : ∀ (c : σ) (u : Str → Option Value) h tk, P c → Fr h₀ L h (bnd u (ps c)) → News h₀ L h (Led c) →
      wpAny (model prog w) A (isTrue test env (eval test env)) (fun b s₂ =>
        if b = true then wpAny (model prog w) A (execs body env) (WPost h₀ L s Led ps (fun c' => P c' ∧ μ c' < μ c) Q) E s₂ else Q .next s₂) E { s with heap := h, toks := tk })
    (hE : PassesOwn (model prog w) A env E := by passes_own) :
    wpAny (model prog w) A (exec (.While test body [] pos) env) Q E s := by
  refine While_inv2 (fun n m nx => ∃ c : σ, nx = Led c ∧ μ c = n ∧ (∀ p ∈ ps c, m p.1 = some p.2) ∧ P c) F (news := Led c₀) (fun p hp => N p (hn p hp)) ⟨c₀, rfl, rfl, hk, hp⟩ ?_ hE
  rintro n m₁ nx h tk F₁ N₁ ⟨c, hnx, hsz, h1, hp'⟩
  rw [hnx] at N₁
  rw [← hsz]
  refine wpAny_mono (turn c m₁ h tk hp' (by rw [bnd_self h1]; exact F₁) N₁) (fun b s₂ p => ?_) fun _ _ x => x
  cases b with
  | false => simpa using p
  | true =>
    simp only [if_true] at p ⊢
    refine wpAny_mono p (fun f s₃ q => ?_) fun _ _ x => x
    cases f with
    | ret v => exact q
    | brk => exact q
    | next =>
      obtain ⟨c', h', tk', m', rfl, F', N', hk', hp'', hm'⟩ := q
      exact ⟨h', tk', m', Led c', μ c', rfl, F', N', hm', c', rfl, rfl, hk', hp''⟩
    | cont =>
      obtain ⟨c', h', tk', m', rfl, F', N', hk', hp'', hm'⟩ := q
      exact ⟨h', tk', m', Led c', μ c', rfl, F', N', hm', c', rfl, rfl, hk', hp''⟩
end

section
variable {prog : Program} {w : World} {A : Around} {E : Value → Shared → Prop} {Q : Flow → Shared → Prop} {s : Shared} {env : Env} {h₀ : Heap} {L : Addr} {x : Str} {body : List Stmt}

/-- the end of a for's turn: I is the iterator -/
def FEnd {σ : Type} (h₀ : Heap) (L I : Addr) (oI : Obj) (s : Shared) (Led : σ → List (Addr × Obj)) (ps : σ → List (Str × Value)) (P : σ → Prop) (s₂ : Shared) : Prop :=
  ∃ (c : σ) (h' : Heap) (tk : Nat) (m' : Str → Option Value) (news' : List (Addr × Obj)), s₂ = { s with heap := h', toks := tk } ∧ Fr h₀ L h' m' ∧ News h₀ L h' news' ∧ (∀ p ∈ Led c, p ∈ news') ∧ (I, oI) ∈ news' ∧ (∀ p ∈ Led c, p.1 ≠ I) ∧ (∀ p ∈ ps c, m' p.1 = some p.2) ∧ P c
def FPost {σ : Type} (h₀ : Heap) (L I : Addr) (oI : Obj) (s : Shared) (Led : σ → List (Addr × Obj)) (ps : σ → List (Str × Value)) (P : σ → Prop) (Q : Flow → Shared → Prop) (f : Flow) (s₂ : Shared) : Prop :=
  match f with
  | .ret v => Q (.ret v) s₂
  | .brk => Q .next s₂
  | .next => FEnd h₀ L I oI s Led ps P s₂
  | .cont => FEnd h₀ L I oI s Led ps P s₂
theorem fEnd {σ : Type} {I : Addr} {oI : Obj} {Led : σ → List (Addr × Obj)} {ps : σ → List (Str × Value)} {P : σ → Prop} {h' : Heap} {tk : Nat} {m' : Str → Option Value} {news' : List (Addr × Obj)} (c : σ)
    (F : Fr h₀ L h' m') (N : News h₀ L h' news') (hn : ∀ p ∈ Led c, p ∈ news') (hI : (I, oI) ∈ news') (hne : ∀ p ∈ Led c, p.1 ≠ I) (hk : ∀ p ∈ ps c, m' p.1 = some p.2) (hp : P c) :
    FEnd h₀ L I oI s Led ps P { s with heap := h', toks := tk } := ⟨c, h', tk, m', news', rfl, F, N, hn, hI, hne, hk, hp⟩

theorem forRange {σ : Type} {r : Addr} {a₀ b₀ d : Int} {t₀ u₀ v₀ : Tok} {n : Nat} {m₀ : Str → Option Value} {news : List (Addr × Obj)} (Led : σ → List (Addr × Obj)) (ps : σ → List (Str × Value)) (P : Nat → σ → Prop) (c₀ : σ)
    (hh : A.handled = none) (hr : IsRange s.heap r a₀ b₀ d t₀ u₀ v₀) (hsmall : Builtin.Range.small a₀ b₀ d = true) (hn : Builtin.Range.rangeSize a₀ b₀ d = (n : Int))
    (F : Fr h₀ env.locals s.heap m₀) (N : News h₀ env.locals s.heap news) (hl : ∀ p ∈ Led c₀, p ∈ news) (hk : ∀ p ∈ ps c₀, m₀ p.1 = some p.2) (hp : P 0 c₀)
    (turn : ∀ (c : σ) (i : Nat) (k : Int) t (u : Str → Option Value) h tk I oI, i < n → k = a₀ + (i : Int) * d → P i c → (∀ p ∈ Led c, p.1 ≠ I) →
      Fr h₀ env.locals h (bnd u ((x, .int k t) :: ps c)) → News h₀ env.locals h ((I, oI) :: Led c) →
      wpAny (model prog w) A (execs body env) (FPost h₀ env.locals I oI { s with heap := h, toks := tk } Led ps (P (i + 1)) Q) E { s with heap := h, toks := tk })
    (done : ∀ (c : σ) (u : Str → Option Value) h tk, P n c → Fr h₀ env.locals h (bnd u (ps c)) → News h₀ env.locals h (Led c) → Q .next { s with heap := h, toks := tk })
    (hx : ∀ c, ∀ p ∈ ps c, p.1 ≠ x) :
    wpAny (model prog w) A (pyIter (.ref r)) (fun it s₂ => LoopAtV prog w A h₀ env x body Q E it s₂) E s := by
  refine wpAny_pyIter_range hr hsmall ?_
  have W : Walks prog w A s.heap.objs.size [s.heap.objs.size] [s.heap.objs.size] n (fun i v => i < n ∧ ∃ t, v = .int (a₀ + i * d) t)
      (fun i h => IsRangeIter h s.heap.objs.size (a₀ + (i : Nat) * d) ((n : Int) - (i : Nat)) d) := (Walks.range hh _ a₀ d n).bound
  have hnew : ∀ p ∈ Led c₀, p.1 ≠ s.heap.objs.size := fun p hp => Nat.ne_of_lt (Heap.lt_size (N p (hl p hp)).1)
  refine ⟨s.heap.objs.size, _, _, n, _, _, m₀, Led c₀, (fun i m nx => ∃ c, nx = Led c ∧ (∀ p ∈ ps c, m p.1 = some p.2) ∧ P i c), rfl, W, ?_, ?_, ?_,
    (by show IsRangeIter _ _ _ _ _; rw [hn]; simpa using Heap.get?_push_size _ rfl), F.push _, (fun p hp => ⟨Heap.get?_push_of_some _ (N p (hl p hp)).1, (N p (hl p hp)).2⟩), ⟨c₀, rfl, hk, hp⟩, ?_, ?_⟩
  · intro hm
    exact absurd F.ns.lt ((List.mem_singleton.mp hm) ▸ Nat.lt_irrefl _)
  · intro b hb
    rw [List.mem_singleton.mp hb]
    exact next_is_new F
  · intro p hp hI
    exact hnew p hp (List.mem_singleton.mp hI)
  · rintro i v m₁ news₁ s₁ own ⟨hh', tk', rfl⟩ hin ⟨_, t, rfl⟩ ⟨c, rfl, h1, hp'⟩ hoff hown1 hown2 hown3 hst F₁ N₁
    have hst' : IsRangeIter hh' s.heap.objs.size (a₀ + ((i + 1 : Nat) : Int) * d) ((n : Int) - ((i + 1 : Nat) : Int)) d := hst
    obtain ⟨oI, hoI⟩ : ∃ oI, hh'.get? s.heap.objs.size = some oI := ⟨_, hst'⟩
    have hI := hown3 s.heap.objs.size (List.mem_singleton.mpr rfl) (next_is_new F) _ hoI
    have hne : ∀ p ∈ Led c, p.1 ≠ s.heap.objs.size := fun p hp q => hoff p hp (List.mem_singleton.mpr q)
    have hb : (fun y => if y = x then some (Value.int (a₀ + (i : Int) * d) t) else m₁ y) = bnd (fun y => if y = x then some (Value.int (a₀ + (i : Int) * d) t) else m₁ y) ((x, .int (a₀ + (i : Int) * d) t) :: ps c) := by
      refine (bnd_self fun p hp => ?_).symm
      rcases List.mem_cons.mp hp with rfl | hp
      · exact if_pos rfl
      · rw [if_neg (hx c p hp)]; exact h1 p hp
    rw [hb] at F₁
    refine wpAny_mono (turn c i _ t _ hh' tk' s.heap.objs.size oI hin rfl hp' hne F₁ (fun p hp => ?_)) (fun f s₂ p => ?_) fun _ _ e => e
    · rcases List.mem_cons.mp hp with rfl | hp
      · exact N₁ _ (List.mem_append_left _ hI)
      · exact N₁ _ (List.mem_append_right _ hp)
    · have fin : FEnd h₀ env.locals s.heap.objs.size oI { s with heap := hh', toks := tk' } Led ps (P (i + 1)) s₂ → LoopStepU h₀ env.locals [s.heap.objs.size] own (fun m nx => ∃ c, nx = Led c ∧ (∀ p ∈ ps c, m p.1 = some p.2) ∧ P (i + 1) c) { s with heap := hh', toks := tk' } .next s₂ := by
        rintro ⟨c', h', tk, m', news', e, F', N', hn', hI', hne', hk', hP'⟩
        refine ⟨rfl, h', tk, m', Led c', e, F', fun p hp => ?_, fun p hp hq => hne' p hp (List.mem_singleton.mp hq), c', rfl, hk', hP'⟩
        rcases List.mem_append.mp hp with hp | hp
        · have e1 : p.1 = s.heap.objs.size := List.mem_singleton.mp (hown1 p hp)
          have e2 := hown2 p hp
          rw [e1] at e2
          have e3 := hown2 _ hI
          rw [e3] at e2
          have : p = (s.heap.objs.size, oI) := Prod.ext e1 (Option.some.inj e2).symm
          rw [this]
          exact N' _ hI'
        · exact N' _ (hn' p hp)
      cases f with
      | ret v => exact .ret p
      | brk => exact .brk p
      | next => exact .next (fin p)
      | cont => exact .cont (fin p)
  · rintro h' tk m' news' F' N' _ ⟨c, rfl, hk', hP'⟩
    exact done c m' h' tk hP' (by rw [bnd_self hk']; exact F') N'

theorem forList {σ : Type} {l : Addr} {vs : List Value} {ns : List Int} {nn : Nat} {m₀ : Str → Option Value} {news : List (Addr × Obj)} (Led : σ → List (Addr × Obj)) (ps : σ → List (Str × Value)) (P : Nat → σ → Prop) (c₀ : σ)
    (hh : A.handled = none) (hm : ∀ c, (l, listOf vs.toArray nn) ∈ Led c) (hi : IntsAre vs ns)
    (F : Fr h₀ env.locals s.heap m₀) (N : News h₀ env.locals s.heap news) (hl : ∀ p ∈ Led c₀, p ∈ news) (hk : ∀ p ∈ ps c₀, m₀ p.1 = some p.2) (hp : P 0 c₀)
    (turn : ∀ (c : σ) (i : Nat) (k : Int) t (u : Str → Option Value) h tk I oI, ns[i]? = some k → P i c → (∀ p ∈ Led c, p.1 ≠ I) →
      Fr h₀ env.locals h (bnd u ((x, .int k t) :: ps c)) → News h₀ env.locals h ((I, oI) :: Led c) →
      wpAny (model prog w) A (execs body env) (FPost h₀ env.locals I oI { s with heap := h, toks := tk } Led ps (P (i + 1)) Q) E { s with heap := h, toks := tk })
    (done : ∀ (c : σ) (u : Str → Option Value) h tk, P ns.length c → Fr h₀ env.locals h (bnd u (ps c)) → News h₀ env.locals h (Led c) → Q .next { s with heap := h, toks := tk })
    (hx : ∀ c, ∀ p ∈ ps c, p.1 ≠ x) :
    wpAny (model prog w) A (pyIter (.ref l)) (fun it s₂ => LoopAtV prog w A h₀ env x body Q E it s₂) E s := by
  have hol := N _ (hl _ (hm c₀))
  have hls : s.heap.IsList l vs.toArray := ⟨_, hol.1, rfl, nn, rfl⟩
  have hlI : l ≠ s.heap.objs.size := Nat.ne_of_lt (Heap.lt_size hol.1)
  refine wpAny_pyIter_list hls ?_
  have W := Walks.list (prog := prog) (w := w) hh s.heap.objs.size l hlI vs.toArray
  have hlen : vs.toArray.size = ns.length := by simp [hi.length]
  rw [hlen] at W
  have hnew : ∀ p ∈ Led c₀, p.1 ≠ s.heap.objs.size := fun p hp => Nat.ne_of_lt (Heap.lt_size (N p (hl p hp)).1)
  refine ⟨_, _, _, ns.length, _, _, m₀, Led c₀, (fun i m nx => ∃ c, nx = Led c ∧ (∀ p ∈ ps c, m p.1 = some p.2) ∧ P i c), rfl, W, ?_, ?_, ?_,
    ⟨⟨_, Heap.get?_push_size _ rfl, rfl, rfl⟩, hls.at fun o e => Heap.get?_push_of_some _ e⟩, F.push _, (fun p hp => ⟨Heap.get?_push_of_some _ (N p (hl p hp)).1, (N p (hl p hp)).2⟩), ⟨c₀, rfl, hk, hp⟩, ?_, ?_⟩
  · intro hq
    rcases List.mem_cons.mp hq with e | hq
    · exact absurd F.ns.lt (e ▸ Nat.lt_irrefl _)
    · exact hol.2.1 (List.mem_singleton.mp hq).symm
  · intro b hb
    rw [List.mem_singleton.mp hb]
    exact next_is_new F
  · intro p hp hI
    exact hnew p hp (List.mem_singleton.mp hI)
  · rintro i v m₁ news₁ s₁ own ⟨hh', tk', rfl⟩ hin hP ⟨c, rfl, h1, hp'⟩ hoff hown1 hown2 hown3 hst F₁ N₁
    have hlt' : i < ns.length := hin
    obtain ⟨t, hx'⟩ := intsAt hi i hlt'
    have hv : v = .int (ns.getD i 0) t := by
      have hP' : vs[i]? = some v := by simpa using hP
      rw [hx'] at hP'; exact (Option.some.inj hP').symm
    subst hv
    obtain ⟨⟨oI, hoI, _⟩, _⟩ := hst
    have hI := hown3 s.heap.objs.size (List.mem_cons_self) (next_is_new F) _ hoI
    have hne : ∀ p ∈ Led c, p.1 ≠ s.heap.objs.size := fun p hp q => hoff p hp (List.mem_singleton.mpr q)
    have hb : (fun y => if y = x then some (Value.int (ns.getD i 0) t) else m₁ y) = bnd (fun y => if y = x then some (Value.int (ns.getD i 0) t) else m₁ y) ((x, .int (ns.getD i 0) t) :: ps c) := by
      refine (bnd_self fun p hp => ?_).symm
      rcases List.mem_cons.mp hp with rfl | hp
      · exact if_pos rfl
      · rw [if_neg (hx c p hp)]; exact h1 p hp
    rw [hb] at F₁
    refine wpAny_mono (turn c i _ t _ hh' tk' s.heap.objs.size oI (by simp [List.getD, hlt']) hp' hne F₁ (fun p hp => ?_)) (fun f s₂ p => ?_) fun _ _ e => e
    · rcases List.mem_cons.mp hp with rfl | hp
      · exact N₁ _ (List.mem_append_left _ hI)
      · exact N₁ _ (List.mem_append_right _ hp)
    · have fin : FEnd h₀ env.locals s.heap.objs.size oI { s with heap := hh', toks := tk' } Led ps (P (i + 1)) s₂ → LoopStepU h₀ env.locals [s.heap.objs.size] own (fun m nx => ∃ c, nx = Led c ∧ (∀ p ∈ ps c, m p.1 = some p.2) ∧ P (i + 1) c) { s with heap := hh', toks := tk' } .next s₂ := by
        rintro ⟨c', h', tk, m', news', e, F', N', hn', hI', hne', hk', hP'⟩
        refine ⟨rfl, h', tk, m', Led c', e, F', fun p hp => ?_, fun p hp hq => hne' p hp (List.mem_singleton.mp hq), c', rfl, hk', hP'⟩
        rcases List.mem_append.mp hp with hp | hp
        · rcases List.mem_cons.mp (hown1 p hp) with e1 | e1
          · have e2 := hown2 p hp
            rw [e1] at e2
            have e3 := hown2 _ hI
            rw [e3] at e2
            have : p = (s.heap.objs.size, oI) := Prod.ext e1 (Option.some.inj e2).symm
            rw [this]
            exact N' _ hI'
          · have e1 := List.mem_singleton.mp e1
            have e2 := hown2 p hp
            rw [e1] at e2
            have e3 := (N₁ _ (List.mem_append_right _ (hm c))).1
            rw [e3] at e2
            have : p = (l, listOf vs.toArray nn) := Prod.ext e1 (Option.some.inj e2).symm
            rw [this]
            exact N' _ (hn' _ (hm c'))
        · exact N' _ (hn' p hp)
      cases f with
      | ret v => exact .ret p
      | brk => exact .brk p
      | next => exact .next (fin p)
      | cont => exact .cont (fin p)
  · rintro h' tk m' news' F' N' _ ⟨c, rfl, hk', hP'⟩
    exact done c m' h' tk hP' (by rw [bnd_self hk']; exact F') N'
end

/-- what a key's call gives -/
def KeyOk (w : World) (q : Addr) (val : Int → Int) (dom : Int → Prop) (need : List (Addr × Obj)) : Prop :=
  ∀ (mean : ExcName → Option Value) (mg mb : Str → Option Value) (dp un : Nat) (gd : Option (List Code)) (cn : Str) (cs : Scope) (a : Addr) (ccd : Value) (cl : List (Str × Addr)) (outer : List Env) (A₀ : Around) (base h₀ : Heap) (L : Addr) (m : Str → Option Value) (s : Shared) (Q E : Value → Shared → Prop) (news : List (Addr × Obj)),
    Below A₀ base outer h₀ → Fr h₀ L s.heap m → (hd.heap_39 w.params).In h₀ → News h₀ L s.heap news → TopM mean mg mb h₀ → cs.kind = .function → (∀ p ∈ need, p ∈ news) →
    ∀ (j : Int) (t : Tok), dom j → dp + 2 < recursionLimit → un + 16 < cLine →
    (∀ t' h' tk', Fr h₀ L h' m → News h₀ L h' news → Q (.int (val j) t') { s with heap := h', toks := tk' }) →
    wpAny (model (RowW.prog (OpenRow.toRowW (OpenLaw.row PySem.Challenge.rw_sn0020_01))) w) (ktrTop dp un gd cn cs L a ccd cl outer) (call (.ref q) [.int j t]) Q E s
theorem KeyOk.use {w : World} {q : Addr} {val : Int → Int} {dom : Int → Prop} {need : List (Addr × Obj)} (K : KeyOk w q val dom need)
    {mean : ExcName → Option Value} {mg mb : Str → Option Value} {dp un : Nat} {gd : Option (List Code)} {cn : Str} {cs : Scope} {a : Addr} {ccd : Value} {cl : List (Str × Addr)} {outer : List Env} {A₀ : Around} {base h₀ : Heap} {L : Addr} {m : Str → Option Value} {s : Shared} {Q E : Value → Shared → Prop} {news : List (Addr × Obj)}
    (B : Below A₀ base outer h₀) (F : Fr h₀ L s.heap m) (X : (hd.heap_39 w.params).In h₀) (N : News h₀ L s.heap news) (T : TopM mean mg mb h₀) (hk : cs.kind = .function) (hneed : ∀ p ∈ need, p ∈ news)
    {j : Int} {t : Tok} (hj : dom j) (hd : dp + 2 < recursionLimit) (hu : un + 16 < cLine)
    (hret : ∀ t' h' tk', Fr h₀ L h' m → News h₀ L h' news → Q (.int (val j) t') { s with heap := h', toks := tk' }) :
    wpAny (model (RowW.prog (OpenRow.toRowW (OpenLaw.row PySem.Challenge.rw_sn0020_01))) w) (ktrTop dp un gd cn cs L a ccd cl outer) (call (.ref q) [.int j t]) Q E s :=
  K _ _ _ _ _ _ _ _ _ _ _ _ _ _ _ _ _ _ _ _ _ B F X N T hk hneed _ _ hj hd hu hret
end
section
open PySem.Sre
/-! the two patterns' machines, in plain Lean -/
def findAt (ok : Nat → Option Nat) : Nat → Nat → Option (Nat × Nat)
  | 0, _ => none
  | n + 1, s => match ok s with | some e => some (s, e) | none => findAt ok n (s + 1)
theorem runFor_done {m : Sre.M} (h : m.outcome.isSome = true) : ∀ n, Sre.M.runFor n m = m
  | 0 => rfl
  | n + 1 => by show (if m.outcome.isSome then m else _) = m; rw [if_pos h]
theorem runFor_add : ∀ (a b : Nat) (m : Sre.M), Sre.M.runFor (a + b) m = Sre.M.runFor b (Sre.M.runFor a m)
  | 0, b, m => by rw [Nat.zero_add]; rfl
  | a + 1, b, m => by
    by_cases h : m.outcome.isSome = true
    · rw [runFor_done h, runFor_done h, runFor_done h]
    · rw [Nat.add_right_comm]
      show (if m.outcome.isSome then m else _) = Sre.M.runFor b (if m.outcome.isSome then m else _)
      rw [if_neg h, if_neg h, runFor_add a b]
theorem runFor_one {m : Sre.M} (h : m.outcome = none) : Sre.M.runFor 1 m = m.step := by
  show (if m.outcome.isSome then m else _) = _
  rw [h]; rfl
/-- what the run comes to -/
def Comes (m : Sre.M) (n : Nat) (r : Option (Nat × Nat)) : Prop :=
  ∃ k, k ≤ n ∧ match r with
    | some (b, e) => (Sre.M.runFor k m).outcome = some .matched ∧ (Sre.M.runFor k m).start = b ∧ (Sre.M.runFor k m).handed = e
    | none => (Sre.M.runFor k m).outcome = some .failed
theorem Comes.step {m : Sre.M} {n : Nat} {r : Option (Nat × Nat)} (h : m.outcome = none) (c : Comes m.step n r) : Comes m (n + 1) r := by
  obtain ⟨k, hk, c⟩ := c
  refine ⟨1 + k, by omega, ?_⟩
  rw [runFor_add, runFor_one h]
  exact c
theorem Comes.mono {m : Sre.M} {n n' : Nat} {r : Option (Nat × Nat)} (c : Comes m n r) (h : n ≤ n') : Comes m n' r :=
  let ⟨k, hk, c⟩ := c; ⟨k, Nat.le_trans hk h, c⟩
theorem Comes.yes {m : Sre.M} {n b e : Nat} (h : m.outcome = some .matched) (hb : m.start = b) (he : m.handed = e) : Comes m n (some (b, e)) :=
  ⟨0, Nat.zero_le _, h, hb, he⟩
theorem Comes.no {m : Sre.M} {n : Nat} (h : m.outcome = some .failed) : Comes m n none := ⟨0, Nat.zero_le _, h⟩

def code1 : Array Nat := #[14, 4, 0, 1, 1, 6, 1, 16, 46, 1]
def st1 (t : Array Nat) (lim s : Nat) (first : Bool) (seen : Sre.Seen) : Sre.M :=
  { code := code1, text := t, lim := lim, start := s, lastStart := lim, pc := 5, pos := s, handed := s, outermost := first, marks := Array.replicate (2 * 0) none, frames := [{ wait := .nextStart, pc := 5, pos := s, outermost := first }], weight := 1, seen := seen }
def ok1 (t : Array Nat) (s : Nat) : Option Nat := if ((s == 0 || t.getD (s - 1) 0 == 10) && t.getD s 0 == 46) = true then some (s + 1) else none
theorem st1_step (t lim s first seen) : (st1 t lim s first seen).step =
    if (s == 0 || t.getD (s - 1) 0 == 10) = true then { st1 t lim s first ((seen.add 6).add 44) with pc := 7 } else { st1 t lim s first ((seen.add 6).add 44) with answer := some false } := rfl
theorem st1_lit (t lim s first seen) : ({ st1 t lim s first seen with pc := 7 } : Sre.M).step =
    if s ≥ lim then { st1 t lim s first (seen.add 16) with pc := 7, answer := some false } else
    match (Except.ok (t.getD s 0 == 46, seen.add 16) : Except String (Bool × Sre.Seen)) with
    | .error why => Sre.M.stick { st1 t lim s first (seen.add 16) with pc := 7 } why
    | .ok (false, seen') => { st1 t lim s first seen' with pc := 7, answer := some false }
    | .ok (true, seen') => { st1 t lim s first seen' with pc := 9, pos := s + 1 } := rfl
theorem st1_succ (t lim s first seen) : ({ st1 t lim s first seen with pc := 9, pos := s + 1 } : Sre.M).step =
    if (first && ((false && (s + 1 != lim)) || (false && (s + 1 == s)))) = true then { st1 t lim s first (seen.add 1) with pc := 9, pos := s + 1, answer := some false }
    else { st1 t lim s first (seen.add 1) with pc := 9, pos := s + 1, handed := s + 1, answer := some true } := rfl
theorem st1_no (t lim s first seen pc) : ({ st1 t lim s first seen with pc := pc, answer := some false } : Sre.M).step =
    if s < lim then st1 t lim (s + 1) false seen else { st1 t lim s first seen with frames := [], weight := 0, answer := some false } := rfl
theorem st1_yes (t lim s first seen) : ({ st1 t lim s first seen with pc := 9, pos := s + 1, handed := s + 1, answer := some true } : Sre.M).step =
    { st1 t lim s first seen with handed := s + 1, frames := [], weight := 0, answer := some true } := rfl
theorem st1_endN (t lim s first seen) : ({ st1 t lim s first seen with frames := [], weight := 0, answer := some false } : Sre.M).step =
    { st1 t lim s first seen with frames := [], weight := 0, answer := some false, outcome := some .failed } := rfl
theorem st1_endY (t lim s first seen) : ({ st1 t lim s first seen with handed := s + 1, frames := [], weight := 0, answer := some true } : Sre.M).step =
    { st1 t lim s first seen with handed := s + 1, frames := [], weight := 0, answer := some true, outcome := some .matched } := rfl
theorem comes1 (t : Array Nat) (lim : Nat) : ∀ (n s : Nat) (first : Bool) (seen : Sre.Seen), s + n = lim → Comes (st1 t lim s first seen) (3 * n + 8) (findAt (ok1 t) n s)
  | 0, s, first, seen, h => by
    refine (Comes.step (n := 4) rfl ?_).mono (by omega)
    rw [st1_step]
    split
    · refine Comes.step (n := 3) rfl ?_
      rw [st1_lit, if_pos (by omega)]
      refine Comes.step (n := 2) rfl ?_
      rw [st1_no, if_neg (by omega)]
      refine Comes.step (n := 1) rfl ?_
      rw [st1_endN]
      exact Comes.no rfl
    · refine Comes.step (n := 3) rfl ?_
      rw [st1_no, if_neg (by omega)]
      refine Comes.step (n := 2) rfl ?_
      rw [st1_endN]
      exact Comes.no rfl
  | n + 1, s, first, seen, h => by
    show Comes _ (3 * n + 10 + 1) (match ok1 t s with | some e => some (s, e) | none => findAt (ok1 t) n (s + 1))
    refine Comes.step rfl ?_
    rw [st1_step]
    split
    · rename_i h1
      refine Comes.step (n := 3 * n + 9) rfl ?_
      rw [st1_lit, if_neg (by omega)]
      cases h2 : t.getD s 0 == 46
      · have e : ok1 t s = none := by unfold ok1; rw [h1, h2]; rfl
        rw [e]
        show Comes { st1 t lim s first _ with pc := 7, answer := some false } _ _
        refine Comes.step (n := 3 * n + 8) rfl ?_
        rw [st1_no, if_pos (by omega)]
        exact comes1 t lim n (s + 1) false _ (by omega)
      · have e : ok1 t s = some (s + 1) := by unfold ok1; rw [h1, h2]; rfl
        rw [e]
        show Comes { st1 t lim s first _ with pc := 9, pos := s + 1 } _ _
        refine Comes.step (n := 3 * n + 8) rfl ?_
        rw [st1_succ, if_neg (by simp)]
        refine Comes.step (n := 3 * n + 7) rfl ?_
        rw [st1_yes]
        refine Comes.step (n := 3 * n + 6) rfl ?_
        rw [st1_endY]
        exact Comes.yes rfl rfl rfl
    · rename_i h1
      have e : ok1 t s = none := by unfold ok1; rw [Bool.not_eq_true] at h1; rw [h1]; rfl
      rw [e]
      refine Comes.step (n := 3 * n + 9) rfl ?_
      rw [st1_no, if_pos (by omega)]
      exact (comes1 t lim n (s + 1) false _ (by omega)).mono (by omega)
theorem found1 (t : Array Nat) (s : Nat) (h : s ≤ t.size) : Comes (Sre.forSearch code1 t 0 s t.size false) (3 * t.size + 9) (findAt (ok1 t) (t.size - s) s) := by
  by_cases q : s < t.size
  · have e : Sre.forSearch code1 t 0 s t.size false = st1 t t.size s true (({} : Sre.Seen).add 14) := by
      show (if (decide (s > t.size) || decide (t.size - s < 1)) = true then _ else _) = _
      rw [if_neg (by simp; omega)]
      rfl
    rw [e]
    exact (comes1 t t.size (t.size - s) s true _ (by omega)).mono (by omega)
  · have e : t.size - s = 0 := by omega
    rw [e]
    have e : Sre.forSearch code1 t 0 s t.size false = Sre.M.say { code := code1, text := t, lim := t.size, start := s, pc := 5, pos := s, handed := s, marks := Array.replicate (2 * 0) none, mustAdvance := false, seen := ({} : Sre.Seen).add 14 } false := by
      show (if (decide (s > t.size) || decide (t.size - s < 1)) = true then _ else _) = _
      rw [if_pos (by simp; omega)]
      rfl
    rw [e]
    refine Comes.step (n := 3 * t.size + 8) rfl ?_
    exact Comes.no rfl

def code2 : Array Nat := #[14, 9, 4, 1, 2, 16, 10, 16, 13, 0, 7, 7, 16, 13, 16, 10, 15, 18, 5, 16, 10, 15, 13, 11, 16, 13, 5, 5, 0, 16, 10, 1, 15, 2, 0, 1]
def ok2 (t : Array Nat) (s : Nat) : Option Nat :=
  if (t.getD s 0 == 13) = true then (if s + 1 < t.size ∧ t.getD (s + 1) 0 = 10 then some (s + 2) else some (s + 1)) else if (t.getD s 0 == 10) = true then some (s + 1) else none
def S2 (t : Array Nat) (lim s : Nat) (seen : Sre.Seen) (pc pos handed : Nat) (out : Bool) (fr : List Sre.Frame) (wt : Nat) (ans : Option Bool) : Sre.M :=
  { code := code2, text := t, lim := lim, start := s, lastStart := lim, pc := pc, pos := pos, handed := handed, outermost := out, marks := Array.replicate (2 * 0) none, frames := fr, weight := wt, answer := ans, seen := seen }
def F0 (s : Nat) : Sre.Frame := { wait := .nextStart, pc := 10, pos := s, outermost := true }
def FB (s k : Nat) : Sre.Frame := { wait := .nextBranch, pc := k, pos := s, outermost := true }
def FL (s : Nat) : Sre.Frame := { wait := .lookNot, pc := 26, pos := s + 1, outermost := true }
theorem s2_branch (t lim s seen) : (S2 t lim s seen 10 s s true [F0 s] 1 none).step = S2 t lim s (seen.add 7) 12 s s true [FB s 11, F0 s] 2 none := rfl
theorem s2_lit12N (t lim s seen pos handed out fr wt) (h : pos ≥ lim ∨ (t.getD pos 0 == 13) = false) : (S2 t lim s seen 12 pos handed out fr wt none).step = S2 t lim s (seen.add 16) 12 pos handed out fr wt (some false) := by
  show (if pos ≥ lim then S2 t lim s (seen.add 16) 12 pos handed out fr wt (some false) else match (Except.ok (t.getD pos 0 == 13, seen.add 16) : Except String (Bool × Sre.Seen)) with
    | .error why => Sre.M.stick (S2 t lim s (seen.add 16) 12 pos handed out fr wt none) why
    | .ok (false, sn) => S2 t lim s sn 12 pos handed out fr wt (some false)
    | .ok (true, sn) => S2 t lim s sn 14 (pos + 1) handed out fr wt none) = _
  rcases h with h | h
  · rw [if_pos h]
  · rw [h]; split <;> rfl
theorem s2_lit12Y (t lim s seen pos handed out fr wt) (h0 : pos < lim) (h : (t.getD pos 0 == 13) = true) : (S2 t lim s seen 12 pos handed out fr wt none).step = S2 t lim s (seen.add 16) 14 (pos + 1) handed out fr wt none := by
  show (if pos ≥ lim then S2 t lim s (seen.add 16) 12 pos handed out fr wt (some false) else match (Except.ok (t.getD pos 0 == 13, seen.add 16) : Except String (Bool × Sre.Seen)) with
    | .error why => Sre.M.stick (S2 t lim s (seen.add 16) 12 pos handed out fr wt none) why
    | .ok (false, sn) => S2 t lim s sn 12 pos handed out fr wt (some false)
    | .ok (true, sn) => S2 t lim s sn 14 (pos + 1) handed out fr wt none) = _
  rw [if_neg (by omega), h]
theorem s2_lit14N (t lim s seen pos handed out fr wt) (h : pos ≥ lim ∨ (t.getD pos 0 == 10) = false) : (S2 t lim s seen 14 pos handed out fr wt none).step = S2 t lim s (seen.add 16) 14 pos handed out fr wt (some false) := by
  show (if pos ≥ lim then S2 t lim s (seen.add 16) 14 pos handed out fr wt (some false) else match (Except.ok (t.getD pos 0 == 10, seen.add 16) : Except String (Bool × Sre.Seen)) with
    | .error why => Sre.M.stick (S2 t lim s (seen.add 16) 14 pos handed out fr wt none) why
    | .ok (false, sn) => S2 t lim s sn 14 pos handed out fr wt (some false)
    | .ok (true, sn) => S2 t lim s sn 16 (pos + 1) handed out fr wt none) = _
  rcases h with h | h
  · rw [if_pos h]
  · rw [h]; split <;> rfl
theorem s2_lit14Y (t lim s seen pos handed out fr wt) (h0 : pos < lim) (h : (t.getD pos 0 == 10) = true) : (S2 t lim s seen 14 pos handed out fr wt none).step = S2 t lim s (seen.add 16) 16 (pos + 1) handed out fr wt none := by
  show (if pos ≥ lim then S2 t lim s (seen.add 16) 14 pos handed out fr wt (some false) else match (Except.ok (t.getD pos 0 == 10, seen.add 16) : Except String (Bool × Sre.Seen)) with
    | .error why => Sre.M.stick (S2 t lim s (seen.add 16) 14 pos handed out fr wt none) why
    | .ok (false, sn) => S2 t lim s sn 14 pos handed out fr wt (some false)
    | .ok (true, sn) => S2 t lim s sn 16 (pos + 1) handed out fr wt none) = _
  rw [if_neg (by omega), h]
theorem s2_lit19N (t lim s seen pos handed out fr wt) (h : pos ≥ lim ∨ (t.getD pos 0 == 10) = false) : (S2 t lim s seen 19 pos handed out fr wt none).step = S2 t lim s (seen.add 16) 19 pos handed out fr wt (some false) := by
  show (if pos ≥ lim then S2 t lim s (seen.add 16) 19 pos handed out fr wt (some false) else match (Except.ok (t.getD pos 0 == 10, seen.add 16) : Except String (Bool × Sre.Seen)) with
    | .error why => Sre.M.stick (S2 t lim s (seen.add 16) 19 pos handed out fr wt none) why
    | .ok (false, sn) => S2 t lim s sn 19 pos handed out fr wt (some false)
    | .ok (true, sn) => S2 t lim s sn 21 (pos + 1) handed out fr wt none) = _
  rcases h with h | h
  · rw [if_pos h]
  · rw [h]; split <;> rfl
theorem s2_lit19Y (t lim s seen pos handed out fr wt) (h0 : pos < lim) (h : (t.getD pos 0 == 10) = true) : (S2 t lim s seen 19 pos handed out fr wt none).step = S2 t lim s (seen.add 16) 21 (pos + 1) handed out fr wt none := by
  show (if pos ≥ lim then S2 t lim s (seen.add 16) 19 pos handed out fr wt (some false) else match (Except.ok (t.getD pos 0 == 10, seen.add 16) : Except String (Bool × Sre.Seen)) with
    | .error why => Sre.M.stick (S2 t lim s (seen.add 16) 19 pos handed out fr wt none) why
    | .ok (false, sn) => S2 t lim s sn 19 pos handed out fr wt (some false)
    | .ok (true, sn) => S2 t lim s sn 21 (pos + 1) handed out fr wt none) = _
  rw [if_neg (by omega), h]
theorem s2_lit24N (t lim s seen pos handed out fr wt) (h : pos ≥ lim ∨ (t.getD pos 0 == 13) = false) : (S2 t lim s seen 24 pos handed out fr wt none).step = S2 t lim s (seen.add 16) 24 pos handed out fr wt (some false) := by
  show (if pos ≥ lim then S2 t lim s (seen.add 16) 24 pos handed out fr wt (some false) else match (Except.ok (t.getD pos 0 == 13, seen.add 16) : Except String (Bool × Sre.Seen)) with
    | .error why => Sre.M.stick (S2 t lim s (seen.add 16) 24 pos handed out fr wt none) why
    | .ok (false, sn) => S2 t lim s sn 24 pos handed out fr wt (some false)
    | .ok (true, sn) => S2 t lim s sn 26 (pos + 1) handed out fr wt none) = _
  rcases h with h | h
  · rw [if_pos h]
  · rw [h]; split <;> rfl
theorem s2_lit24Y (t lim s seen pos handed out fr wt) (h0 : pos < lim) (h : (t.getD pos 0 == 13) = true) : (S2 t lim s seen 24 pos handed out fr wt none).step = S2 t lim s (seen.add 16) 26 (pos + 1) handed out fr wt none := by
  show (if pos ≥ lim then S2 t lim s (seen.add 16) 24 pos handed out fr wt (some false) else match (Except.ok (t.getD pos 0 == 13, seen.add 16) : Except String (Bool × Sre.Seen)) with
    | .error why => Sre.M.stick (S2 t lim s (seen.add 16) 24 pos handed out fr wt none) why
    | .ok (false, sn) => S2 t lim s sn 24 pos handed out fr wt (some false)
    | .ok (true, sn) => S2 t lim s sn 26 (pos + 1) handed out fr wt none) = _
  rw [if_neg (by omega), h]
theorem s2_lit29N (t lim s seen pos handed out fr wt) (h : pos ≥ lim ∨ (t.getD pos 0 == 10) = false) : (S2 t lim s seen 29 pos handed out fr wt none).step = S2 t lim s (seen.add 16) 29 pos handed out fr wt (some false) := by
  show (if pos ≥ lim then S2 t lim s (seen.add 16) 29 pos handed out fr wt (some false) else match (Except.ok (t.getD pos 0 == 10, seen.add 16) : Except String (Bool × Sre.Seen)) with
    | .error why => Sre.M.stick (S2 t lim s (seen.add 16) 29 pos handed out fr wt none) why
    | .ok (false, sn) => S2 t lim s sn 29 pos handed out fr wt (some false)
    | .ok (true, sn) => S2 t lim s sn 31 (pos + 1) handed out fr wt none) = _
  rcases h with h | h
  · rw [if_pos h]
  · rw [h]; split <;> rfl
theorem s2_lit29Y (t lim s seen pos handed out fr wt) (h0 : pos < lim) (h : (t.getD pos 0 == 10) = true) : (S2 t lim s seen 29 pos handed out fr wt none).step = S2 t lim s (seen.add 16) 31 (pos + 1) handed out fr wt none := by
  show (if pos ≥ lim then S2 t lim s (seen.add 16) 29 pos handed out fr wt (some false) else match (Except.ok (t.getD pos 0 == 10, seen.add 16) : Except String (Bool × Sre.Seen)) with
    | .error why => Sre.M.stick (S2 t lim s (seen.add 16) 29 pos handed out fr wt none) why
    | .ok (false, sn) => S2 t lim s sn 29 pos handed out fr wt (some false)
    | .ok (true, sn) => S2 t lim s sn 31 (pos + 1) handed out fr wt none) = _
  rw [if_neg (by omega), h]
theorem s2_jump16 (t lim s seen pos handed out fr wt) : (S2 t lim s seen 16 pos handed out fr wt none).step = S2 t lim s (seen.add 15) 35 pos handed out fr wt none := rfl
theorem s2_jump21 (t lim s seen pos handed out fr wt) : (S2 t lim s seen 21 pos handed out fr wt none).step = S2 t lim s (seen.add 15) 35 pos handed out fr wt none := rfl
theorem s2_jump32 (t lim s seen pos handed out fr wt) : (S2 t lim s seen 32 pos handed out fr wt none).step = S2 t lim s (seen.add 15) 35 pos handed out fr wt none := rfl
theorem s2_succ (t lim s seen pos handed fr wt) : (S2 t lim s seen 35 pos handed true fr wt none).step = S2 t lim s (seen.add 1) 35 pos pos true fr wt (some true) := by
  show (if (true && ((false && (pos != lim)) || (false && (pos == s)))) = true then S2 t lim s (seen.add 1) 35 pos handed true fr wt (some false) else S2 t lim s (seen.add 1) 35 pos pos true fr wt (some true)) = _
  rw [if_neg (by simp)]
theorem s2_next11 (t lim s seen pc pos handed out) : (S2 t lim s seen pc pos handed out [FB s 11, F0 s] 2 (some false)).step = S2 t lim s seen 19 s s true [FB s 18, F0 s] 2 none := rfl
theorem s2_next18 (t lim s seen pc pos handed out) : (S2 t lim s seen pc pos handed out [FB s 18, F0 s] 2 (some false)).step = S2 t lim s seen 24 s s true [FB s 23, F0 s] 2 none := rfl
theorem s2_look (t lim s seen handed) : (S2 t lim s seen 26 (s + 1) handed true [FB s 23, F0 s] 2 none).step = S2 t lim s (seen.add 5) 29 (s + 1) (s + 1) false [FL s, FB s 23, F0 s] 3 none := rfl
theorem s2_unlook (t lim s seen pc pos handed out) : (S2 t lim s seen pc pos handed out [FL s, FB s 23, F0 s] 3 (some false)).step = S2 t lim s seen 32 (s + 1) handed true [FB s 23, F0 s] 2 none := rfl
theorem s2_yesB (t lim s seen pc pos handed out k) : (S2 t lim s seen pc pos handed out [FB s k, F0 s] 2 (some true)).step = S2 t lim s seen k s handed true [F0 s] 1 (some true) := rfl
theorem s2_yes0 (t lim s seen pc pos handed out) : (S2 t lim s seen pc pos handed out [F0 s] 1 (some true)).step = S2 t lim s seen 10 s handed true [] 0 (some true) := rfl
theorem s2_end (t lim s seen pc pos handed out) : (S2 t lim s seen pc pos handed out [] 0 (some true)).step = { S2 t lim s seen pc pos handed out [] 0 (some true) with outcome := some .matched } := rfl
theorem s2_fin (t lim s seen pos handed k) : Comes (S2 t lim s seen 35 pos handed true [FB s k, F0 s] 2 none) 4 (some (s, pos)) := by
  refine Comes.step (n := 3) rfl ?_
  rw [s2_succ]
  refine Comes.step (n := 2) rfl ?_
  rw [s2_yesB]
  refine Comes.step (n := 1) rfl ?_
  rw [s2_yes0]
  refine Comes.step (n := 0) rfl ?_
  rw [s2_end]
  exact Comes.yes rfl rfl rfl
theorem comes2 (t : Array Nat) (s : Nat) (seen : Sre.Seen) (h : s < t.size) (hc : t.getD s 0 = 10 ∨ t.getD s 0 = 13) :
    ∃ e, ok2 t s = some e ∧ Comes (S2 t t.size s seen 10 s s true [F0 s] 1 none) 16 (some (s, e)) := by
  by_cases h1 : t.getD s 0 = 13
  · have b1 : (t.getD s 0 == 13) = true := by rw [h1]; rfl
    have b2 : (t.getD s 0 == 10) = false := by rw [h1]; rfl
    by_cases h2 : s + 1 < t.size ∧ t.getD (s + 1) 0 = 10
    · refine ⟨s + 2, by unfold ok2; rw [if_pos b1, if_pos h2], ?_⟩
      refine Comes.step (n := 15) rfl ?_
      rw [s2_branch]
      refine Comes.step (n := 14) rfl ?_
      rw [s2_lit12Y _ _ _ _ _ _ _ _ _ h b1]
      refine Comes.step (n := 13) rfl ?_
      rw [s2_lit14Y _ _ _ _ _ _ _ _ _ h2.1 (by rw [h2.2]; rfl)]
      refine Comes.step (n := 12) rfl ?_
      rw [s2_jump16]
      exact (s2_fin ..).mono (by omega)
    · refine ⟨s + 1, by unfold ok2; rw [if_pos b1, if_neg h2], ?_⟩
      have h3 : s + 1 ≥ t.size ∨ (t.getD (s + 1) 0 == 10) = false := by
        by_cases q : s + 1 < t.size
        · exact .inr (by simpa using fun e => h2 ⟨q, e⟩)
        · exact .inl (by omega)
      refine Comes.step (n := 15) rfl ?_
      rw [s2_branch]
      refine Comes.step (n := 14) rfl ?_
      rw [s2_lit12Y _ _ _ _ _ _ _ _ _ h b1]
      refine Comes.step (n := 13) rfl ?_
      rw [s2_lit14N _ _ _ _ _ _ _ _ _ h3]
      refine Comes.step (n := 12) rfl ?_
      rw [s2_next11]
      refine Comes.step (n := 11) rfl ?_
      rw [s2_lit19N _ _ _ _ _ _ _ _ _ (.inr b2)]
      refine Comes.step (n := 10) rfl ?_
      rw [s2_next18]
      refine Comes.step (n := 9) rfl ?_
      rw [s2_lit24Y _ _ _ _ _ _ _ _ _ h b1]
      refine Comes.step (n := 8) rfl ?_
      rw [s2_look]
      refine Comes.step (n := 7) rfl ?_
      rw [s2_lit29N _ _ _ _ _ _ _ _ _ h3]
      refine Comes.step (n := 6) rfl ?_
      rw [s2_unlook]
      refine Comes.step (n := 5) rfl ?_
      rw [s2_jump32]
      exact (s2_fin ..).mono (by omega)
  · have h4 : t.getD s 0 = 10 := by rcases hc with h | h; exact h; exact absurd h h1
    have b1 : (t.getD s 0 == 13) = false := by rw [h4]; rfl
    have b2 : (t.getD s 0 == 10) = true := by rw [h4]; rfl
    refine ⟨s + 1, by unfold ok2; rw [if_neg (by rw [b1]; decide), if_pos b2], ?_⟩
    refine Comes.step (n := 15) rfl ?_
    rw [s2_branch]
    refine Comes.step (n := 14) rfl ?_
    rw [s2_lit12N _ _ _ _ _ _ _ _ _ (.inr b1)]
    refine Comes.step (n := 13) rfl ?_
    rw [s2_next11]
    refine Comes.step (n := 12) rfl ?_
    rw [s2_lit19Y _ _ _ _ _ _ _ _ _ h b2]
    refine Comes.step (n := 11) rfl ?_
    rw [s2_jump21]
    exact (s2_fin ..).mono (by omega)
theorem inSet2 (c : Nat) (seen : Sre.Seen) : Sre.inSet code2 c code2.size 5 true seen =
    if (c == 10) = true then .ok (true, seen.add 16) else if (c == 13) = true then .ok (true, (seen.add 16).add 16) else .ok (false, ((seen.add 16).add 16).add 0) := rfl
theorem adm2 (t : Array Nat) {m : Sre.M} (hm : m.code = code2) (ht : m.text = t) (hl : m.lim = t.size) : ∀ (n s : Nat) (seen : Sre.Seen), s + n = t.size → ∃ seen',
    (∃ s' n', s' + n' + 1 = t.size ∧ (t.getD s' 0 = 10 ∨ t.getD s' 0 = 13) ∧ Sre.M.admitted m (n + 1) s seen = .ok (some s', seen') ∧ findAt (ok2 t) n s = findAt (ok2 t) (n' + 1) s') ∨
    (Sre.M.admitted m (n + 1) s seen = .ok (none, seen') ∧ findAt (ok2 t) n s = none)
  | 0, s, seen, h => by
    refine ⟨seen, .inr ⟨?_, rfl⟩⟩
    show (if s ≥ m.lim then _ else _) = _
    rw [if_pos (by omega)]
  | n + 1, s, seen, h => by
    have e : Sre.M.admitted m (n + 1 + 1) s seen = (if s ≥ m.lim then .ok (none, seen) else
      match Sre.inSet m.code (m.text.getD s 0) m.code.size 5 true seen with
      | .ok (true, seen) => .ok (some s, seen)
      | .ok (false, seen) => Sre.M.admitted m (n + 1) (s + 1) seen
      | .error why => .error why) := rfl
    rw [e, if_neg (by omega), hm, ht, inSet2]
    by_cases h1 : t.getD s 0 = 10
    · rw [if_pos (by rw [h1]; rfl)]
      exact ⟨_, .inl ⟨s, n, by omega, .inl h1, rfl, rfl⟩⟩
    · by_cases h2 : t.getD s 0 = 13
      · rw [if_neg (by simpa using h1), if_pos (by rw [h2]; rfl)]
        exact ⟨_, .inl ⟨s, n, by omega, .inr h2, rfl, rfl⟩⟩
      · rw [if_neg (by simpa using h1), if_neg (by simpa using h2)]
        have e2 : findAt (ok2 t) (n + 1) s = findAt (ok2 t) n (s + 1) := by
          show (match ok2 t s with | some e => some (s, e) | none => findAt (ok2 t) n (s + 1)) = _
          unfold ok2
          rw [if_neg (by simpa using h2), if_neg (by simpa using h1)]
        rw [e2]
        exact adm2 t hm ht hl n (s + 1) _ (by omega)
theorem found2 (t : Array Nat) (s : Nat) (h : s ≤ t.size) : Comes (Sre.forSearch code2 t 0 s t.size false) 17 (findAt (ok2 t) (t.size - s) s) := by
  by_cases q : s < t.size
  · let m : Sre.M := { code := code2, text := t, lim := t.size, start := s, lastStart := t.size, pc := 10, pos := s, handed := s, marks := Array.replicate (2 * 0) none, mustAdvance := false, seen := ({} : Sre.Seen).add 14 }
    have e : Sre.forSearch code2 t 0 s t.size false = (match Sre.M.admitted m (t.size + 1 - s) s (({} : Sre.Seen).add 14) with
      | .ok (some s', seen) => S2 t t.size s' seen 10 s' s' true [F0 s'] 1 none
      | .ok (none, seen) => { m with seen := seen, answer := some false }
      | .error why => m.stick why) := by
      show (if (decide (s > t.size) || decide (t.size - s < 1)) = true then _ else _) = _
      rw [if_neg (by simp; omega)]
      rfl
    rw [e, show t.size + 1 - s = (t.size - s) + 1 by omega]
    obtain ⟨seen', ⟨s', n', h1, h2, h3, h4⟩ | ⟨h3, h4⟩⟩ := adm2 t (m := m) rfl rfl rfl (t.size - s) s (({} : Sre.Seen).add 14) (by omega)
    · rw [h3, h4]
      obtain ⟨e', h5, h6⟩ := comes2 t s' seen' (by omega) h2
      show Comes (S2 t t.size s' seen' 10 s' s' true [F0 s'] 1 none) _ (match ok2 t s' with | some e => some (s', e) | none => findAt (ok2 t) n' (s' + 1))
      rw [h5]
      exact h6.mono (by omega)
    · rw [h3, h4]
      refine Comes.step (n := 16) rfl ?_
      exact Comes.no rfl
  · have e : t.size - s = 0 := by omega
    rw [e]
    have e : Sre.forSearch code2 t 0 s t.size false = Sre.M.say { code := code2, text := t, lim := t.size, start := s, pc := 10, pos := s, handed := s, marks := Array.replicate (2 * 0) none, mustAdvance := false, seen := ({} : Sre.Seen).add 14 } false := by
      show (if (decide (s > t.size) || decide (t.size - s < 1)) = true then _ else _) = _
      rw [if_pos (by simp; omega)]
      rfl
    rw [e]
    refine Comes.step (n := 16) rfl ?_
    exact Comes.no rfl
end
section
open PySem.Builtin.Re PySem.Builtin
section
variable {M : Model} {A : Around} {E : Value → Shared → Prop} {s : Shared}
theorem wp_drive {Q : Sre.M → Shared → Prop} : ∀ (n turns : Nat) (m : Sre.M), n < turns → (Sre.M.runFor (4 * n) m).outcome.isSome = true → Q (Sre.M.runFor (4 * n) m) s → wpAny M A (reDrive turns m) Q E s
  | n, 0, m, h, _, _ => absurd h (Nat.not_lt_zero n)
  | 0, t + 1, m, _, h, q => by
    have h' : m.outcome.isSome = true := h
    show wpAny M A (if (Sre.M.runFor 4 m).outcome.isSome then pure (Sre.M.runFor 4 m) else do rule "sre.turn"; reDrive t (Sre.M.runFor 4 m)) Q E s
    rw [runFor_done h', if_pos h']
    exact wpAny_pure q
  | n + 1, t + 1, m, hn, h, q => by
    have e : Sre.M.runFor (4 * (n + 1)) m = Sre.M.runFor (4 * n) (Sre.M.runFor 4 m) := by rw [← runFor_add]; congr 1; (first | lia | omega)
    rw [e] at h q
    show wpAny M A (if (Sre.M.runFor 4 m).outcome.isSome then pure (Sre.M.runFor 4 m) else do rule "sre.turn"; reDrive t (Sre.M.runFor 4 m)) Q E s
    by_cases g : (Sre.M.runFor 4 m).outcome.isSome = true
    · rw [if_pos g]
      rw [runFor_done g] at q
      exact wpAny_pure q
    · rw [if_neg g]
      exact wpAny_bind (wpAny_rule (wp_drive n t _ (by (first | lia | omega)) h q))
theorem wp_seen {Q : Unit → Shared → Prop} (m : Sre.M) (f : Nat → String) (h : Q () s) : ∀ (l : List Nat), wpAny M A (forIn l PUnit.unit fun i r => (do
    if m.seen.has i then rule (f i)
    pure (ForInStep.yield PUnit.unit) : Sem (ForInStep PUnit))) (fun _ s' => Q () s') E s
  | [] => by rw [List.forIn_nil]; exact wpAny_pure h
  | i :: l => by
    rw [List.forIn_cons]
    refine wpAny_bind ?_
    by_cases g : m.seen.has i = true
    · rw [if_pos g]
      exact wpAny_bind (wpAny_rule (wpAny_pure (wp_seen m f h l)))
    · rw [if_neg g]
      exact wpAny_pure (wp_seen m f h l)
theorem wp_run {m : Sre.M} {n : Nat} {r : Option (Nat × Nat)} {Q : Option Sre.M → Shared → Prop} (c : Comes m n r) (hn : n < 2 ^ 64)
    (h1 : ∀ b e m', r = some (b, e) → m'.start = b → m'.handed = e → Q (some m') s) (h0 : r = none → Q none s) : wpAny M A (reRunToEnd m) Q E s := by
  obtain ⟨k, hk, c⟩ := c
  unfold reRunToEnd
  have hd : (Sre.M.runFor k m).outcome.isSome = true := by
    cases r with
    | none => simp only at c; rw [c]; rfl
    | some p => simp only at c; rw [c.1]; rfl
  have e : Sre.M.runFor (4 * n) m = Sre.M.runFor k m := by
    have : 4 * n = k + (4 * n - k) := by (first | lia | omega)
    rw [this, runFor_add, runFor_done hd]
  refine wpAny_bind (wp_drive n (2 ^ 64) m hn (by rw [e]; exact hd) ?_)
  rw [e]
  generalize Sre.M.runFor k m = m' at c hd
  refine wpAny_bind (wpAny_mono (wp_seen m' (fun i => Sre.names.getD i "") (Q := fun _ s' => s' = s) rfl _) (fun _ s' hs => ?_) fun _ _ x => x)
  subst hs
  cases r with
  | none =>
    simp only at c
    rw [c]
    exact wpAny_pure (h0 rfl)
  | some p =>
    simp only at c
    rw [c.1]
    exact wpAny_pure (h1 p.1 p.2 m' rfl c.2.1 c.2.2)
end
/-- a pattern's object -/
structure PatAt (h : Heap) (P CT : Addr) (code : Array Nat) : Prop where
  p : ∃ po fs, h.get? P = some po ∧ po.data = .fields fs ∧ po.cls = .type "re.Pattern" ∧ (∃ t, fs.getD 2 .none = .int 0 t) ∧ fs.getD 5 .none = .ref CT ∧ (∃ t, fs.getD 6 .none = .int 0 t)
  c : ∃ co items n, h.get? CT = some co ∧ co.data = .seq items n ∧ (items.map reRawOf).map (·.toNat) = code
theorem PatAt.keeps {h h' : Heap} {P CT : Addr} {code : Array Nat} (X : PatAt h P CT code) (hk : ∀ b, b = P ∨ b = CT → h'.get? b = h.get? b) : PatAt h' P CT code := by
  obtain ⟨⟨po, fs, h1, h2⟩, ⟨co, items, n, h3, h4⟩⟩ := X
  exact ⟨⟨po, fs, (hk P (.inl rfl)).trans h1, h2⟩, ⟨co, items, n, (hk CT (.inr rfl)).trans h3, h4⟩⟩
section
variable {prog : Program} {w : World} {A : Around} {E : Value → Shared → Prop} {s : Shared} {P CT : Addr} {code : Array Nat} {x : Str} {t : Tok}
theorem wp_target {Q : ReTarget → Shared → Prop} (X : PatAt s.heap P CT code) (h : Q { pattern := .ref P, string := .str x t, code := code, text := x.cps, kind := 0, groups := 0, pos := 0, lim := x.cps.size } s) :
    wpAny (model prog w) A (reWholeTarget (.ref P) (.str x t)) Q E s := by
  obtain ⟨⟨po, fs, h1, h2, h3, ⟨t2, e2⟩, e5, ⟨t6, e6⟩⟩, ⟨co, items, n, h4, h5, h6⟩⟩ := X
  unfold reWholeTarget
  refine wpAny_bind (wpAny_fieldsOf h1 h2 ?_)
  refine wpAny_bind (wpAny_bind (wpAny_pure (wpAny_pure ?_)))
  dsimp only
  rw [e6, e5, e2]
  (repeat refine wpAny_bind (wpAny_pure ?_))
  refine wpAny_bind (wpAny_bind (wpAny_seqItems h4 h5 (wpAny_pure ?_)))
  refine wpAny_pure ?_
  show Q { pattern := .ref P, string := .str x t, code := (items.map reRawOf).map (·.toNat), text := x.cps, kind := 0, groups := 0, pos := 0, lim := x.cps.size } s
  rw [h6]; exact h
end
theorem findAt_some {ok : Nat → Option Nat} : ∀ {n s b e : Nat}, findAt ok n s = some (b, e) → s ≤ b ∧ b < s + n ∧ ok b = some e
  | 0, s, b, e, h => nomatch h
  | n + 1, s, b, e, h => by
    have h' : (match ok s with | some e => some (s, e) | none => findAt ok n (s + 1)) = some (b, e) := h
    cases q : ok s with
    | some e' =>
      rw [q] at h'
      have := Option.some.inj h'
      cases this
      exact ⟨Nat.le_refl _, by (first | lia | omega), q⟩
    | none =>
      rw [q] at h'
      have := findAt_some h'
      exact ⟨by (first | lia | omega), by (first | lia | omega), this.2.2⟩
def cutS (x : Str) (b e : Nat) : List Str := if b < e then [⟨x.cps.extract b e⟩] else []
def pieces (ok : Nat → Option Nat) (x r : Str) : Nat → Nat → List Str
  | 0, _ => []
  | f + 1, s => match findAt ok (x.cps.size - s) s with
    | some (b, e) => cutS x s b ++ r :: pieces ok x r f e
    | none => cutS x s x.cps.size
theorem entry_subloop : entryFor table "re.Pattern.sub.loop" = some Builtin.«re.Pattern.sub.loop» := entryFor_of_tree (by kernel_rfl)
theorem plain_subloop : plainId "re.Pattern.sub.loop" = true := by decide +kernel
theorem wp_pushV {M : Model} {A : Around} {E : Value → Shared → Prop} {s : Shared} {D : Addr} {vs : List Value} {k : Nat} {v : Value} {Q : Unit → Shared → Prop}
    (hD : s.heap.get? D = some (seqObj "list" vs.toArray k)) (hl : vs.length ≤ 1000000)
    (h : ∀ h', Heap.SameBut D s.heap h' → (∃ k', h'.get? D = some (seqObj "list" (vs ++ [v]).toArray k')) → Q () { s with heap := h' }) :
    wpAny M A (updateSeq D (·.push v)) Q E s := by
  have e : vs.toArray.push v = (vs ++ [v]).toArray := List.push_toArray vs v
  refine wpAny_updateSeq hD rfl ?_ (by rw [List.size_toArray, sizeLine_eq]; (first | lia | omega)) (by rw [sizeLine_eq]; simp only [Array.size_push, List.size_toArray]; (first | lia | omega))
  refine h _ (Heap.SameBut.update ..) ?_
  rw [← e]
  exact ⟨_, get?_update_seq hD fun a => a.push v⟩
theorem wp_slice {M : Model} {A : Around} {E : Value → Shared → Prop} {s : Shared} {x : Str} {b e : Nat} {Q : Value → Shared → Prop} (hx : x.cps.size ≤ 1000000)
    (h : Q (.str ⟨x.cps.extract b e⟩ s.toks) { s with toks := s.toks + 1 }) : wpAny M A (reSlice x.cps 0 b e) Q E s := by
  show wpAny M A (mkStr ⟨x.cps.extract b e⟩) Q E s
  refine wpAny_mkStr h ?_
  show (x.cps.extract b e).size ≤ sizeLine
  rw [Array.size_extract, sizeLine_eq]; (first | lia | omega)
set_option maxHeartbeats 4000000 in
theorem sub_loop {prog : Program} {w : World} {A : Around} {s : Shared} {P CT D : Addr} {code : Array Nat} {x r : Str} {t tr : Tok} {ok : Nat → Option Nat} {N : Nat} {R : Result → Shared → Prop}
    (hcomes : ∀ s, s ≤ x.cps.size → Comes (Sre.forSearch code x.cps 0 s x.cps.size false) N (findAt ok (x.cps.size - s) s)) (hN : N < 2 ^ 64) (hok : ∀ s e, ok s = some e → s < e ∧ e ≤ x.cps.size)
    (hPD : P ≠ D) (hCD : CT ≠ D) (hr : r.length ≤ 2) (hx : x.cps.size ≤ 1000000) :
    ∀ (f start : Nat) (n : Int) (h : Heap) (tk : Nat) (vs : List Value) (ys : List Str) (k : Nat), start ≤ x.cps.size → x.cps.size - start < f → PatAt h P CT code → h.get? D = some (seqObj "list" vs.toArray k) → StrsAre vs ys →
      vs.length + 2 * (x.cps.size - start) ≤ 999999 → (ys.map (·.length)).sum + 3 * (x.cps.size - start) ≤ 16000000 →
      (∀ t' h' tk', Heap.SameBut D h h' → R (.ok (.ret (.str (Builtin.Str.glued ⟨#[]⟩ (ys ++ pieces ok x r f start)) t'))) { s with heap := h', toks := tk' }) →
      codeAny (model prog w) A (.builtin "re.Pattern.sub.loop" ⟨[.ref P, .str x t, .str r tr, rawInt 0, rawInt 0, rawInt n, rawInt (start : Int), rawInt (start : Int), .bool false, .ref D, .bool false], []⟩) R { s with heap := h, toks := tk } := by
  intro f
  induction f with
  | zero => intro start n h tk vs ys k h0 h1; (first | lia | omega)
  | succ f ih =>
    intro start n h tk vs ys k h0 h1 X hD hS hl hlen hR
    refine codeAny_builtin entry_subloop ?_
    rw [Around.under_plainId plain_subloop _]
    unfold Builtin.«re.Pattern.sub.loop»
    dsimp only [rawInt]
    refine wpAny_bind (wp_target X ?_)
    dsimp only
    rw [if_pos (by rfl)]
    unfold reLiteralCannotBeTurned
    refine wpAny_bind (wpAny_bind (wpAny_pure (wpAny_pure ?_)))
    refine wpAny_bind ?_
    rw [if_neg (by simp)]
    refine wp_run (hcomes start h0) hN ?_ ?_
    · intro b e m' hf hb he
      obtain ⟨hb1, hb2, hb3⟩ := findAt_some hf
      have hbe := hok _ _ hb3
      have hmust : (m'.handed == b) = false := by rw [he]; simp; (first | lia | omega)
      have hp : pieces ok x r (f + 1) start = cutS x start b ++ r :: pieces ok x r f e := by
        show (match findAt ok (x.cps.size - start) start with | some (b, e) => cutS x start b ++ r :: pieces ok x r f e | none => cutS x start x.cps.size) = _
        rw [hf]
      rw [hp] at hR
      have last : ∀ (h2 : Heap) (tk2 : Nat) (vs2 : List Value) (k2 : Nat), Heap.SameBut D h h2 → h2.get? D = some (seqObj "list" vs2.toArray k2) → StrsAre vs2 (ys ++ cutS x start b) → vs2.length ≤ vs.length + 1 →
          wpAny (model prog w) A.in1 (do
              let item ← pure (Value.str r tr)
              if (item != Value.none) = true then do
                updateSeq D fun x => x.push item
                again (Code.builtin "re.Pattern.sub.loop" { pos := [Value.ref P, Value.str x t, Value.str r tr, Value.int 0 0, Value.int 0 0, Value.int (n + 1) 0, Value.int (m'.handed : Int) 0, Value.int (m'.handed : Int) 0, Value.bool (m'.handed == b), Value.ref D, Value.bool false] })
              else again (Code.builtin "re.Pattern.sub.loop" { pos := [Value.ref P, Value.str x t, Value.str r tr, Value.int 0 0, Value.int 0 0, Value.int (n + 1) 0, Value.int (m'.handed : Int) 0, Value.int (m'.handed : Int) 0, Value.bool (m'.handed == b), Value.ref D, Value.bool false] }))
            (fun fin s' => match fin with | .done f => R (.ok f) s' | .again c' => c'.quiet = true ∧ codeAny (model prog w) A c' R s') (fun e s' => R (.error e) s') { s with heap := h2, toks := tk2 } := by
        intro h2 tk2 vs2 k2 hs2 hD2 hS2 hl2
        refine wpAny_bind (wpAny_pure ?_)
        rw [if_pos (show (Value.str r tr != Value.none) = true from rfl), hmust, he]
        refine wpAny_bind (wp_pushV hD2 (by (first | lia | omega)) fun h3 hs3 hD3 => ?_)
        obtain ⟨k3, hD3⟩ := hD3
        have hs' := hs2.trans hs3
        refine wpAny_pure ⟨plainId_quiet plain_subloop _, ih e (n + 1) h3 tk2 (vs2 ++ [.str r tr]) (ys ++ cutS x start b ++ [r]) k3 hbe.2 (by (first | lia | omega)) (X.keeps fun q hq => hs'.2 q (by rcases hq with rfl | rfl; exact hPD; exact hCD)) hD3 (hS2.append' (.cons r tr .nil)) ?_ ?_ fun t' h' tk' hs4 => ?_⟩
        · rw [List.length_append, List.length_cons, List.length_nil]; (first | lia | omega)
        · have : ((cutS x start b).map (·.length)).sum ≤ b - start := by
            unfold cutS
            split
            · show (x.cps.extract start b).size + 0 ≤ _
              rw [Array.size_extract]; (first | lia | omega)
            · exact Nat.zero_le _
          simp only [List.map_append, List.sum_append, List.map_cons, List.map_nil, List.sum_cons, List.sum_nil]
          (first | lia | omega)
        · have := hR t' h' tk' (hs'.trans hs4)
          simpa [List.append_assoc] using this
      show wpAny (model prog w) A.in1 (if (start : Int).toNat < m'.start then _ else _) _ _ _
      rw [Int.toNat_natCast, hb]
      by_cases q : start < b
      · rw [if_pos q]
        refine wpAny_bind (wp_slice hx ?_)
        refine wpAny_bind (wp_pushV (s := { s with heap := h, toks := tk + 1 }) hD (by (first | lia | omega)) fun h2 hs2 hD2 => ?_)
        obtain ⟨k2, hD2⟩ := hD2
        rw [if_pos (show ((0 : Int) == 0) = true from rfl)]
        exact last h2 _ _ k2 hs2 hD2 (by unfold cutS; rw [if_pos q]; exact hS.append' (.cons _ _ .nil)) (by simp)
      · rw [if_neg q]
        rw [if_pos (show ((0 : Int) == 0) = true from rfl)]
        exact last h tk vs k (.refl ..) hD (by unfold cutS; rw [if_neg q, List.append_nil]; exact hS) (by (first | lia | omega))
    · intro hf
      have hp : pieces ok x r (f + 1) start = cutS x start x.cps.size := by
        show (match findAt ok (x.cps.size - start) start with | some (b, e) => cutS x start b ++ r :: pieces ok x r f e | none => cutS x start x.cps.size) = _
        rw [hf]
      rw [hp] at hR
      have last : ∀ (h2 : Heap) (tk2 : Nat) (vs2 : List Value) (k2 : Nat), Heap.SameBut D h h2 → h2.get? D = some (seqObj "list" vs2.toArray k2) → StrsAre vs2 (ys ++ cutS x start x.cps.size) → vs2.length ≤ vs.length + 1 →
          wpAny (model prog w) A.in1 (do
              let joiner ← reSlice x.cps 0 0 0
              let __do_lift ← seqItems? (Value.ref D)
              if (__do_lift.getD #[]).isEmpty = true then do
                let text ← pure joiner
                ret text
              else do
                let text ← call (Value.builtin "str.join") [joiner, Value.ref D]
                ret text)
            (fun fin s' => match fin with | .done f => R (.ok f) s' | .again c' => c'.quiet = true ∧ codeAny (model prog w) A c' R s') (fun e s' => R (.error e) s') { s with heap := h2, toks := tk2 } := by
        intro h2 tk2 vs2 k2 hs2 hD2 hS2 hl2
        refine wpAny_bind (wp_slice hx ?_)
        refine wpAny_bind (wpAny_seqItems hD2 rfl ?_)
        have e0 : (⟨x.cps.extract 0 0⟩ : Str) = ⟨#[]⟩ := by simp
        rw [e0]
        cases hS2' : vs2 with
        | nil =>
          rw [hS2'] at hS2
          generalize hy : ys ++ cutS x start x.cps.size = yy at hS2 hR
          cases hS2
          rw [if_pos (by rfl)]
          exact wpAny_bind (wpAny_pure (wpAny_pure (hR _ _ _ hs2)))
        | cons v r2 =>
          rw [if_neg (by simp)]
          refine wpAny_bind (join_list ⟨_, hD2, rfl, _, rfl⟩ (by simpa using hS2) ?_ fun t' k => ?_)
          · have : ((cutS x start x.cps.size).map (·.length)).sum ≤ x.cps.size - start := by
              unfold cutS
              split
              · show (x.cps.extract start x.cps.size).size + 0 ≤ _
                rw [Array.size_extract]; (first | lia | omega)
              · exact Nat.zero_le _
            simp only [List.map_append, List.sum_append]
            show _ + _ * 0 ≤ _
            (first | lia | omega)
          · exact wpAny_pure (hR _ _ _ hs2)
      show wpAny (model prog w) A.in1 (if (start : Int).toNat < x.cps.size then _ else _) _ _ _
      rw [Int.toNat_natCast]
      by_cases q : start < x.cps.size
      · rw [if_pos q]
        refine wpAny_bind (wp_slice hx ?_)
        refine wpAny_bind (wp_pushV (s := { s with heap := h, toks := tk + 1 }) hD (by (first | lia | omega)) fun h2 hs2 hD2 => ?_)
        obtain ⟨k2, hD2⟩ := hD2
        exact last h2 _ _ k2 hs2 hD2 (by unfold cutS; rw [if_pos q]; exact hS.append' (.cons _ _ .nil)) (by simp)
      · rw [if_neg q]
        exact last h tk vs k (.refl ..) hD (by unfold cutS; rw [if_neg q, List.append_nil]; exact hS) (by (first | lia | omega))
end
section
open PySem.Builtin.Re PySem.Builtin
theorem slot_re_sub : Slot "re.Pattern" "sub" "re.Pattern.sub" :=
  .of (owner := "re.Pattern") (n := "sub") (by rw [typeLookup_type, builtinLookup_eq_fast]; kernel_rfl) (by decide +kernel) (by decide +kernel) (by decide +kernel)
    (by first | exact .inl (by decide +kernel) | exact .inr (by decide +kernel)) (by rw [isSubtype_type]; kernel_rfl)
theorem type_re_sub : typeOf (.builtin "re.Pattern.sub") = pure (.type "method_descriptor") := by show builtinType _ = _; rw [builtinType_eq_fast]; kernel_rfl
theorem entry_re_sub : entryFor table "re.Pattern.sub" = some Builtin.«re.Pattern.sub» := entryFor_of_tree (by kernel_rfl)
theorem args_re_sub (a b c : Value) : argsOk "re.Pattern.sub" ⟨[a, b, c], []⟩ := by
  unfold argsOk; kernel_rfl
theorem named_sub (a b : Value) : reNamed "re.Pattern.sub" "sub" ["repl", "string", "count"] 2 [a, b] [] = pure [some a, some b, none] := by
  first | rfl | kernel_rfl
section
variable {prog : Program} {w : World} {A : Around} {E : Value → Shared → Prop} {s : Shared}
theorem tree_slot {T : String} {name : Str} {id : String} {b : Builtin} {self : Value} {rest : List Value} {Q : Value → Shared → Prop} (h : Slot T name id) (hT : s.TypeIs self T)
    (hb : entryFor table id = some b)
    (hc : wpAny (model prog w) A.in1 (b ⟨self :: rest, []⟩) (fun fin s' => match fin with
      | .done f => (match (Except.ok f : Result) with | .ok (.ret v) => Q v s' | .ok _ => False | .error e => E e s')
      | .again c' => c'.quiet = true ∧ codeAny (model prog w) A c' (fun r s' => match r with | .ok (.ret v) => Q v s' | .ok _ => False | .error e => E e s') s') E s)
    (ha : argsOk id ⟨self :: rest, []⟩) :
    wpAny (model prog w) A (call (.builtin id) (self :: rest)) Q E s := by
  refine wpAny_call (codeAny_call_builtin h.plain hb (h.check _ _ _ _ _ _ _ _ hT ha (wpAny_mono hc (fun fin s' h' => ?_) fun _ _ h' => h')))
  exact h'
theorem plainAttrs_re : PlainAttrs "re.Pattern" := by
  refine ⟨?_, by rw [typeLookup_type, builtinLookup_eq_fast]; kernel_rfl⟩
  first
  | exact ⟨"object.__getattribute__", by rw [typeLookup_type, builtinLookup_eq_fast]; kernel_rfl, by decide +kernel⟩
  | exact ⟨"re.Pattern.__getattribute__", by rw [typeLookup_type, builtinLookup_eq_fast]; kernel_rfl, by decide +kernel⟩
theorem no_call_str : typeLookup (.type "str") (Str.ofString "__call__") = pure none := by rw [typeLookup_type, builtinLookup_eq_fast]; kernel_rfl
theorem re_sub {P CT : Addr} {code : Array Nat} {x r : Str} {t tr : Tok} {ok : Nat → Option Nat} {N : Nat} {Q : Value → Shared → Prop} (X : PatAt s.heap P CT code)
    (hcomes : ∀ s, s ≤ x.cps.size → Comes (Sre.forSearch code x.cps 0 s x.cps.size false) N (findAt ok (x.cps.size - s) s)) (hN : N < 2 ^ 64) (hok : ∀ s e, ok s = some e → s < e ∧ e ≤ x.cps.size)
    (hr : r.length ≤ 2) (hr92 : r.cps.contains 92 = false) (hx : x.cps.size ≤ 400000)
    (hQ : ∀ t' o h' tk', Heap.SameBut s.heap.objs.size (s.heap.push o) h' → Q (.str (Builtin.Str.glued ⟨#[]⟩ (pieces ok x r (x.cps.size + 1) 0)) t') { s with heap := h', toks := tk' }) :
    wpAny (model prog w) A (call (.builtin "re.Pattern.sub") [.ref P, .str r tr, .str x t]) Q E s := by
  have X' := X
  obtain ⟨⟨po, fs, h1, h2, h3, _⟩, ⟨co, items, nn, h4, _⟩⟩ := X'
  refine tree_slot slot_re_sub ⟨po, h1, h3⟩ entry_re_sub ?_ (args_re_sub _ _ _)
  unfold Builtin.«re.Pattern.sub» reSubstitute
  dsimp only
  rw [named_sub]
  refine wpAny_bind (wpAny_pure ?_)
  dsimp only
  refine wpAny_bind (wpAny_pure ?_)
  refine wpAny_bind (wpAny_specialOf (typeIs_str _ _ _) no_call_str ?_)
  dsimp only [Option.isSome_none]
  rw [if_neg (by decide)]
  refine wpAny_bind (wpAny_pure ?_)
  dsimp only
  refine wpAny_bind (wpAny_pure ?_)
  rw [if_neg (by decide), hr92, if_pos (by rfl)]
  refine wpAny_bind (wpAny_pure ?_)
  dsimp only
  refine wpAny_bind (wpAny_holding (wp_target X ?_))
  rw [if_neg (by decide)]
  refine wpAny_bind (wpAny_newList ?_)
  have hL : s.heap.objs.size ≠ P := fun e => by
    have := Heap.lt_size h1; rw [← e] at this; exact Nat.lt_irrefl _ this
  have hL2 : s.heap.objs.size ≠ CT := fun e => by
    have := Heap.lt_size h4; rw [← e] at this; exact Nat.lt_irrefl _ this
  refine wpAny_pure ⟨plainId_quiet plain_subloop _, sub_loop (P := P) (CT := CT) (code := code) (ok := ok) hcomes hN hok (Ne.symm hL) (Ne.symm hL2) hr (by omega) (x.cps.size + 1) 0 0 _ _ [] [] 0 (Nat.zero_le _) (by omega) ?_ (Heap.get?_push_size _ rfl) .nil (by simp; omega) (by simp; omega) fun t' h' tk' hs => ?_⟩
  · obtain ⟨⟨po, fs, h1, h2⟩, ⟨co, items, n, h3, h4⟩⟩ := X
    exact ⟨⟨po, fs, Heap.get?_push_of_some _ h1, h2⟩, ⟨co, items, n, Heap.get?_push_of_some _ h3, h4⟩⟩
  · exact hQ t' _ h' tk' hs
end
end
section
/-! what the two substitutions come to -/
def norm : Bool → List Nat → List Nat
  | _, [] => []
  | cr, c :: r => if c = 13 then 13 :: 10 :: norm true r else if c = 10 then (if cr then norm false r else 13 :: 10 :: norm false r) else c :: norm false r
def dotd : Bool → List Nat → List Nat
  | _, [] => []
  | b, c :: r => if b = true ∧ c = 46 then 46 :: 46 :: dotd false r else c :: dotd (c == 10) r
def flat (ys : List Str) : List Nat := (ys.map (·.cps.toList)).flatten
theorem glued_fold : ∀ (ys : List Str) (a : Array Nat), (ys.foldl (fun acc (p : Str) => acc ++ (⟨#[]⟩ : Str).cps ++ p.cps) a).toList = a.toList ++ flat ys
  | [], a => by simp [flat]
  | y :: ys, a => by rw [List.foldl_cons, glued_fold ys]; simp [flat]
theorem glued_flat (ys : List Str) : (Builtin.Str.glued ⟨#[]⟩ ys).cps.toList = flat ys := by
  cases ys with
  | nil => rfl
  | cons y ys =>
    show (List.foldl (fun acc (p : Str) => acc ++ (⟨#[]⟩ : Str).cps ++ p.cps) y.cps ys).toList = _
    rw [glued_fold]; simp [flat]
theorem drop_at {t : Array Nat} {s : Nat} (h : s < t.size) : t.toList.drop s = t.getD s 0 :: t.toList.drop (s + 1) := by
  rw [List.drop_eq_getElem_cons (by simpa using h)]
  simp [Array.getD, h]
theorem cut_cons {t : Array Nat} {s b : Nat} (h : s < t.size) (hb : s < b) : (t.toList.drop s).take (b - s) = t.getD s 0 :: (t.toList.drop (s + 1)).take (b - (s + 1)) := by
  rw [drop_at h, show b - s = (b - (s + 1)) + 1 by omega, List.take_succ_cons]
theorem flat_cut (x : Str) (s b : Nat) : flat (cutS x s b) = (x.cps.toList.drop s).take (b - s) := by
  unfold cutS flat
  split
  · simp
  · rename_i h
    rw [show b - s = 0 by omega]; simp
theorem norm_true {l : List Nat} (h : l.head? ≠ some 10) : norm true l = norm false l := by
  cases l with
  | nil => rfl
  | cons c r =>
    have : c ≠ 10 := fun e => h (by rw [e]; rfl)
    unfold norm
    rw [if_neg this, if_neg this]
theorem norm_find (t : Array Nat) : ∀ n s, s + n = t.size → match findAt (ok2 t) n s with
    | none => norm false (t.toList.drop s) = t.toList.drop s
    | some (b, e) => norm false (t.toList.drop s) = (t.toList.drop s).take (b - s) ++ [13, 10] ++ norm false (t.toList.drop e)
  | 0, s, h => by
    show norm false (t.toList.drop s) = t.toList.drop s
    rw [List.drop_of_length_le (by simp; omega)]; rfl
  | n + 1, s, h => by
    have hs : s < t.size := by omega
    show match (match ok2 t s with | some e => some (s, e) | none => findAt (ok2 t) n (s + 1)) with
      | none => _
      | some (b, e) => _
    by_cases h1 : t.getD s 0 = 13
    · by_cases h2 : s + 1 < t.size ∧ t.getD (s + 1) 0 = 10
      · have e : ok2 t s = some (s + 2) := by unfold ok2; rw [if_pos (by rw [h1]; rfl), if_pos h2]
        rw [e]
        show norm false (t.toList.drop s) = (t.toList.drop s).take (s - s) ++ [13, 10] ++ norm false (t.toList.drop (s + 2))
        rw [Nat.sub_self, drop_at hs, h1, drop_at h2.1, h2.2]; rfl
      · have e : ok2 t s = some (s + 1) := by unfold ok2; rw [if_pos (by rw [h1]; rfl), if_neg h2]
        rw [e]
        show norm false (t.toList.drop s) = (t.toList.drop s).take (s - s) ++ [13, 10] ++ norm false (t.toList.drop (s + 1))
        rw [Nat.sub_self, drop_at hs, h1]
        show 13 :: 10 :: norm true _ = 13 :: 10 :: norm false _
        rw [norm_true]
        intro hh
        by_cases q : s + 1 < t.size
        · rw [drop_at q] at hh
          exact h2 ⟨q, Option.some.inj hh⟩
        · rw [List.drop_of_length_le (by simp; omega)] at hh; cases hh
    · by_cases h3 : t.getD s 0 = 10
      · have e : ok2 t s = some (s + 1) := by unfold ok2; rw [if_neg (by rw [h3]; decide), if_pos (by rw [h3]; rfl)]
        rw [e]
        show norm false (t.toList.drop s) = (t.toList.drop s).take (s - s) ++ [13, 10] ++ norm false (t.toList.drop (s + 1))
        rw [Nat.sub_self, drop_at hs, h3]; rfl
      · have e : ok2 t s = none := by unfold ok2; rw [if_neg (by simpa using h1), if_neg (by simpa using h3)]
        rw [e]
        have ih := norm_find t n (s + 1) (by omega)
        have e2 : norm false (t.toList.drop s) = t.getD s 0 :: norm false (t.toList.drop (s + 1)) := by
          rw [drop_at hs]
          show (if _ then _ else _) = _
          rw [if_neg h1, if_neg h3]
        cases hf : findAt (ok2 t) n (s + 1) with
        | none =>
          rw [hf] at ih
          show norm false (t.toList.drop s) = t.toList.drop s
          rw [e2, ih, ← drop_at hs]
        | some p =>
          obtain ⟨b, e⟩ := p
          rw [hf] at ih
          have hb := findAt_some hf
          show norm false (t.toList.drop s) = (t.toList.drop s).take (b - s) ++ [13, 10] ++ norm false (t.toList.drop e)
          rw [e2, ih, cut_cons hs (by omega)]; rfl
def atLine (t : Array Nat) (s : Nat) : Bool := s == 0 || t.getD (s - 1) 0 == 10
theorem dotd_find (t : Array Nat) : ∀ n s, s + n = t.size → match findAt (ok1 t) n s with
    | none => dotd (atLine t s) (t.toList.drop s) = t.toList.drop s
    | some (b, e) => dotd (atLine t s) (t.toList.drop s) = (t.toList.drop s).take (b - s) ++ [46, 46] ++ dotd (atLine t e) (t.toList.drop e)
  | 0, s, h => by
    show dotd _ (t.toList.drop s) = t.toList.drop s
    rw [List.drop_of_length_le (by simp; omega)]; rfl
  | n + 1, s, h => by
    have hs : s < t.size := by omega
    show match (match ok1 t s with | some e => some (s, e) | none => findAt (ok1 t) n (s + 1)) with
      | none => _
      | some (b, e) => _
    by_cases h1 : atLine t s = true ∧ t.getD s 0 = 46
    · have e : ok1 t s = some (s + 1) := by unfold ok1; unfold atLine at h1; rw [h1.1, h1.2]; rfl
      rw [e]
      show dotd _ (t.toList.drop s) = (t.toList.drop s).take (s - s) ++ [46, 46] ++ dotd _ (t.toList.drop (s + 1))
      have e2 : atLine t (s + 1) = false := by unfold atLine; rw [Nat.add_sub_cancel, h1.2]; simp
      rw [Nat.sub_self, e2, drop_at hs]
      show (if _ then _ else _) = _
      rw [if_pos h1]; rfl
    · have e : ok1 t s = none := by
        unfold ok1
        rw [if_neg]
        intro q
        rw [Bool.and_eq_true] at q
        exact h1 ⟨q.1, by simpa using q.2⟩
      rw [e]
      have ih := dotd_find t n (s + 1) (by omega)
      have e2 : dotd (atLine t s) (t.toList.drop s) = t.getD s 0 :: dotd (atLine t (s + 1)) (t.toList.drop (s + 1)) := by
        rw [drop_at hs]
        show (if _ then _ else _) = _
        rw [if_neg h1]
        unfold atLine
        rw [Nat.add_sub_cancel]
        simp
      cases hf : findAt (ok1 t) n (s + 1) with
      | none =>
        rw [hf] at ih
        show dotd _ (t.toList.drop s) = t.toList.drop s
        rw [e2, ih, ← drop_at hs]
      | some p =>
        obtain ⟨b, e⟩ := p
        rw [hf] at ih
        have hb := findAt_some hf
        show dotd _ (t.toList.drop s) = (t.toList.drop s).take (b - s) ++ [46, 46] ++ dotd _ (t.toList.drop e)
        rw [e2, ih, cut_cons hs (by omega)]; rfl
theorem ok1_ok {t : Array Nat} : ∀ s e, ok1 t s = some e → s < e ∧ (s < t.size → e ≤ t.size) := by
  intro s e h
  unfold ok1 at h
  split at h
  · cases h; exact ⟨by omega, fun h => h⟩
  · cases h
theorem ok2_ok {t : Array Nat} : ∀ s e, ok2 t s = some e → s < e ∧ e ≤ t.size := by
  intro s e h
  unfold ok2 at h
  have big : ∀ c, c ≠ 0 → (t.getD s 0 == c) = true → s < t.size := by
    intro c hc q
    rcases Nat.lt_or_ge s t.size with h | h
    · exact h
    · simp [Array.getD, Nat.not_lt.mpr h] at q
      exact absurd q.symm hc
  split at h
  · rename_i q
    have := big 13 (by decide) q
    split at h
    · rename_i q2
      cases h; omega
    · cases h; omega
  · split at h
    · rename_i q
      have := big 10 (by decide) q
      cases h; omega
    · cases h
theorem ok1_ok' {t : Array Nat} : ∀ s e, ok1 t s = some e → s < e ∧ e ≤ t.size := by
  intro s e h
  have h' := ok1_ok s e h
  refine ⟨h'.1, h'.2 ?_⟩
  rcases Nat.lt_or_ge s t.size with q | q
  · exact q
  · unfold ok1 at h
    simp [Array.getD, Nat.not_lt.mpr q] at h
theorem pieces_norm (x : Str) : ∀ (f s : Nat), s ≤ x.cps.size → x.cps.size - s < f → flat (pieces (ok2 x.cps) x ⟨#[13, 10]⟩ f s) = norm false (x.cps.toList.drop s)
  | 0, s, _, h => absurd h (Nat.not_lt_zero _)
  | f + 1, s, h0, h => by
    have key := norm_find x.cps (x.cps.size - s) s (by omega)
    show flat (match findAt (ok2 x.cps) (x.cps.size - s) s with | some (b, e) => cutS x s b ++ ⟨#[13, 10]⟩ :: pieces (ok2 x.cps) x ⟨#[13, 10]⟩ f e | none => cutS x s x.cps.size) = _
    cases hf : findAt (ok2 x.cps) (x.cps.size - s) s with
    | none =>
      rw [hf] at key
      show flat (cutS x s x.cps.size) = _
      rw [key, flat_cut, List.take_of_length_le (by simp)]
    | some p =>
      obtain ⟨b, e⟩ := p
      rw [hf] at key
      have hb := findAt_some hf
      have he := ok2_ok _ _ hb.2.2
      have ih := pieces_norm x f e he.2 (by omega)
      show flat (cutS x s b ++ ⟨#[13, 10]⟩ :: pieces (ok2 x.cps) x ⟨#[13, 10]⟩ f e) = _
      have e1 : flat (cutS x s b ++ ⟨#[13, 10]⟩ :: pieces (ok2 x.cps) x ⟨#[13, 10]⟩ f e) = flat (cutS x s b) ++ ([13, 10] ++ flat (pieces (ok2 x.cps) x ⟨#[13, 10]⟩ f e)) := by simp [flat]
      rw [e1, ih, flat_cut, key, List.append_assoc]
theorem pieces_dotd (x : Str) : ∀ (f s : Nat), s ≤ x.cps.size → x.cps.size - s < f → flat (pieces (ok1 x.cps) x ⟨#[46, 46]⟩ f s) = dotd (atLine x.cps s) (x.cps.toList.drop s)
  | 0, s, _, h => absurd h (Nat.not_lt_zero _)
  | f + 1, s, h0, h => by
    have key := dotd_find x.cps (x.cps.size - s) s (by omega)
    show flat (match findAt (ok1 x.cps) (x.cps.size - s) s with | some (b, e) => cutS x s b ++ ⟨#[46, 46]⟩ :: pieces (ok1 x.cps) x ⟨#[46, 46]⟩ f e | none => cutS x s x.cps.size) = _
    cases hf : findAt (ok1 x.cps) (x.cps.size - s) s with
    | none =>
      rw [hf] at key
      show flat (cutS x s x.cps.size) = _
      rw [key, flat_cut, List.take_of_length_le (by simp)]
    | some p =>
      obtain ⟨b, e⟩ := p
      rw [hf] at key
      have hb := findAt_some hf
      have he := ok1_ok' _ _ hb.2.2
      have ih := pieces_dotd x f e he.2 (by omega)
      show flat (cutS x s b ++ ⟨#[46, 46]⟩ :: pieces (ok1 x.cps) x ⟨#[46, 46]⟩ f e) = _
      have e1 : flat (cutS x s b ++ ⟨#[46, 46]⟩ :: pieces (ok1 x.cps) x ⟨#[46, 46]⟩ f e) = flat (cutS x s b) ++ ([46, 46] ++ flat (pieces (ok1 x.cps) x ⟨#[46, 46]⟩ f e)) := by simp [flat]
      rw [e1, ih, flat_cut, key, List.append_assoc]
theorem str_ext {x y : Str} (h : x.cps.toList = y.cps.toList) : x = y := by
  cases x; cases y
  simp at h; exact congrArg _ h
def strOfL (l : List Nat) : Str := ⟨l.toArray⟩
theorem sub_norm (x : Str) : Builtin.Str.glued ⟨#[]⟩ (pieces (ok2 x.cps) x ⟨#[13, 10]⟩ (x.cps.size + 1) 0) = strOfL (norm false x.cps.toList) := by
  refine str_ext ?_
  rw [glued_flat, pieces_norm x _ 0 (Nat.zero_le _) (by omega), List.drop_zero]
  rfl
theorem sub_dotd (x : Str) : Builtin.Str.glued ⟨#[]⟩ (pieces (ok1 x.cps) x ⟨#[46, 46]⟩ (x.cps.size + 1) 0) = strOfL (dotd true x.cps.toList) := by
  refine str_ext ?_
  rw [glued_flat, pieces_dotd x _ 0 (Nat.zero_le _) (by omega), List.drop_zero]
  rfl
theorem norm_len : ∀ (b : Bool) (l : List Nat), (norm b l).length ≤ 2 * l.length
  | _, [] => Nat.le_refl _
  | b, c :: r => by
    have h1 := norm_len true r
    have h2 := norm_len false r
    unfold norm
    split
    · simp; omega
    · split
      · split
        · simp; omega
        · simp; omega
      · simp; omega
end
section
/-! the list's sort keeps like ones in their order: V is the second part's number -/
def V (xs : Array Keyed) (i : Nat) : Int := match xs[i]? with
  | some p => numOf p.2
  | none => 0
theorem V_of {xs ys : Array Keyed} {i j : Nat} (h : xs[i]? = ys[j]?) : V xs i = V ys j := by unfold V; rw [h]
theorem V_bubble {xs : Array Keyed} {src d : Nat} (hs : src < xs.size) (hd : d ≤ src) (k : Nat) :
    V (bubble xs src d) k = if k = src - d then V xs src else if src - d < k ∧ k ≤ src then V xs (k - 1) else V xs k := by
  have e := getElem?_bubble hs d hd k
  by_cases h1 : k = src - d
  · rw [if_pos h1] at e ⊢; exact V_of e
  · by_cases h2 : src - d < k ∧ k ≤ src
    · rw [if_neg h1, if_pos h2] at e ⊢; exact V_of e
    · rw [if_neg h1, if_neg h2] at e ⊢; exact V_of e
theorem V_mirror {xs : Array Keyed} {i j : Nat} (hj : j ≤ xs.size) (k : Nat) :
    V (mirror xs i j ((j - i) / 2)) k = if i ≤ k ∧ k < j then V xs (i + j - 1 - k) else V xs k := by
  have e := getElem?_mirror_all (i := i) hj k
  by_cases h1 : i ≤ k ∧ k < j
  · rw [if_pos h1] at e ⊢; exact V_of e
  · rw [if_neg h1] at e ⊢; exact V_of e
/-- sorted, like ones in order -/
def Lex (xs : Array Keyed) (k : Nat) : Prop := ∀ i j, i < j → j < k → K xs i < K xs j ∨ (K xs i = K xs j ∧ V xs i < V xs j)
/-- from k on all is as it came -/
def Rest (xs : Array Keyed) (k n : Nat) : Prop := ∀ i j, i < j → k ≤ j → j < n → V xs i < V xs j
def Down (xs : Array Keyed) (k : Nat) : Prop := ∀ i j, i < j → j < k → K xs j < K xs i ∨ (K xs j = K xs i ∧ V xs j < V xs i)
theorem Lex.sorted {xs : Array Keyed} {k : Nat} (h : Lex xs k) : SortedTo xs k := fun i j hij hj => by
  rcases Nat.lt_or_ge i j with q | q
  · rcases h i j q hj with a | a <;> (first | lia | omega)
  · have : i = j := by (first | lia | omega)
    subst this; exact Int.le_refl _
theorem Rest.mono {xs : Array Keyed} {k k' n : Nat} (h : Rest xs k n) (hk : k ≤ k') : Rest xs k' n := fun i j hij h1 h2 => h i j hij (by (first | lia | omega)) h2
theorem Rest.down {xs : Array Keyed} {m r : Nat} (hm : m ≤ xs.size) {n : Nat} (h : Rest xs m n) : Rest (mirror xs r m ((m - r) / 2)) m n := by
  intro i j hij h1 h2
  rw [V_mirror hm, V_mirror hm, if_neg (show ¬ (r ≤ j ∧ j < m) by (first | lia | omega))]
  split
  · exact h _ _ (by (first | lia | omega)) h1 h2
  · exact h _ _ hij h1 h2
section
variable {prog : Program} {w : World} {A : Around} {E : Value → Shared → Prop} {s : Shared} {a₀ : Array Keyed}
theorem stab_bin {st : SortSt} {n ok : Nat} {Q : Bool → SortSt → Prop} (h0 : IntKeys a₀) (hn : n ≤ a₀.size) (hok : ok ≤ n) (hB : SBase a₀ st) (hs : Lex (arrOf st) ok) (hr : Rest (arrOf st) ok n)
    (h : ∀ st', SBase a₀ st' → Lex (arrOf st') n → Q true st') : wpS (model prog w) A E s (binarySort' 0 n ok) Q st := by
  rw [binarySort'_eq]
  simp only [Nat.zero_add]
  refine wpS_bind (wpS_mono (wpS_forRange (I := fun k c st' => c = (none, ()) ∧ SBase a₀ st' ∧ Lex (arrOf st') (min k n) ∧ Rest (arrOf st') (min k n) n)
    (Q := fun c st' => c = (none, ()) ∧ SBase a₀ st' ∧ Lex (arrOf st') n) ?step ?fin ?init) ?post)
  case post =>
    rintro c st' ⟨rfl, hB', hs'⟩
    exact wpS_pure (h st' hB' hs')
  case init =>
    refine ⟨rfl, hB, fun i j hij hj => ?_, hr.mono (by (first | lia | omega))⟩
    exact hs i j hij (by (first | lia | omega))
  case fin =>
    rintro c st' ⟨hc, hB', hs', _⟩
    refine ⟨hc, hB', ?_⟩
    have e : min (max (max ok 1) n) n = n := by (first | lia | omega)
    rw [e] at hs'
    exact hs'
  case step =>
    rintro k c st' hak hkn ⟨rfl, hB', hs', hr'⟩
    have e : min k n = k := by (first | lia | omega)
    rw [e] at hs' hr'
    have hk : k < a₀.size := by (first | lia | omega)
    have hso := hs'.sorted
    refine wpS_bind (wpS_mono (wpS_forRange (I := fun x c st'' => st'' = st' ∧ ∃ l r, c = (none, l, r) ∧ l ≤ r ∧ r ≤ k ∧ r - l ≤ k - x ∧
        (∀ i, i < l → K (arrOf st') i ≤ K (arrOf st') k) ∧ (∀ i, r ≤ i → i < k → K (arrOf st') k < K (arrOf st') i))
      (Q := fun c st'' => st'' = st' ∧ ∃ l r, c = (none, l, r) ∧ l ≤ k ∧
        (∀ i, i < l → K (arrOf st') i ≤ K (arrOf st') k) ∧ (∀ i, l ≤ i → i < k → K (arrOf st') k < K (arrOf st') i)) ?istep ?ifin ?iinit) ?ipost)
    case iinit => exact ⟨rfl, 0, k, rfl, Nat.zero_le _, Nat.le_refl _, Nat.le_refl _, fun i hi => absurd hi (Nat.not_lt_zero _), fun i h1 h2 => by (first | lia | omega)⟩
    case ifin =>
      rintro c st'' ⟨rfl, l, r, rfl, hlr, hrk, hm, hlo, hhi⟩
      obtain rfl : l = r := by (first | lia | omega)
      exact ⟨rfl, l, l, rfl, hrk, hlo, hhi⟩
    case istep =>
      rintro x c st'' _ hxk ⟨rfl, l, r, rfl, hlr, hrk, hm, hlo, hhi⟩
      dsimp only
      by_cases hge : l ≥ r
      · rw [if_pos hge]
        obtain rfl : l = r := by (first | lia | omega)
        exact wpS_pure ⟨rfl, l, l, rfl, hrk, hlo, hhi⟩
      · rw [if_neg hge]
        refine wpS_bind (wpS_ltK hB' h0 hk (by (first | lia | omega)) ?_)
        by_cases hless : K (arrOf st'') k < K (arrOf st'') ((l + r) / 2)
        · simp only [hless, decide_true, if_true]
          exact wpS_pure ⟨rfl, l, (l + r) / 2, rfl, by (first | lia | omega), by (first | lia | omega), by (first | lia | omega), hlo, fun i h1 h2 => Int.lt_of_lt_of_le hless (hso _ _ h1 h2)⟩
        · simp only [hless, decide_false, Bool.false_eq_true, if_false]
          exact wpS_pure ⟨rfl, (l + r) / 2 + 1, r, rfl, by (first | lia | omega), by (first | lia | omega), by (first | lia | omega), (fun i h1 => Int.le_trans (hso i ((l + r) / 2) (by (first | lia | omega)) (by (first | lia | omega))) (Int.not_lt.mp hless)), hhi⟩
    case ipost =>
      rintro c st'' ⟨rfl, l, r, rfl, hlk, hlo, hhi⟩
      show wpS _ _ _ _ (do moveDown' k l; pure (ForInStep.yield (none, ()))) _ _
      rw [moveDown'_eq]
      have hks : k < (arrOf st'').size := by rw [hB'.size]; exact hk
      have e2 : min (k + 1) n = k + 1 := by (first | lia | omega)
      refine wpS_bind (wpS_modify (wpS_pure ⟨rfl, hB'.setArr (bubble_perm _ _ _), ?_, ?_⟩))
      · rw [e2]
        intro i j hij hj
        show K (bubble (arrOf st'') k (k - l)) i < K (bubble (arrOf st'') k (k - l)) j ∨ (K (bubble (arrOf st'') k (k - l)) i = K (bubble (arrOf st'') k (k - l)) j ∧ V (bubble (arrOf st'') k (k - l)) i < V (bubble (arrOf st'') k (k - l)) j)
        rw [K_bubble hks (by (first | lia | omega)), K_bubble hks (by (first | lia | omega)), V_bubble hks (by (first | lia | omega)), V_bubble hks (by (first | lia | omega)), show k - (k - l) = l by (first | lia | omega)]
        by_cases c1 : j = l
        · rw [if_pos c1, if_neg (show ¬ i = l by (first | lia | omega)), if_neg (show ¬ (l < i ∧ i ≤ k) by (first | lia | omega)), if_pos c1, if_neg (show ¬ i = l by (first | lia | omega)), if_neg (show ¬ (l < i ∧ i ≤ k) by (first | lia | omega))]
          have a := hlo i (by (first | lia | omega))
          have b := hr' i k (by (first | lia | omega)) (Nat.le_refl _) hkn
          (first | lia | omega)
        · by_cases c2 : l < j
          · rw [if_neg c1, if_pos (show l < j ∧ j ≤ k by (first | lia | omega)), if_neg c1, if_pos (show l < j ∧ j ≤ k by (first | lia | omega))]
            by_cases c3 : i = l
            · rw [if_pos c3, if_pos c3]
              exact .inl (hhi _ (by (first | lia | omega)) (by (first | lia | omega)))
            · by_cases c4 : l < i
              · rw [if_neg c3, if_pos (show l < i ∧ i ≤ k by (first | lia | omega)), if_neg c3, if_pos (show l < i ∧ i ≤ k by (first | lia | omega))]
                exact hs' _ _ (by (first | lia | omega)) (by (first | lia | omega))
              · rw [if_neg c3, if_neg (show ¬ (l < i ∧ i ≤ k) by (first | lia | omega)), if_neg c3, if_neg (show ¬ (l < i ∧ i ≤ k) by (first | lia | omega))]
                exact hs' _ _ (by (first | lia | omega)) (by (first | lia | omega))
          · rw [if_neg c1, if_neg (show ¬ (l < j ∧ j ≤ k) by (first | lia | omega)), if_neg c1, if_neg (show ¬ (l < j ∧ j ≤ k) by (first | lia | omega)), if_neg (show ¬ i = l by (first | lia | omega)), if_neg (show ¬ (l < i ∧ i ≤ k) by (first | lia | omega)), if_neg (show ¬ i = l by (first | lia | omega)), if_neg (show ¬ (l < i ∧ i ≤ k) by (first | lia | omega))]
            exact hs' _ _ hij (by (first | lia | omega))
      · rw [e2]
        intro i j hij h1 h2
        show V (bubble (arrOf st'') k (k - l)) i < V (bubble (arrOf st'') k (k - l)) j
        rw [V_bubble hks (by (first | lia | omega)), V_bubble hks (by (first | lia | omega)), show k - (k - l) = l by (first | lia | omega), if_neg (show ¬ j = l by (first | lia | omega)), if_neg (show ¬ (l < j ∧ j ≤ k) by (first | lia | omega))]
        split
        · exact hr' _ _ (by (first | lia | omega)) (by (first | lia | omega)) h2
        · split
          · exact hr' _ _ (by (first | lia | omega)) (by (first | lia | omega)) h2
          · exact hr' _ _ hij (by (first | lia | omega)) h2
theorem stab_asc {st : SortSt} {a nrem : Nat} {Q : AscSt → SortSt → Prop} (h0 : IntKeys a₀) (hn : nrem ≤ a₀.size) (ha : 1 ≤ a) (han : a ≤ nrem) (hB : SBase a₀ st)
    (hs : Lex (arrOf st) a) (hr : Rest (arrOf st) a nrem)
    (h : ∀ n, a ≤ n → n ≤ nrem → Lex (arrOf st) n → (n = nrem ∨ K (arrOf st) n < K (arrOf st) (n - 1)) → Q (none, n) st) :
    wpS (model prog w) A E s (ascLoop a nrem) Q st := by
  unfold ascLoop
  refine wpS_forRange (I := fun x c st' => st' = st ∧ c = (none, x) ∧ Lex (arrOf st) x) ?step ?fin ⟨rfl, rfl, hs⟩
  case fin =>
    rintro c st' ⟨rfl, rfl, hs'⟩
    have e : max a nrem = nrem := by (first | lia | omega)
    rw [e] at hs' ⊢
    exact h nrem han (Nat.le_refl _) hs' (.inl rfl)
  case step =>
    rintro x c st' hax hxn ⟨rfl, rfl, hs'⟩
    dsimp only
    refine wpS_bind (wpS_ltK hB h0 (by (first | lia | omega)) (by (first | lia | omega)) ?_)
    by_cases hless : K (arrOf st') x < K (arrOf st') (x - 1)
    · simp only [hless, decide_true, if_true]
      exact wpS_pure (h x hax (by (first | lia | omega)) hs' (.inr hless))
    · simp only [hless, decide_false, Bool.false_eq_true, if_false]
      refine wpS_pure ⟨rfl, rfl, fun i j hij hj => ?_⟩
      by_cases hjx : j < x
      · exact hs' i j hij hjx
      · obtain rfl : j = x := by (first | lia | omega)
        have a1 := hs'.sorted i (j - 1) (by (first | lia | omega)) (by (first | lia | omega))
        have a2 := hr i j hij hax hxn
        (first | lia | omega)
theorem stab_tail {st : SortSt} {n nrem : Nat} {Q : Option Nat → SortSt → Prop} (h0 : IntKeys a₀) (hn : nrem ≤ a₀.size) (h1 : 1 ≤ n) (hnn : n ≤ nrem) (hB : SBase a₀ st)
    (hs : Down (arrOf st) n) (hr : Rest (arrOf st) n nrem) (h : ∀ m st', SBase a₀ st' → 1 ≤ m → m ≤ nrem → Lex (arrOf st') m → Rest (arrOf st') m nrem → Q (some m) st') :
    wpS (model prog w) A E s (tail3 n nrem) Q st := by
  unfold tail3
  have hsz : n ≤ (arrOf st).size := by rw [hB.size]; (first | lia | omega)
  refine wpS_bind (wpS_reverse ?_)
  have hB' : SBase a₀ (setArr st (mirror (arrOf st) 0 n ((n - 0) / 2))) := hB.setArr (mirror_perm _ _ _ _)
  have hr2 : Rest (mirror (arrOf st) 0 n ((n - 0) / 2)) n nrem := hr.down hsz
  refine wpS_bind (stab_asc h0 hn h1 hnn hB' ?_ hr2 fun m hm1 hm2 hsm _ => wpS_pure (h m _ hB' (by (first | lia | omega)) hm2 hsm (hr2.mono hm1)))
  intro i j hij hj
  show K (mirror (arrOf st) 0 n ((n - 0) / 2)) i < K (mirror (arrOf st) 0 n ((n - 0) / 2)) j ∨ (K (mirror (arrOf st) 0 n ((n - 0) / 2)) i = K (mirror (arrOf st) 0 n ((n - 0) / 2)) j ∧ V (mirror (arrOf st) 0 n ((n - 0) / 2)) i < V (mirror (arrOf st) 0 n ((n - 0) / 2)) j)
  rw [K_mirror hsz, K_mirror hsz, V_mirror hsz, V_mirror hsz, if_pos (show 0 ≤ i ∧ i < n by (first | lia | omega)), if_pos (show 0 ≤ j ∧ j < n by (first | lia | omega)), if_pos (show 0 ≤ i ∧ i < n by (first | lia | omega)), if_pos (show 0 ≤ j ∧ j < n by (first | lia | omega))]
  exact hs _ _ (by (first | lia | omega)) (by (first | lia | omega))
end
/-- going down from r on level -/
structure Falls (xs : Array Keyed) (r m : Nat) : Prop where
  a : Down xs r
  b : ∀ i j, i < r → r ≤ j → j < m → K xs j < K xs i
  c : ∀ i j, r ≤ i → i < j → j < m → K xs i = K xs j ∧ V xs i < V xs j
theorem Falls.turn {xs : Array Keyed} {r m : Nat} (hm : m ≤ xs.size) (h : Falls xs r m) : Down (mirror xs r m ((m - r) / 2)) m := by
  intro i j hij hj
  rw [K_mirror hm, K_mirror hm, V_mirror hm, V_mirror hm]
  by_cases c1 : r ≤ i
  · rw [if_pos (show r ≤ i ∧ i < m by (first | lia | omega)), if_pos (show r ≤ j ∧ j < m by (first | lia | omega)), if_pos (show r ≤ i ∧ i < m by (first | lia | omega)), if_pos (show r ≤ j ∧ j < m by (first | lia | omega))]
    have := h.c (r + m - 1 - j) (r + m - 1 - i) (by (first | lia | omega)) (by (first | lia | omega)) (by (first | lia | omega))
    exact .inr ⟨this.1, this.2⟩
  · by_cases c2 : r ≤ j
    · rw [if_pos (show r ≤ j ∧ j < m by (first | lia | omega)), if_neg (show ¬ (r ≤ i ∧ i < m) by (first | lia | omega)), if_pos (show r ≤ j ∧ j < m by (first | lia | omega)), if_neg (show ¬ (r ≤ i ∧ i < m) by (first | lia | omega))]
      exact .inl (h.b i _ (by (first | lia | omega)) (by (first | lia | omega)) (by (first | lia | omega)))
    · rw [if_neg (show ¬ (r ≤ j ∧ j < m) by (first | lia | omega)), if_neg (show ¬ (r ≤ i ∧ i < m) by (first | lia | omega)), if_neg (show ¬ (r ≤ j ∧ j < m) by (first | lia | omega)), if_neg (show ¬ (r ≤ i ∧ i < m) by (first | lia | omega))]
      exact h.a i j hij (by (first | lia | omega))
section
variable {prog : Program} {w : World} {A : Around} {E : Value → Shared → Prop} {s : Shared} {a₀ : Array Keyed}
theorem stab_desc {st : SortSt} {n nrem : Nat} {Q : DescSt → SortSt → Prop} (h0 : IntKeys a₀) (hn : nrem ≤ a₀.size) (h1 : 1 ≤ n) (hnn : n ≤ nrem) (hB : SBase a₀ st)
    (hs : Falls (arrOf st) (n - 1) n) (hr : Rest (arrOf st) n nrem)
    (h : ∀ m neq st', SBase a₀ st' → n ≤ m → m ≤ nrem → neq + 1 ≤ m → Falls (arrOf st') (m - (neq + 1)) m → Rest (arrOf st') m nrem → Q (none, m, neq) st') :
    wpS (model prog w) A E s (descLoop n nrem) Q st := by
  unfold descLoop
  refine wpS_forRange (I := fun x c st' => ∃ neq, c = (none, x, neq) ∧ SBase a₀ st' ∧ neq + 1 ≤ x ∧ Falls (arrOf st') (x - (neq + 1)) x ∧ Rest (arrOf st') x nrem) ?step ?fin ⟨0, rfl, hB, by (first | lia | omega), hs, hr⟩
  case fin =>
    rintro c st' ⟨neq, rfl, hB', hq, hf, hr'⟩
    have e : max n nrem = nrem := by (first | lia | omega)
    rw [e] at hq hf hr' ⊢
    exact h nrem neq st' hB' hnn (Nat.le_refl _) hq hf hr'
  case step =>
    rintro x c st' hax hxn ⟨neq, rfl, hB', hq, hf, hr'⟩
    dsimp only
    have hsz : x ≤ (arrOf st').size := by rw [hB'.size]; (first | lia | omega)
    refine wpS_bind (wpS_ltK hB' h0 (by (first | lia | omega)) (by (first | lia | omega)) ?_)
    by_cases hless : K (arrOf st') x < K (arrOf st') (x - 1)
    · simp only [hless, decide_true, if_true]
      -- x lies below all ahead
      have low : ∀ i, i < x → K (arrOf st') x < K (arrOf st') i := by
        intro i hi
        by_cases q : x - (neq + 1) ≤ i
        · by_cases q2 : i = x - 1
          · rw [q2]; exact hless
          · have := (hf.c i (x - 1) q (by (first | lia | omega)) (by (first | lia | omega))).1
            (first | lia | omega)
        · have := hf.b i (x - 1) (by (first | lia | omega)) (by (first | lia | omega)) (by (first | lia | omega))
          (first | lia | omega)
      have next : ∀ xs : Array Keyed, (∀ i, i < x → ∃ i', i' < x ∧ K xs i = K (arrOf st') i') → K xs x = K (arrOf st') x → Down xs x → Falls xs (x + 1 - (0 + 1)) (x + 1) := by
        intro xs hk hx hd
        have e : x + 1 - (0 + 1) = x := by (first | lia | omega)
        rw [e]
        refine ⟨hd, fun i j h1 h2 h3 => ?_, fun i j h1 h2 h3 => by (first | lia | omega)⟩
        obtain rfl : j = x := by (first | lia | omega)
        obtain ⟨i', h4, h5⟩ := hk i h1
        rw [hx, h5]
        exact low i' h4
      by_cases hneq : neq > 0
      · rw [if_pos hneq]
        refine wpS_bind (wpS_reverse (wpS_pure ⟨0, rfl, hB'.setArr (mirror_perm _ _ _ _), by (first | lia | omega), next _ ?_ ?_ (hf.turn hsz), (hr'.down hsz).mono (by (first | lia | omega))⟩))
        · intro i hi
          rw [show arrOf (setArr st' (mirror (arrOf st') (x - (neq + 1)) x ((x - (x - (neq + 1))) / 2))) = mirror (arrOf st') (x - (neq + 1)) x ((x - (x - (neq + 1))) / 2) from rfl, K_mirror hsz]
          split
          · exact ⟨_, by (first | lia | omega), rfl⟩
          · exact ⟨_, hi, rfl⟩
        · rw [show arrOf (setArr st' (mirror (arrOf st') (x - (neq + 1)) x ((x - (x - (neq + 1))) / 2))) = mirror (arrOf st') (x - (neq + 1)) x ((x - (x - (neq + 1))) / 2) from rfl, K_mirror hsz, if_neg (by (first | lia | omega))]
      · rw [if_neg hneq]
        refine wpS_pure ⟨0, rfl, hB', by (first | lia | omega), next _ (fun i hi => ⟨i, hi, rfl⟩) rfl ?_, hr'.mono (by (first | lia | omega))⟩
        obtain rfl : neq = 0 := by (first | lia | omega)
        intro i j hij hj
        by_cases q : j < x - 1
        · exact hf.a i j hij (by (first | lia | omega))
        · exact .inl (hf.b i j (by (first | lia | omega)) (by (first | lia | omega)) (by (first | lia | omega)))
    · simp only [hless, decide_false, Bool.false_eq_true, if_false]
      refine wpS_bind (wpS_ltK hB' h0 (by (first | lia | omega)) (by (first | lia | omega)) ?_)
      by_cases hlarger : K (arrOf st') (x - 1) < K (arrOf st') x
      · simp only [hlarger, decide_true, if_true]
        exact wpS_pure (h x neq st' hB' hax (by (first | lia | omega)) hq hf hr')
      · simp only [hlarger, decide_false, Bool.false_eq_true, if_false]
        have heqx : K (arrOf st') x = K (arrOf st') (x - 1) := by (first | lia | omega)
        have e : x + 1 - (neq + 1 + 1) = x - (neq + 1) := by (first | lia | omega)
        refine wpS_pure ⟨neq + 1, rfl, hB', by (first | lia | omega), ?_, hr'.mono (by (first | lia | omega))⟩
        rw [e]
        refine ⟨hf.a, fun i j h1 h2 h3 => ?_, fun i j h1 h2 h3 => ?_⟩
        · by_cases q : j < x
          · exact hf.b i j h1 h2 q
          · obtain rfl : j = x := by (first | lia | omega)
            rw [heqx]
            exact hf.b i (j - 1) h1 (by (first | lia | omega)) (by (first | lia | omega))
        · by_cases q : j < x
          · exact hf.c i j h1 h2 q
          · obtain rfl : j = x := by (first | lia | omega)
            refine ⟨?_, hr' i j h2 (Nat.le_refl _) hxn⟩
            by_cases q2 : i = j - 1
            · rw [heqx, q2]
            · rw [heqx]
              exact (hf.c i (j - 1) h1 (by (first | lia | omega)) (by (first | lia | omega))).1
theorem stab_descPart {st : SortSt} {n nrem : Nat} {Q : Option Nat → SortSt → Prop} (h0 : IntKeys a₀) (hn : nrem ≤ a₀.size) (hnn : n + 1 ≤ nrem) (hB : SBase a₀ st)
    (hs : Falls (arrOf st) n (n + 1)) (hr : Rest (arrOf st) (n + 1) nrem) (h : ∀ m st', SBase a₀ st' → 1 ≤ m → m ≤ nrem → Lex (arrOf st') m → Rest (arrOf st') m nrem → Q (some m) st') :
    wpS (model prog w) A E s (descPart n nrem) Q st := by
  unfold descPart
  refine wpS_bind (wpS_lift (wpAny_rule ⟨rfl, ?_⟩))
  refine wpS_bind (stab_desc h0 hn (by (first | lia | omega)) hnn hB hs hr fun m neq st' hB' hm1 hm2 hq hf hr' => ?_)
  dsimp only
  have hsz : m ≤ (arrOf st').size := by rw [hB'.size]; (first | lia | omega)
  by_cases hneq : neq > 0
  · rw [if_pos hneq]
    exact wpS_bind (wpS_reverse (stab_tail h0 hn (by (first | lia | omega)) hm2 (hB'.setArr (mirror_perm _ _ _ _)) (hf.turn hsz) (hr'.down hsz) h))
  · rw [if_neg hneq]
    obtain rfl : neq = 0 := by (first | lia | omega)
    refine stab_tail h0 hn (by (first | lia | omega)) hm2 hB' ?_ hr' h
    intro i j hij hj
    by_cases q : j < m - 1
    · exact hf.a i j hij (by (first | lia | omega))
    · exact .inl (hf.b i j (by (first | lia | omega)) (by (first | lia | omega)) (by (first | lia | omega)))
theorem stab_count {st : SortSt} {nrem : Nat} {Q : Option Nat → SortSt → Prop} (h0 : IntKeys a₀) (hn : nrem ≤ a₀.size) (h1 : 1 ≤ nrem) (hB : SBase a₀ st) (hr : Rest (arrOf st) 0 nrem)
    (h : ∀ m st', SBase a₀ st' → 1 ≤ m → m ≤ nrem → Lex (arrOf st') m → Rest (arrOf st') m nrem → Q (some m) st') :
    wpS (model prog w) A E s (countRun' 0 nrem) Q st := by
  rw [countRun0_eq]
  refine wpS_bind (stab_asc h0 hn (Nat.le_refl 1) h1 hB (fun i j hij hj => by (first | lia | omega)) (hr.mono (by (first | lia | omega))) fun n hn1 hn2 hsn hor => ?_)
  dsimp only
  by_cases hnn : n = nrem
  · rw [if_pos (by simpa using hnn)]
    exact wpS_pure (h n st hB hn1 hn2 hsn (hr.mono (by (first | lia | omega))))
  · rw [if_neg (by simpa using hnn)]
    have hlt : K (arrOf st) n < K (arrOf st) (n - 1) := hor.resolve_left hnn
    by_cases hgt : n > 1
    · rw [if_pos hgt]
      refine wpS_bind (wpS_ltK hB h0 (by (first | lia | omega)) (by (first | lia | omega)) ?_)
      by_cases hrose : K (arrOf st) 0 < K (arrOf st) (n - 1)
      · simp only [hrose, decide_true, if_true]
        exact wpS_pure (h n st hB hn1 hn2 hsn (hr.mono (by (first | lia | omega))))
      · simp only [hrose, decide_false, Bool.false_eq_true, if_false]
        have hsz : n ≤ (arrOf st).size := by rw [hB.size]; (first | lia | omega)
        have hall : ∀ k, k < n → K (arrOf st) k = K (arrOf st) (n - 1) := by
          intro k hk
          have a1 := hsn.sorted 0 k (by (first | lia | omega)) hk
          have a2 := hsn.sorted k (n - 1) (by (first | lia | omega)) (by (first | lia | omega))
          (first | lia | omega)
        refine wpS_bind (wpS_reverse (stab_descPart h0 hn (by (first | lia | omega)) (hB.setArr (mirror_perm _ _ _ _)) ⟨?_, ?_, fun i j h1 h2 h3 => by (first | lia | omega)⟩ ((hr.mono (by (first | lia | omega))).down hsz |>.mono (by (first | lia | omega))) h))
        · intro i j hij hj
          show K (mirror (arrOf st) 0 n ((n - 0) / 2)) j < K (mirror (arrOf st) 0 n ((n - 0) / 2)) i ∨ (K (mirror (arrOf st) 0 n ((n - 0) / 2)) j = K (mirror (arrOf st) 0 n ((n - 0) / 2)) i ∧ V (mirror (arrOf st) 0 n ((n - 0) / 2)) j < V (mirror (arrOf st) 0 n ((n - 0) / 2)) i)
          rw [K_mirror hsz, K_mirror hsz, V_mirror hsz, V_mirror hsz, if_pos (show 0 ≤ i ∧ i < n by (first | lia | omega)), if_pos (show 0 ≤ j ∧ j < n by (first | lia | omega)), if_pos (show 0 ≤ i ∧ i < n by (first | lia | omega)), if_pos (show 0 ≤ j ∧ j < n by (first | lia | omega))]
          refine .inr ⟨?_, hr _ _ (by (first | lia | omega)) (by (first | lia | omega)) (by (first | lia | omega))⟩
          rw [hall _ (by (first | lia | omega)), hall (0 + n - 1 - i) (by (first | lia | omega))]
        · intro i j h1 h2 h3
          obtain rfl : j = n := by (first | lia | omega)
          show K (mirror (arrOf st) 0 j ((j - 0) / 2)) j < K (mirror (arrOf st) 0 j ((j - 0) / 2)) i
          rw [K_mirror hsz, K_mirror hsz, if_neg (show ¬ (0 ≤ j ∧ j < j) by (first | lia | omega)), if_pos (show 0 ≤ i ∧ i < j by (first | lia | omega)), hall (0 + j - 1 - i) (by (first | lia | omega))]
          exact hlt
    · rw [if_neg hgt]
      obtain rfl : n = 1 := by (first | lia | omega)
      refine stab_descPart h0 hn (by (first | lia | omega)) hB ⟨fun i j hij hj => by (first | lia | omega), fun i j h1 h2 h3 => ?_, fun i j h1 h2 h3 => by (first | lia | omega)⟩ (hr.mono (by (first | lia | omega))) h
      obtain rfl : i = 0 := by (first | lia | omega)
      obtain rfl : j = 1 := by (first | lia | omega)
      exact hlt
theorem stab_runs {st : SortSt} {Q : Unit → SortSt → Prop} (h0 : IntKeys a₀) (hB : SBase a₀ st) (h2 : 2 ≤ a₀.size) (h64 : a₀.size < 64) (hr : Rest (arrOf st) 0 a₀.size)
    (h : ∀ st', (arrOf st').Perm a₀ → failedOf st' = none → Lex (arrOf st') a₀.size → Q () st') : wpS (model prog w) A E s sortRuns' Q st := by
  rw [sortRuns'_eq]
  refine wpS_bind (wpS_get ?_)
  dsimp only
  have hmr : minRun' a₀.size a₀.size 0 = a₀.size := by
    obtain ⟨f, hf⟩ : ∃ f, a₀.size = f + 1 := ⟨a₀.size - 1, by (first | lia | omega)⟩
    have : minRun' (f + 1) a₀.size 0 = a₀.size := by rw [minRun'_succ, if_pos h64]; rfl
    rwa [← hf] at this
  simp only [hB.size, hmr]
  refine wpS_bind (wpS_mono (wpS_forRange
    (I := fun x c st' => (x = 0 ∧ c = (none, 0) ∧ SBase a₀ st' ∧ Rest (arrOf st') 0 a₀.size) ∨ (1 ≤ x ∧ c = (none, a₀.size) ∧ SDone a₀ st' ∧ Lex (arrOf st') a₀.size))
    (Q := fun c st' => c = (none, a₀.size) ∧ SDone a₀ st' ∧ Lex (arrOf st') a₀.size) ?step ?fin (.inl ⟨rfl, rfl, hB, hr⟩)) ?post)
  case fin =>
    rintro c st' (⟨hx, _, _⟩ | ⟨_, hc, hD⟩)
    · (first | lia | omega)
    · exact ⟨hc, hD⟩
  case step =>
    rintro x c st' _ hx (⟨rfl, rfl, hB', hr'⟩ | ⟨hx1, rfl, hD⟩)
    · dsimp only
      rw [if_neg (by (first | lia | omega))]
      simp only [Nat.sub_zero, Nat.min_self, Nat.zero_add]
      refine wpS_bind (stab_count h0 (Nat.le_refl _) (by (first | lia | omega)) hB' hr' fun m st2 hB2 hm1 hm2 hs2 hr2 => ?_)
      dsimp only
      by_cases hlt : m < a₀.size
      · rw [if_pos hlt]
        refine wpS_bind (wpS_lift (wpAny_rule ⟨rfl, ?_⟩))
        refine wpS_bind (stab_bin h0 (Nat.le_refl _) hm2 hB2 hs2 hr2 fun st3 hB3 hs3 => ?_)
        simp only [Bool.not_true, Bool.false_eq_true, if_false]
        refine wpS_bind (wpS_get ?_)
        have hb : (pendingOf st3).back? = none := by rw [hB3.pend]; rfl
        rw [hb]
        dsimp only
        exact wpS_bind (wpS_modify (wpS_pure (.inr ⟨by (first | lia | omega), rfl, hB3.done hs3.sorted, hs3⟩)))
      · rw [if_neg hlt]
        obtain rfl : m = a₀.size := by (first | lia | omega)
        refine wpS_bind (wpS_get ?_)
        have hb : (pendingOf st2).back? = none := by rw [hB2.pend]; rfl
        rw [hb]
        dsimp only
        exact wpS_bind (wpS_modify (wpS_pure (.inr ⟨by (first | lia | omega), rfl, hB2.done hs2.sorted, hs2⟩)))
    · dsimp only
      rw [if_pos (Nat.le_refl _)]
      exact wpS_pure ⟨rfl, hD⟩
  case post =>
    rintro c st' ⟨rfl, hD, hL⟩
    dsimp only
    refine wpS_bind (wpS_mono (wpS_forRange (I := fun _ c st'' => st'' = st' ∧ c = (none, ())) (Q := fun c st'' => st'' = st' ∧ c = (none, ())) ?_ (fun _ _ hh => hh) ⟨rfl, rfl⟩) ?_)
    · rintro x c st'' _ _ ⟨rfl, rfl⟩
      refine wpS_bind (wpS_get ?_)
      rw [if_pos (by rw [hD.2.2.1]; exact Nat.le_refl 1)]
      exact wpS_pure ⟨rfl, rfl⟩
    · rintro c st'' ⟨rfl, rfl⟩
      exact wpS_pure (h _ hD.1 hD.2.1 hL)
end
end
section
set_option maxHeartbeats 4000000
/-- sorted by kf, like ones as they came -/
def StabOut (kf : Int → Int) (ns : List Int) (out : List Value) : Prop :=
  ∃ os : List Int, IntsAre out os ∧ os.Perm ns ∧ os.Pairwise (fun x y => kf x < kf y ∨ (kf x = kf y ∧ x < y))
theorem zip_at {keys : Array Value} {vs : List Value} {ns : List Int} {kf : Int → Int} (hk : IntsAre keys.toList (ns.map kf)) (hv : IntsAre vs ns) :
    ∀ p ∈ (keys.zip vs.toArray).toList, ∃ n t u, p = (Value.int (kf n) t, Value.int n u) := by
  rw [ksk_zip]
  generalize keys.toList = ks at hk
  induction hv generalizing ks with
  | nil => intro p hp; simp at hp
  | @cons n u vs ns hv ih =>
    intro p hp
    cases hk with
    | cons _ t hk =>
      rcases List.mem_cons.mp hp with rfl | hp
      · exact ⟨n, t, u, rfl⟩
      · exact ih _ hk p hp
theorem zip_snd {keys : Array Value} {vs : List Value} {ns : List Int} {kf : Int → Int} (hk : IntsAre keys.toList (ns.map kf)) (hv : IntsAre vs ns) :
    (keys.zip vs.toArray).toList.map (fun p => numOf p.2) = ns := by
  rw [ksk_zip]
  generalize keys.toList = ks at hk
  induction hv generalizing ks with
  | nil => simp
  | @cons n u vs ns hv ih =>
    cases hk with
    | cons _ t hk =>
      rw [List.zip_cons_cons, List.map_cons, ih _ hk]; rfl
theorem V_at {xs : Array Keyed} {i : Nat} (hi : i < xs.size) : V xs i = numOf xs[i].2 := by unfold V; rw [getElem?_pos xs i hi]
theorem V_map (xs : Array Keyed) (i : Nat) (hi : i < xs.size) : (xs.toList.map (fun p : Keyed => numOf p.2)).getD i 0 = V xs i := by
  rw [V_at hi, List.getD_eq_getElem?_getD, List.getElem?_map, List.getElem?_eq_getElem (by simpa using hi)]
  simp
theorem rest_zip {keys : Array Value} {vs : List Value} {ns : List Int} {kf : Int → Int} (hk : IntsAre keys.toList (ns.map kf)) (hv : IntsAre vs ns) (hinc : ns.Pairwise (· < ·)) : Rest (keys.zip vs.toArray) 0 (keys.zip vs.toArray).size := by
  intro i j hij _ hj
  rw [← V_map _ _ (by omega), ← V_map _ _ hj, zip_snd hk hv]
  have hl : ns.length = (keys.zip vs.toArray).size := by
    rw [← zip_snd hk hv, List.length_map, Array.length_toList]
  rw [List.pairwise_iff_getElem] at hinc
  have := hinc i j (by omega) (by omega) hij
  rw [List.getD_eq_getElem?_getD, List.getD_eq_getElem?_getD, List.getElem?_eq_getElem (by omega), List.getElem?_eq_getElem (by omega)]
  exact this
theorem stab_out {keys : Array Value} {vs : List Value} {ns : List Int} {kf : Int → Int} (hk : IntsAre keys.toList (ns.map kf)) (hv : IntsAre vs ns) {xs : Array Keyed} (hp : xs.Perm (keys.zip vs.toArray)) (hs : Lex xs xs.size) :
    StabOut kf ns (xs.map (·.2)).toList := by
  have hl := Array.perm_iff_toList_perm.mp hp
  have hat : ∀ p ∈ xs.toList, ∃ n t u, p = (Value.int (kf n) t, Value.int n u) := fun p h => zip_at hk hv p (hl.mem_iff.mp h)
  refine ⟨xs.toList.map (fun p => numOf p.2), ?_, ?_, ?_⟩
  · rw [Array.toList_map]
    generalize xs.toList = l at hat
    induction l with
    | nil => exact .nil
    | cons p l ih =>
      obtain ⟨n, t, u, rfl⟩ := hat p (.head _)
      exact .cons n u (ih fun q hq => hat q (.tail _ hq))
  · rw [← zip_snd hk hv]
    exact hl.map _
  · rw [List.pairwise_iff_getElem]
    intro i j hi hj hij
    have hi' : i < xs.size := by simpa using hi
    have hj' : j < xs.size := by simpa using hj
    have q := hs i j hij hj'
    rw [K_eq hi', K_eq hj', V_at hi', V_at hj'] at q
    obtain ⟨n, t, u, e1⟩ := hat xs[i] (by simp)
    obtain ⟨n', t', u', e2⟩ := hat xs[j] (by simp)
    rw [e1, e2] at q
    simp only [List.getElem_map, Array.getElem_toList, e1, e2]
    exact q
section
variable {prog : Program} {w : World} {A : Around} {E : Value → Shared → Prop} {s : Shared} {h₀ : Heap} {L : Addr} {m : Str → Option Value} {news : List (Addr × Obj)} {a kS : Addr} {vs : List Value} {ns : List Int} {kf : Int → Int} {keys : Array Value} {e e1 : Nat} {P : PySem.Fin → Shared → Prop}
theorem st_tail {st : SortSt} (F : Fr h₀ L s.heap m) (N : News h₀ L s.heap (news ++ [(kS, seqObj "list" keys e), (a, seqObj "list" #[] e1)])) (hka : kS ≠ a) (hnk : ∀ p ∈ news, p.1 ≠ kS) (hna : ∀ p ∈ news, p.1 ≠ a)
    (hk : IntsAre keys.toList (ns.map kf)) (hv : IntsAre vs ns) (h64 : vs.length < 64) (hp : (arrOf st).Perm (keys.zip vs.toArray)) (hs : Lex (arrOf st) (arrOf st).size) (hfl : failedOf st = none)
    (h : ∀ h' tk out c, Fr h₀ L h' m → News h₀ L h' ((a, seqObj "list" out c) :: news) → StabOut kf ns out.toList → P (.done (.ret .none)) { s with heap := h', toks := tk }) :
    wpAny (model prog w) A (ksk_tail a false e1 (.ref kS) st) P E s := by
  have nk := N (kS, seqObj "list" keys e) (List.mem_append_right _ (.head _))
  have na := N (a, seqObj "list" #[] e1) (List.mem_append_right _ (.tail _ (.head _)))
  have Nn : News h₀ L s.heap news := fun p hp => N p (List.mem_append_left _ hp)
  have hvl := hv.length
  have hkl := hk.length
  rw [Array.length_toList, List.length_map] at hkl
  have hsz2 : (arrOf st).size = vs.length := by rw [hp.size_eq, Array.size_zip, show vs.toArray.size = vs.length by simp]; omega
  have hout : ((arrOf st).map (·.2)).size = vs.length := by rw [Array.size_map]; exact hsz2
  have s1 := Heap.SameBut.update s.heap kS (Obj.mapSeq fun _ => (#[] : Array Value))
  have na1 : (s.heap.update kS (Obj.mapSeq fun _ => (#[] : Array Value))).get? a = some (seqObj "list" #[] e1) := (s1.2 a hka.symm).trans na.1
  have s2 := Heap.SameBut.update (s.heap.update kS (Obj.mapSeq fun _ => (#[] : Array Value))) a (Obj.mapSeq fun _ => (arrOf st).map (·.2))
  obtain ⟨c2, hc2⟩ : ∃ c2, ((s.heap.update kS (Obj.mapSeq fun _ => (#[] : Array Value))).update a (Obj.mapSeq fun _ => (arrOf st).map (·.2))).get? a = some (seqObj "list" ((arrOf st).map (·.2)) c2) :=
    ⟨_, get?_update_seq na1 fun _ => (arrOf st).map (·.2)⟩
  have N2 := ksk_news (ksk_news Nn s1 hnk) s2 hna
  unfold ksk_tail
  try dsimp only
  refine wpAny_bind (listUpdate_at nk.1 rfl ?_ (by rw [sizeLine_eq]; omega) (Nat.zero_le _))
  refine wpAny_bind (wpAny_letGo ?_)
  refine wpAny_bind (seqEpoch_at na1 rfl ?_)
  refine wpAny_bind (listUpdate_at na1 rfl ?_ (Nat.zero_le _) (Nat.le_trans (Nat.le_of_eq hout) (by rw [sizeLine_eq]; omega)))
  rw [hfl]
  simp only [bne_self_eq_false, Bool.false_eq_true, if_false]
  refine wpAny_pure (h _ _ _ c2 (ksk_fr (ksk_fr F s1 nk.2.1 nk.2.2) s2 na.2.1 na.2.2) (fun p hp => ?_) (stab_out hk hv hp hs))
  rcases List.mem_cons.mp hp with rfl | hp
  · exact ⟨hc2, na.2⟩
  · exact N2 p hp
theorem st_end (F : Fr h₀ L s.heap m) (N : News h₀ L s.heap (news ++ [(kS, seqObj "list" keys e), (a, seqObj "list" #[] e1)])) (hka : kS ≠ a) (hnk : ∀ p ∈ news, p.1 ≠ kS) (hna : ∀ p ∈ news, p.1 ≠ a)
    (hk : IntsAre keys.toList (ns.map kf)) (hv : IntsAre vs ns) (hinc : ns.Pairwise (· < ·)) (h64 : vs.length < 64)
    (h : ∀ h' tk out c, Fr h₀ L h' m → News h₀ L h' ((a, seqObj "list" out c) :: news) → StabOut kf ns out.toList → P (.done (.ret .none)) { s with heap := h', toks := tk }) :
    wpAny (model prog w) A (ksk_end a false vs.toArray e1 (.ref kS) keys) P E s := by
  have hvl := hv.length
  have hkl := hk.length
  rw [Array.length_toList, List.length_map] at hkl
  have hzs : (keys.zip vs.toArray).size = vs.length := by rw [Array.size_zip, show vs.toArray.size = vs.length by simp]; omega
  unfold ksk_end
  simp only [Bool.false_eq_true, if_false]
  by_cases h2 : vs.toArray.size < 2
  · rw [if_pos h2, if_pos h2]
    refine wpAny_bind (wpAny_pure ?_)
    rw [StateT.run_pure]
    refine wpAny_bind (wpAny_pure ?_)
    try dsimp only
    refine st_tail (st := SortSt.mk' general' (keys.zip vs.toArray) #[] 7 none) F N hka hnk hna hk hv h64 (Array.Perm.refl _) ?_ rfl h
    intro i j hij hj
    have hj2 : j < (keys.zip vs.toArray).size := hj
    rw [hzs] at hj2
    rw [List.size_toArray] at h2
    omega
  · rw [if_neg h2, if_neg h2]
    rw [List.size_toArray] at h2
    rw [ksk_kind hk (by omega)]
    refine wpAny_bind (wpAny_pure ?_)
    refine wpAny_bind (wpAny_mono (stab_runs (a₀ := keys.zip vs.toArray) (st := SortSt.mk' oneType' (keys.zip vs.toArray) #[] 7 none)
      (Q := fun _ st' => (arrOf st').Perm (keys.zip vs.toArray) ∧ failedOf st' = none ∧ Lex (arrOf st') (keys.zip vs.toArray).size)
      (ksk_intKeys hk) ⟨Array.Perm.refl _, rfl, rfl, rfl⟩ (by rw [hzs]; omega) (by rw [hzs]; exact h64) (rest_zip hk hv hinc) fun st' a1 a2 a3 => ⟨a1, a2, a3⟩) ?_ fun _ _ e => e)
    rintro ⟨⟨⟩, st'⟩ s' ⟨rfl, hp, hf, hs⟩
    try dsimp only
    exact st_tail F N hka hnk hna hk hv h64 hp (by rw [hp.size_eq]; exact hs) hf h
theorem st_rest {f : Value} (F : Fr h₀ L s.heap m) (N : News h₀ L s.heap (news ++ [(kS, seqObj "list" #[] 0), (a, seqObj "list" #[] e1)])) (hka : kS ≠ a) (hnk : ∀ p ∈ news, p.1 ≠ kS) (hna : ∀ p ∈ news, p.1 ≠ a)
    (hv : IntsAre vs ns) (hinc : ns.Pairwise (· < ·)) (h64 : vs.length < 64)
    (turn : ∀ (n : Int) (t : Tok), n ∈ ns → ∀ (h : Heap) (tk : Nat) (own : List (Addr × Obj)), Fr h₀ L h m → News h₀ L h (news ++ own) →
      wpAny (model prog w) A (call f [.int n t]) (KskEnd h₀ L m (news ++ own) (kf n) { s with heap := h, toks := tk }) (fun _ _ => False) { s with heap := h, toks := tk })
    (h : ∀ h' tk out c, Fr h₀ L h' m → News h₀ L h' ((a, seqObj "list" out c) :: news) → StabOut kf ns out.toList → P (.done (.ret .none)) { s with heap := h', toks := tk }) :
    wpAny (model prog w) A (ksk_rest a f false vs.toArray e1 (.ref kS)) P E s := by
  have hvl := hv.length
  unfold ksk_rest
  refine wpAny_bind (wpAny_rule ?_)
  first
    | rw [List.forIn_toArray]
    | (rw [← Array.forIn_toList]; simp only [List.toList_toArray])
    | rw [← Array.forIn_toList]
  refine wpAny_bind (ksk_fold (fun i s' => ∃ h' tk kA e, s' = { s with heap := h', toks := tk } ∧ Fr h₀ L h' m ∧ News h₀ L h' (news ++ [(kS, seqObj "list" kA e), (a, seqObj "list" #[] e1)]) ∧ IntsAre kA.toList ((ns.map kf).take i)) vs 0 s
    ⟨s.heap, s.toks, #[], 0, rfl, F, N, by simpa using IntsAre.nil⟩ ?step ?done)
  case step =>
    rintro j x s' hx ⟨h', tk, kA, e, rfl, F', N', hk⟩
    simp only [Nat.zero_add] at hk ⊢
    have hj : j < vs.length := (List.getElem?_eq_some_iff.mp hx).1
    obtain ⟨t, hx2⟩ := intsAt hv j (by omega)
    rw [hx] at hx2
    cases hx2
    have hz : kA.size ≤ vs.length := by
      have h1 := hk.length
      rw [Array.length_toList, List.length_take, List.length_map] at h1
      omega
    have hnj : ns[j]? = some (ns.getD j 0) := by rw [List.getD_eq_getElem?_getD, List.getElem?_eq_getElem (by omega)]; rfl
    refine wpAny_bind (wpAny_attempt (wpAny_mono (turn (ns.getD j 0) t (List.mem_of_getElem? hnj) h' tk _ F' N') (fun v s'' he => ?_) fun _ _ hF => hF.elim))
    obtain ⟨g, tk2, t2, rfl, rfl, F2, N2⟩ := he
    try dsimp only
    have nk := N2 (kS, seqObj "list" kA e) (List.mem_append_right _ (.head _))
    have na := N2 (a, seqObj "list" #[] e1) (List.mem_append_right _ (.tail _ (.head _)))
    have s1 := Heap.SameBut.update g kS (Obj.mapSeq (·.push (.int (kf (ns.getD j 0)) t2)))
    obtain ⟨c2, hc2⟩ : ∃ c2, (g.update kS (Obj.mapSeq (·.push (.int (kf (ns.getD j 0)) t2)))).get? kS = some (seqObj "list" (kA.push (.int (kf (ns.getD j 0)) t2)) c2) := ⟨_, get?_update_seq nk.1 (·.push (.int (kf (ns.getD j 0)) t2))⟩
    have ek : (ns.map kf).take (j + 1) = (ns.map kf).take j ++ [kf (ns.getD j 0)] := by rw [List.take_add_one, List.getElem?_map, hnj]; simp
    have ea : (kA.push (Value.int (kf (ns.getD j 0)) t2)).toList = kA.toList ++ [Value.int (kf (ns.getD j 0)) t2] := by simp
    refine wpAny_bind (listUpdate_at nk.1 rfl ?_ (by rw [sizeLine_eq]; omega) (Nat.le_trans (Nat.le_of_eq (Array.size_push ..)) (by rw [sizeLine_eq]; omega)))
    refine wpAny_pure ⟨rfl, _, _, kA.push (.int (kf (ns.getD j 0)) t2), c2, rfl, ksk_fr F2 s1 nk.2.1 nk.2.2, fun p hp => ?_, by rw [ea, ek]; exact ksk_snoc hk⟩
    rcases List.mem_append.mp hp with hp | hp
    · exact ksk_news (fun q hq => N2 q (List.mem_append_left _ hq)) s1 hnk p hp
    · rcases List.mem_cons.mp hp with rfl | hp
      · exact ⟨hc2, nk.2⟩
      · rw [List.mem_singleton.mp hp]
        exact ⟨(s1.2 a hka.symm).trans na.1, na.2⟩
  case done =>
    rintro s' ⟨h', tk, kA, e, rfl, F', N', hk⟩
    have hk' : IntsAre kA.toList (ns.map kf) := by
      have e3 : (ns.map kf).take (0 + vs.length) = ns.map kf := List.take_of_length_le (by rw [List.length_map]; omega)
      rw [e3] at hk
      exact hk
    have nk := N' (kS, seqObj "list" kA e) (List.mem_append_right _ (.head _))
    try dsimp only
    refine wpAny_bind (listItems_at nk.1 rfl ?_)
    exact st_end F' N' hka hnk hna hk' hv hinc h64 fun h3 tk3 out c F3 N3 k3 => h h3 tk3 out c F3 N3 k3
end
end
section
set_option maxHeartbeats 4000000
section
variable {prog : Program} {w : World} {A : Around} {E : Value → Shared → Prop} {s : Shared} {h₀ : Heap} {L : Addr} {m : Str → Option Value} {news : List (Addr × Obj)} {a : Addr} {vs : List Value} {ns : List Int} {kf : Int → Int} {e e1 : Nat} {P : PySem.Fin → Shared → Prop}
theorem st_sort {f : Value} {n : Nat} (F : Fr h₀ L s.heap m) (N : News h₀ L s.heap news) (ho : s.heap.get? a = some (seqObj "list" vs.toArray n)) (haL : a ≠ L) (ha0 : h₀.get? a = none) (hna : ∀ p ∈ news, p.1 ≠ a)
    (hv : IntsAre vs ns) (hinc : ns.Pairwise (· < ·)) (h64 : vs.length < 64)
    (turn : ∀ (n : Int) (t : Tok), n ∈ ns → ∀ (h : Heap) (tk : Nat) (own : List (Addr × Obj)), Fr h₀ L h m → News h₀ L h (news ++ own) →
      wpAny (model prog w) A (call f [.int n t]) (KskEnd h₀ L m (news ++ own) (kf n) { s with heap := h, toks := tk }) (fun _ _ => False) { s with heap := h, toks := tk })
    (h : ∀ h' tk out c, Fr h₀ L h' m → News h₀ L h' ((a, seqObj "list" out c) :: news) → StabOut kf ns out.toList → P (.done (.ret .none)) { s with heap := h', toks := tk }) :
    wpAny (model prog w) A (ksk_tree a f false) P E s := by
  have ha : a < s.heap.objs.size := Heap.lt_size ho
  have s1 := Heap.SameBut.update s.heap a (Obj.mapSeq fun _ => (#[] : Array Value))
  obtain ⟨e1, ho1⟩ : ∃ e1, (s.heap.update a (Obj.mapSeq fun _ => (#[] : Array Value))).get? a = some (seqObj "list" #[] e1) := ⟨_, get?_update_seq ho fun _ => #[]⟩
  have F1 := ksk_fr F s1 haL ha0
  have N1 := ksk_news N s1 hna
  have hkS : ((s.heap.update a (Obj.mapSeq fun _ => (#[] : Array Value))).push (seqObj "tuple" vs.toArray 0)).objs.size = s.heap.objs.size + 1 := by rw [size_push', Heap.size_update]
  have hLk : L < ((s.heap.update a (Obj.mapSeq fun _ => (#[] : Array Value))).push (seqObj "tuple" vs.toArray 0)).objs.size := (F1.push _).ns.lt
  unfold ksk_tree
  refine wpAny_bind (listItems_at ho rfl ?_)
  refine wpAny_bind (listUpdate_at ho rfl ?_ (by rw [List.size_toArray, sizeLine_eq]; omega) (Nat.zero_le _))
  refine wpAny_bind (seqEpoch_at ho1 rfl ?_)
  refine wpAny_bind (wpAny_newTuple ?_ (by show vs.length ≤ _; rw [sizeLine_eq]; omega))
  refine wpAny_bind (wpAny_newList ?_ (Nat.zero_le _))
  refine wpAny_holding ?_
  refine st_rest (s := { s with heap := ((s.heap.update a (Obj.mapSeq fun _ => (#[] : Array Value))).push (seqObj "tuple" vs.toArray 0)).push (seqObj "list" #[] 0) }) (kS := ((s.heap.update a (Obj.mapSeq fun _ => (#[] : Array Value))).push (seqObj "tuple" vs.toArray 0)).objs.size)
    ((F1.push _).push _) (fun p hp => ?_) (by rw [hkS]; exact Nat.ne_of_gt (Nat.lt_succ_of_lt ha)) (fun p hp => by rw [hkS]; exact Nat.ne_of_lt (Nat.lt_succ_of_lt (Heap.lt_size (N p hp).1))) hna hv hinc h64 turn h
  rcases List.mem_append.mp hp with hp | hp
  · exact ⟨Heap.get?_push_of_some _ (Heap.get?_push_of_some _ (N1 p hp).1), (N1 p hp).2⟩
  · rcases List.mem_cons.mp hp with rfl | hp
    · exact ⟨Heap.get?_push_size _ rfl, Nat.ne_of_gt hLk, Heap.get?_none_of_le (Nat.le_trans F.above (Nat.le_of_lt hLk))⟩
    · rw [List.mem_singleton.mp hp]
      exact ⟨Heap.get?_push_of_some _ (Heap.get?_push_of_some _ ho1), haL, ha0⟩
theorem collect_range {R : List Value → Shared → Prop} {r : Addr} {a b c : Int} {t u v : Tok} {n : Nat} (hh : A.handled = none) (hr : IsRange s.heap r a b c t u v) (hsmall : Builtin.Range.small a b c = true)
    (hn : Builtin.Range.rangeSize a b c = n) (hlen : n ≤ 2 ^ 24)
    (h : ∀ (h' : Heap) (tk : Nat) (acc : Array Value), (∀ b o, s.heap.get? b = some o → h'.get? b = some o) → ItemsOf (fun i v => ∃ t, v = .int (a + i * c) t) acc n → R acc.toList { s with heap := h', toks := tk }) :
    wpAny (model prog w) A (collect (.ref r)) R E s := by
  unfold collect
  refine wpAny_bind (wpAny_runValue (codeAny_builtin entry_proto_collect' ?_))
  rw [Around.under_plainId PySem.F.plain_proto_collect _]
  show wpAny _ A.in1 (newList [] >>= fun l => again (.builtin "list.__iadd__" ⟨[l, .ref r], []⟩)) _ _ s
  refine wpAny_bind (wpAny_newObj_type ?_)
  refine wpAny_pure ⟨plainId_quiet PySem.F.plain_list_iadd _, codeAny_builtin entry_list_iadd' ?_⟩
  rw [Around.under_plainId PySem.F.plain_list_iadd _]
  have hS₁ : (s.heap.push { cls := .type "list", data := .seq ([] : List Value).toArray }).get? s.heap.objs.size = some { cls := .type "list", data := .seq #[] } := Heap.get?_push_size _ rfl
  show wpAny _ A.in1 (Builtin.List.listExtendWith (.ref s.heap.objs.size) (.ref r) (.ref s.heap.objs.size)) _ _ _
  have key := wpAny_extend_range (prog := prog) (w := w) (A := A) (s := { s with heap := s.heap.push { cls := .type "list", data := .seq ([] : List Value).toArray } })
    (R := fun (q : Result) (s' : Shared) => ∃ (h' : Heap) (tk : Nat) (acc' : Array Value) (c' : Nat), q = .ok (.ret (.ref s.heap.objs.size)) ∧ s' = { s with heap := h', toks := tk } ∧
      (∀ b o, s.heap.get? b = some o → h'.get? b = some o) ∧ h'.get? s.heap.objs.size = some { cls := .type "list", dict := none, data := .seq acc' c', slots := #[] } ∧ ItemsOf (fun i v => ∃ t, v = .int (a + i * c) t) acc' n)
    hh (show IsRange (s.heap.push { cls := .type "list", data := .seq ([] : List Value).toArray }) r a b c t u v from Heap.get?_push_of_some _ hr) hsmall hn hlen s.heap.objs.size (.ref s.heap.objs.size) 0 hS₁
    (fun h' tk acc' c' hk hS' hacc => ⟨h', tk, acc', c', rfl, rfl, fun b o e => hk b o (Nat.ne_of_lt (Heap.lt_size e)) (Heap.get?_push_of_some _ e), hS', hacc⟩)
  refine wpAny_mono key (fun fin s' x => ?_) fun e s' x => ?_
  · cases fin with
    | done f =>
      obtain ⟨h', tk, acc', c', e, rfl, hk, hS', hacc⟩ := x
      cases e
      show wpAny _ A (load s.heap.objs.size >>= _) _ _ _
      refine wpAny_bind (wpAny_load hS' ?_)
      exact wpAny_pure (h h' tk acc' hk hacc)
    | again c₁ =>
      refine ⟨x.1, codeAny_mono x.2 fun q s₂ y => ?_⟩
      obtain ⟨h', tk, acc', c', rfl, rfl, hk, hS', hacc⟩ := y
      show wpAny _ A (load s.heap.objs.size >>= _) _ _ _
      refine wpAny_bind (wpAny_load hS' ?_)
      exact wpAny_pure (h h' tk acc' hk hacc)
  · obtain ⟨_, _, _, _, e', _⟩ := x
    cases e'
end
/-- 0, 1, .. -/
def upTo (n : Nat) : List Int := (List.range n).map (fun (i : Nat) => (i : Int))
theorem upTo_inc (n : Nat) : (upTo n).Pairwise (· < ·) := by
  unfold upTo
  rw [List.pairwise_map]
  exact List.pairwise_lt_range.imp fun h => by omega
theorem upTo_mem {n : Nat} {x : Int} (h : x ∈ upTo n) : 0 ≤ x ∧ x < (n : Int) := by
  obtain ⟨i, hi, rfl⟩ := List.mem_map.mp h
  have := List.mem_range.mp hi
  omega
theorem items_upTo {acc : Array Value} {n : Nat} (h : ItemsOf (fun i v => ∃ t, v = Value.int (0 + (i : Int) * 1) t) acc n) : IntsAre acc.toList (upTo n) := by
  obtain ⟨h1, h2⟩ := h
  have key : ∀ (l : List Value) (k : Nat), (∀ (i : Nat) (v : Value), l[i]? = some v → ∃ t, v = Value.int ((k : Int) + (i : Int)) t) → IntsAre l ((List.range' k l.length).map (fun (i : Nat) => (i : Int))) := by
    intro l
    induction l with
    | nil => intro k _; exact .nil
    | cons v l ih =>
      intro k hk
      obtain ⟨t, rfl⟩ := hk 0 v rfl
      rw [List.length_cons, List.range'_succ, List.map_cons]
      have e : (k : Int) + ((0 : Nat) : Int) = (k : Int) := by omega
      rw [e]
      refine .cons _ t (ih (k + 1) fun i v hv => ?_)
      obtain ⟨t, e⟩ := hk (i + 1) v (by simpa using hv)
      exact ⟨t, by rw [e]; congr 1; omega⟩
  have := key acc.toList 0 (fun i v hv => by
    obtain ⟨t, e⟩ := h2 i v (by simpa using hv)
    exact ⟨t, by rw [e]; congr 1; omega⟩)
  rw [Array.length_toList, h1] at this
  rw [upTo, List.range_eq_range']
  exact this
section
variable {prog : Program} {w : World} {A : Around} {E : Value → Shared → Prop} {s : Shared} {h₀ : Heap} {L : Addr} {m : Str → Option Value} {news : List (Addr × Obj)} {kf : Int → Int} {Q : Value → Shared → Prop}
theorem sorted_key {r q : Addr} {b : Int} {t u v : Tok} {n : Nat} (hh : A.handled = none) (F : Fr h₀ L s.heap m) (N : News h₀ L s.heap news) (hr : IsRange s.heap r 0 b 1 t u v) (hsmall : Builtin.Range.small 0 b 1 = true)
    (hn : Builtin.Range.rangeSize 0 b 1 = n) (h64 : n < 64)
    (turn : ∀ (j : Int) (t : Tok), (0 ≤ j ∧ j < (n : Int)) → ∀ (h : Heap) (tk : Nat) (own : List (Addr × Obj)), Fr h₀ L h m → News h₀ L h (news ++ own) →
      wpAny (model prog w) A.in1.in1 (call (.ref q) [.int j t]) (KskEnd h₀ L m (news ++ own) (kf j) { s with heap := h, toks := tk }) (fun _ _ => False) { s with heap := h, toks := tk })
    (h : ∀ D h' tk out os c, Fr h₀ L h' m → News h₀ L h' ((D, listOf out c) :: news) → (∀ q ∈ news, q.1 < D) → IntsAre out.toList os → os.Perm (upTo n) → os.Pairwise (fun x y => kf x < kf y ∨ (kf x = kf y ∧ x < y)) → Q (.ref D) { s with heap := h', toks := tk }) :
    wpAny (model prog w) A (call (.builtin "sorted") [.ref r] [(Str.ofString "key", .ref q)]) Q E s := by
  refine call_function_entry_kw kind_sorted plain_sorted entry_sorted (ksk_s1 _ _) ?_
  unfold Builtin.«sorted»
  refine wpAny_bind (m := checkCount "sorted" 1 1 _) (wpAny_pure ?_)
  refine wpAny_bind (collect_range hh hr hsmall hn (by omega) fun h1 tk1 acc hk1 hacc => ?_)
  have hi := items_upTo hacc
  have hal : acc.toList.length = n := by rw [hi.length]; simp [upTo]
  refine wpAny_bind (wpAny_newList ?_ (by rw [hal, sizeLine_eq]; omega))
  have hoL : (h1.push (seqObj "list" acc.toList.toArray 0)).get? h1.objs.size = some (seqObj "list" acc.toList.toArray 0) := Heap.get?_push_size _ rfl
  have keep : ∀ b o, s.heap.get? b = some o → (h1.push (seqObj "list" acc.toList.toArray 0)).get? b = some o := fun b o q => Heap.get?_push_of_some _ (hk1 b o q)
  have F1 : Fr h₀ L h1 m := F.kept hk1
  have N1 : News h₀ L h1 news := N.grown hk1
  have hL : L < h1.objs.size := F1.ns.lt
  refine wpAny_bind (wpAny_holding (wpAny_call_entry_kw slot_list_sort ⟨_, hoL, rfl⟩ entry_list_sort ?body (ksk_l1 _ _)))
  case body =>
    show wpAny (model prog w) A.in1.in1 (Builtin.«list.sort» ⟨[.ref h1.objs.size], [(Str.ofString "key", .ref q)]⟩) _ _ _
    rw [ksk_t1]
    refine st_sort (s := { s with heap := h1.push (seqObj "list" acc.toList.toArray 0), toks := tk1 })
      (F1.push _) (N.grown keep) hoL (Nat.ne_of_gt hL) (Heap.get?_none_of_le (Nat.le_trans F1.above (Nat.le_of_lt hL)))
      (fun p hp => Nat.ne_of_lt (Heap.lt_size (N1 p hp).1)) hi (upTo_inc n) (by omega) (fun j t hj h tk own F N => turn j t (upTo_mem hj) h tk own F N) fun h' tk out c F' N' k' => ⟨_, rfl, ?_⟩
    obtain ⟨os, k1, k2, k3⟩ := k'
    exact wpAny_pure ⟨_, rfl, h _ h' tk out os c F' N' (fun q hq => Heap.lt_size (N1 q hq).1) k1 k2 k3⟩
end
end
section
local macro_rules | `(tactic| k_all) => `(tactic| first | assumption | exact ne_of_all (by assumption) | exact ne_of_lt (by assumption))
local macro_rules | `(tactic| walk_at "all_rfl") => `(tactic| repeat (first | exact List.forall_mem_nil _ | refine List.forall_mem_cons.mpr ⟨rfl, ?_⟩))
local macro_rules | `(tactic| walk_at "len_fits") => `(tactic| ((try simp only [List.length_append, List.length_cons, List.length_nil, List.length_take, List.length_drop, List.length_flatten, List.map_replicate, List.sum_replicate_nat]); omega))
local macro_rules | `(tactic| walk_at "need") => `(tactic| first | assumption | (refine need_tail ?_; walk_at "need"))
set_option hygiene false in
local macro_rules | `(tactic| walk_at "binaryOp Add ref ref") => `(tactic| (walk_at "addcore"; intro lA hA F' N' lA1; (try k_sweep)))
local macro_rules | `(tactic| walk_at "mem") => `(tactic| first | exact List.mem_cons_self | assumption | (refine List.mem_cons_of_mem _ ?_; walk_at "mem"))
local macro_rules | `(tactic| walk_at "all_ne") => `(tactic| repeat (first | exact List.forall_mem_nil _ | refine List.forall_mem_cons.mpr ⟨(by (try dsimp only); decide), ?_⟩))
set_option hygiene false in
local macro_rules | `(tactic| walk_at "newList") => `(tactic| (walk_at "newcore"; intro lN hN F' N' lN1; (try k_sweep)))
local macro_rules | `(tactic| walk_at "sub") => `(tactic| ((repeat (refine List.forall_mem_cons.mpr ⟨by walk_at "mem", ?_⟩)); (first | exact List.forall_mem_nil _ | (intro p hp; walk_at "mem"))))
section
section
variable {prog : Program} {w : World} {A : Around} {E : Value → Shared → Prop} {s : Shared} {h₀ : Heap} {L l : Addr} {m : Str → Option Value} {news : List (Addr × Obj)} {vs : List Value} {ns : List Int} {Q : Value → Shared → Prop}
theorem getLastD_eq (ns : List Int) : ns.getLastD 0 = ns.getD (ns.length - 1) 0 := by
  rcases List.eq_nil_or_concat ns with rfl | ⟨r, y, rfl⟩
  · rfl
  · simp [List.getD_eq_getElem?_getD]
theorem itemLast {value slice : Expr} {k : Nat} {u : Tok}
    (N : News h₀ L s.heap news) (hm : (l, listOf vs.toArray k) ∈ news) (hI : IntsAre vs ns) (hne : ns ≠ []) (hb : ns.length ≤ 1000000)
    (h : ∀ t, Q (.int (ns.getLastD 0) t) s)
    (hs : subscripted slice false (.ref l) (.int (-1) u) = operate [.ref l, .int (-1) u] (getItem (.ref l) (.int (-1) u)) := by with_unfolding_all rfl) :
    wpAny (model prog w) A (subscriptTail value slice (.ref l) (.int (-1) u)) Q E s := by
  have hp : 0 < ns.length := List.length_pos_iff.mpr hne
  obtain ⟨t, e⟩ := intsAt hI (ns.length - 1) (by omega)
  have hv := hI.length
  have hL : s.heap.IsList l vs.toArray := N.isList hm
  rw [← getLastD_eq] at e
  refine tail_any hL.typeIs slot_list_getitem.lookup (wpAny_getItem_list_neg hL (by decide) (by rw [List.size_toArray]; omega) (by decide) ?_ (h t)) hs
  have : ((-1 : Int) + (vs.toArray.size : Int)).toNat = ns.length - 1 := by rw [List.size_toArray]; omega
  rw [this]
  simpa using e
end

section
variable {prog : Program} {w : World} {A : Around} {E : Value → Shared → Prop} {s : Shared} {h₀ : Heap} {L D : Addr} {m : Str → Option Value} {news news' : List (Addr × Obj)} {vs : List Value} {Q : Value → Shared → Prop}
theorem appendL {n : Nat} {x : Value} (F : Fr h₀ L s.heap m) (N : News h₀ L s.heap news) (U : Upd D (listOf vs.toArray n) (listOf (vs ++ [x]).toArray (n + 1)) news news')
    (h : ∀ h', Fr h₀ L h' m → News h₀ L h' news' → Q .none { s with heap := h' }) (hz : vs.length ≤ 1000000) : wpAny (model prog w) A (call (.builtin "list.append") [.ref D, x]) Q E s := by
  have e : vs.toArray.push x = (vs ++ [x]).toArray := List.push_toArray vs x
  rw [← e] at U
  exact append_K F N U h (by rw [sizeLine_eq]; simp only [List.size_toArray]; omega)
theorem nameIt {P : Addr → Prop} {l : Addr} (h : P l) : ∃ x, x = l ∧ P x := ⟨l, rfl, h⟩
end
theorem boolIs {v : Option Value} {b c : Bool} (h : v = some (.bool b)) (e : b = c) : v = some (.bool c) := e ▸ h
theorem getD_memI' {S : List Int} {i : Nat} (h : i < S.length) : S.getD i 0 ∈ S := by
  rw [List.getD_eq_getElem?_getD, List.getElem?_eq_getElem h]; exact List.getElem_mem h
end
section
/-- the digits that follow are read into v -/
def rd (v : Int) (bs : List Int) : Int := bs.foldl (fun v b => v * 64 + (b - 192)) v

structure Octs (x : Int) (ns : List Int) : Prop where
  ex : ∃ pre last, ns = pre ++ [last] ∧ (∀ b ∈ pre, 192 ≤ b ∧ b ≤ 255) ∧ 128 ≤ last ∧ last < 192 ∧ rd 0 pre * 64 + (last - 128) = x ∧ pre.length ≤ 4

structure OctS where
  y : Int
  t : Tok
  vs : List Value
  pre : List Int
  last : Int
  k : Nat

def OctP (x : Int) (c : OctS) : Prop := IntsAre c.vs (c.pre ++ [c.last]) ∧ (∀ b ∈ c.pre, 192 ≤ b ∧ b ≤ 255) ∧ 128 ≤ c.last ∧ c.last < 192 ∧ 0 ≤ c.y ∧ rd (c.y / 64) c.pre * 64 + (c.last - 128) = x ∧
  ((c.pre.length = 0 ∧ c.y ≤ 262144) ∨ (c.pre.length = 1 ∧ c.y ≤ 4096) ∨ (c.pre.length = 2 ∧ c.y ≤ 64) ∨ (c.pre.length = 3 ∧ c.y ≤ 1))

theorem setup1 : True := by
  k_with_none
  k_with "enter" => (refine code_def (by k_asm) (by k_asm) (by k_asm) (by k_asm) (by k_asm) (by exact rfl) (by exact rfl) (by assumption) (by k_is) (by k_is) (by ktr_room) (by first | exact BindsTo.of_eq rfl | (refine kp_binds (by k_in) (by exact fun _ => rfl))) (by exact locs rfl) ?_ (by exact rfl) (by exact rfl) (by exact rfl) (by decide); k_whole; intro g' L' h' FG' F' N' B' X' T'; (try dsimp only); (try k_fold))
  k_with "call builtin:len" => (k_here; (with_reducible show wpAny _ _ (call (Value.builtin "len") [Value.ref _]) _ _ _); k_dflt (refine lenL (by k_asm) (by walk_at "mem") (by walk_at "len_fits") ?_; k_whole))
  k_with "call builtin:list.insert" => (k_here; k_dflt (refine insL (by k_asm) (by k_asm) (by (first | lia | omega)) (by (first | lia | omega)) (by k_upd) (by walk_at "len_fits") ?_; k_whole); intro h' F' N'; (try k_sweep))
  k_with "addcore" => (k_here; (with_reducible show wpAny _ _ (binaryOp _ (Value.ref _) (Value.ref _)) _ _ _); k_dflt (refine addL (by k_asm) (by k_asm) (by exact News.isList (by assumption) (by walk_at "mem")) (by exact News.isList (by assumption) (by walk_at "mem")) ?_ (by walk_at "len_fits")))
  k_with "newcore" => (k_here; k_dflt (refine newList_K (by k_asm) (by k_asm) ?_; k_whole))
  exact True.intro
set_option maxHeartbeats 4000000 in
set_option maxRecDepth 100000 in
theorem octets_call : ∀ {w : World} {mean : ExcName → Option Value} {mg mb : Str → Option Value}
  (dp un : Nat) (gd : Option (List Code)) (cn : Str) (cs : Scope) (a : Addr) (ccd : Value) (cl : List (Str × Addr)) (outer : List Env) (A₀ : Around) (base h₀ : Heap) (L : Addr) (m : Str → Option Value) (s : Shared) (Q E : Value → Shared → Prop) (news : List (Addr × Obj))
  (B : Below A₀ base outer h₀) (F : Fr h₀ L s.heap m) (X : (hd.heap_39 w.params).In h₀) (N : News h₀ L s.heap news) (T : TopM mean mg mb h₀) (hk : cs.kind = .function)
  (x n : Int) (t1 t2 : Tok) (hx0 : 0 ≤ x) (hx1 : x ≤ 262144) (hn0 : 0 ≤ n) (hn1 : n ≤ 1)
  (hd : dp + 1 < recursionLimit) (hu : un + 8 < cLine)
  (hret : ∀ (l : Addr) (vs : List Value) (ns : List Int) (k : Nat) (h' : Heap) (tk' : Nat), Fr h₀ L h' m → News h₀ L h' ((l, listOf vs.toArray k) :: news) → (∀ p ∈ news, p.1 < l) → IntsAre vs ns → Octs x ns → Q (.ref l) { s with heap := h', toks := tk' }),
  wpAny (model (RowW.prog (OpenRow.toRowW (OpenLaw.row PySem.Challenge.rw_sn0020_01))) w) (ktrTop dp un gd cn cs L a ccd cl outer) (call (.ref 98) [.int x t1, .int n t2]) Q E s := by
  k_fill
  intro w mean mg mb dp un gd cn cs a ccd cl outer A₀ base h₀ L m s Q E news B F X N T hk x n t1 t2 hx0 hx1 hn0 hn1 hd hu hret
  refine wpAny_call ?_
  k_dflt ktr_enter
  k_with "exec While Compare cons nil" => refine Hold.out ?_
  k_steps
  (with_reducible rename Fr _ _ _ _ => F'); (with_reducible rename News _ _ _ _ => N')
  obtain ⟨u0, F'⟩ := frB [("number", .int x t1), ("noughts", .int n t2), ("octets", .ref lN)] F' (by walk_at "all_rfl")
  refine ⟨?_⟩
  with_unfolding_all refine' whileR (σ := OctS) (fun c => (lN, listOf c.vs.toArray c.k) :: news) (fun c => [("number", .int c.y c.t), ("noughts", .int n t2), ("octets", .ref lN)]) (OctP x) (fun c => c.y.toNat) ⟨x, t1, [.int (x.fmod 64 + 128) ?tk], [], x.fmod 64 + 128, 0⟩ F' N' ?hn ?hk ?hp ?turn
  case hn => intro _ h; exact h
  case hk => walk_at "all_rfl"
  case hp =>
    refine ⟨.cons _ _ .nil, fun _ h => (nomatch h), ?_, ?_, hx0, ?_, ?_⟩
    all_goals (try dsimp only [rd, List.foldl_nil])
    all_goals (try simp only [Int.fmod_eq_emod_of_nonneg _ (show (0:Int) ≤ 64 by decide), List.length_nil])
    all_goals (first | (first | lia | omega) | exact Or.inl ⟨trivial, hx1⟩)
  case turn =>
    rintro ⟨y, t, vs, pre, last, k⟩ u h tk hP F1 N1
    dsimp only at F1 N1
    obtain ⟨hI, hb, hl1, hl2, hy0, hrd, hln⟩ := hP
    dsimp only at hI hb hl1 hl2 hy0 hrd hln
    have hlen := hI.length
    simp only [List.length_append, List.length_cons, List.length_nil] at hlen
    clear F' N'
    k_with "WPost" => (dsimp only [WPost])
    k_with "WEnd" => refine Hold.out ?_
    k_steps
    · (with_reducible rename Fr _ _ _ _ => F'); (with_reducible rename News _ _ _ _ => N')
      exact ⟨wEnd ⟨y.fdiv 64, _, _, ((y.fdiv 64).fmod 64 + 192) :: pre, last, _⟩ F' N' (fun _ h => h)
        (List.forall_mem_cons.mpr ⟨rfl, List.forall_mem_cons.mpr ⟨rfl, List.forall_mem_cons.mpr ⟨rfl, List.forall_mem_nil _⟩⟩⟩) (by
      refine ⟨⟨.cons _ _ hI, ?_, hl1, hl2, ?_, ?_, ?_⟩, ?_⟩
      all_goals (try dsimp only)
      all_goals (try simp only [Int.fdiv_eq_ediv_of_nonneg _ (show (0:Int) ≤ 64 by decide), Int.fmod_eq_emod_of_nonneg _ (show (0:Int) ≤ 64 by decide)])
      · intro b hb'
        rcases List.mem_cons.mp hb' with rfl | hb'
        · (first | lia | omega)
        · exact hb b hb'
      · (first | lia | omega)
      · rw [← hrd]
        show List.foldl _ _ _ * 64 + _ = _
        rw [List.foldl_cons]
        have e : y / 64 / 64 * 64 + (y / 64 % 64 + 192 - 192) = y / 64 := by (first | lia | omega)
        rw [e]; rfl
      · simp only [List.length_cons]
        clear hlen hx0 hx1 hn0 hn1
        rcases hln with ⟨h1, h2⟩ | ⟨h1, h2⟩ | ⟨h1, h2⟩ | ⟨h1, h2⟩
        · exact .inr (.inl ⟨by rw [h1], by (first | lia | omega)⟩)
        · exact .inr (.inr (.inl ⟨by rw [h1], by (first | lia | omega)⟩))
        · exact .inr (.inr (.inr ⟨by rw [h1], by (first | lia | omega)⟩))
        · exact absurd h2 (by (first | lia | omega))
      · (first | lia | omega))⟩
    · rename_i kF kN Tc' kX
      have hy : y / 64 = 0 := by (first | lia | omega)
      rw [hy] at hrd
      exact hret _ _ (List.replicate n.toNat 192 ++ (pre ++ [last])) _ _ _ kF (newsOf kN (.head _) (fun p hp => .tail _ (.tail _ (.tail _ (.tail _ hp))))) (fun p hp => lA1 p (.tail _ (.tail _ (.tail _ hp)))) (by
        refine IntsAre.append ?_ hI
        have hn' : n = 0 ∨ n = 1 := by (first | lia | omega)
        rcases hn' with rfl | rfl
        · exact .nil
        · exact .cons _ _ .nil) ⟨List.replicate n.toNat 192 ++ pre, last, (by rw [List.append_assoc]), (by
        intro b hb'
        rcases List.mem_append.mp hb' with hb' | hb'
        · have := (List.mem_replicate.mp hb').2; (first | lia | omega)
        · exact hb b hb'), hl1, hl2, (by
        rw [← hrd]
        unfold rd
        rw [List.foldl_append]
        have e : List.foldl (fun (v b : Int) => v * 64 + (b - 192)) 0 (List.replicate n.toNat 192) = 0 := by
          have hn' : n = 0 ∨ n = 1 := by (first | lia | omega)
          rcases hn' with rfl | rfl <;> rfl
        rw [e]), (by simp only [List.length_append, List.length_replicate]; (first | lia | omega))⟩
end
section
/-- the place where p ends in a part -/
structure Cut (p : Int → Prop) (f : Nat → Int) (lo hi r : Nat) : Prop where
  ge : lo ≤ r
  le : r ≤ hi
  low : ∀ i, lo ≤ i → i < r → p (f i)
  high : ∀ i, r ≤ i → i < hi → ¬ p (f i)

/-- f rises in the part -/
def Rises (f : Nat → Int) (lo hi : Nat) : Prop := ∀ i j, lo ≤ i → i ≤ j → j < hi → f i ≤ f j

structure BisS where
  lo : Int
  hi : Int
  tl : Tok
  th : Tok
structure BisP (p : Int → Prop) (f : Nat → Int) (lo hi : Nat) (c : BisS) : Prop where
  ge : (lo : Int) ≤ c.lo
  mid : c.lo ≤ c.hi
  le : c.hi ≤ (hi : Int)
  low : ∀ i : Nat, lo ≤ i → (i : Int) < c.lo → p (f i)
  high : ∀ i : Nat, c.hi ≤ (i : Int) → i < hi → ¬ p (f i)
theorem BisP.start (p : Int → Prop) (f : Nat → Int) (lo hi : Nat) (l h : Int) (t u : Tok) (hl : lo ≤ hi) (e1 : l = (lo : Int)) (e2 : h = (hi : Int)) : BisP p f lo hi ⟨l, h, t, u⟩ := by
  subst e1; subst e2
  exact ⟨Int.le_refl _, Int.ofNat_le.mpr hl, Int.le_refl _, fun i h1 h2 => by dsimp only at h2; (first | lia | omega), fun i h1 h2 => by dsimp only at h1; (first | lia | omega)⟩
theorem fdiv2 (x : Int) : x.fdiv 2 = x / 2 := Int.fdiv_eq_ediv_of_nonneg _ (by decide)
theorem BisP.left {p : Int → Prop} {f : Nat → Int} {lo hi : Nat} {a b : Int} {t u v : Tok} (hp : ∀ a b, a ≤ b → p b → p a) (hr : Rises f lo hi) (P : BisP p f lo hi ⟨a, b, t, u⟩) (h : a < b) (hx : ¬ p (f ((a + b).fdiv 2).toNat)) : BisP p f lo hi ⟨a, (a + b).fdiv 2, t, v⟩ ∧ ((a + b).fdiv 2 - a).toNat < (b - a).toNat := by
  obtain ⟨h1, h2, h3, h4, h5⟩ := P
  dsimp only at h1 h2 h3 h4 h5
  rw [fdiv2] at hx ⊢
  refine ⟨⟨h1, by dsimp only; (first | lia | omega), by dsimp only; (first | lia | omega), h4, fun i i1 i2 q => hx ?_⟩, by (first | lia | omega)⟩
  dsimp only at i1
  exact hp _ _ (hr ((a + b) / 2).toNat i (by (first | lia | omega)) (by (first | lia | omega)) i2) q
theorem BisP.right {p : Int → Prop} {f : Nat → Int} {lo hi : Nat} {a b : Int} {t u v : Tok} (hp : ∀ a b, a ≤ b → p b → p a) (hr : Rises f lo hi) (P : BisP p f lo hi ⟨a, b, t, u⟩) (h : a < b) (hx : p (f ((a + b).fdiv 2).toNat)) : BisP p f lo hi ⟨(a + b).fdiv 2 + 1, b, v, u⟩ ∧ (b - ((a + b).fdiv 2 + 1)).toNat < (b - a).toNat := by
  obtain ⟨h1, h2, h3, h4, h5⟩ := P
  dsimp only at h1 h2 h3 h4 h5
  rw [fdiv2] at hx ⊢
  refine ⟨⟨by dsimp only; (first | lia | omega), by dsimp only; (first | lia | omega), h3, fun i i1 i2 => ?_, h5⟩, by (first | lia | omega)⟩
  dsimp only at i2
  exact hp _ _ (hr i ((a + b) / 2).toNat i1 (by (first | lia | omega)) (by (first | lia | omega))) hx
theorem BisP.done {p : Int → Prop} {f : Nat → Int} {lo hi : Nat} {a b : Int} {t u : Tok} (P : BisP p f lo hi ⟨a, b, t, u⟩) (h : ¬ a < b) : ∃ r : Nat, a = (r : Int) ∧ Cut p f lo hi r := by
  obtain ⟨h1, h2, h3, h4, h5⟩ := P
  dsimp only at h1 h2 h3 h4 h5
  exact ⟨a.toNat, by (first | lia | omega), ⟨by (first | lia | omega), by (first | lia | omega), fun i i1 i2 => h4 i i1 (by (first | lia | omega)), fun i i1 i2 => h5 i (by (first | lia | omega)) i2⟩⟩
theorem le_mono (x : Int) : ∀ a b : Int, a ≤ b → b ≤ x → a ≤ x := fun _ _ h1 h2 => Int.le_trans h1 h2
theorem lt_mono (x : Int) : ∀ a b : Int, a ≤ b → b < x → a < x := fun _ _ h1 h2 => Int.lt_of_le_of_lt h1 h2

section
variable {w : World} {mean : ExcName → Option Value} {mg mb : Str → Option Value}
  {dp un : Nat} {gd : Option (List Code)} {cn : Str} {cs : Scope} {a : Addr} {ccd : Value} {cl : List (Str × Addr)} {outer : List Env} {A₀ : Around} {base h₀ : Heap} {L : Addr} {m : Str → Option Value} {s : Shared} {Q E : Value → Shared → Prop} {news : List (Addr × Obj)}
  (B : Below A₀ base outer h₀) (F : Fr h₀ L s.heap m) (X : (hd.heap_39 w.params).In h₀) (N : News h₀ L s.heap news) (T : TopM mean mg mb h₀) (hk : cs.kind = .function)
include B F X N T hk
local macro_rules | `(tactic| walk_at "key_dom") => `(tactic| ((with_reducible rename (∀ i : Nat, _ ≤ i → i < _ → _) => hdm); exact hdm _ (by (try rw [fdiv2]); (first | lia | omega)) (by (try rw [fdiv2]); (first | lia | omega))))
theorem setup2 : True := by
  k_with_none
  k_with "enter" => (refine code_def (by k_asm) (by k_asm) (by k_asm) (by k_asm) (by k_asm) (by exact rfl) (by exact rfl) (by assumption) (by k_is) (by k_is) (by ktr_room) (by first | exact BindsTo.of_eq rfl | (refine kp_binds (by k_in) (by exact fun _ => rfl))) (by exact locs rfl) ?_ (by exact rfl) (by exact rfl) (by exact rfl) (by decide); k_whole; intro g' L' h' FG' F' N' B' X' T'; (try dsimp only); (try k_fold))
  k_with "call builtin:len" => (k_here; (with_reducible show wpAny _ _ (call (Value.builtin "len") [Value.ref _]) _ _ _); k_dflt (refine lenL (by k_asm) (by walk_at "mem") (by walk_at "len_fits") ?_; k_whole))
  k_with "call builtin:list.insert" => (k_here; k_dflt (refine insL (by k_asm) (by k_asm) (by (first | lia | omega)) (by (first | lia | omega)) (by k_upd) (by walk_at "len_fits") ?_; k_whole); intro h' F' N'; (try k_sweep))
  k_with "addcore" => (k_here; (with_reducible show wpAny _ _ (binaryOp _ (Value.ref _) (Value.ref _)) _ _ _); k_dflt (refine addL (by k_asm) (by k_asm) (by exact News.isList (by assumption) (by walk_at "mem")) (by exact News.isList (by assumption) (by walk_at "mem")) ?_ (by walk_at "len_fits")))
  k_with "newcore" => (k_here; k_dflt (refine newList_K (by k_asm) (by k_asm) ?_; k_whole))
  k_with "subscriptTail" => (k_here; (with_reducible show wpAny _ _ (subscriptTail _ _ (Value.ref _) (Value.int _ _)) _ _ _); k_dflt (refine itemI (by k_asm) (by k_mem) (by assumption) (by ((try rw [fdiv2]); (first | lia | omega))) (by ((try rw [fdiv2]); (first | lia | omega))) (by (first | lia | omega)) ?_ (by with_unfolding_all rfl); k_whole); intro ti')
  k_with "callWith ref" => (k_here; k_dflt (refine callWith_F (by exact FnAt.of (by k_asm) (by k_mem)) ?_; k_whole))
  k_with "call ref" => (k_here; k_dflt (refine KeyOk.use (by assumption) (by k_asm) (by k_asm) (by k_asm) (by k_asm) (by k_asm) (by first | exact rfl | assumption) (by walk_at "need") (by walk_at "key_dom") (by ktr_room) (by ktr_units) ?_); intro tq' hq' tkq' Fq' Nq'; (try dsimp only); (try k_fold))
  exact True.intro
set_option maxHeartbeats 4000000 in
set_option maxRecDepth 100000 in
theorem bisR_none4 {l : Addr} {vs : List Value} {ns : List Int} {k : Nat} {x : Int} {lo hi : Int} {t1 t2 t3 : Tok} (hm : (l, listOf vs.toArray k) ∈ news) (hI : IntsAre vs ns) (hl0 : 0 ≤ lo) (hlo : lo ≤ hi) (hhi : hi ≤ (ns.length : Int)) (hns : ns.length ≤ 1000) 
    (hr : Rises (fun i => ns.getD i 0) lo.toNat hi.toNat)
    (hd : dp + 2 < recursionLimit) (hu : un + 16 < cLine)
    (hret : ∀ (r : Nat) t (h' : Heap) (tk' : Nat), Fr h₀ L h' m → News h₀ L h' news → Cut (· ≤ x) (fun i => ns.getD i 0) lo.toNat hi.toNat r → Q (.int (r : Int) t) { s with heap := h', toks := tk' }) :
    wpAny (model (RowW.prog (OpenRow.toRowW (OpenLaw.row PySem.Challenge.rw_sn0020_01))) w) (ktrTop dp un gd cn cs L a ccd cl outer) (call (.ref 66) [.ref l, .int x t1, .int lo t2, .int hi t3] []) Q E s := by
  revert X; k_fill; intro X
  have hvl := hI.length
  refine wpAny_call ?_
  k_dflt (walk_at "enter")
  k_with "exec While Compare cons nil" => refine Hold.out ?_
  k_steps
  (with_reducible rename Fr _ _ _ _ => F'); (with_reducible rename News _ _ _ _ => N')
  refine ⟨?_⟩
  with_unfolding_all refine' whileR (σ := BisS) (fun _ => news) (fun c => [("a", .ref l), ("x", .int x t1), ("lo", .int c.lo c.tl), ("hi", .int c.hi c.th), ("key", .none)]) (BisP (· ≤ x) (fun i => ns.getD i 0) lo.toNat hi.toNat) (fun c => (c.hi - c.lo).toNat) ⟨lo, hi, t2, t3⟩ F' N' ?hn ?hk ?hp ?turn
  case hn => intro _ h; exact h
  case hk => walk_at "all_rfl"
  case hp => exact BisP.start _ _ _ _ _ _ _ _ (by (first | lia | omega)) (by (first | lia | omega)) (by (first | lia | omega))
  case turn =>
    rintro ⟨lo', hi', tl', th'⟩ u h tk hP F1 N1
    dsimp only at F1 N1
    clear F' N'
    have q1 := hP.ge
    have q2 := hP.mid
    have q3 := hP.le
    dsimp only at q1 q2 q3
    k_with "WPost" => (dsimp only [WPost])
    k_with "WEnd" => refine Hold.out ?_
    k_steps
    · (with_reducible rename Fr _ _ _ _ => F2); (with_reducible rename News _ _ _ _ => N2)
      exact ⟨wEnd ⟨_, _, _, _⟩ F2 N2 (fun _ h => h) (by walk_at "all_rfl") (BisP.left (le_mono x) hr hP (by assumption) (by (try dsimp only); (first | lia | omega)))⟩
    · (with_reducible rename Fr _ _ _ _ => F2); (with_reducible rename News _ _ _ _ => N2)
      exact ⟨wEnd ⟨_, _, _, _⟩ F2 N2 (fun _ h => h) (by walk_at "all_rfl") (BisP.right (le_mono x) hr hP (by assumption) (by (try dsimp only); (first | lia | omega)))⟩
    · rename_i kF kN Tc' kX
      obtain ⟨r, rfl, hR⟩ := hP.done (by assumption)
      exact hret r _ _ _ kF kN hR
theorem setup3 : True := by
  k_with_none
  k_with "enter" => (refine code_def (by k_asm) (by k_asm) (by k_asm) (by k_asm) (by k_asm) (by exact rfl) (by exact rfl) (by assumption) (by k_is) (by k_is) (by ktr_room) (by first | exact BindsTo.of_eq rfl | (refine kp_binds (by k_in) (by exact fun _ => rfl))) (by exact locs rfl) ?_ (by exact rfl) (by exact rfl) (by exact rfl) (by decide); k_whole; intro g' L' h' FG' F' N' B' X' T'; (try dsimp only); (try k_fold))
  k_with "call builtin:len" => (k_here; (with_reducible show wpAny _ _ (call (Value.builtin "len") [Value.ref _]) _ _ _); k_dflt (refine lenL (by k_asm) (by walk_at "mem") (by walk_at "len_fits") ?_; k_whole))
  k_with "call builtin:list.insert" => (k_here; k_dflt (refine insL (by k_asm) (by k_asm) (by (first | lia | omega)) (by (first | lia | omega)) (by k_upd) (by walk_at "len_fits") ?_; k_whole); intro h' F' N'; (try k_sweep))
  k_with "addcore" => (k_here; (with_reducible show wpAny _ _ (binaryOp _ (Value.ref _) (Value.ref _)) _ _ _); k_dflt (refine addL (by k_asm) (by k_asm) (by exact News.isList (by assumption) (by walk_at "mem")) (by exact News.isList (by assumption) (by walk_at "mem")) ?_ (by walk_at "len_fits")))
  k_with "newcore" => (k_here; k_dflt (refine newList_K (by k_asm) (by k_asm) ?_; k_whole))
  k_with "subscriptTail" => (k_here; (with_reducible show wpAny _ _ (subscriptTail _ _ (Value.ref _) (Value.int _ _)) _ _ _); k_dflt (refine itemI (by k_asm) (by k_mem) (by assumption) (by ((try rw [fdiv2]); (first | lia | omega))) (by ((try rw [fdiv2]); (first | lia | omega))) (by (first | lia | omega)) ?_ (by with_unfolding_all rfl); k_whole); intro ti')
  k_with "callWith ref" => (k_here; k_dflt (refine callWith_F (by exact FnAt.of (by k_asm) (by k_mem)) ?_; k_whole))
  k_with "call ref" => (k_here; k_dflt (refine KeyOk.use (by assumption) (by k_asm) (by k_asm) (by k_asm) (by k_asm) (by k_asm) (by first | exact rfl | assumption) (by walk_at "need") (by walk_at "key_dom") (by ktr_room) (by ktr_units) ?_); intro tq' hq' tkq' Fq' Nq'; (try dsimp only); (try k_fold))
  exact True.intro
set_option maxHeartbeats 4000000 in
set_option maxRecDepth 100000 in
theorem bisR_none2 {l : Addr} {vs : List Value} {ns : List Int} {k : Nat} {x : Int} {t1 : Tok} (hm : (l, listOf vs.toArray k) ∈ news) (hI : IntsAre vs ns) (hns : ns.length ≤ 1000) 
    (hr : Rises (fun i => ns.getD i 0) 0 ns.length)
    (hd : dp + 2 < recursionLimit) (hu : un + 16 < cLine)
    (hret : ∀ (r : Nat) t (h' : Heap) (tk' : Nat), Fr h₀ L h' m → News h₀ L h' news → Cut (· ≤ x) (fun i => ns.getD i 0) 0 ns.length r → Q (.int (r : Int) t) { s with heap := h', toks := tk' }) :
    wpAny (model (RowW.prog (OpenRow.toRowW (OpenLaw.row PySem.Challenge.rw_sn0020_01))) w) (ktrTop dp un gd cn cs L a ccd cl outer) (call (.ref 66) [.ref l, .int x t1] [(Str.ofString "key", .none)]) Q E s := by
  revert X; k_fill; intro X
  have hvl := hI.length
  refine wpAny_call ?_
  k_dflt (walk_at "enter")
  k_with "exec While Compare cons nil" => refine Hold.out ?_
  k_steps
  (with_reducible rename Fr _ _ _ _ => F'); (with_reducible rename News _ _ _ _ => N')
  refine ⟨?_⟩
  obtain ⟨u0, tl0, th0, F'⟩ := frI (x := "lo") (y := "hi") (i := 0) (j := (vs.length : Int)) [("a", .ref l), ("x", .int x t1), ("key", .none)] F' (by walk_at "all_rfl") ⟨_, rfl⟩ ⟨_, rfl⟩
  with_unfolding_all refine' whileR (σ := BisS) (fun _ => news) (fun c => [("a", .ref l), ("x", .int x t1), ("lo", .int c.lo c.tl), ("hi", .int c.hi c.th), ("key", .none)]) (BisP (· ≤ x) (fun i => ns.getD i 0) 0 ns.length) (fun c => (c.hi - c.lo).toNat) ⟨0, (vs.length : Int), tl0, th0⟩ F' N' ?hn ?hk ?hp ?turn
  case hn => intro _ h; exact h
  case hk => walk_at "all_rfl"
  case hp => exact BisP.start _ _ _ _ _ _ _ _ (Nat.zero_le _) rfl (by rw [hI.length])
  case turn =>
    rintro ⟨lo', hi', tl', th'⟩ u h tk hP F1 N1
    dsimp only at F1 N1
    clear F' N'
    have q1 := hP.ge
    have q2 := hP.mid
    have q3 := hP.le
    dsimp only at q1 q2 q3
    k_with "WPost" => (dsimp only [WPost])
    k_with "WEnd" => refine Hold.out ?_
    k_steps
    · (with_reducible rename Fr _ _ _ _ => F2); (with_reducible rename News _ _ _ _ => N2)
      exact ⟨wEnd ⟨_, _, _, _⟩ F2 N2 (fun _ h => h) (by walk_at "all_rfl") (BisP.left (le_mono x) hr hP (by assumption) (by (try dsimp only); (first | lia | omega)))⟩
    · (with_reducible rename Fr _ _ _ _ => F2); (with_reducible rename News _ _ _ _ => N2)
      exact ⟨wEnd ⟨_, _, _, _⟩ F2 N2 (fun _ h => h) (by walk_at "all_rfl") (BisP.right (le_mono x) hr hP (by assumption) (by (try dsimp only); (first | lia | omega)))⟩
    · rename_i kF kN Tc' kX
      obtain ⟨r, rfl, hR⟩ := hP.done (by assumption)
      exact hret r _ _ _ kF kN hR
theorem setup4 : True := by
  k_with_none
  k_with "enter" => (refine code_def (by k_asm) (by k_asm) (by k_asm) (by k_asm) (by k_asm) (by exact rfl) (by exact rfl) (by assumption) (by k_is) (by k_is) (by ktr_room) (by first | exact BindsTo.of_eq rfl | (refine kp_binds (by k_in) (by exact fun _ => rfl))) (by exact locs rfl) ?_ (by exact rfl) (by exact rfl) (by exact rfl) (by decide); k_whole; intro g' L' h' FG' F' N' B' X' T'; (try dsimp only); (try k_fold))
  k_with "call builtin:len" => (k_here; (with_reducible show wpAny _ _ (call (Value.builtin "len") [Value.ref _]) _ _ _); k_dflt (refine lenL (by k_asm) (by walk_at "mem") (by walk_at "len_fits") ?_; k_whole))
  k_with "call builtin:list.insert" => (k_here; k_dflt (refine insL (by k_asm) (by k_asm) (by (first | lia | omega)) (by (first | lia | omega)) (by k_upd) (by walk_at "len_fits") ?_; k_whole); intro h' F' N'; (try k_sweep))
  k_with "addcore" => (k_here; (with_reducible show wpAny _ _ (binaryOp _ (Value.ref _) (Value.ref _)) _ _ _); k_dflt (refine addL (by k_asm) (by k_asm) (by exact News.isList (by assumption) (by walk_at "mem")) (by exact News.isList (by assumption) (by walk_at "mem")) ?_ (by walk_at "len_fits")))
  k_with "newcore" => (k_here; k_dflt (refine newList_K (by k_asm) (by k_asm) ?_; k_whole))
  k_with "subscriptTail" => (k_here; (with_reducible show wpAny _ _ (subscriptTail _ _ (Value.ref _) (Value.int _ _)) _ _ _); k_dflt (refine itemI (by k_asm) (by k_mem) (by assumption) (by ((try rw [fdiv2]); (first | lia | omega))) (by ((try rw [fdiv2]); (first | lia | omega))) (by (first | lia | omega)) ?_ (by with_unfolding_all rfl); k_whole); intro ti')
  k_with "callWith ref" => (k_here; k_dflt (refine callWith_F (by exact FnAt.of (by k_asm) (by k_mem)) ?_; k_whole))
  k_with "call ref" => (k_here; k_dflt (refine KeyOk.use (by assumption) (by k_asm) (by k_asm) (by k_asm) (by k_asm) (by k_asm) (by first | exact rfl | assumption) (by walk_at "need") (by walk_at "key_dom") (by ktr_room) (by ktr_units) ?_); intro tq' hq' tkq' Fq' Nq'; (try dsimp only); (try k_fold))
  exact True.intro
set_option maxHeartbeats 4000000 in
set_option maxRecDepth 100000 in
theorem bisR_key4 {q : Addr} {oc : Value} {od : Option Addr} {fd : FuncData} {sl : Array (Option Value)} {val : Int → Int} {dom : Int → Prop} {need : List (Addr × Obj)} (K : KeyOk w q val dom need) (hneed : ∀ p ∈ need, p ∈ news) (hq : (q, (⟨oc, od, .func fd, sl⟩ : Obj)) ∈ news) {l : Addr} {vs : List Value} {ns : List Int} {k : Nat} {x : Int} {lo hi : Int} {t1 t2 t3 : Tok} (hm : (l, listOf vs.toArray k) ∈ news) (hI : IntsAre vs ns) (hl0 : 0 ≤ lo) (hlo : lo ≤ hi) (hhi : hi ≤ (ns.length : Int)) (hns : ns.length ≤ 1000) (hdom : ∀ i : Nat, lo.toNat ≤ i → i < hi.toNat → dom (ns.getD i 0)) 
    (hr : Rises (fun i => val (ns.getD i 0)) lo.toNat hi.toNat)
    (hd : dp + 4 < recursionLimit) (hu : un + 32 < cLine)
    (hret : ∀ (r : Nat) t (h' : Heap) (tk' : Nat), Fr h₀ L h' m → News h₀ L h' news → Cut (· ≤ x) (fun i => val (ns.getD i 0)) lo.toNat hi.toNat r → Q (.int (r : Int) t) { s with heap := h', toks := tk' }) :
    wpAny (model (RowW.prog (OpenRow.toRowW (OpenLaw.row PySem.Challenge.rw_sn0020_01))) w) (ktrTop dp un gd cn cs L a ccd cl outer) (call (.ref 66) [.ref l, .int x t1, .int lo t2, .int hi t3] [(Str.ofString "key", .ref q)]) Q E s := by
  revert X; k_fill; intro X
  have hvl := hI.length
  refine wpAny_call ?_
  k_dflt (walk_at "enter")
  k_with "exec While Compare cons nil" => refine Hold.out ?_
  k_steps
  (with_reducible rename Fr _ _ _ _ => F'); (with_reducible rename News _ _ _ _ => N')
  refine ⟨?_⟩
  with_unfolding_all refine' whileR (σ := BisS) (fun _ => news) (fun c => [("a", .ref l), ("x", .int x t1), ("lo", .int c.lo c.tl), ("hi", .int c.hi c.th), ("key", .ref q)]) (BisP (· ≤ x) (fun i => val (ns.getD i 0)) lo.toNat hi.toNat) (fun c => (c.hi - c.lo).toNat) ⟨lo, hi, t2, t3⟩ F' N' ?hn ?hk ?hp ?turn
  case hn => intro _ h; exact h
  case hk => walk_at "all_rfl"
  case hp => exact BisP.start _ _ _ _ _ _ _ _ (by (first | lia | omega)) (by (first | lia | omega)) (by (first | lia | omega))
  case turn =>
    rintro ⟨lo', hi', tl', th'⟩ u h tk hP F1 N1
    dsimp only at F1 N1
    clear F' N'
    have q1 := hP.ge
    have q2 := hP.mid
    have q3 := hP.le
    dsimp only at q1 q2 q3
    k_with "WPost" => (dsimp only [WPost])
    k_with "WEnd" => refine Hold.out ?_
    k_steps
    · (with_reducible rename Fr _ _ _ _ => F2); (with_reducible rename News _ _ _ _ => N2)
      exact ⟨wEnd ⟨_, _, _, _⟩ F2 N2 (fun _ h => h) (by walk_at "all_rfl") (BisP.left (le_mono x) hr hP (by assumption) (by (try dsimp only); (first | lia | omega)))⟩
    · (with_reducible rename Fr _ _ _ _ => F2); (with_reducible rename News _ _ _ _ => N2)
      exact ⟨wEnd ⟨_, _, _, _⟩ F2 N2 (fun _ h => h) (by walk_at "all_rfl") (BisP.right (le_mono x) hr hP (by assumption) (by (try dsimp only); (first | lia | omega)))⟩
    · rename_i kF kN Tc' kX
      obtain ⟨r, rfl, hR⟩ := hP.done (by assumption)
      exact hret r _ _ _ kF kN hR
theorem setup5 : True := by
  k_with_none
  k_with "enter" => (refine code_def (by k_asm) (by k_asm) (by k_asm) (by k_asm) (by k_asm) (by exact rfl) (by exact rfl) (by assumption) (by k_is) (by k_is) (by ktr_room) (by first | exact BindsTo.of_eq rfl | (refine kp_binds (by k_in) (by exact fun _ => rfl))) (by exact locs rfl) ?_ (by exact rfl) (by exact rfl) (by exact rfl) (by decide); k_whole; intro g' L' h' FG' F' N' B' X' T'; (try dsimp only); (try k_fold))
  k_with "call builtin:len" => (k_here; (with_reducible show wpAny _ _ (call (Value.builtin "len") [Value.ref _]) _ _ _); k_dflt (refine lenL (by k_asm) (by walk_at "mem") (by walk_at "len_fits") ?_; k_whole))
  k_with "call builtin:list.insert" => (k_here; k_dflt (refine insL (by k_asm) (by k_asm) (by (first | lia | omega)) (by (first | lia | omega)) (by k_upd) (by walk_at "len_fits") ?_; k_whole); intro h' F' N'; (try k_sweep))
  k_with "addcore" => (k_here; (with_reducible show wpAny _ _ (binaryOp _ (Value.ref _) (Value.ref _)) _ _ _); k_dflt (refine addL (by k_asm) (by k_asm) (by exact News.isList (by assumption) (by walk_at "mem")) (by exact News.isList (by assumption) (by walk_at "mem")) ?_ (by walk_at "len_fits")))
  k_with "newcore" => (k_here; k_dflt (refine newList_K (by k_asm) (by k_asm) ?_; k_whole))
  k_with "subscriptTail" => (k_here; (with_reducible show wpAny _ _ (subscriptTail _ _ (Value.ref _) (Value.int _ _)) _ _ _); k_dflt (refine itemI (by k_asm) (by k_mem) (by assumption) (by ((try rw [fdiv2]); (first | lia | omega))) (by ((try rw [fdiv2]); (first | lia | omega))) (by (first | lia | omega)) ?_ (by with_unfolding_all rfl); k_whole); intro ti')
  k_with "callWith ref" => (k_here; k_dflt (refine callWith_F (by exact FnAt.of (by k_asm) (by k_mem)) ?_; k_whole))
  k_with "call ref" => (k_here; k_dflt (refine KeyOk.use (by assumption) (by k_asm) (by k_asm) (by k_asm) (by k_asm) (by k_asm) (by first | exact rfl | assumption) (by walk_at "need") (by walk_at "key_dom") (by ktr_room) (by ktr_units) ?_); intro tq' hq' tkq' Fq' Nq'; (try dsimp only); (try k_fold))
  exact True.intro
set_option maxHeartbeats 4000000 in
set_option maxRecDepth 100000 in
theorem bisR_key2 {q : Addr} {oc : Value} {od : Option Addr} {fd : FuncData} {sl : Array (Option Value)} {val : Int → Int} {dom : Int → Prop} {need : List (Addr × Obj)} (K : KeyOk w q val dom need) (hneed : ∀ p ∈ need, p ∈ news) (hq : (q, (⟨oc, od, .func fd, sl⟩ : Obj)) ∈ news) {l : Addr} {vs : List Value} {ns : List Int} {k : Nat} {x : Int} {t1 : Tok} (hm : (l, listOf vs.toArray k) ∈ news) (hI : IntsAre vs ns) (hns : ns.length ≤ 1000) (hdom : ∀ i : Nat, 0 ≤ i → i < ns.length → dom (ns.getD i 0)) 
    (hr : Rises (fun i => val (ns.getD i 0)) 0 ns.length)
    (hd : dp + 4 < recursionLimit) (hu : un + 32 < cLine)
    (hret : ∀ (r : Nat) t (h' : Heap) (tk' : Nat), Fr h₀ L h' m → News h₀ L h' news → Cut (· ≤ x) (fun i => val (ns.getD i 0)) 0 ns.length r → Q (.int (r : Int) t) { s with heap := h', toks := tk' }) :
    wpAny (model (RowW.prog (OpenRow.toRowW (OpenLaw.row PySem.Challenge.rw_sn0020_01))) w) (ktrTop dp un gd cn cs L a ccd cl outer) (call (.ref 66) [.ref l, .int x t1] [(Str.ofString "key", .ref q)]) Q E s := by
  revert X; k_fill; intro X
  have hvl := hI.length
  refine wpAny_call ?_
  k_dflt (walk_at "enter")
  k_with "exec While Compare cons nil" => refine Hold.out ?_
  k_steps
  (with_reducible rename Fr _ _ _ _ => F'); (with_reducible rename News _ _ _ _ => N')
  refine ⟨?_⟩
  obtain ⟨u0, tl0, th0, F'⟩ := frI (x := "lo") (y := "hi") (i := 0) (j := (vs.length : Int)) [("a", .ref l), ("x", .int x t1), ("key", .ref q)] F' (by walk_at "all_rfl") ⟨_, rfl⟩ ⟨_, rfl⟩
  with_unfolding_all refine' whileR (σ := BisS) (fun _ => news) (fun c => [("a", .ref l), ("x", .int x t1), ("lo", .int c.lo c.tl), ("hi", .int c.hi c.th), ("key", .ref q)]) (BisP (· ≤ x) (fun i => val (ns.getD i 0)) 0 ns.length) (fun c => (c.hi - c.lo).toNat) ⟨0, (vs.length : Int), tl0, th0⟩ F' N' ?hn ?hk ?hp ?turn
  case hn => intro _ h; exact h
  case hk => walk_at "all_rfl"
  case hp => exact BisP.start _ _ _ _ _ _ _ _ (Nat.zero_le _) rfl (by rw [hI.length])
  case turn =>
    rintro ⟨lo', hi', tl', th'⟩ u h tk hP F1 N1
    dsimp only at F1 N1
    clear F' N'
    have q1 := hP.ge
    have q2 := hP.mid
    have q3 := hP.le
    dsimp only at q1 q2 q3
    k_with "WPost" => (dsimp only [WPost])
    k_with "WEnd" => refine Hold.out ?_
    k_steps
    · (with_reducible rename Fr _ _ _ _ => F2); (with_reducible rename News _ _ _ _ => N2)
      exact ⟨wEnd ⟨_, _, _, _⟩ F2 N2 (fun _ h => h) (by walk_at "all_rfl") (BisP.left (le_mono x) hr hP (by assumption) (by (try dsimp only); (first | lia | omega)))⟩
    · (with_reducible rename Fr _ _ _ _ => F2); (with_reducible rename News _ _ _ _ => N2)
      exact ⟨wEnd ⟨_, _, _, _⟩ F2 N2 (fun _ h => h) (by walk_at "all_rfl") (BisP.right (le_mono x) hr hP (by assumption) (by (try dsimp only); (first | lia | omega)))⟩
    · rename_i kF kN Tc' kX
      obtain ⟨r, rfl, hR⟩ := hP.done (by assumption)
      exact hret r _ _ _ kF kN hR
theorem setup6 : True := by
  k_with_none
  k_with "enter" => (refine code_def (by k_asm) (by k_asm) (by k_asm) (by k_asm) (by k_asm) (by exact rfl) (by exact rfl) (by assumption) (by k_is) (by k_is) (by ktr_room) (by first | exact BindsTo.of_eq rfl | (refine kp_binds (by k_in) (by exact fun _ => rfl))) (by exact locs rfl) ?_ (by exact rfl) (by exact rfl) (by exact rfl) (by decide); k_whole; intro g' L' h' FG' F' N' B' X' T'; (try dsimp only); (try k_fold))
  k_with "call builtin:len" => (k_here; (with_reducible show wpAny _ _ (call (Value.builtin "len") [Value.ref _]) _ _ _); k_dflt (refine lenL (by k_asm) (by walk_at "mem") (by walk_at "len_fits") ?_; k_whole))
  k_with "call builtin:list.insert" => (k_here; k_dflt (refine insL (by k_asm) (by k_asm) (by (first | lia | omega)) (by (first | lia | omega)) (by k_upd) (by walk_at "len_fits") ?_; k_whole); intro h' F' N'; (try k_sweep))
  k_with "addcore" => (k_here; (with_reducible show wpAny _ _ (binaryOp _ (Value.ref _) (Value.ref _)) _ _ _); k_dflt (refine addL (by k_asm) (by k_asm) (by exact News.isList (by assumption) (by walk_at "mem")) (by exact News.isList (by assumption) (by walk_at "mem")) ?_ (by walk_at "len_fits")))
  k_with "newcore" => (k_here; k_dflt (refine newList_K (by k_asm) (by k_asm) ?_; k_whole))
  k_with "subscriptTail" => (k_here; (with_reducible show wpAny _ _ (subscriptTail _ _ (Value.ref _) (Value.int _ _)) _ _ _); k_dflt (refine itemI (by k_asm) (by k_mem) (by assumption) (by ((try rw [fdiv2]); (first | lia | omega))) (by ((try rw [fdiv2]); (first | lia | omega))) (by (first | lia | omega)) ?_ (by with_unfolding_all rfl); k_whole); intro ti')
  k_with "callWith ref" => (k_here; k_dflt (refine callWith_F (by exact FnAt.of (by k_asm) (by k_mem)) ?_; k_whole))
  k_with "call ref" => (k_here; k_dflt (refine KeyOk.use (by assumption) (by k_asm) (by k_asm) (by k_asm) (by k_asm) (by k_asm) (by first | exact rfl | assumption) (by walk_at "need") (by walk_at "key_dom") (by ktr_room) (by ktr_units) ?_); intro tq' hq' tkq' Fq' Nq'; (try dsimp only); (try k_fold))
  exact True.intro
set_option maxHeartbeats 4000000 in
set_option maxRecDepth 100000 in
theorem bisL_none4 {l : Addr} {vs : List Value} {ns : List Int} {k : Nat} {x : Int} {lo hi : Int} {t1 t2 t3 : Tok} (hm : (l, listOf vs.toArray k) ∈ news) (hI : IntsAre vs ns) (hl0 : 0 ≤ lo) (hlo : lo ≤ hi) (hhi : hi ≤ (ns.length : Int)) (hns : ns.length ≤ 1000) 
    (hr : Rises (fun i => ns.getD i 0) lo.toNat hi.toNat)
    (hd : dp + 2 < recursionLimit) (hu : un + 16 < cLine)
    (hret : ∀ (r : Nat) t (h' : Heap) (tk' : Nat), Fr h₀ L h' m → News h₀ L h' news → Cut (· < x) (fun i => ns.getD i 0) lo.toNat hi.toNat r → Q (.int (r : Int) t) { s with heap := h', toks := tk' }) :
    wpAny (model (RowW.prog (OpenRow.toRowW (OpenLaw.row PySem.Challenge.rw_sn0020_01))) w) (ktrTop dp un gd cn cs L a ccd cl outer) (call (.ref 84) [.ref l, .int x t1, .int lo t2, .int hi t3] []) Q E s := by
  revert X; k_fill; intro X
  have hvl := hI.length
  refine wpAny_call ?_
  k_dflt (walk_at "enter")
  k_with "exec While Compare cons nil" => refine Hold.out ?_
  k_steps
  (with_reducible rename Fr _ _ _ _ => F'); (with_reducible rename News _ _ _ _ => N')
  refine ⟨?_⟩
  with_unfolding_all refine' whileR (σ := BisS) (fun _ => news) (fun c => [("a", .ref l), ("x", .int x t1), ("lo", .int c.lo c.tl), ("hi", .int c.hi c.th), ("key", .none)]) (BisP (· < x) (fun i => ns.getD i 0) lo.toNat hi.toNat) (fun c => (c.hi - c.lo).toNat) ⟨lo, hi, t2, t3⟩ F' N' ?hn ?hk ?hp ?turn
  case hn => intro _ h; exact h
  case hk => walk_at "all_rfl"
  case hp => exact BisP.start _ _ _ _ _ _ _ _ (by (first | lia | omega)) (by (first | lia | omega)) (by (first | lia | omega))
  case turn =>
    rintro ⟨lo', hi', tl', th'⟩ u h tk hP F1 N1
    dsimp only at F1 N1
    clear F' N'
    have q1 := hP.ge
    have q2 := hP.mid
    have q3 := hP.le
    dsimp only at q1 q2 q3
    k_with "WPost" => (dsimp only [WPost])
    k_with "WEnd" => refine Hold.out ?_
    k_steps
    · (with_reducible rename Fr _ _ _ _ => F2); (with_reducible rename News _ _ _ _ => N2)
      exact ⟨wEnd ⟨_, _, _, _⟩ F2 N2 (fun _ h => h) (by walk_at "all_rfl") (BisP.right (lt_mono x) hr hP (by assumption) (by (try dsimp only); (first | lia | omega)))⟩
    · (with_reducible rename Fr _ _ _ _ => F2); (with_reducible rename News _ _ _ _ => N2)
      exact ⟨wEnd ⟨_, _, _, _⟩ F2 N2 (fun _ h => h) (by walk_at "all_rfl") (BisP.left (lt_mono x) hr hP (by assumption) (by (try dsimp only); (first | lia | omega)))⟩
    · rename_i kF kN Tc' kX
      obtain ⟨r, rfl, hR⟩ := hP.done (by assumption)
      exact hret r _ _ _ kF kN hR
theorem setup7 : True := by
  k_with_none
  k_with "enter" => (refine code_def (by k_asm) (by k_asm) (by k_asm) (by k_asm) (by k_asm) (by exact rfl) (by exact rfl) (by assumption) (by k_is) (by k_is) (by ktr_room) (by first | exact BindsTo.of_eq rfl | (refine kp_binds (by k_in) (by exact fun _ => rfl))) (by exact locs rfl) ?_ (by exact rfl) (by exact rfl) (by exact rfl) (by decide); k_whole; intro g' L' h' FG' F' N' B' X' T'; (try dsimp only); (try k_fold))
  k_with "call builtin:len" => (k_here; (with_reducible show wpAny _ _ (call (Value.builtin "len") [Value.ref _]) _ _ _); k_dflt (refine lenL (by k_asm) (by walk_at "mem") (by walk_at "len_fits") ?_; k_whole))
  k_with "call builtin:list.insert" => (k_here; k_dflt (refine insL (by k_asm) (by k_asm) (by (first | lia | omega)) (by (first | lia | omega)) (by k_upd) (by walk_at "len_fits") ?_; k_whole); intro h' F' N'; (try k_sweep))
  k_with "addcore" => (k_here; (with_reducible show wpAny _ _ (binaryOp _ (Value.ref _) (Value.ref _)) _ _ _); k_dflt (refine addL (by k_asm) (by k_asm) (by exact News.isList (by assumption) (by walk_at "mem")) (by exact News.isList (by assumption) (by walk_at "mem")) ?_ (by walk_at "len_fits")))
  k_with "newcore" => (k_here; k_dflt (refine newList_K (by k_asm) (by k_asm) ?_; k_whole))
  k_with "subscriptTail" => (k_here; (with_reducible show wpAny _ _ (subscriptTail _ _ (Value.ref _) (Value.int _ _)) _ _ _); k_dflt (refine itemI (by k_asm) (by k_mem) (by assumption) (by ((try rw [fdiv2]); (first | lia | omega))) (by ((try rw [fdiv2]); (first | lia | omega))) (by (first | lia | omega)) ?_ (by with_unfolding_all rfl); k_whole); intro ti')
  k_with "callWith ref" => (k_here; k_dflt (refine callWith_F (by exact FnAt.of (by k_asm) (by k_mem)) ?_; k_whole))
  k_with "call ref" => (k_here; k_dflt (refine KeyOk.use (by assumption) (by k_asm) (by k_asm) (by k_asm) (by k_asm) (by k_asm) (by first | exact rfl | assumption) (by walk_at "need") (by walk_at "key_dom") (by ktr_room) (by ktr_units) ?_); intro tq' hq' tkq' Fq' Nq'; (try dsimp only); (try k_fold))
  exact True.intro
set_option maxHeartbeats 4000000 in
set_option maxRecDepth 100000 in
theorem bisL_none2 {l : Addr} {vs : List Value} {ns : List Int} {k : Nat} {x : Int} {t1 : Tok} (hm : (l, listOf vs.toArray k) ∈ news) (hI : IntsAre vs ns) (hns : ns.length ≤ 1000) 
    (hr : Rises (fun i => ns.getD i 0) 0 ns.length)
    (hd : dp + 2 < recursionLimit) (hu : un + 16 < cLine)
    (hret : ∀ (r : Nat) t (h' : Heap) (tk' : Nat), Fr h₀ L h' m → News h₀ L h' news → Cut (· < x) (fun i => ns.getD i 0) 0 ns.length r → Q (.int (r : Int) t) { s with heap := h', toks := tk' }) :
    wpAny (model (RowW.prog (OpenRow.toRowW (OpenLaw.row PySem.Challenge.rw_sn0020_01))) w) (ktrTop dp un gd cn cs L a ccd cl outer) (call (.ref 84) [.ref l, .int x t1] [(Str.ofString "key", .none)]) Q E s := by
  revert X; k_fill; intro X
  have hvl := hI.length
  refine wpAny_call ?_
  k_dflt (walk_at "enter")
  k_with "exec While Compare cons nil" => refine Hold.out ?_
  k_steps
  (with_reducible rename Fr _ _ _ _ => F'); (with_reducible rename News _ _ _ _ => N')
  refine ⟨?_⟩
  obtain ⟨u0, tl0, th0, F'⟩ := frI (x := "lo") (y := "hi") (i := 0) (j := (vs.length : Int)) [("a", .ref l), ("x", .int x t1), ("key", .none)] F' (by walk_at "all_rfl") ⟨_, rfl⟩ ⟨_, rfl⟩
  with_unfolding_all refine' whileR (σ := BisS) (fun _ => news) (fun c => [("a", .ref l), ("x", .int x t1), ("lo", .int c.lo c.tl), ("hi", .int c.hi c.th), ("key", .none)]) (BisP (· < x) (fun i => ns.getD i 0) 0 ns.length) (fun c => (c.hi - c.lo).toNat) ⟨0, (vs.length : Int), tl0, th0⟩ F' N' ?hn ?hk ?hp ?turn
  case hn => intro _ h; exact h
  case hk => walk_at "all_rfl"
  case hp => exact BisP.start _ _ _ _ _ _ _ _ (Nat.zero_le _) rfl (by rw [hI.length])
  case turn =>
    rintro ⟨lo', hi', tl', th'⟩ u h tk hP F1 N1
    dsimp only at F1 N1
    clear F' N'
    have q1 := hP.ge
    have q2 := hP.mid
    have q3 := hP.le
    dsimp only at q1 q2 q3
    k_with "WPost" => (dsimp only [WPost])
    k_with "WEnd" => refine Hold.out ?_
    k_steps
    · (with_reducible rename Fr _ _ _ _ => F2); (with_reducible rename News _ _ _ _ => N2)
      exact ⟨wEnd ⟨_, _, _, _⟩ F2 N2 (fun _ h => h) (by walk_at "all_rfl") (BisP.right (lt_mono x) hr hP (by assumption) (by (try dsimp only); (first | lia | omega)))⟩
    · (with_reducible rename Fr _ _ _ _ => F2); (with_reducible rename News _ _ _ _ => N2)
      exact ⟨wEnd ⟨_, _, _, _⟩ F2 N2 (fun _ h => h) (by walk_at "all_rfl") (BisP.left (lt_mono x) hr hP (by assumption) (by (try dsimp only); (first | lia | omega)))⟩
    · rename_i kF kN Tc' kX
      obtain ⟨r, rfl, hR⟩ := hP.done (by assumption)
      exact hret r _ _ _ kF kN hR
theorem setup8 : True := by
  k_with_none
  k_with "enter" => (refine code_def (by k_asm) (by k_asm) (by k_asm) (by k_asm) (by k_asm) (by exact rfl) (by exact rfl) (by assumption) (by k_is) (by k_is) (by ktr_room) (by first | exact BindsTo.of_eq rfl | (refine kp_binds (by k_in) (by exact fun _ => rfl))) (by exact locs rfl) ?_ (by exact rfl) (by exact rfl) (by exact rfl) (by decide); k_whole; intro g' L' h' FG' F' N' B' X' T'; (try dsimp only); (try k_fold))
  k_with "call builtin:len" => (k_here; (with_reducible show wpAny _ _ (call (Value.builtin "len") [Value.ref _]) _ _ _); k_dflt (refine lenL (by k_asm) (by walk_at "mem") (by walk_at "len_fits") ?_; k_whole))
  k_with "call builtin:list.insert" => (k_here; k_dflt (refine insL (by k_asm) (by k_asm) (by (first | lia | omega)) (by (first | lia | omega)) (by k_upd) (by walk_at "len_fits") ?_; k_whole); intro h' F' N'; (try k_sweep))
  k_with "addcore" => (k_here; (with_reducible show wpAny _ _ (binaryOp _ (Value.ref _) (Value.ref _)) _ _ _); k_dflt (refine addL (by k_asm) (by k_asm) (by exact News.isList (by assumption) (by walk_at "mem")) (by exact News.isList (by assumption) (by walk_at "mem")) ?_ (by walk_at "len_fits")))
  k_with "newcore" => (k_here; k_dflt (refine newList_K (by k_asm) (by k_asm) ?_; k_whole))
  k_with "subscriptTail" => (k_here; (with_reducible show wpAny _ _ (subscriptTail _ _ (Value.ref _) (Value.int _ _)) _ _ _); k_dflt (refine itemI (by k_asm) (by k_mem) (by assumption) (by ((try rw [fdiv2]); (first | lia | omega))) (by ((try rw [fdiv2]); (first | lia | omega))) (by (first | lia | omega)) ?_ (by with_unfolding_all rfl); k_whole); intro ti')
  k_with "callWith ref" => (k_here; k_dflt (refine callWith_F (by exact FnAt.of (by k_asm) (by k_mem)) ?_; k_whole))
  k_with "call ref" => (k_here; k_dflt (refine KeyOk.use (by assumption) (by k_asm) (by k_asm) (by k_asm) (by k_asm) (by k_asm) (by first | exact rfl | assumption) (by walk_at "need") (by walk_at "key_dom") (by ktr_room) (by ktr_units) ?_); intro tq' hq' tkq' Fq' Nq'; (try dsimp only); (try k_fold))
  exact True.intro
set_option maxHeartbeats 4000000 in
set_option maxRecDepth 100000 in
theorem bisL_key4 {q : Addr} {oc : Value} {od : Option Addr} {fd : FuncData} {sl : Array (Option Value)} {val : Int → Int} {dom : Int → Prop} {need : List (Addr × Obj)} (K : KeyOk w q val dom need) (hneed : ∀ p ∈ need, p ∈ news) (hq : (q, (⟨oc, od, .func fd, sl⟩ : Obj)) ∈ news) {l : Addr} {vs : List Value} {ns : List Int} {k : Nat} {x : Int} {lo hi : Int} {t1 t2 t3 : Tok} (hm : (l, listOf vs.toArray k) ∈ news) (hI : IntsAre vs ns) (hl0 : 0 ≤ lo) (hlo : lo ≤ hi) (hhi : hi ≤ (ns.length : Int)) (hns : ns.length ≤ 1000) (hdom : ∀ i : Nat, lo.toNat ≤ i → i < hi.toNat → dom (ns.getD i 0)) 
    (hr : Rises (fun i => val (ns.getD i 0)) lo.toNat hi.toNat)
    (hd : dp + 4 < recursionLimit) (hu : un + 32 < cLine)
    (hret : ∀ (r : Nat) t (h' : Heap) (tk' : Nat), Fr h₀ L h' m → News h₀ L h' news → Cut (· < x) (fun i => val (ns.getD i 0)) lo.toNat hi.toNat r → Q (.int (r : Int) t) { s with heap := h', toks := tk' }) :
    wpAny (model (RowW.prog (OpenRow.toRowW (OpenLaw.row PySem.Challenge.rw_sn0020_01))) w) (ktrTop dp un gd cn cs L a ccd cl outer) (call (.ref 84) [.ref l, .int x t1, .int lo t2, .int hi t3] [(Str.ofString "key", .ref q)]) Q E s := by
  revert X; k_fill; intro X
  have hvl := hI.length
  refine wpAny_call ?_
  k_dflt (walk_at "enter")
  k_with "exec While Compare cons nil" => refine Hold.out ?_
  k_steps
  (with_reducible rename Fr _ _ _ _ => F'); (with_reducible rename News _ _ _ _ => N')
  refine ⟨?_⟩
  with_unfolding_all refine' whileR (σ := BisS) (fun _ => news) (fun c => [("a", .ref l), ("x", .int x t1), ("lo", .int c.lo c.tl), ("hi", .int c.hi c.th), ("key", .ref q)]) (BisP (· < x) (fun i => val (ns.getD i 0)) lo.toNat hi.toNat) (fun c => (c.hi - c.lo).toNat) ⟨lo, hi, t2, t3⟩ F' N' ?hn ?hk ?hp ?turn
  case hn => intro _ h; exact h
  case hk => walk_at "all_rfl"
  case hp => exact BisP.start _ _ _ _ _ _ _ _ (by (first | lia | omega)) (by (first | lia | omega)) (by (first | lia | omega))
  case turn =>
    rintro ⟨lo', hi', tl', th'⟩ u h tk hP F1 N1
    dsimp only at F1 N1
    clear F' N'
    have q1 := hP.ge
    have q2 := hP.mid
    have q3 := hP.le
    dsimp only at q1 q2 q3
    k_with "WPost" => (dsimp only [WPost])
    k_with "WEnd" => refine Hold.out ?_
    k_steps
    · (with_reducible rename Fr _ _ _ _ => F2); (with_reducible rename News _ _ _ _ => N2)
      exact ⟨wEnd ⟨_, _, _, _⟩ F2 N2 (fun _ h => h) (by walk_at "all_rfl") (BisP.right (lt_mono x) hr hP (by assumption) (by (try dsimp only); (first | lia | omega)))⟩
    · (with_reducible rename Fr _ _ _ _ => F2); (with_reducible rename News _ _ _ _ => N2)
      exact ⟨wEnd ⟨_, _, _, _⟩ F2 N2 (fun _ h => h) (by walk_at "all_rfl") (BisP.left (lt_mono x) hr hP (by assumption) (by (try dsimp only); (first | lia | omega)))⟩
    · rename_i kF kN Tc' kX
      obtain ⟨r, rfl, hR⟩ := hP.done (by assumption)
      exact hret r _ _ _ kF kN hR
theorem setup9 : True := by
  k_with_none
  k_with "enter" => (refine code_def (by k_asm) (by k_asm) (by k_asm) (by k_asm) (by k_asm) (by exact rfl) (by exact rfl) (by assumption) (by k_is) (by k_is) (by ktr_room) (by first | exact BindsTo.of_eq rfl | (refine kp_binds (by k_in) (by exact fun _ => rfl))) (by exact locs rfl) ?_ (by exact rfl) (by exact rfl) (by exact rfl) (by decide); k_whole; intro g' L' h' FG' F' N' B' X' T'; (try dsimp only); (try k_fold))
  k_with "call builtin:len" => (k_here; (with_reducible show wpAny _ _ (call (Value.builtin "len") [Value.ref _]) _ _ _); k_dflt (refine lenL (by k_asm) (by walk_at "mem") (by walk_at "len_fits") ?_; k_whole))
  k_with "call builtin:list.insert" => (k_here; k_dflt (refine insL (by k_asm) (by k_asm) (by (first | lia | omega)) (by (first | lia | omega)) (by k_upd) (by walk_at "len_fits") ?_; k_whole); intro h' F' N'; (try k_sweep))
  k_with "addcore" => (k_here; (with_reducible show wpAny _ _ (binaryOp _ (Value.ref _) (Value.ref _)) _ _ _); k_dflt (refine addL (by k_asm) (by k_asm) (by exact News.isList (by assumption) (by walk_at "mem")) (by exact News.isList (by assumption) (by walk_at "mem")) ?_ (by walk_at "len_fits")))
  k_with "newcore" => (k_here; k_dflt (refine newList_K (by k_asm) (by k_asm) ?_; k_whole))
  k_with "subscriptTail" => (k_here; (with_reducible show wpAny _ _ (subscriptTail _ _ (Value.ref _) (Value.int _ _)) _ _ _); k_dflt (refine itemI (by k_asm) (by k_mem) (by assumption) (by ((try rw [fdiv2]); (first | lia | omega))) (by ((try rw [fdiv2]); (first | lia | omega))) (by (first | lia | omega)) ?_ (by with_unfolding_all rfl); k_whole); intro ti')
  k_with "callWith ref" => (k_here; k_dflt (refine callWith_F (by exact FnAt.of (by k_asm) (by k_mem)) ?_; k_whole))
  k_with "call ref" => (k_here; k_dflt (refine KeyOk.use (by assumption) (by k_asm) (by k_asm) (by k_asm) (by k_asm) (by k_asm) (by first | exact rfl | assumption) (by walk_at "need") (by walk_at "key_dom") (by ktr_room) (by ktr_units) ?_); intro tq' hq' tkq' Fq' Nq'; (try dsimp only); (try k_fold))
  exact True.intro
set_option maxHeartbeats 4000000 in
set_option maxRecDepth 100000 in
theorem bisL_key2 {q : Addr} {oc : Value} {od : Option Addr} {fd : FuncData} {sl : Array (Option Value)} {val : Int → Int} {dom : Int → Prop} {need : List (Addr × Obj)} (K : KeyOk w q val dom need) (hneed : ∀ p ∈ need, p ∈ news) (hq : (q, (⟨oc, od, .func fd, sl⟩ : Obj)) ∈ news) {l : Addr} {vs : List Value} {ns : List Int} {k : Nat} {x : Int} {t1 : Tok} (hm : (l, listOf vs.toArray k) ∈ news) (hI : IntsAre vs ns) (hns : ns.length ≤ 1000) (hdom : ∀ i : Nat, 0 ≤ i → i < ns.length → dom (ns.getD i 0)) 
    (hr : Rises (fun i => val (ns.getD i 0)) 0 ns.length)
    (hd : dp + 4 < recursionLimit) (hu : un + 32 < cLine)
    (hret : ∀ (r : Nat) t (h' : Heap) (tk' : Nat), Fr h₀ L h' m → News h₀ L h' news → Cut (· < x) (fun i => val (ns.getD i 0)) 0 ns.length r → Q (.int (r : Int) t) { s with heap := h', toks := tk' }) :
    wpAny (model (RowW.prog (OpenRow.toRowW (OpenLaw.row PySem.Challenge.rw_sn0020_01))) w) (ktrTop dp un gd cn cs L a ccd cl outer) (call (.ref 84) [.ref l, .int x t1] [(Str.ofString "key", .ref q)]) Q E s := by
  revert X; k_fill; intro X
  have hvl := hI.length
  refine wpAny_call ?_
  k_dflt (walk_at "enter")
  k_with "exec While Compare cons nil" => refine Hold.out ?_
  k_steps
  (with_reducible rename Fr _ _ _ _ => F'); (with_reducible rename News _ _ _ _ => N')
  refine ⟨?_⟩
  obtain ⟨u0, tl0, th0, F'⟩ := frI (x := "lo") (y := "hi") (i := 0) (j := (vs.length : Int)) [("a", .ref l), ("x", .int x t1), ("key", .ref q)] F' (by walk_at "all_rfl") ⟨_, rfl⟩ ⟨_, rfl⟩
  with_unfolding_all refine' whileR (σ := BisS) (fun _ => news) (fun c => [("a", .ref l), ("x", .int x t1), ("lo", .int c.lo c.tl), ("hi", .int c.hi c.th), ("key", .ref q)]) (BisP (· < x) (fun i => val (ns.getD i 0)) 0 ns.length) (fun c => (c.hi - c.lo).toNat) ⟨0, (vs.length : Int), tl0, th0⟩ F' N' ?hn ?hk ?hp ?turn
  case hn => intro _ h; exact h
  case hk => walk_at "all_rfl"
  case hp => exact BisP.start _ _ _ _ _ _ _ _ (Nat.zero_le _) rfl (by rw [hI.length])
  case turn =>
    rintro ⟨lo', hi', tl', th'⟩ u h tk hP F1 N1
    dsimp only at F1 N1
    clear F' N'
    have q1 := hP.ge
    have q2 := hP.mid
    have q3 := hP.le
    dsimp only at q1 q2 q3
    k_with "WPost" => (dsimp only [WPost])
    k_with "WEnd" => refine Hold.out ?_
    k_steps
    · (with_reducible rename Fr _ _ _ _ => F2); (with_reducible rename News _ _ _ _ => N2)
      exact ⟨wEnd ⟨_, _, _, _⟩ F2 N2 (fun _ h => h) (by walk_at "all_rfl") (BisP.right (lt_mono x) hr hP (by assumption) (by (try dsimp only); (first | lia | omega)))⟩
    · (with_reducible rename Fr _ _ _ _ => F2); (with_reducible rename News _ _ _ _ => N2)
      exact ⟨wEnd ⟨_, _, _, _⟩ F2 N2 (fun _ h => h) (by walk_at "all_rfl") (BisP.left (lt_mono x) hr hP (by assumption) (by (try dsimp only); (first | lia | omega)))⟩
    · rename_i kF kN Tc' kX
      obtain ⟨r, rfl, hR⟩ := hP.done (by assumption)
      exact hret r _ _ _ kF kN hR
end
end
section
local macro_rules | `(tactic| walk_at "nought0") => `(tactic| skip)
section
variable {w : World} {mean : ExcName → Option Value} {mg mb : Str → Option Value}
  {dp un : Nat} {gd : Option (List Code)} {cn : Str} {cs : Scope} {a : Addr} {ccd : Value} {cl : List (Str × Addr)} {outer : List Env} {A₀ : Around} {base h₀ : Heap} {L l : Addr} {m : Str → Option Value} {s : Shared} {Q E : Value → Shared → Prop} {rest : List (Addr × Obj)}
  {vs : List Value} {ns : List Int} {k : Nat} {x : Int} {lo hi : Int} {t1 t2 t3 : Tok}
  (B : Below A₀ base outer h₀) (F : Fr h₀ L s.heap m) (X : (hd.heap_39 w.params).In h₀) (N : News h₀ L s.heap ((l, listOf vs.toArray k) :: rest)) (T : TopM mean mg mb h₀) (hk : cs.kind = .function)
include B F X N T hk
local macro_rules | `(tactic| walk_at "FnAt") => `(tactic| (k_dflt (exact FnAt.of (by k_asm) (by walk_at "mem"))))
local macro_rules | `(tactic| first | assumption | walk_at "key_dom") => `(tactic| ((with_reducible rename (∀ i : Nat, _ ≤ i → i < _ → _) => hdm); exact hdm _ (by (try rw [fdiv2]); omega) (by (try rw [fdiv2]); omega)))
theorem setup10 : True := by
  k_with_none
  k_with "enter" => (refine code_def (by k_asm) (by k_asm) (by k_asm) (by k_asm) (by k_asm) (by exact rfl) (by exact rfl) (by assumption) (by k_is) (by k_is) (by ktr_room) (by first | exact BindsTo.of_eq rfl | (refine kp_binds (by k_in) (by exact fun _ => rfl))) (by exact locs rfl) ?_ (by exact rfl) (by exact rfl) (by exact rfl) (by decide); k_whole; intro g' L' h' FG' F' N' B' X' T'; (try dsimp only); (try k_fold))
  k_with "call builtin:len" => (k_here; (with_reducible show wpAny _ _ (call (Value.builtin "len") [Value.ref _]) _ _ _); k_dflt (refine lenL (by k_asm) (by walk_at "mem") (by walk_at "len_fits") ?_; k_whole))
  k_with "call builtin:list.insert" => (k_here; k_dflt (refine insL (by k_asm) (by k_asm) (by omega) (by omega) (by k_upd) (by walk_at "len_fits") ?_; k_whole); intro h' F' N'; (try k_sweep))
  k_with "addcore" => (k_here; (with_reducible show wpAny _ _ (binaryOp _ (Value.ref _) (Value.ref _)) _ _ _); k_dflt (refine addL (by k_asm) (by k_asm) (by exact News.isList (by assumption) (by walk_at "mem")) (by exact News.isList (by assumption) (by walk_at "mem")) ?_ (by walk_at "len_fits")))
  k_with "newcore" => (k_here; k_dflt (refine newList_K (by k_asm) (by k_asm) ?_; k_whole))
  k_with "call ref" => (k_here; k_dflt (refine bisR_none4 (by k_asm) (by k_asm) (by k_asm) (by k_asm) (by k_asm) (by first | exact rfl | assumption) (by walk_at "mem") (by assumption) (by omega) (by omega) (by omega) (by omega) (by assumption) (by ktr_room) (by ktr_units) ?_); intro rb' tb' hb' tkb' Fb' Nb' hCb'; (have hCl' := Cut.le hCb'); (try dsimp only); (try k_fold))
  k_with "call ref" => (k_here; k_dflt (refine bisR_key4 (by k_asm) (by k_asm) (by k_asm) (by k_asm) (by k_asm) (by first | exact rfl | assumption) (by assumption) (by walk_at "need") (by walk_at "mem") (by walk_at "mem") (by assumption) (by omega) (by omega) (by omega) (by omega) (by assumption) (by assumption) (by ktr_room) (by ktr_units) ?_); intro rb' tb' hb' tkb' Fb' Nb' hCb'; (have hCl' := Cut.le hCb'); (try dsimp only); (try k_fold))
  k_with "call ref" => (k_here; k_dflt (refine bisL_none4 (by k_asm) (by k_asm) (by k_asm) (by k_asm) (by k_asm) (by first | exact rfl | assumption) (by walk_at "mem") (by assumption) (by omega) (by omega) (by omega) (by omega) (by assumption) (by ktr_room) (by ktr_units) ?_); intro rb' tb' hb' tkb' Fb' Nb' hCb'; (have hCl' := Cut.le hCb'); (try dsimp only); (try k_fold))
  k_with "call ref" => (k_here; k_dflt (refine bisL_key4 (by k_asm) (by k_asm) (by k_asm) (by k_asm) (by k_asm) (by first | exact rfl | assumption) (by assumption) (by walk_at "need") (by walk_at "mem") (by walk_at "mem") (by assumption) (by omega) (by omega) (by omega) (by omega) (by assumption) (by assumption) (by ktr_room) (by ktr_units) ?_); intro rb' tb' hb' tkb' Fb' Nb' hCb'; (have hCl' := Cut.le hCb'); (try dsimp only); (try k_fold))
  k_with "callWith ref" => (k_here; k_dflt (refine callWith_F (by exact FnAt.of (by k_asm) (by walk_at "mem")) ?_; k_whole))
  k_with "call ref" => (k_here; k_dflt (refine KeyOk.use (by assumption) (by k_asm) (by k_asm) (by k_asm) (by k_asm) (by k_asm) (by first | exact rfl | assumption) (by walk_at "need") (by first | assumption | walk_at "key_dom") (by ktr_room) (by ktr_units) ?_); intro tq' hq' tkq' Fq' Nq'; (try dsimp only); (try k_fold))
  exact True.intro
set_option maxHeartbeats 4000000 in
set_option maxRecDepth 100000 in
theorem insR_none (hne : ∀ p ∈ rest, p.1 ≠ l) (hI : IntsAre vs ns) (hl0 : 0 ≤ lo) (hlo : lo ≤ hi) (hhi : hi ≤ (ns.length : Int)) (hns : ns.length ≤ 1000) 
    (hr : Rises (fun i => ns.getD i 0) lo.toNat hi.toNat)
    (hd : dp + 4 < recursionLimit) (hu : un + 32 < cLine)
    (hret : ∀ (r : Nat) (h' : Heap) (tk' : Nat), Fr h₀ L h' m → News h₀ L h' ((l, listOf (vs.take r ++ .int x t1 :: vs.drop r).toArray (k + 1)) :: rest) → Cut (· ≤ x) (fun i => ns.getD i 0) lo.toNat hi.toNat r → Q .none { s with heap := h', toks := tk' }) :
    wpAny (model (RowW.prog (OpenRow.toRowW (OpenLaw.row PySem.Challenge.rw_sn0020_01))) w) (ktrTop dp un gd cn cs L a ccd cl outer) (call (.ref 57) [.ref l, .int x t1, .int lo t2, .int hi t3] [(Str.ofString "key", .none)]) Q E s := by
  revert X; k_fill; intro X
  have hvl := hI.length
  refine wpAny_call ?_
  k_dflt (walk_at "enter")
  k_steps
  rename_i kF kN Tc' kX
  exact hret _ _ _ kF kN (by assumption)
theorem setup11 : True := by
  k_with_none
  k_with "enter" => (refine code_def (by k_asm) (by k_asm) (by k_asm) (by k_asm) (by k_asm) (by exact rfl) (by exact rfl) (by assumption) (by k_is) (by k_is) (by ktr_room) (by first | exact BindsTo.of_eq rfl | (refine kp_binds (by k_in) (by exact fun _ => rfl))) (by exact locs rfl) ?_ (by exact rfl) (by exact rfl) (by exact rfl) (by decide); k_whole; intro g' L' h' FG' F' N' B' X' T'; (try dsimp only); (try k_fold))
  k_with "call builtin:len" => (k_here; (with_reducible show wpAny _ _ (call (Value.builtin "len") [Value.ref _]) _ _ _); k_dflt (refine lenL (by k_asm) (by walk_at "mem") (by walk_at "len_fits") ?_; k_whole))
  k_with "call builtin:list.insert" => (k_here; k_dflt (refine insL (by k_asm) (by k_asm) (by omega) (by omega) (by k_upd) (by walk_at "len_fits") ?_; k_whole); intro h' F' N'; (try k_sweep))
  k_with "addcore" => (k_here; (with_reducible show wpAny _ _ (binaryOp _ (Value.ref _) (Value.ref _)) _ _ _); k_dflt (refine addL (by k_asm) (by k_asm) (by exact News.isList (by assumption) (by walk_at "mem")) (by exact News.isList (by assumption) (by walk_at "mem")) ?_ (by walk_at "len_fits")))
  k_with "newcore" => (k_here; k_dflt (refine newList_K (by k_asm) (by k_asm) ?_; k_whole))
  k_with "call ref" => (k_here; k_dflt (refine bisR_none4 (by k_asm) (by k_asm) (by k_asm) (by k_asm) (by k_asm) (by first | exact rfl | assumption) (by walk_at "mem") (by assumption) (by omega) (by omega) (by omega) (by omega) (by assumption) (by ktr_room) (by ktr_units) ?_); intro rb' tb' hb' tkb' Fb' Nb' hCb'; (have hCl' := Cut.le hCb'); (try dsimp only); (try k_fold))
  k_with "call ref" => (k_here; k_dflt (refine bisR_key4 (by k_asm) (by k_asm) (by k_asm) (by k_asm) (by k_asm) (by first | exact rfl | assumption) (by assumption) (by walk_at "need") (by walk_at "mem") (by walk_at "mem") (by assumption) (by omega) (by omega) (by omega) (by omega) (by assumption) (by assumption) (by ktr_room) (by ktr_units) ?_); intro rb' tb' hb' tkb' Fb' Nb' hCb'; (have hCl' := Cut.le hCb'); (try dsimp only); (try k_fold))
  k_with "call ref" => (k_here; k_dflt (refine bisL_none4 (by k_asm) (by k_asm) (by k_asm) (by k_asm) (by k_asm) (by first | exact rfl | assumption) (by walk_at "mem") (by assumption) (by omega) (by omega) (by omega) (by omega) (by assumption) (by ktr_room) (by ktr_units) ?_); intro rb' tb' hb' tkb' Fb' Nb' hCb'; (have hCl' := Cut.le hCb'); (try dsimp only); (try k_fold))
  k_with "call ref" => (k_here; k_dflt (refine bisL_key4 (by k_asm) (by k_asm) (by k_asm) (by k_asm) (by k_asm) (by first | exact rfl | assumption) (by assumption) (by walk_at "need") (by walk_at "mem") (by walk_at "mem") (by assumption) (by omega) (by omega) (by omega) (by omega) (by assumption) (by assumption) (by ktr_room) (by ktr_units) ?_); intro rb' tb' hb' tkb' Fb' Nb' hCb'; (have hCl' := Cut.le hCb'); (try dsimp only); (try k_fold))
  k_with "callWith ref" => (k_here; k_dflt (refine callWith_F (by exact FnAt.of (by k_asm) (by walk_at "mem")) ?_; k_whole))
  k_with "call ref" => (k_here; k_dflt (refine KeyOk.use (by assumption) (by k_asm) (by k_asm) (by k_asm) (by k_asm) (by k_asm) (by first | exact rfl | assumption) (by walk_at "need") (by first | assumption | walk_at "key_dom") (by ktr_room) (by ktr_units) ?_); intro tq' hq' tkq' Fq' Nq'; (try dsimp only); (try k_fold))
  exact True.intro
set_option maxHeartbeats 4000000 in
set_option maxRecDepth 100000 in
theorem insR_key {q : Addr} {oc : Value} {od : Option Addr} {fd : FuncData} {sl : Array (Option Value)} {val : Int → Int} {dom : Int → Prop} {need : List (Addr × Obj)} (K : KeyOk w q val dom need) (hneed : ∀ p ∈ need, p ∈ rest) (hq : (q, (⟨oc, od, .func fd, sl⟩ : Obj)) ∈ rest) (hdx : dom x) (hne : ∀ p ∈ rest, p.1 ≠ l) (hI : IntsAre vs ns) (hl0 : 0 ≤ lo) (hlo : lo ≤ hi) (hhi : hi ≤ (ns.length : Int)) (hns : ns.length ≤ 1000) (hdom : ∀ i : Nat, lo.toNat ≤ i → i < hi.toNat → dom (ns.getD i 0)) 
    (hr : Rises (fun i => val (ns.getD i 0)) lo.toNat hi.toNat)
    (hd : dp + 8 < recursionLimit) (hu : un + 64 < cLine)
    (hret : ∀ (r : Nat) (h' : Heap) (tk' : Nat), Fr h₀ L h' m → News h₀ L h' ((l, listOf (vs.take r ++ .int x t1 :: vs.drop r).toArray (k + 1)) :: rest) → Cut (· ≤ val x) (fun i => val (ns.getD i 0)) lo.toNat hi.toNat r → Q .none { s with heap := h', toks := tk' }) :
    wpAny (model (RowW.prog (OpenRow.toRowW (OpenLaw.row PySem.Challenge.rw_sn0020_01))) w) (ktrTop dp un gd cn cs L a ccd cl outer) (call (.ref 57) [.ref l, .int x t1, .int lo t2, .int hi t3] [(Str.ofString "key", .ref q)]) Q E s := by
  revert X; k_fill; intro X
  have hvl := hI.length
  refine wpAny_call ?_
  k_dflt (walk_at "enter")
  k_steps
  rename_i kF kN Tc' kX
  exact hret _ _ _ kF kN (by assumption)
theorem setup12 : True := by
  k_with_none
  k_with "enter" => (refine code_def (by k_asm) (by k_asm) (by k_asm) (by k_asm) (by k_asm) (by exact rfl) (by exact rfl) (by assumption) (by k_is) (by k_is) (by ktr_room) (by first | exact BindsTo.of_eq rfl | (refine kp_binds (by k_in) (by exact fun _ => rfl))) (by exact locs rfl) ?_ (by exact rfl) (by exact rfl) (by exact rfl) (by decide); k_whole; intro g' L' h' FG' F' N' B' X' T'; (try dsimp only); (try k_fold))
  k_with "call builtin:len" => (k_here; (with_reducible show wpAny _ _ (call (Value.builtin "len") [Value.ref _]) _ _ _); k_dflt (refine lenL (by k_asm) (by walk_at "mem") (by walk_at "len_fits") ?_; k_whole))
  k_with "call builtin:list.insert" => (k_here; k_dflt (refine insL (by k_asm) (by k_asm) (by omega) (by omega) (by k_upd) (by walk_at "len_fits") ?_; k_whole); intro h' F' N'; (try k_sweep))
  k_with "addcore" => (k_here; (with_reducible show wpAny _ _ (binaryOp _ (Value.ref _) (Value.ref _)) _ _ _); k_dflt (refine addL (by k_asm) (by k_asm) (by exact News.isList (by assumption) (by walk_at "mem")) (by exact News.isList (by assumption) (by walk_at "mem")) ?_ (by walk_at "len_fits")))
  k_with "newcore" => (k_here; k_dflt (refine newList_K (by k_asm) (by k_asm) ?_; k_whole))
  k_with "call ref" => (k_here; k_dflt (refine bisR_none4 (by k_asm) (by k_asm) (by k_asm) (by k_asm) (by k_asm) (by first | exact rfl | assumption) (by walk_at "mem") (by assumption) (by omega) (by omega) (by omega) (by omega) (by assumption) (by ktr_room) (by ktr_units) ?_); intro rb' tb' hb' tkb' Fb' Nb' hCb'; (have hCl' := Cut.le hCb'); (try dsimp only); (try k_fold))
  k_with "call ref" => (k_here; k_dflt (refine bisR_key4 (by k_asm) (by k_asm) (by k_asm) (by k_asm) (by k_asm) (by first | exact rfl | assumption) (by assumption) (by walk_at "need") (by walk_at "mem") (by walk_at "mem") (by assumption) (by omega) (by omega) (by omega) (by omega) (by assumption) (by assumption) (by ktr_room) (by ktr_units) ?_); intro rb' tb' hb' tkb' Fb' Nb' hCb'; (have hCl' := Cut.le hCb'); (try dsimp only); (try k_fold))
  k_with "call ref" => (k_here; k_dflt (refine bisL_none4 (by k_asm) (by k_asm) (by k_asm) (by k_asm) (by k_asm) (by first | exact rfl | assumption) (by walk_at "mem") (by assumption) (by omega) (by omega) (by omega) (by omega) (by assumption) (by ktr_room) (by ktr_units) ?_); intro rb' tb' hb' tkb' Fb' Nb' hCb'; (have hCl' := Cut.le hCb'); (try dsimp only); (try k_fold))
  k_with "call ref" => (k_here; k_dflt (refine bisL_key4 (by k_asm) (by k_asm) (by k_asm) (by k_asm) (by k_asm) (by first | exact rfl | assumption) (by assumption) (by walk_at "need") (by walk_at "mem") (by walk_at "mem") (by assumption) (by omega) (by omega) (by omega) (by omega) (by assumption) (by assumption) (by ktr_room) (by ktr_units) ?_); intro rb' tb' hb' tkb' Fb' Nb' hCb'; (have hCl' := Cut.le hCb'); (try dsimp only); (try k_fold))
  k_with "callWith ref" => (k_here; k_dflt (refine callWith_F (by exact FnAt.of (by k_asm) (by walk_at "mem")) ?_; k_whole))
  k_with "call ref" => (k_here; k_dflt (refine KeyOk.use (by assumption) (by k_asm) (by k_asm) (by k_asm) (by k_asm) (by k_asm) (by first | exact rfl | assumption) (by walk_at "need") (by first | assumption | walk_at "key_dom") (by ktr_room) (by ktr_units) ?_); intro tq' hq' tkq' Fq' Nq'; (try dsimp only); (try k_fold))
  exact True.intro
set_option maxHeartbeats 4000000 in
set_option maxRecDepth 100000 in
theorem insL_none (hne : ∀ p ∈ rest, p.1 ≠ l) (hI : IntsAre vs ns) (hl0 : 0 ≤ lo) (hlo : lo ≤ hi) (hhi : hi ≤ (ns.length : Int)) (hns : ns.length ≤ 1000) 
    (hr : Rises (fun i => ns.getD i 0) lo.toNat hi.toNat)
    (hd : dp + 4 < recursionLimit) (hu : un + 32 < cLine)
    (hret : ∀ (r : Nat) (h' : Heap) (tk' : Nat), Fr h₀ L h' m → News h₀ L h' ((l, listOf (vs.take r ++ .int x t1 :: vs.drop r).toArray (k + 1)) :: rest) → Cut (· < x) (fun i => ns.getD i 0) lo.toNat hi.toNat r → Q .none { s with heap := h', toks := tk' }) :
    wpAny (model (RowW.prog (OpenRow.toRowW (OpenLaw.row PySem.Challenge.rw_sn0020_01))) w) (ktrTop dp un gd cn cs L a ccd cl outer) (call (.ref 75) [.ref l, .int x t1, .int lo t2, .int hi t3] [(Str.ofString "key", .none)]) Q E s := by
  revert X; k_fill; intro X
  have hvl := hI.length
  refine wpAny_call ?_
  k_dflt (walk_at "enter")
  k_steps
  rename_i kF kN Tc' kX
  exact hret _ _ _ kF kN (by assumption)
theorem setup13 : True := by
  k_with_none
  k_with "enter" => (refine code_def (by k_asm) (by k_asm) (by k_asm) (by k_asm) (by k_asm) (by exact rfl) (by exact rfl) (by assumption) (by k_is) (by k_is) (by ktr_room) (by first | exact BindsTo.of_eq rfl | (refine kp_binds (by k_in) (by exact fun _ => rfl))) (by exact locs rfl) ?_ (by exact rfl) (by exact rfl) (by exact rfl) (by decide); k_whole; intro g' L' h' FG' F' N' B' X' T'; (try dsimp only); (try k_fold))
  k_with "call builtin:len" => (k_here; (with_reducible show wpAny _ _ (call (Value.builtin "len") [Value.ref _]) _ _ _); k_dflt (refine lenL (by k_asm) (by walk_at "mem") (by walk_at "len_fits") ?_; k_whole))
  k_with "call builtin:list.insert" => (k_here; k_dflt (refine insL (by k_asm) (by k_asm) (by omega) (by omega) (by k_upd) (by walk_at "len_fits") ?_; k_whole); intro h' F' N'; (try k_sweep))
  k_with "addcore" => (k_here; (with_reducible show wpAny _ _ (binaryOp _ (Value.ref _) (Value.ref _)) _ _ _); k_dflt (refine addL (by k_asm) (by k_asm) (by exact News.isList (by assumption) (by walk_at "mem")) (by exact News.isList (by assumption) (by walk_at "mem")) ?_ (by walk_at "len_fits")))
  k_with "newcore" => (k_here; k_dflt (refine newList_K (by k_asm) (by k_asm) ?_; k_whole))
  k_with "call ref" => (k_here; k_dflt (refine bisR_none4 (by k_asm) (by k_asm) (by k_asm) (by k_asm) (by k_asm) (by first | exact rfl | assumption) (by walk_at "mem") (by assumption) (by omega) (by omega) (by omega) (by omega) (by assumption) (by ktr_room) (by ktr_units) ?_); intro rb' tb' hb' tkb' Fb' Nb' hCb'; (have hCl' := Cut.le hCb'); (try dsimp only); (try k_fold))
  k_with "call ref" => (k_here; k_dflt (refine bisR_key4 (by k_asm) (by k_asm) (by k_asm) (by k_asm) (by k_asm) (by first | exact rfl | assumption) (by assumption) (by walk_at "need") (by walk_at "mem") (by walk_at "mem") (by assumption) (by omega) (by omega) (by omega) (by omega) (by assumption) (by assumption) (by ktr_room) (by ktr_units) ?_); intro rb' tb' hb' tkb' Fb' Nb' hCb'; (have hCl' := Cut.le hCb'); (try dsimp only); (try k_fold))
  k_with "call ref" => (k_here; k_dflt (refine bisL_none4 (by k_asm) (by k_asm) (by k_asm) (by k_asm) (by k_asm) (by first | exact rfl | assumption) (by walk_at "mem") (by assumption) (by omega) (by omega) (by omega) (by omega) (by assumption) (by ktr_room) (by ktr_units) ?_); intro rb' tb' hb' tkb' Fb' Nb' hCb'; (have hCl' := Cut.le hCb'); (try dsimp only); (try k_fold))
  k_with "call ref" => (k_here; k_dflt (refine bisL_key4 (by k_asm) (by k_asm) (by k_asm) (by k_asm) (by k_asm) (by first | exact rfl | assumption) (by assumption) (by walk_at "need") (by walk_at "mem") (by walk_at "mem") (by assumption) (by omega) (by omega) (by omega) (by omega) (by assumption) (by assumption) (by ktr_room) (by ktr_units) ?_); intro rb' tb' hb' tkb' Fb' Nb' hCb'; (have hCl' := Cut.le hCb'); (try dsimp only); (try k_fold))
  k_with "callWith ref" => (k_here; k_dflt (refine callWith_F (by exact FnAt.of (by k_asm) (by walk_at "mem")) ?_; k_whole))
  k_with "call ref" => (k_here; k_dflt (refine KeyOk.use (by assumption) (by k_asm) (by k_asm) (by k_asm) (by k_asm) (by k_asm) (by first | exact rfl | assumption) (by walk_at "need") (by first | assumption | walk_at "key_dom") (by ktr_room) (by ktr_units) ?_); intro tq' hq' tkq' Fq' Nq'; (try dsimp only); (try k_fold))
  exact True.intro
set_option maxHeartbeats 4000000 in
set_option maxRecDepth 100000 in
theorem insL_key {q : Addr} {oc : Value} {od : Option Addr} {fd : FuncData} {sl : Array (Option Value)} {val : Int → Int} {dom : Int → Prop} {need : List (Addr × Obj)} (K : KeyOk w q val dom need) (hneed : ∀ p ∈ need, p ∈ rest) (hq : (q, (⟨oc, od, .func fd, sl⟩ : Obj)) ∈ rest) (hdx : dom x) (hne : ∀ p ∈ rest, p.1 ≠ l) (hI : IntsAre vs ns) (hl0 : 0 ≤ lo) (hlo : lo ≤ hi) (hhi : hi ≤ (ns.length : Int)) (hns : ns.length ≤ 1000) (hdom : ∀ i : Nat, lo.toNat ≤ i → i < hi.toNat → dom (ns.getD i 0)) 
    (hr : Rises (fun i => val (ns.getD i 0)) lo.toNat hi.toNat)
    (hd : dp + 8 < recursionLimit) (hu : un + 64 < cLine)
    (hret : ∀ (r : Nat) (h' : Heap) (tk' : Nat), Fr h₀ L h' m → News h₀ L h' ((l, listOf (vs.take r ++ .int x t1 :: vs.drop r).toArray (k + 1)) :: rest) → Cut (· < val x) (fun i => val (ns.getD i 0)) lo.toNat hi.toNat r → Q .none { s with heap := h', toks := tk' }) :
    wpAny (model (RowW.prog (OpenRow.toRowW (OpenLaw.row PySem.Challenge.rw_sn0020_01))) w) (ktrTop dp un gd cn cs L a ccd cl outer) (call (.ref 75) [.ref l, .int x t1, .int lo t2, .int hi t3] [(Str.ofString "key", .ref q)]) Q E s := by
  revert X; k_fill; intro X
  have hvl := hI.length
  refine wpAny_call ?_
  k_dflt (walk_at "enter")
  k_steps
  rename_i kF kN Tc' kX
  exact hret _ _ _ kF kN (by assumption)
end
end
section
/-! the insertion, in plain Lean -/
def putR (val : Int → Int) (x : Int) (S : List Int) : List Int := S.filter (fun y => decide (val y ≤ val x)) ++ x :: S.filter (fun y => !decide (val y ≤ val x))
def putL (val : Int → Int) (x : Int) (S : List Int) : List Int := S.filter (fun y => decide (val y < val x)) ++ x :: S.filter (fun y => !decide (val y < val x))
def sortR (val : Int → Int) : List Int → List Int := fun l => l.foldl (fun S x => putR val x S) []
def sortL (val : Int → Int) : List Int → List Int
  | [] => []
  | x :: l => putL val x (sortL val l)
/-- how many pairs stand wrong -/
def movL (val : Int → Int) : List Int → Int
  | [] => 0
  | x :: l => movL val l + ((sortL val l).filter (fun y => decide (val y < val x))).length
def movRS (val : Int → Int) : List Int → List Int → Int
  | _, [] => 0
  | S, x :: l => (S.filter (fun y => !decide (val y ≤ val x))).length + movRS val (putR val x S) l
def movR (val : Int → Int) (l : List Int) : Int := movRS val [] l
theorem sortR_snoc (val : Int → Int) (l : List Int) (x : Int) : sortR val (l ++ [x]) = putR val x (sortR val l) := by
  unfold sortR; rw [List.foldl_append]; rfl
theorem movRS_append (val : Int → Int) (l : List Int) (x : Int) : ∀ S, movRS val S (l ++ [x]) = movRS val S l + ((l.foldl (fun S x => putR val x S) S).filter (fun y => !decide (val y ≤ val x))).length := by
  induction l with
  | nil => intro S; simp [movRS]
  | cons a l ih => intro S; simp only [List.cons_append, movRS, List.foldl_cons]; rw [ih]; (first | lia | omega)
theorem movR_snoc (val : Int → Int) (l : List Int) (x : Int) : movR val (l ++ [x]) = movR val l + ((sortR val l).filter (fun y => !decide (val y ≤ val x))).length := movRS_append val l x []

theorem putR_perm (val : Int → Int) (x : Int) (S : List Int) : (putR val x S).Perm (x :: S) := by
  unfold putR
  exact List.perm_middle.trans ((List.filter_append_perm _ S).cons x)
theorem putL_perm (val : Int → Int) (x : Int) (S : List Int) : (putL val x S).Perm (x :: S) := by
  unfold putL
  exact List.perm_middle.trans ((List.filter_append_perm _ S).cons x)
theorem sortR_perm (val : Int → Int) (l : List Int) : (sortR val l).Perm l := by
  have : ∀ (l S : List Int), (l.foldl (fun S x => putR val x S) S).Perm (S ++ l) := by
    intro l
    induction l with
    | nil => intro S; simp
    | cons x l ih =>
      intro S
      rw [List.foldl_cons]
      refine (ih _).trans ?_
      refine ((putR_perm val x S).append_right l).trans ?_
      rw [List.cons_append]
      exact List.perm_middle.symm
  exact (this l []).trans (by rw [List.nil_append])
theorem sortL_perm (val : Int → Int) : ∀ l : List Int, (sortL val l).Perm l
  | [] => .refl _
  | x :: l => (putL_perm val x _).trans ((sortL_perm val l).cons x)
theorem sortR_length (val : Int → Int) (l : List Int) : (sortR val l).length = l.length := (sortR_perm val l).length_eq
theorem sortL_length (val : Int → Int) (l : List Int) : (sortL val l).length = l.length := (sortL_perm val l).length_eq

def Sorted (val : Int → Int) (S : List Int) : Prop := S.Pairwise fun a b => val a ≤ val b
theorem putR_sorted {val : Int → Int} {x : Int} {S : List Int} (h : Sorted val S) : Sorted val (putR val x S) := by
  unfold Sorted putR
  refine List.pairwise_append.mpr ⟨h.filter _, List.pairwise_cons.mpr ⟨fun b hb => ?_, h.filter _⟩, fun a ha b hb => ?_⟩
  · have := (List.mem_filter.mp hb).2; simp at this; (first | lia | omega)
  · have h1 := (List.mem_filter.mp ha).2
    simp at h1
    rcases List.mem_cons.mp hb with rfl | hb
    · exact h1
    · have := (List.mem_filter.mp hb).2; simp at this; (first | lia | omega)
theorem putL_sorted {val : Int → Int} {x : Int} {S : List Int} (h : Sorted val S) : Sorted val (putL val x S) := by
  unfold Sorted putL
  refine List.pairwise_append.mpr ⟨h.filter _, List.pairwise_cons.mpr ⟨fun b hb => ?_, h.filter _⟩, fun a ha b hb => ?_⟩
  · have := (List.mem_filter.mp hb).2; simp at this; (first | lia | omega)
  · have h1 := (List.mem_filter.mp ha).2
    simp at h1
    rcases List.mem_cons.mp hb with rfl | hb
    · (first | lia | omega)
    · have := (List.mem_filter.mp hb).2; simp at this; (first | lia | omega)
theorem sortR_sorted (val : Int → Int) (l : List Int) : Sorted val (sortR val l) := by
  have : ∀ (l S : List Int), Sorted val S → Sorted val (l.foldl (fun S x => putR val x S) S) := by
    intro l
    induction l with
    | nil => intro S h; exact h
    | cons x l ih => intro S h; exact ih _ (putR_sorted h)
  exact this l [] List.Pairwise.nil
theorem sortL_sorted (val : Int → Int) : ∀ l : List Int, Sorted val (sortL val l)
  | [] => List.Pairwise.nil
  | _ :: l => putL_sorted (sortL_sorted val l)
theorem rises_seg {val : Int → Int} {pre S post : List Int} (h : Sorted val S) : Rises (fun i => val ((pre ++ (S ++ post)).getD i 0)) pre.length (pre.length + S.length) := by
  intro i j h1 h2 h3
  have e : ∀ i, pre.length ≤ i → i < pre.length + S.length → (pre ++ (S ++ post)).getD i 0 = S.getD (i - pre.length) 0 := by
    intro i h1 h2
    rw [List.getD_eq_getElem?_getD, List.getD_eq_getElem?_getD, List.getElem?_append_right h1, List.getElem?_append_left (by (first | lia | omega))]
  dsimp only
  rw [e i h1 (by (first | lia | omega)), e j (by (first | lia | omega)) h3]
  by_cases q : i = j
  · subst q; exact Int.le_refl _
  · have hi : i - pre.length < S.length := by (first | lia | omega)
    have hj : j - pre.length < S.length := by (first | lia | omega)
    have := List.pairwise_iff_getElem.mp h (i - pre.length) (j - pre.length) hi hj (by (first | lia | omega))
    simpa [List.getD_eq_getElem?_getD, hi, hj] using this
theorem rises_all {val : Int → Int} {S : List Int} (h : Sorted val S) : Rises (fun i => val (S.getD i 0)) 0 S.length := by
  have := rises_seg (pre := []) (post := []) h
  simpa using this
theorem cut_seg {p : Int → Prop} [DecidablePred p] {val : Int → Int} {pre S post : List Int} {lo hi r : Nat} (h : Cut p (fun i => val ((pre ++ (S ++ post)).getD i 0)) lo hi r) (h1 : lo = pre.length) (h2 : hi = pre.length + S.length) :
    r ≤ pre.length + S.length ∧ (pre ++ (S ++ post)).take r = pre ++ S.filter (fun y => decide (p (val y))) ∧ (pre ++ (S ++ post)).drop r = S.filter (fun y => !decide (p (val y))) ++ post ∧ (r : Int) = pre.length + S.length - (S.filter (fun y => !decide (p (val y)))).length := by
  subst h1; subst h2
  obtain ⟨g1, g2, g3, g4⟩ := h
  obtain ⟨j, rfl⟩ := Nat.exists_eq_add_of_le g1
  have e : ∀ i, i < S.length → (pre ++ (S ++ post)).getD (pre.length + i) 0 = S.getD i 0 := by
    intro i h2
    rw [List.getD_eq_getElem?_getD, List.getD_eq_getElem?_getD, List.getElem?_append_right (by (first | lia | omega)), List.getElem?_append_left (by (first | lia | omega)), Nat.add_sub_cancel_left]
  have a : ∀ y ∈ S.take j, p (val y) := by
    intro y hy
    obtain ⟨i, hi, rfl⟩ := List.mem_iff_getElem.mp hy
    rw [List.length_take] at hi
    have := g3 (pre.length + i) (by (first | lia | omega)) (by (first | lia | omega))
    (try dsimp only at this)
    rw [e i (by (first | lia | omega))] at this
    rw [List.getElem_take]
    simpa [List.getD_eq_getElem?_getD, show i < S.length by (first | lia | omega)] using this
  have b : ∀ y ∈ S.drop j, ¬ p (val y) := by
    intro y hy
    obtain ⟨i, hi, rfl⟩ := List.mem_iff_getElem.mp hy
    rw [List.length_drop] at hi
    have := g4 (pre.length + (j + i)) (by (first | lia | omega)) (by (first | lia | omega))
    (try dsimp only at this)
    rw [e (j + i) (by (first | lia | omega))] at this
    rw [List.getElem_drop]
    simpa [List.getD_eq_getElem?_getD, show j + i < S.length by (first | lia | omega)] using this
  have f1 : S.filter (fun y => decide (p (val y))) = S.take j := by
    conv => lhs; rw [← List.take_append_drop j S]
    rw [List.filter_append, List.filter_eq_self.mpr (fun y hy => by simpa using a y hy), List.filter_eq_nil_iff.mpr (fun y hy => by simpa using b y hy), List.append_nil]
  have f2 : S.filter (fun y => !decide (p (val y))) = S.drop j := by
    conv => lhs; rw [← List.take_append_drop j S]
    rw [List.filter_append, List.filter_eq_nil_iff.mpr (fun y hy => by simpa using a y hy), List.filter_eq_self.mpr (fun y hy => by simpa using b y hy), List.nil_append]
  have g2' : j ≤ S.length := by (first | lia | omega)
  refine ⟨g2, ?_, ?_, ?_⟩
  · rw [f1, List.take_append, List.take_of_length_le (by (first | lia | omega)), List.take_append, Nat.add_sub_cancel_left, Nat.sub_eq_zero_of_le g2', List.take_zero, List.append_nil]
  · rw [f2, List.drop_append, List.drop_of_length_le (by (first | lia | omega)), List.drop_append, Nat.add_sub_cancel_left, Nat.sub_eq_zero_of_le g2', List.drop_zero, List.nil_append]
  · rw [f2, List.length_drop]; (first | lia | omega)
end
section
structure FrS where
  vs : List Value
  ns : List Int
  mv : Int
  tm : Tok
  kk : Nat
def FrP (val : Int → Int) (h0 z : Int) (mid : List Int) (i : Nat) (c : FrS) : Prop :=
  IntsAre c.vs c.ns ∧ ∃ dn R, mid = dn ++ R ∧ dn.length = i ∧ c.ns = [h0] ++ (sortR val dn ++ (R ++ [z])) ∧ c.mv = movR val dn
def ReP (val : Int → Int) (h0 z : Int) (mid : List Int) (i : Nat) (c : FrS) : Prop :=
  IntsAre c.vs c.ns ∧ ∃ R dn, mid = R ++ dn ∧ dn.length = i ∧ c.ns = ([h0] ++ R) ++ (sortL val dn ++ [z]) ∧ c.mv = movL val dn
theorem getD_memI {S : List Int} {i : Nat} (h : i < S.length) : S.getD i 0 ∈ S := by
  rw [List.getD_eq_getElem?_getD, List.getElem?_eq_getElem h]; exact List.getElem_mem h
theorem mem_seg {pre S post : List Int} {i : Nat} (h1 : pre.length ≤ i) (h2 : i < pre.length + S.length) : (pre ++ (S ++ post)).getD i 0 ∈ S := by
  rw [List.getD_eq_getElem?_getD, List.getElem?_append_right h1, List.getElem?_append_left (by (first | lia | omega)), List.getElem?_eq_getElem (by (first | lia | omega))]
  exact List.getElem_mem _
theorem dom_cast {dom : Int → Prop} {f : Nat → Int} {a b b' : Nat} (h : ∀ i, a ≤ i → i < b → dom (f i)) (e : b' = b) : ∀ i, a ≤ i → i < b' → dom (f i) := e ▸ h
theorem Rises.cast {f : Nat → Int} {a b b' : Nat} (h : Rises f a b) (e : b' = b) : Rises f a b' := e ▸ h
theorem cast_ints {vs : List Value} {ns ms : List Int} (h : IntsAre vs ns) (e : ns = ms) : IntsAre vs ms := e ▸ h
theorem pick3 {h₀ h : Heap} {L : Addr} {a b c : Addr × Obj} {r : List (Addr × Obj)} (N : News h₀ L h (a :: b :: c :: r)) : News h₀ L h (c :: b :: r) := fun p hp => by
  rcases List.mem_cons.mp hp with rfl | hp
  · exact N _ (.tail _ (.tail _ (.head _)))
  · rcases List.mem_cons.mp hp with rfl | hp
    · exact N _ (.tail _ (.head _))
    · exact N _ (.tail _ (.tail _ (.tail _ hp)))
theorem led2 {a b : Addr × Obj} {rest : List (Addr × Obj)} : ∀ p ∈ a :: rest, p ∈ a :: b :: rest := fun p hp => by
  rcases List.mem_cons.mp hp with rfl | hp
  · exact .head _
  · exact .tail _ (.tail _ hp)
theorem ne_same {l I : Addr} {o o' : Obj} {rest : List (Addr × Obj)} (h : ∀ p ∈ (l, o) :: rest, p.1 ≠ I) : ∀ p ∈ (l, o') :: rest, p.1 ≠ I := fun p hp => by
  rcases List.mem_cons.mp hp with rfl | hp
  · exact h (l, o) (.head _)
  · exact h p (.tail _ hp)
theorem ne_cons {l I : Addr} {oI : Obj} {rest : List (Addr × Obj)} (h : I ≠ l) (hr : ∀ p ∈ rest, p.1 ≠ l) : ∀ p ∈ (I, oI) :: rest, p.1 ≠ l := fun p hp => by
  rcases List.mem_cons.mp hp with rfl | hp
  · exact h
  · exact hr p hp
theorem front_facts {val : Int → Int} {h0 z x : Int} {dn R' : List Int} {ns ns2 : List Int} {k : Int} (hk : k = 1 + (dn.length : Int)) (e : ns = [h0] ++ (sortR val dn ++ (x :: R' ++ [z]))) (e2 : ns2 = [h0] ++ (sortR val dn ++ (R' ++ [z]))) :
    ns.getD k.toNat 0 = x ∧ k.toNat < ns.length ∧ ns.take k.toNat ++ ns.drop (k.toNat + 1) = ns2 ∧ (ns2.drop (Int.toNat 1)).take (min k.toNat ns2.length - Int.toNat 1) = sortR val dn ∧ ns2.length = dn.length + R'.length + 2 ∧ ns.length = dn.length + R'.length + 3 ∧
    Rises (fun i => val (ns2.getD i 0)) (Int.toNat 1) k.toNat := by
  have hl := sortR_length val dn
  have hkn : k.toNat = 1 + dn.length := by (first | lia | omega)
  have h1 : k.toNat = ([h0] ++ sortR val dn).length := by simp [hl, hkn]; (first | lia | omega)
  have e' : ns = ([h0] ++ sortR val dn) ++ (x :: (R' ++ [z])) := by rw [e]; simp
  have e2' : ns2 = ([h0] ++ sortR val dn) ++ (R' ++ [z]) := by rw [e2]; simp
  refine ⟨?_, ?_, ?_, ?_, ?_, ?_, ?_⟩
  · rw [e', h1, List.getD_eq_getElem?_getD, List.getElem?_append_right (Nat.le_refl _), Nat.sub_self]; rfl
  · rw [e', h1]; simp
  · rw [e', h1, List.take_left, e2', List.drop_append, List.drop_of_length_le (Nat.le_succ _), List.nil_append, Nat.add_sub_cancel_left]; rfl
  · rw [e2]
    show ((sortR val dn ++ (R' ++ [z])).take _) = _
    have : min k.toNat ([h0] ++ (sortR val dn ++ (R' ++ [z]))).length - Int.toNat 1 = (sortR val dn).length := by
      simp [hl, hkn]; (first | lia | omega)
    rw [this, List.take_left]
  · rw [e2]; simp [hl]; (first | lia | omega)
  · rw [e]; simp [hl]; (first | lia | omega)
  · rw [e2]
    have := rises_seg (pre := [h0]) (S := sortR val dn) (post := R' ++ [z]) (sortR_sorted val dn)
    rw [hl] at this
    have q : k.toNat = [h0].length + dn.length := by simp [hkn]
    rw [q]
    exact this
theorem front_end {val : Int → Int} {h0 z x : Int} {tx : Tok} {dn R' : List Int} {ns2 : List Int} {vs2 : List Value} {k : Int} {r r2 : Nat} (hk : k = 1 + (dn.length : Int)) (e2 : ns2 = [h0] ++ (sortR val dn ++ (R' ++ [z]))) (hI : IntsAre vs2 ns2)
    (c1 : Cut (· ≤ val x) (fun i => val ((sortR val dn).getD i 0)) 0 (sortR val dn).length r) (c2 : Cut (· ≤ val x) (fun i => val (ns2.getD i 0)) (Int.toNat 1) k.toNat r2) :
    IntsAre (vs2.take r2 ++ .int x tx :: vs2.drop r2) ([h0] ++ (sortR val (dn ++ [x]) ++ (R' ++ [z]))) ∧ movR val dn + k - 1 - r = movR val (dn ++ [x]) := by
  have hl := sortR_length val dn
  subst e2
  obtain ⟨d1, d2, d3, d4⟩ := cut_seg (p := (· ≤ val x)) c2 rfl (by simp [hl]; (first | lia | omega))
  have c1' : Cut (· ≤ val x) (fun i => val (([] ++ (sortR val dn ++ [])).getD i 0)) 0 (sortR val dn).length r := by simpa using c1
  obtain ⟨_, _, _, d5⟩ := cut_seg (p := (· ≤ val x)) c1' rfl (by simp)
  constructor
  · have := IntsAre.append (hI.take r2) (IntsAre.cons x tx (hI.drop r2))
    rw [d2, d3] at this
    refine cast_ints this ?_
    rw [sortR_snoc]; unfold putR; simp
  · rw [movR_snoc]
    simp only [List.length_nil] at d5
    (first | lia | omega)
theorem rear_facts {val : Int → Int} {h0 z x : Int} {dn R' : List Int} {ns ns2 : List Int} {k : Int} (hk : k = 1 + (R'.length : Int)) (e : ns = ([h0] ++ (R' ++ [x])) ++ (sortL val dn ++ [z])) (e2 : ns2 = ([h0] ++ R') ++ (sortL val dn ++ [z])) :
    ns.getD k.toNat 0 = x ∧ k.toNat < ns.length ∧ ns.take k.toNat ++ ns.drop (k.toNat + 1) = ns2 ∧ (ns2.drop k.toNat).take (ns2.length - (- -1 : Int).toNat - k.toNat) = sortL val dn ∧ ns2.length = dn.length + R'.length + 2 ∧ ns.length = dn.length + R'.length + 3 ∧
    Rises (fun i => val (ns2.getD i 0)) k.toNat ((ns2.length : Int) - 1).toNat := by
  have hl := sortL_length val dn
  have h1 : k.toNat = ([h0] ++ R').length := by simp; (first | lia | omega)
  have e' : ns = ([h0] ++ R') ++ (x :: (sortL val dn ++ [z])) := by rw [e]; simp
  refine ⟨?_, ?_, ?_, ?_, ?_, ?_, ?_⟩
  · rw [e', h1, List.getD_eq_getElem?_getD, List.getElem?_append_right (Nat.le_refl _), Nat.sub_self]; rfl
  · rw [e', h1]; simp
  · rw [e', h1, List.take_left, e2, List.drop_append, List.drop_of_length_le (Nat.le_succ _), List.nil_append, Nat.add_sub_cancel_left]; rfl
  · rw [e2, h1, List.drop_left]
    have : (([h0] ++ R') ++ (sortL val dn ++ [z])).length - (- -1 : Int).toNat - ([h0] ++ R').length = (sortL val dn).length := by
      simp [hl]; (first | lia | omega)
    rw [this, List.take_left]
  · rw [e2]; simp [hl]; (first | lia | omega)
  · rw [e]; simp [hl]; (first | lia | omega)
  · rw [e2, h1]
    have := rises_seg (pre := [h0] ++ R') (S := sortL val dn) (post := [z]) (sortL_sorted val dn)
    have q : (((([h0] ++ R') ++ (sortL val dn ++ [z])).length : Int) - 1).toNat = ([h0] ++ R').length + (sortL val dn).length := by simp; (first | lia | omega)
    rw [q]
    exact this
theorem rear_end {val : Int → Int} {h0 z x : Int} {tx : Tok} {dn R' : List Int} {ns2 : List Int} {vs2 : List Value} {k : Int} {r r2 : Nat} (hk : k = 1 + (R'.length : Int)) (e2 : ns2 = ([h0] ++ R') ++ (sortL val dn ++ [z])) (hI : IntsAre vs2 ns2)
    (c1 : Cut (· < val x) (fun i => val ((sortL val dn).getD i 0)) 0 (sortL val dn).length r) {hi : Int} (hhi : hi = (ns2.length : Int) - 1) (c2 : Cut (· < val x) (fun i => val (ns2.getD i 0)) k.toNat hi.toNat r2) :
    IntsAre (vs2.take r2 ++ .int x tx :: vs2.drop r2) (([h0] ++ R') ++ (sortL val (x :: dn) ++ [z])) ∧ movL val dn + r = movL val (x :: dn) := by
  have hl := sortL_length val dn
  subst hhi
  subst e2
  obtain ⟨d1, d2, d3, d4⟩ := cut_seg (p := (· < val x)) c2 (by simp; (first | lia | omega)) (by simp; (first | lia | omega))
  have c1' : Cut (· < val x) (fun i => val (([] ++ (sortL val dn ++ [])).getD i 0)) 0 (sortL val dn).length r := by simpa using c1
  obtain ⟨_, d6, d7, d5⟩ := cut_seg (p := (· < val x)) c1' rfl (by simp)
  constructor
  · have := IntsAre.append (hI.take r2) (IntsAre.cons x tx (hI.drop r2))
    rw [d2, d3] at this
    refine cast_ints this ?_
    show _ = ([h0] ++ R') ++ (putL val x (sortL val dn) ++ [z])
    unfold putL; simp
  · show _ = movL val dn + ((sortL val dn).filter (fun y => decide (val y < val x))).length
    have q := congrArg List.length d6
    have q2 := congrArg List.length d7
    simp at q q2 d5
    (first | lia | omega)
section
variable {w : World} {mean : ExcName → Option Value} {mg mb : Str → Option Value}
  {dp un : Nat} {gd : Option (List Code)} {cn : Str} {cs : Scope} {a : Addr} {ccd : Value} {cl : List (Str × Addr)} {outer : List Env} {A₀ : Around} {base h₀ : Heap} {L l : Addr} {m : Str → Option Value} {s : Shared} {Q E : Value → Shared → Prop} {rest : List (Addr × Obj)}
  {vs : List Value} {h0 z : Int} {mid : List Int} {k : Nat}
  (B : Below A₀ base outer h₀) (F : Fr h₀ L s.heap m) (X : (hd.heap_39 w.params).In h₀) (N : News h₀ L s.heap ((l, listOf vs.toArray k) :: rest)) (T : TopM mean mg mb h₀) (hk : cs.kind = .function)
include B F X N T hk
section
theorem setup14 : True := by
  k_with_none
  k_with "enter" => (refine code_def (by k_asm) (by k_asm) (by k_asm) (by k_asm) (by k_asm) (by exact rfl) (by exact rfl) (by assumption) (by k_is) (by k_is) (by ktr_room) (by first | exact BindsTo.of_eq rfl | (refine kp_binds (by k_in) (by exact fun _ => rfl))) (by exact locs rfl) ?_ (by exact rfl) (by exact rfl) (by exact rfl) (by decide); k_whole; intro g' L' h' FG' F' N' B' X' T'; (try dsimp only); (try k_fold))
  k_with "call builtin:len" => (k_here; (with_reducible show wpAny _ _ (call (Value.builtin "len") [Value.ref _]) _ _ _); k_dflt (refine lenL (by k_asm) (by walk_at "mem") (by walk_at "len_fits") ?_; k_whole))
  k_with "call builtin:list.insert" => (k_here; k_dflt (refine insL (by k_asm) (by k_asm) (by (first | lia | omega)) (by (first | lia | omega)) (by k_upd) (by walk_at "len_fits") ?_; k_whole); intro h' F' N'; (try k_sweep))
  k_with "addcore" => (k_here; (with_reducible show wpAny _ _ (binaryOp _ (Value.ref _) (Value.ref _)) _ _ _); k_dflt (refine addL (by k_asm) (by k_asm) (by exact News.isList (by assumption) (by walk_at "mem")) (by exact News.isList (by assumption) (by walk_at "mem")) ?_ (by walk_at "len_fits")))
  k_with "newcore" => (k_here; k_dflt (refine newList_K (by k_asm) (by k_asm) ?_; k_whole))
  k_with "call builtin:list.pop" => (k_here; (with_reducible show wpAny _ _ (call (Value.builtin _) [Value.ref _, _]) _ _ _); k_dflt (refine popL (by k_asm) (by k_asm) (by (first | lia | omega)) (by assumption) (by walk_at "len_fits") (by k_upd) ?_; k_whole); intro h' F' N'; (try k_sweep))
  k_with "subscriptTail Name Slice ref ref" => (k_here; k_dflt (refine kmk_slice_ints (by k_asm) (by k_asm) (by kmk_list) (by kmk_part) (by kmk_part) (by assumption) (by first | exact cast_ints (kmk_run (by assumption) (by (first | lia | omega)) (by (first | lia | omega))) (by assumption) | exact cast_ints (kmk_run_neg (by assumption) (by (first | lia | omega)) (by (first | lia | omega))) (by assumption)) (by exact rfl) ?_ (by with_unfolding_all rfl) (by kmk_pure) (by ((rw [sizeLine_eq]; (simp only [List.size_toArray]); (simp only [List.length_append, List.length_take, List.length_drop]); (first | lia | omega))))); intro D' ws' h' F' N' l1 hI' hC' hL'; (try k_lt l1))
  k_with "call ref" => (k_here; k_dflt (refine bisR_none2 (by k_asm) (by k_asm) (by k_asm) (by k_asm) (by k_asm) (by first | exact rfl | assumption) (by walk_at "mem") (by assumption) (by (first | lia | omega)) (by assumption) (by ktr_room) (by ktr_units) ?_); intro rb' tb' hb' tkb' Fb' Nb' hCb'; (try dsimp only); (try k_fold))
  k_with "call ref" => (k_here; k_dflt (refine insR_none (by k_asm) (by k_asm) (by k_asm) (by exact pick3 (by k_asm)) (by k_asm) (by first | exact rfl | assumption) (by assumption) (by assumption) (by (first | lia | omega)) (by (first | lia | omega)) (by (first | lia | omega)) (by (first | lia | omega)) (by first | assumption | (refine Rises.cast (by assumption) ?_; (first | lia | omega))) (by ktr_room) (by ktr_units) ?_); intro rb' hb' tkb' Fb' Nb' hCb'; (try dsimp only); (try k_fold))
  k_with "call ref" => (k_here; k_dflt (refine bisL_none2 (by k_asm) (by k_asm) (by k_asm) (by k_asm) (by k_asm) (by first | exact rfl | assumption) (by walk_at "mem") (by assumption) (by (first | lia | omega)) (by assumption) (by ktr_room) (by ktr_units) ?_); intro rb' tb' hb' tkb' Fb' Nb' hCb'; (try dsimp only); (try k_fold))
  k_with "call ref" => (k_here; k_dflt (refine insL_none (by k_asm) (by k_asm) (by k_asm) (by exact pick3 (by k_asm)) (by k_asm) (by first | exact rfl | assumption) (by assumption) (by assumption) (by (first | lia | omega)) (by (first | lia | omega)) (by (first | lia | omega)) (by (first | lia | omega)) (by first | assumption | (refine Rises.cast (by assumption) ?_; (first | lia | omega))) (by ktr_room) (by ktr_units) ?_); intro rb' hb' tkb' Fb' Nb' hCb'; (try dsimp only); (try k_fold))
  exact True.intro
set_option maxHeartbeats 8000000 in
set_option maxRecDepth 100000 in
theorem front_none (hne : ∀ p ∈ rest, p.1 ≠ l) (hI : IntsAre vs ([h0] ++ (mid ++ [z]))) (hns : mid.length ≤ 900)
    (hd : dp + 16 < recursionLimit) (hu : un + 128 < cLine)
    (hret : ∀ (vs' : List Value) (k' : Nat) t (h' : Heap) (tk' : Nat), Fr h₀ L h' m → News h₀ L h' ((l, listOf vs'.toArray k') :: rest) → IntsAre vs' ([h0] ++ (sortR id mid ++ [z])) → Q (.int (movR id mid) t) { s with heap := h', toks := tk' }) :
    wpAny (model (RowW.prog (OpenRow.toRowW (OpenLaw.row PySem.Challenge.rw_sn0020_01))) w) (ktrTop dp un gd cn cs L a ccd cl outer) (call (.ref 112) [.ref l, .none] []) Q E s := by
  revert X; k_fill; intro X
  have hvl := hI.length
  simp only [List.length_append, List.length_cons, List.length_nil] at hvl
  refine wpAny_call ?_
  k_dflt (walk_at "enter")
  k_with "pyIter ref" => refine Hold.out ?_
  k_steps
  (with_reducible rename Fr _ _ _ _ => F'); (with_reducible rename News _ _ _ _ => N')
  (with_reducible rename IntsAre _ _ => hI0)
  (with_reducible rename IsRange _ _ _ _ _ _ _ _ => hR)
  refine ⟨?_⟩
  obtain ⟨u0, tm0, F'⟩ := frI1 (x := "moves") (i := 0) [("row", .ref l), ("key", .none)] F' (by walk_at "all_rfl") ⟨_, rfl⟩
  with_unfolding_all refine' forRange (σ := FrS) (n := mid.length) (fun c => (l, listOf c.vs.toArray c.kk) :: rest) (fun c => [("row", .ref l), ("key", .none), ("moves", .int c.mv c.tm)]) (FrP id h0 z mid) ⟨vs, [h0] ++ (mid ++ [z]), 0, tm0, k⟩ ?hh hR ?small ?hn F' N' ?hl ?hk ?hp ?turn ?done ?hx
  case hh => rfl
  case small => exact small_one (by (first | lia | omega)) (by (first | lia | omega)) (by simp; (first | lia | omega)) (by simp; (first | lia | omega))
  case hn => rw [rangeSize_nat]; simp
  case hl => intro _ h; exact h
  case hk => walk_at "all_rfl"
  case hp => exact ⟨hI0, [], mid, rfl, rfl, rfl, rfl⟩
  case hx => intro c; walk_at "all_ne"
  case done =>
    rintro ⟨vs', ns', mv', tm', kk'⟩ u h tk hP F1 N1
    dsimp only at F1 N1
    clear F' N' hR
    obtain ⟨hI1, hP⟩ := hP
    k_steps
    rename_i kF kN Tc' kX
    obtain ⟨dn, R, e1, e2, e3, e4⟩ := hP
    dsimp only at e3 e4
    have hR0 : R = [] := List.length_eq_zero_iff.mp (by have := congrArg List.length e1; simp at this; (first | lia | omega))
    subst hR0
    rw [List.append_nil] at e1
    subst e1
    rw [e3] at hI1
    rw [e4]
    exact hret _ _ _ _ _ kF kN hI1
  case turn =>
    rintro ⟨vs', ns', mv', tm', kk'⟩ i kx t u h tk I oI hi hkx hP hIne F1 N1
    dsimp only [envOf, envX] at F1 N1 hIne
    have hIl : I ≠ l := (hIne _ (.head _)).symm
    clear F' N' hR
    obtain ⟨hI1, hP⟩ := hP
    obtain ⟨dn, R, hmid, hdi, e3, e4⟩ := hP
    dsimp only at hI1 e3 e4
    obtain ⟨x, R', rfl⟩ : ∃ x R', R = x :: R' := by
      cases R with
      | nil => rw [List.append_nil] at hmid; subst hmid; (first | lia | omega)
      | cons x R' => exact ⟨x, R', rfl⟩
    have hkx' : kx = 1 + (dn.length : Int) := by (first | lia | omega)
    obtain ⟨ns2, e5⟩ : ∃ n2, n2 = [h0] ++ (sortR id dn ++ (R' ++ [z])) := ⟨_, rfl⟩
    obtain ⟨f1, f2, f3, f4, f5, f7, f6⟩ := front_facts (val := id) hkx' e3 e5
    have hIv : IntsAre (vs'.take kx.toNat ++ vs'.drop (kx.toNat + 1)) ns2 := cast_ints (IntsAre.append (hI1.take _) (hI1.drop _)) f3
    obtain ⟨tx, hx⟩ := intsAt hI1 kx.toNat f2
    rw [f1] at hx
    have hvl1 := hI1.length
    have hvl2 := hIv.length
    have hrS : Rises (fun i => id ((sortR id dn).getD i 0)) 0 (sortR id dn).length := rises_all (sortR_sorted id dn)
    have hne2 : ∀ p ∈ (I, oI) :: rest, p.1 ≠ l := ne_cons hIl hne
    have hslen : (sortR id dn).length = dn.length := sortR_length id dn
    have hdn : mid.length = dn.length + (R'.length + 1) := by rw [hmid]; simp
    clear hkx hvl
    (try clear hml)
    skip
    k_with "FPost" => (dsimp only [FPost])
    k_with "FEnd" => refine Hold.out ?_
    k_steps
    (with_reducible rename Fr _ _ _ _ => F2); (with_reducible rename News _ _ _ _ => N2); (with_reducible rename Cut _ _ _ _ _ => c2)
    have fin := front_end (val := id) (tx := tx) hkx' e5 hIv (by assumption) c2
    exact ⟨fEnd ⟨_, [h0] ++ (sortR id (dn ++ [x]) ++ (R' ++ [z])), _, _, _⟩ F2 N2 led2 (.tail _ (.head _)) (ne_same hIne) (by walk_at "all_rfl") ⟨fin.1, dn ++ [x], R', by rw [hmid]; simp, by simp [hdi], rfl, by dsimp only; rw [e4]; exact fin.2⟩⟩
theorem setup15 : True := by
  k_with_none
  k_with "enter" => (refine code_def (by k_asm) (by k_asm) (by k_asm) (by k_asm) (by k_asm) (by exact rfl) (by exact rfl) (by assumption) (by k_is) (by k_is) (by ktr_room) (by first | exact BindsTo.of_eq rfl | (refine kp_binds (by k_in) (by exact fun _ => rfl))) (by exact locs rfl) ?_ (by exact rfl) (by exact rfl) (by exact rfl) (by decide); k_whole; intro g' L' h' FG' F' N' B' X' T'; (try dsimp only); (try k_fold))
  k_with "call builtin:len" => (k_here; (with_reducible show wpAny _ _ (call (Value.builtin "len") [Value.ref _]) _ _ _); k_dflt (refine lenL (by k_asm) (by walk_at "mem") (by walk_at "len_fits") ?_; k_whole))
  k_with "call builtin:list.insert" => (k_here; k_dflt (refine insL (by k_asm) (by k_asm) (by (first | lia | omega)) (by (first | lia | omega)) (by k_upd) (by walk_at "len_fits") ?_; k_whole); intro h' F' N'; (try k_sweep))
  k_with "addcore" => (k_here; (with_reducible show wpAny _ _ (binaryOp _ (Value.ref _) (Value.ref _)) _ _ _); k_dflt (refine addL (by k_asm) (by k_asm) (by exact News.isList (by assumption) (by walk_at "mem")) (by exact News.isList (by assumption) (by walk_at "mem")) ?_ (by walk_at "len_fits")))
  k_with "newcore" => (k_here; k_dflt (refine newList_K (by k_asm) (by k_asm) ?_; k_whole))
  k_with "call builtin:list.pop" => (k_here; (with_reducible show wpAny _ _ (call (Value.builtin _) [Value.ref _, _]) _ _ _); k_dflt (refine popL (by k_asm) (by k_asm) (by (first | lia | omega)) (by assumption) (by walk_at "len_fits") (by k_upd) ?_; k_whole); intro h' F' N'; (try k_sweep))
  k_with "subscriptTail Name Slice ref ref" => (k_here; k_dflt (refine kmk_slice_ints (by k_asm) (by k_asm) (by kmk_list) (by kmk_part) (by kmk_part) (by assumption) (by first | exact cast_ints (kmk_run (by assumption) (by (first | lia | omega)) (by (first | lia | omega))) (by assumption) | exact cast_ints (kmk_run_neg (by assumption) (by (first | lia | omega)) (by (first | lia | omega))) (by assumption)) (by exact rfl) ?_ (by with_unfolding_all rfl) (by kmk_pure) (by ((rw [sizeLine_eq]; (simp only [List.size_toArray]); (simp only [List.length_append, List.length_take, List.length_drop]); (first | lia | omega))))); intro D' ws' h' F' N' l1 hI' hC' hL'; (try k_lt l1))
  k_with "call ref" => (k_here; k_dflt (refine bisR_none2 (by k_asm) (by k_asm) (by k_asm) (by k_asm) (by k_asm) (by first | exact rfl | assumption) (by walk_at "mem") (by assumption) (by (first | lia | omega)) (by assumption) (by ktr_room) (by ktr_units) ?_); intro rb' tb' hb' tkb' Fb' Nb' hCb'; (try dsimp only); (try k_fold))
  k_with "call ref" => (k_here; k_dflt (refine insR_none (by k_asm) (by k_asm) (by k_asm) (by exact pick3 (by k_asm)) (by k_asm) (by first | exact rfl | assumption) (by assumption) (by assumption) (by (first | lia | omega)) (by (first | lia | omega)) (by (first | lia | omega)) (by (first | lia | omega)) (by first | assumption | (refine Rises.cast (by assumption) ?_; (first | lia | omega))) (by ktr_room) (by ktr_units) ?_); intro rb' hb' tkb' Fb' Nb' hCb'; (try dsimp only); (try k_fold))
  k_with "call ref" => (k_here; k_dflt (refine bisL_none2 (by k_asm) (by k_asm) (by k_asm) (by k_asm) (by k_asm) (by first | exact rfl | assumption) (by walk_at "mem") (by assumption) (by (first | lia | omega)) (by assumption) (by ktr_room) (by ktr_units) ?_); intro rb' tb' hb' tkb' Fb' Nb' hCb'; (try dsimp only); (try k_fold))
  k_with "call ref" => (k_here; k_dflt (refine insL_none (by k_asm) (by k_asm) (by k_asm) (by exact pick3 (by k_asm)) (by k_asm) (by first | exact rfl | assumption) (by assumption) (by assumption) (by (first | lia | omega)) (by (first | lia | omega)) (by (first | lia | omega)) (by (first | lia | omega)) (by first | assumption | (refine Rises.cast (by assumption) ?_; (first | lia | omega))) (by ktr_room) (by ktr_units) ?_); intro rb' hb' tkb' Fb' Nb' hCb'; (try dsimp only); (try k_fold))
  exact True.intro
set_option maxHeartbeats 8000000 in
set_option maxRecDepth 100000 in
theorem rear_none (hne : ∀ p ∈ rest, p.1 ≠ l) (hI : IntsAre vs ([h0] ++ (mid ++ [z]))) (hns : mid.length ≤ 900)
    (hd : dp + 16 < recursionLimit) (hu : un + 128 < cLine)
    (hret : ∀ (vs' : List Value) (k' : Nat) t (h' : Heap) (tk' : Nat), Fr h₀ L h' m → News h₀ L h' ((l, listOf vs'.toArray k') :: rest) → IntsAre vs' ([h0] ++ (sortL id mid ++ [z])) → Q (.int (movL id mid) t) { s with heap := h', toks := tk' }) :
    wpAny (model (RowW.prog (OpenRow.toRowW (OpenLaw.row PySem.Challenge.rw_sn0020_01))) w) (ktrTop dp un gd cn cs L a ccd cl outer) (call (.ref 119) [.ref l, .none] []) Q E s := by
  revert X; k_fill; intro X
  have hvl := hI.length
  simp only [List.length_append, List.length_cons, List.length_nil] at hvl
  refine wpAny_call ?_
  k_dflt (walk_at "enter")
  k_with "pyIter ref" => refine Hold.out ?_
  k_steps
  (with_reducible rename Fr _ _ _ _ => F'); (with_reducible rename News _ _ _ _ => N')
  (with_reducible rename IntsAre _ _ => hI0)
  (with_reducible rename IsRange _ _ _ _ _ _ _ _ => hR)
  refine ⟨?_⟩
  obtain ⟨u0, tm0, F'⟩ := frI1 (x := "moves") (i := 0) [("row", .ref l), ("key", .none)] F' (by walk_at "all_rfl") ⟨_, rfl⟩
  with_unfolding_all refine' forRange (σ := FrS) (n := mid.length) (fun c => (l, listOf c.vs.toArray c.kk) :: rest) (fun c => [("row", .ref l), ("key", .none), ("moves", .int c.mv c.tm)]) (ReP id h0 z mid) ⟨vs, [h0] ++ (mid ++ [z]), 0, tm0, k⟩ ?hh hR ?small ?hn F' N' ?hl ?hk ?hp ?turn ?done ?hx
  case hh => rfl
  case small => exact small_down (by (first | lia | omega)) (by (first | lia | omega)) (by (first | lia | omega)) (by (first | lia | omega))
  case hn => rw [rangeSize_downNat]; (try simp); (first | lia | omega)
  case hl => intro _ h; exact h
  case hk => walk_at "all_rfl"
  case hp => exact ⟨hI0, mid, [], by simp, rfl, by simp [sortL], rfl⟩
  case hx => intro c; walk_at "all_ne"
  case done =>
    rintro ⟨vs', ns', mv', tm', kk'⟩ u h tk hP F1 N1
    dsimp only at F1 N1
    clear F' N' hR
    obtain ⟨hI1, hP⟩ := hP
    k_steps
    rename_i kF kN Tc' kX
    obtain ⟨R, dn, e1, e2, e3, e4⟩ := hP
    dsimp only at e3 e4
    have hR0 : R = [] := List.length_eq_zero_iff.mp (by have := congrArg List.length e1; simp at this; (first | lia | omega))
    subst hR0
    rw [List.nil_append] at e1
    subst e1
    rw [e3] at hI1
    rw [e4]
    exact hret _ _ _ _ _ kF kN hI1
  case turn =>
    rintro ⟨vs', ns', mv', tm', kk'⟩ i kx t u h tk I oI hi hkx hP hIne F1 N1
    dsimp only [envOf, envX] at F1 N1 hIne
    have hIl : I ≠ l := (hIne _ (.head _)).symm
    clear F' N' hR
    obtain ⟨hI1, hP⟩ := hP
    obtain ⟨R, dn, hmid, hdi, e3, e4⟩ := hP
    dsimp only at hI1 e3 e4
    obtain ⟨R', x, rfl⟩ : ∃ R' x, R = R' ++ [x] := by
      rcases List.eq_nil_or_concat R with rfl | ⟨R', x, rfl⟩
      · rw [List.nil_append] at hmid; subst hmid; (first | lia | omega)
      · exact ⟨R', x, by simp⟩
    have hml := congrArg List.length hmid
    simp at hml hkx
    have hkx' : kx = 1 + (R'.length : Int) := by (first | lia | omega)
    obtain ⟨ns2, e5⟩ : ∃ n2, n2 = ([h0] ++ R') ++ (sortL id dn ++ [z]) := ⟨_, rfl⟩
    obtain ⟨f1, f2, f3, f4, f5, f7, f6⟩ := rear_facts (val := id) hkx' e3 e5
    have hIv : IntsAre (vs'.take kx.toNat ++ vs'.drop (kx.toNat + 1)) ns2 := cast_ints (IntsAre.append (hI1.take _) (hI1.drop _)) f3
    obtain ⟨tx, hx⟩ := intsAt hI1 kx.toNat f2
    rw [f1] at hx
    have hvl1 := hI1.length
    have hvl2 := hIv.length
    have hrS : Rises (fun i => id ((sortL id dn).getD i 0)) 0 (sortL id dn).length := rises_all (sortL_sorted id dn)
    have hne2 : ∀ p ∈ (I, oI) :: rest, p.1 ≠ l := ne_cons hIl hne
    have hslen : (sortL id dn).length = dn.length := sortL_length id dn
    have hdn : mid.length = dn.length + (R'.length + 1) := by rw [hmid]; simp; (first | lia | omega)
    clear hkx hvl
    (try clear hml)
    skip
    k_with "FPost" => (dsimp only [FPost])
    k_with "FEnd" => refine Hold.out ?_
    k_steps
    (with_reducible rename Fr _ _ _ _ => F2); (with_reducible rename News _ _ _ _ => N2); (with_reducible rename Cut _ _ _ _ _ => c2)
    have fin := rear_end (val := id) (tx := tx) hkx' e5 hIv (by assumption) (by (first | lia | omega)) c2
    exact ⟨fEnd ⟨_, ([h0] ++ R') ++ (sortL id (x :: dn) ++ [z]), _, _, _⟩ F2 N2 led2 (.tail _ (.head _)) (ne_same hIne) (by walk_at "all_rfl") ⟨fin.1, R', x :: dn, by rw [hmid]; simp, by simp [hdi], rfl, by dsimp only; rw [e4]; exact fin.2⟩⟩
end
section
local macro_rules | `(tactic| walk_at "FnAt") => `(tactic| (k_dflt (exact FnAt.of (by k_asm) (by walk_at "mem"))))
local macro_rules | `(tactic| first | assumption | walk_at "key_dom") => `(tactic| ((with_reducible rename (∀ i : Nat, _ ≤ i → i < _ → _) => hdm); exact hdm _ (by (try rw [fdiv2]); (first | lia | omega)) (by (try rw [fdiv2]); (first | lia | omega))))
theorem setup16 : True := by
  k_with_none
  k_with "enter" => (refine code_def (by k_asm) (by k_asm) (by k_asm) (by k_asm) (by k_asm) (by exact rfl) (by exact rfl) (by assumption) (by k_is) (by k_is) (by ktr_room) (by first | exact BindsTo.of_eq rfl | (refine kp_binds (by k_in) (by exact fun _ => rfl))) (by exact locs rfl) ?_ (by exact rfl) (by exact rfl) (by exact rfl) (by decide); k_whole; intro g' L' h' FG' F' N' B' X' T'; (try dsimp only); (try k_fold))
  k_with "call builtin:len" => (k_here; (with_reducible show wpAny _ _ (call (Value.builtin "len") [Value.ref _]) _ _ _); k_dflt (refine lenL (by k_asm) (by walk_at "mem") (by walk_at "len_fits") ?_; k_whole))
  k_with "call builtin:list.insert" => (k_here; k_dflt (refine insL (by k_asm) (by k_asm) (by (first | lia | omega)) (by (first | lia | omega)) (by k_upd) (by walk_at "len_fits") ?_; k_whole); intro h' F' N'; (try k_sweep))
  k_with "addcore" => (k_here; (with_reducible show wpAny _ _ (binaryOp _ (Value.ref _) (Value.ref _)) _ _ _); k_dflt (refine addL (by k_asm) (by k_asm) (by exact News.isList (by assumption) (by walk_at "mem")) (by exact News.isList (by assumption) (by walk_at "mem")) ?_ (by walk_at "len_fits")))
  k_with "newcore" => (k_here; k_dflt (refine newList_K (by k_asm) (by k_asm) ?_; k_whole))
  k_with "call builtin:list.pop" => (k_here; (with_reducible show wpAny _ _ (call (Value.builtin _) [Value.ref _, _]) _ _ _); k_dflt (refine popL (by k_asm) (by k_asm) (by (first | lia | omega)) (by assumption) (by walk_at "len_fits") (by k_upd) ?_; k_whole); intro h' F' N'; (try k_sweep))
  k_with "subscriptTail Name Slice ref ref" => (k_here; k_dflt (refine kmk_slice_ints (by k_asm) (by k_asm) (by kmk_list) (by kmk_part) (by kmk_part) (by assumption) (by first | exact cast_ints (kmk_run (by assumption) (by (first | lia | omega)) (by (first | lia | omega))) (by assumption) | exact cast_ints (kmk_run_neg (by assumption) (by (first | lia | omega)) (by (first | lia | omega))) (by assumption)) (by exact rfl) ?_ (by with_unfolding_all rfl) (by kmk_pure) (by ((rw [sizeLine_eq]; (simp only [List.size_toArray]); (simp only [List.length_append, List.length_take, List.length_drop]); (first | lia | omega))))); intro D' ws' h' F' N' l1 hI' hC' hL'; (try k_lt l1))
  k_with "call ref" => (k_here; k_dflt (refine bisR_key2 (by k_asm) (by k_asm) (by k_asm) (by k_asm) (by k_asm) (by first | exact rfl | assumption) (by assumption) (by walk_at "need") (by walk_at "mem") (by walk_at "mem") (by assumption) (by (first | lia | omega)) (by first | assumption | (refine dom_cast (by assumption) ?_; (first | lia | omega))) (by assumption) (by ktr_room) (by ktr_units) ?_); intro rb' tb' hb' tkb' Fb' Nb' hCb'; (try dsimp only); (try k_fold))
  k_with "call ref" => (k_here; k_dflt (refine insR_key (by k_asm) (by k_asm) (by k_asm) (by exact pick3 (by k_asm)) (by k_asm) (by first | exact rfl | assumption) (by assumption) (by walk_at "need") (by walk_at "mem") (by assumption) (by assumption) (by assumption) (by (first | lia | omega)) (by (first | lia | omega)) (by (first | lia | omega)) (by (first | lia | omega)) (by first | assumption | (refine dom_cast (by assumption) ?_; (first | lia | omega))) (by first | assumption | (refine Rises.cast (by assumption) ?_; (first | lia | omega))) (by ktr_room) (by ktr_units) ?_); intro rb' hb' tkb' Fb' Nb' hCb'; (try dsimp only); (try k_fold))
  k_with "call ref" => (k_here; k_dflt (refine bisL_key2 (by k_asm) (by k_asm) (by k_asm) (by k_asm) (by k_asm) (by first | exact rfl | assumption) (by assumption) (by walk_at "need") (by walk_at "mem") (by walk_at "mem") (by assumption) (by (first | lia | omega)) (by first | assumption | (refine dom_cast (by assumption) ?_; (first | lia | omega))) (by assumption) (by ktr_room) (by ktr_units) ?_); intro rb' tb' hb' tkb' Fb' Nb' hCb'; (try dsimp only); (try k_fold))
  k_with "call ref" => (k_here; k_dflt (refine insL_key (by k_asm) (by k_asm) (by k_asm) (by exact pick3 (by k_asm)) (by k_asm) (by first | exact rfl | assumption) (by assumption) (by walk_at "need") (by walk_at "mem") (by assumption) (by assumption) (by assumption) (by (first | lia | omega)) (by (first | lia | omega)) (by (first | lia | omega)) (by (first | lia | omega)) (by first | assumption | (refine dom_cast (by assumption) ?_; (first | lia | omega))) (by first | assumption | (refine Rises.cast (by assumption) ?_; (first | lia | omega))) (by ktr_room) (by ktr_units) ?_); intro rb' hb' tkb' Fb' Nb' hCb'; (try dsimp only); (try k_fold))
  k_with "callWith ref" => (k_here; k_dflt (refine callWith_F (by exact FnAt.of (by k_asm) (by walk_at "mem")) ?_; k_whole))
  k_with "call ref" => (k_here; k_dflt (refine KeyOk.use (by assumption) (by k_asm) (by k_asm) (by k_asm) (by k_asm) (by k_asm) (by first | exact rfl | assumption) (by walk_at "need") (by first | assumption | walk_at "key_dom") (by ktr_room) (by ktr_units) ?_); intro tq' hq' tkq' Fq' Nq'; (try dsimp only); (try k_fold))
  exact True.intro
set_option maxHeartbeats 8000000 in
set_option maxRecDepth 100000 in
theorem front_key {q : Addr} {oc : Value} {od : Option Addr} {fd : FuncData} {sl : Array (Option Value)} {val : Int → Int} {dom : Int → Prop} {need : List (Addr × Obj)} (K : KeyOk w q val dom need) (hneed : ∀ p ∈ need, p ∈ rest) (hq : (q, (⟨oc, od, .func fd, sl⟩ : Obj)) ∈ rest) (hdom : ∀ x ∈ mid, dom x) (hne : ∀ p ∈ rest, p.1 ≠ l) (hI : IntsAre vs ([h0] ++ (mid ++ [z]))) (hns : mid.length ≤ 900)
    (hd : dp + 16 < recursionLimit) (hu : un + 128 < cLine)
    (hret : ∀ (vs' : List Value) (k' : Nat) t (h' : Heap) (tk' : Nat), Fr h₀ L h' m → News h₀ L h' ((l, listOf vs'.toArray k') :: rest) → IntsAre vs' ([h0] ++ (sortR val mid ++ [z])) → Q (.int (movR val mid) t) { s with heap := h', toks := tk' }) :
    wpAny (model (RowW.prog (OpenRow.toRowW (OpenLaw.row PySem.Challenge.rw_sn0020_01))) w) (ktrTop dp un gd cn cs L a ccd cl outer) (call (.ref 112) [.ref l, .ref q] []) Q E s := by
  revert X; k_fill; intro X
  have hvl := hI.length
  simp only [List.length_append, List.length_cons, List.length_nil] at hvl
  refine wpAny_call ?_
  k_dflt (walk_at "enter")
  k_with "pyIter ref" => refine Hold.out ?_
  k_steps
  (with_reducible rename Fr _ _ _ _ => F'); (with_reducible rename News _ _ _ _ => N')
  (with_reducible rename IntsAre _ _ => hI0)
  (with_reducible rename IsRange _ _ _ _ _ _ _ _ => hR)
  refine ⟨?_⟩
  obtain ⟨u0, tm0, F'⟩ := frI1 (x := "moves") (i := 0) [("row", .ref l), ("key", .ref q)] F' (by walk_at "all_rfl") ⟨_, rfl⟩
  with_unfolding_all refine' forRange (σ := FrS) (n := mid.length) (fun c => (l, listOf c.vs.toArray c.kk) :: rest) (fun c => [("row", .ref l), ("key", .ref q), ("moves", .int c.mv c.tm)]) (FrP val h0 z mid) ⟨vs, [h0] ++ (mid ++ [z]), 0, tm0, k⟩ ?hh hR ?small ?hn F' N' ?hl ?hk ?hp ?turn ?done ?hx
  case hh => rfl
  case small => exact small_one (by (first | lia | omega)) (by (first | lia | omega)) (by simp; (first | lia | omega)) (by simp; (first | lia | omega))
  case hn => rw [rangeSize_nat]; simp
  case hl => intro _ h; exact h
  case hk => walk_at "all_rfl"
  case hp => exact ⟨hI0, [], mid, rfl, rfl, rfl, rfl⟩
  case hx => intro c; walk_at "all_ne"
  case done =>
    rintro ⟨vs', ns', mv', tm', kk'⟩ u h tk hP F1 N1
    dsimp only at F1 N1
    clear F' N' hR
    obtain ⟨hI1, hP⟩ := hP
    k_steps
    rename_i kF kN Tc' kX
    obtain ⟨dn, R, e1, e2, e3, e4⟩ := hP
    dsimp only at e3 e4
    have hR0 : R = [] := List.length_eq_zero_iff.mp (by have := congrArg List.length e1; simp at this; (first | lia | omega))
    subst hR0
    rw [List.append_nil] at e1
    subst e1
    rw [e3] at hI1
    rw [e4]
    exact hret _ _ _ _ _ kF kN hI1
  case turn =>
    rintro ⟨vs', ns', mv', tm', kk'⟩ i kx t u h tk I oI hi hkx hP hIne F1 N1
    dsimp only [envOf, envX] at F1 N1 hIne
    have hIl : I ≠ l := (hIne _ (.head _)).symm
    clear F' N' hR
    obtain ⟨hI1, hP⟩ := hP
    obtain ⟨dn, R, hmid, hdi, e3, e4⟩ := hP
    dsimp only at hI1 e3 e4
    obtain ⟨x, R', rfl⟩ : ∃ x R', R = x :: R' := by
      cases R with
      | nil => rw [List.append_nil] at hmid; subst hmid; (first | lia | omega)
      | cons x R' => exact ⟨x, R', rfl⟩
    have hkx' : kx = 1 + (dn.length : Int) := by (first | lia | omega)
    obtain ⟨ns2, e5⟩ : ∃ n2, n2 = [h0] ++ (sortR val dn ++ (R' ++ [z])) := ⟨_, rfl⟩
    obtain ⟨f1, f2, f3, f4, f5, f7, f6⟩ := front_facts (val := val) hkx' e3 e5
    have hIv : IntsAre (vs'.take kx.toNat ++ vs'.drop (kx.toNat + 1)) ns2 := cast_ints (IntsAre.append (hI1.take _) (hI1.drop _)) f3
    obtain ⟨tx, hx⟩ := intsAt hI1 kx.toNat f2
    rw [f1] at hx
    have hvl1 := hI1.length
    have hvl2 := hIv.length
    have hrS : Rises (fun i => val ((sortR val dn).getD i 0)) 0 (sortR val dn).length := rises_all (sortR_sorted val dn)
    have hne2 : ∀ p ∈ (I, oI) :: rest, p.1 ≠ l := ne_cons hIl hne
    have hslen : (sortR val dn).length = dn.length := sortR_length val dn
    have hdn : mid.length = dn.length + (R'.length + 1) := by rw [hmid]; simp
    clear hkx hvl
    (try clear hml)
    have hdx : dom x := hdom x (by rw [hmid]; simp)
    have hdS : ∀ i : Nat, 0 ≤ i → i < (sortR val dn).length → dom ((sortR val dn).getD i 0) := fun i _ hi => hdom _ (by
      rw [hmid]; exact List.mem_append_left _ ((sortR_perm val dn).mem_iff.mp (getD_memI hi)))
    have hd2 : ∀ i : Nat, Int.toNat 1 ≤ i → i < kx.toNat → dom (ns2.getD i 0) := fun i h1 h2 => hdom _ (by
      have q : ns2.getD i 0 ∈ sortR val dn := (by rw [e5]; exact mem_seg (pre := [h0]) (by simp at h1 ⊢; (first | lia | omega)) (by simp; (first | lia | omega)))
      rw [hmid]; exact List.mem_append_left _ ((sortR_perm val dn).mem_iff.mp q))
    k_with "FPost" => (dsimp only [FPost])
    k_with "FEnd" => refine Hold.out ?_
    k_steps
    (with_reducible rename Fr _ _ _ _ => F2); (with_reducible rename News _ _ _ _ => N2); (with_reducible rename Cut _ _ _ _ _ => c2)
    have fin := front_end (val := val) (tx := tx) hkx' e5 hIv (by assumption) c2
    exact ⟨fEnd ⟨_, [h0] ++ (sortR val (dn ++ [x]) ++ (R' ++ [z])), _, _, _⟩ F2 N2 led2 (.tail _ (.head _)) (ne_same hIne) (by walk_at "all_rfl") ⟨fin.1, dn ++ [x], R', by rw [hmid]; simp, by simp [hdi], rfl, by dsimp only; rw [e4]; exact fin.2⟩⟩
theorem setup17 : True := by
  k_with_none
  k_with "enter" => (refine code_def (by k_asm) (by k_asm) (by k_asm) (by k_asm) (by k_asm) (by exact rfl) (by exact rfl) (by assumption) (by k_is) (by k_is) (by ktr_room) (by first | exact BindsTo.of_eq rfl | (refine kp_binds (by k_in) (by exact fun _ => rfl))) (by exact locs rfl) ?_ (by exact rfl) (by exact rfl) (by exact rfl) (by decide); k_whole; intro g' L' h' FG' F' N' B' X' T'; (try dsimp only); (try k_fold))
  k_with "call builtin:len" => (k_here; (with_reducible show wpAny _ _ (call (Value.builtin "len") [Value.ref _]) _ _ _); k_dflt (refine lenL (by k_asm) (by walk_at "mem") (by walk_at "len_fits") ?_; k_whole))
  k_with "call builtin:list.insert" => (k_here; k_dflt (refine insL (by k_asm) (by k_asm) (by (first | lia | omega)) (by (first | lia | omega)) (by k_upd) (by walk_at "len_fits") ?_; k_whole); intro h' F' N'; (try k_sweep))
  k_with "addcore" => (k_here; (with_reducible show wpAny _ _ (binaryOp _ (Value.ref _) (Value.ref _)) _ _ _); k_dflt (refine addL (by k_asm) (by k_asm) (by exact News.isList (by assumption) (by walk_at "mem")) (by exact News.isList (by assumption) (by walk_at "mem")) ?_ (by walk_at "len_fits")))
  k_with "newcore" => (k_here; k_dflt (refine newList_K (by k_asm) (by k_asm) ?_; k_whole))
  k_with "call builtin:list.pop" => (k_here; (with_reducible show wpAny _ _ (call (Value.builtin _) [Value.ref _, _]) _ _ _); k_dflt (refine popL (by k_asm) (by k_asm) (by (first | lia | omega)) (by assumption) (by walk_at "len_fits") (by k_upd) ?_; k_whole); intro h' F' N'; (try k_sweep))
  k_with "subscriptTail Name Slice ref ref" => (k_here; k_dflt (refine kmk_slice_ints (by k_asm) (by k_asm) (by kmk_list) (by kmk_part) (by kmk_part) (by assumption) (by first | exact cast_ints (kmk_run (by assumption) (by (first | lia | omega)) (by (first | lia | omega))) (by assumption) | exact cast_ints (kmk_run_neg (by assumption) (by (first | lia | omega)) (by (first | lia | omega))) (by assumption)) (by exact rfl) ?_ (by with_unfolding_all rfl) (by kmk_pure) (by ((rw [sizeLine_eq]; (simp only [List.size_toArray]); (simp only [List.length_append, List.length_take, List.length_drop]); (first | lia | omega))))); intro D' ws' h' F' N' l1 hI' hC' hL'; (try k_lt l1))
  k_with "call ref" => (k_here; k_dflt (refine bisR_key2 (by k_asm) (by k_asm) (by k_asm) (by k_asm) (by k_asm) (by first | exact rfl | assumption) (by assumption) (by walk_at "need") (by walk_at "mem") (by walk_at "mem") (by assumption) (by (first | lia | omega)) (by first | assumption | (refine dom_cast (by assumption) ?_; (first | lia | omega))) (by assumption) (by ktr_room) (by ktr_units) ?_); intro rb' tb' hb' tkb' Fb' Nb' hCb'; (try dsimp only); (try k_fold))
  k_with "call ref" => (k_here; k_dflt (refine insR_key (by k_asm) (by k_asm) (by k_asm) (by exact pick3 (by k_asm)) (by k_asm) (by first | exact rfl | assumption) (by assumption) (by walk_at "need") (by walk_at "mem") (by assumption) (by assumption) (by assumption) (by (first | lia | omega)) (by (first | lia | omega)) (by (first | lia | omega)) (by (first | lia | omega)) (by first | assumption | (refine dom_cast (by assumption) ?_; (first | lia | omega))) (by first | assumption | (refine Rises.cast (by assumption) ?_; (first | lia | omega))) (by ktr_room) (by ktr_units) ?_); intro rb' hb' tkb' Fb' Nb' hCb'; (try dsimp only); (try k_fold))
  k_with "call ref" => (k_here; k_dflt (refine bisL_key2 (by k_asm) (by k_asm) (by k_asm) (by k_asm) (by k_asm) (by first | exact rfl | assumption) (by assumption) (by walk_at "need") (by walk_at "mem") (by walk_at "mem") (by assumption) (by (first | lia | omega)) (by first | assumption | (refine dom_cast (by assumption) ?_; (first | lia | omega))) (by assumption) (by ktr_room) (by ktr_units) ?_); intro rb' tb' hb' tkb' Fb' Nb' hCb'; (try dsimp only); (try k_fold))
  k_with "call ref" => (k_here; k_dflt (refine insL_key (by k_asm) (by k_asm) (by k_asm) (by exact pick3 (by k_asm)) (by k_asm) (by first | exact rfl | assumption) (by assumption) (by walk_at "need") (by walk_at "mem") (by assumption) (by assumption) (by assumption) (by (first | lia | omega)) (by (first | lia | omega)) (by (first | lia | omega)) (by (first | lia | omega)) (by first | assumption | (refine dom_cast (by assumption) ?_; (first | lia | omega))) (by first | assumption | (refine Rises.cast (by assumption) ?_; (first | lia | omega))) (by ktr_room) (by ktr_units) ?_); intro rb' hb' tkb' Fb' Nb' hCb'; (try dsimp only); (try k_fold))
  k_with "callWith ref" => (k_here; k_dflt (refine callWith_F (by exact FnAt.of (by k_asm) (by walk_at "mem")) ?_; k_whole))
  k_with "call ref" => (k_here; k_dflt (refine KeyOk.use (by assumption) (by k_asm) (by k_asm) (by k_asm) (by k_asm) (by k_asm) (by first | exact rfl | assumption) (by walk_at "need") (by first | assumption | walk_at "key_dom") (by ktr_room) (by ktr_units) ?_); intro tq' hq' tkq' Fq' Nq'; (try dsimp only); (try k_fold))
  exact True.intro
set_option maxHeartbeats 8000000 in
set_option maxRecDepth 100000 in
theorem rear_key {q : Addr} {oc : Value} {od : Option Addr} {fd : FuncData} {sl : Array (Option Value)} {val : Int → Int} {dom : Int → Prop} {need : List (Addr × Obj)} (K : KeyOk w q val dom need) (hneed : ∀ p ∈ need, p ∈ rest) (hq : (q, (⟨oc, od, .func fd, sl⟩ : Obj)) ∈ rest) (hdom : ∀ x ∈ mid, dom x) (hne : ∀ p ∈ rest, p.1 ≠ l) (hI : IntsAre vs ([h0] ++ (mid ++ [z]))) (hns : mid.length ≤ 900)
    (hd : dp + 16 < recursionLimit) (hu : un + 128 < cLine)
    (hret : ∀ (vs' : List Value) (k' : Nat) t (h' : Heap) (tk' : Nat), Fr h₀ L h' m → News h₀ L h' ((l, listOf vs'.toArray k') :: rest) → IntsAre vs' ([h0] ++ (sortL val mid ++ [z])) → Q (.int (movL val mid) t) { s with heap := h', toks := tk' }) :
    wpAny (model (RowW.prog (OpenRow.toRowW (OpenLaw.row PySem.Challenge.rw_sn0020_01))) w) (ktrTop dp un gd cn cs L a ccd cl outer) (call (.ref 119) [.ref l, .ref q] []) Q E s := by
  revert X; k_fill; intro X
  have hvl := hI.length
  simp only [List.length_append, List.length_cons, List.length_nil] at hvl
  refine wpAny_call ?_
  k_dflt (walk_at "enter")
  k_with "pyIter ref" => refine Hold.out ?_
  k_steps
  (with_reducible rename Fr _ _ _ _ => F'); (with_reducible rename News _ _ _ _ => N')
  (with_reducible rename IntsAre _ _ => hI0)
  (with_reducible rename IsRange _ _ _ _ _ _ _ _ => hR)
  refine ⟨?_⟩
  obtain ⟨u0, tm0, F'⟩ := frI1 (x := "moves") (i := 0) [("row", .ref l), ("key", .ref q)] F' (by walk_at "all_rfl") ⟨_, rfl⟩
  with_unfolding_all refine' forRange (σ := FrS) (n := mid.length) (fun c => (l, listOf c.vs.toArray c.kk) :: rest) (fun c => [("row", .ref l), ("key", .ref q), ("moves", .int c.mv c.tm)]) (ReP val h0 z mid) ⟨vs, [h0] ++ (mid ++ [z]), 0, tm0, k⟩ ?hh hR ?small ?hn F' N' ?hl ?hk ?hp ?turn ?done ?hx
  case hh => rfl
  case small => exact small_down (by (first | lia | omega)) (by (first | lia | omega)) (by (first | lia | omega)) (by (first | lia | omega))
  case hn => rw [rangeSize_downNat]; (try simp); (first | lia | omega)
  case hl => intro _ h; exact h
  case hk => walk_at "all_rfl"
  case hp => exact ⟨hI0, mid, [], by simp, rfl, by simp [sortL], rfl⟩
  case hx => intro c; walk_at "all_ne"
  case done =>
    rintro ⟨vs', ns', mv', tm', kk'⟩ u h tk hP F1 N1
    dsimp only at F1 N1
    clear F' N' hR
    obtain ⟨hI1, hP⟩ := hP
    k_steps
    rename_i kF kN Tc' kX
    obtain ⟨R, dn, e1, e2, e3, e4⟩ := hP
    dsimp only at e3 e4
    have hR0 : R = [] := List.length_eq_zero_iff.mp (by have := congrArg List.length e1; simp at this; (first | lia | omega))
    subst hR0
    rw [List.nil_append] at e1
    subst e1
    rw [e3] at hI1
    rw [e4]
    exact hret _ _ _ _ _ kF kN hI1
  case turn =>
    rintro ⟨vs', ns', mv', tm', kk'⟩ i kx t u h tk I oI hi hkx hP hIne F1 N1
    dsimp only [envOf, envX] at F1 N1 hIne
    have hIl : I ≠ l := (hIne _ (.head _)).symm
    clear F' N' hR
    obtain ⟨hI1, hP⟩ := hP
    obtain ⟨R, dn, hmid, hdi, e3, e4⟩ := hP
    dsimp only at hI1 e3 e4
    obtain ⟨R', x, rfl⟩ : ∃ R' x, R = R' ++ [x] := by
      rcases List.eq_nil_or_concat R with rfl | ⟨R', x, rfl⟩
      · rw [List.nil_append] at hmid; subst hmid; (first | lia | omega)
      · exact ⟨R', x, by simp⟩
    have hml := congrArg List.length hmid
    simp at hml hkx
    have hkx' : kx = 1 + (R'.length : Int) := by (first | lia | omega)
    obtain ⟨ns2, e5⟩ : ∃ n2, n2 = ([h0] ++ R') ++ (sortL val dn ++ [z]) := ⟨_, rfl⟩
    obtain ⟨f1, f2, f3, f4, f5, f7, f6⟩ := rear_facts (val := val) hkx' e3 e5
    have hIv : IntsAre (vs'.take kx.toNat ++ vs'.drop (kx.toNat + 1)) ns2 := cast_ints (IntsAre.append (hI1.take _) (hI1.drop _)) f3
    obtain ⟨tx, hx⟩ := intsAt hI1 kx.toNat f2
    rw [f1] at hx
    have hvl1 := hI1.length
    have hvl2 := hIv.length
    have hrS : Rises (fun i => val ((sortL val dn).getD i 0)) 0 (sortL val dn).length := rises_all (sortL_sorted val dn)
    have hne2 : ∀ p ∈ (I, oI) :: rest, p.1 ≠ l := ne_cons hIl hne
    have hslen : (sortL val dn).length = dn.length := sortL_length val dn
    have hdn : mid.length = dn.length + (R'.length + 1) := by rw [hmid]; simp; (first | lia | omega)
    clear hkx hvl
    (try clear hml)
    have hdx : dom x := hdom x (by rw [hmid]; simp)
    have hdS : ∀ i : Nat, 0 ≤ i → i < (sortL val dn).length → dom ((sortL val dn).getD i 0) := fun i _ hi => hdom _ (by
      rw [hmid]; exact List.mem_append_right _ ((sortL_perm val dn).mem_iff.mp (getD_memI hi)))
    have hd2 : ∀ i : Nat, kx.toNat ≤ i → i < ((ns2.length : Int) - 1).toNat → dom (ns2.getD i 0) := fun i h1 h2 => hdom _ (by
      have q : ns2.getD i 0 ∈ sortL val dn := (by rw [e5]; exact mem_seg (pre := [h0] ++ R') (by simp; (first | lia | omega)) (by simp; (first | lia | omega)))
      rw [hmid]; exact List.mem_append_right _ ((sortL_perm val dn).mem_iff.mp q))
    k_with "FPost" => (dsimp only [FPost])
    k_with "FEnd" => refine Hold.out ?_
    k_steps
    (with_reducible rename Fr _ _ _ _ => F2); (with_reducible rename News _ _ _ _ => N2); (with_reducible rename Cut _ _ _ _ _ => c2)
    have fin := rear_end (val := val) (tx := tx) hkx' e5 hIv (by assumption) (by (first | lia | omega)) c2
    exact ⟨fEnd ⟨_, ([h0] ++ R') ++ (sortL val (x :: dn) ++ [z]), _, _, _⟩ F2 N2 led2 (.tail _ (.head _)) (ne_same hIne) (by walk_at "all_rfl") ⟨fin.1, R', x :: dn, by rw [hmid]; simp, by simp [hdi], rfl, by dsimp only; rw [e4]; exact fin.2⟩⟩
end
end
end
section
/-! the image, in plain Lean -/
def inn (w : Int → Int) (x : Int) (b : Bool) (s : List Int × List Int) (o : Int) : List Int × List Int :=
  if (decide (w o ≤ x) == b) = true then (s.1 ++ [o] ++ s.2, []) else (s.1, s.2 ++ [o])
def calmOf (w : Int → Int) (im : List Int) (p : Int) : Bool := !im.isEmpty && decide (w (im.getLastD 0) ≤ w p)
def imgStep (w : Int → Int) (im : List Int) (p : Int) : List Int := (im.foldl (inn w (w p) (calmOf w im p)) ([], [])).1 ++ [p]
def imageOf (w : Int → Int) (n : Nat) : List Int := (List.range n).foldl (fun im (p : Nat) => imgStep w im (p : Int)) []
theorem imageOf_succ (w : Int → Int) (n : Nat) : imageOf w (n + 1) = imgStep w (imageOf w n) n := by
  unfold imageOf; rw [List.range_succ, List.foldl_append]; rfl
theorem inn_mem (w : Int → Int) (x : Int) (b : Bool) (P : Int → Prop) : ∀ (l : List Int) (s : List Int × List Int), (∀ o ∈ l, P o) → (∀ o ∈ s.1, P o) → (∀ o ∈ s.2, P o) → ∀ o ∈ (l.foldl (inn w x b) s).1, P o
  | [], _, _, h1, _ => h1
  | o :: l, s, h, h1, h2 => by
    rw [List.foldl_cons]
    have ho := h o (.head _)
    refine inn_mem w x b P l _ (fun o' ho' => h o' (.tail _ ho')) ?_ ?_
    · intro o' ho'
      unfold inn at ho'
      split at ho'
      · simp only [List.mem_append, List.mem_singleton] at ho'
        rcases ho' with (ho' | rfl) | ho'
        · exact h1 _ ho'
        · exact ho
        · exact h2 _ ho'
      · exact h1 _ ho'
    · intro o' ho'
      unfold inn at ho'
      split at ho'
      · exact absurd ho' (by simp)
      · simp only [List.mem_append, List.mem_singleton] at ho'
        rcases ho' with ho' | rfl
        · exact h2 _ ho'
        · exact ho
theorem imageOf_bound (w : Int → Int) : ∀ (n : Nat), ∀ o ∈ imageOf w n, 0 ≤ o ∧ o < (n : Int)
  | 0, o, h => by unfold imageOf at h; simp at h
  | n + 1, o, h => by
    rw [imageOf_succ] at h
    unfold imgStep at h
    rcases List.mem_append.mp h with h | h
    · have := inn_mem w _ _ (fun o => 0 ≤ o ∧ o < (n : Int)) (imageOf w n) ([], []) (imageOf_bound w n) (fun _ h => (nomatch h)) (fun _ h => (nomatch h)) o h
      (first | lia | omega)
    · have := List.mem_singleton.mp h
      (first | lia | omega)

theorem inn_length (w : Int → Int) (x : Int) (b : Bool) : ∀ (l : List Int) (s : List Int × List Int), (l.foldl (inn w x b) s).1.length + (l.foldl (inn w x b) s).2.length = s.1.length + s.2.length + l.length
  | [], s => by simp
  | o :: l, s => by
    rw [List.foldl_cons, inn_length w x b l]
    unfold inn
    split <;> simp <;> (first | lia | omega)
theorem imageOf_length (w : Int → Int) : ∀ n, (imageOf w n).length ≤ n
  | 0 => by simp [imageOf]
  | n + 1 => by
    rw [imageOf_succ]; unfold imgStep
    have := inn_length w (w n) (calmOf w (imageOf w n) n) (imageOf w n) ([], [])
    have := imageOf_length w n
    simp at *; (first | lia | omega)
theorem imageOf_last (w : Int → Int) {i n : Nat} (h : i < n) : 0 ≤ (imageOf w i).getLastD 0 ∧ (imageOf w i).getLastD 0 < (n : Int) := by
  rw [getLastD_eq]
  by_cases q : imageOf w i = []
  · rw [q]; exact ⟨Int.le_refl _, by show (0 : Int) < n; (first | lia | omega)⟩
  · have hl : 0 < (imageOf w i).length := List.length_pos_iff.mpr q
    have := imageOf_bound w i _ (getD_memI' (i := (imageOf w i).length - 1) (by (first | lia | omega)))
    (first | lia | omega)
theorem calm1 {w : Int → Int} {im : List Int} {p : Int} {inst : Decidable (im = [])} (h : @decide (im = []) inst = true) : (!@decide (im = []) inst) = calmOf w im p := by
  rw [h]
  have := of_decide_eq_true h
  subst this; rfl
theorem calm2 {w : Int → Int} {im : List Int} {p : Int} {inst : Decidable (im = [])} (h : ¬ @decide (im = []) inst = true) : decide (w (im.getLastD 0) ≤ w p) = calmOf w im p := by
  cases im with
  | nil => exact absurd (decide_eq_true rfl) h
  | cons a l => simp [calmOf]
theorem calm3 {w : Int → Int} {im : List Int} {p : Int} {inst : Decidable (im = [])} (h : @decide (im = []) inst = false) : decide (w (im.getLastD 0) ≤ w p) = calmOf w im p := calm2 (by rw [h]; decide)
theorem take_foldl {α β : Type} (f : β → α → β) (z : β) {l : List α} {j : Nat} {x : α} (h : l[j]? = some x) : (l.take (j + 1)).foldl f z = f ((l.take j).foldl f z) x := by
  rw [List.take_add_one, h, List.foldl_append]; rfl
theorem inn_yes {w : Int → Int} {x : Int} {b : Bool} {l : List Int} {j : Nat} {ko : Int} {ms ps : List Value} (to : Tok) (hj : l[j]? = some ko)
    (h2 : IntsAre ms ((l.take j).foldl (inn w x b) ([], [])).1) (h3 : IntsAre ps ((l.take j).foldl (inn w x b) ([], [])).2) (hd : (decide (w ko ≤ x) == b) = true) :
    IntsAre (ms ++ [.int ko to] ++ ps) ((l.take (j + 1)).foldl (inn w x b) ([], [])).1 ∧ IntsAre [] ((l.take (j + 1)).foldl (inn w x b) ([], [])).2 := by
  rw [take_foldl _ _ hj]; unfold inn; rw [if_pos hd]
  exact ⟨(h2.append (.cons ko to .nil)).append h3, .nil⟩
theorem inn_no {w : Int → Int} {x : Int} {b : Bool} {l : List Int} {j : Nat} {ko : Int} {ms ps : List Value} (to : Tok) (hj : l[j]? = some ko)
    (h2 : IntsAre ms ((l.take j).foldl (inn w x b) ([], [])).1) (h3 : IntsAre ps ((l.take j).foldl (inn w x b) ([], [])).2) (hd : (decide (w ko ≤ x) == b) = false) :
    IntsAre ms ((l.take (j + 1)).foldl (inn w x b) ([], [])).1 ∧ IntsAre (ps ++ [.int ko to]) ((l.take (j + 1)).foldl (inn w x b) ([], [])).2 := by
  rw [take_foldl _ _ hj]; unfold inn; rw [if_neg (by rw [hd]; decide)]
  exact ⟨h2, h3.append (.cons ko to .nil)⟩
theorem img_end {w : Int → Int} {i : Nat} {kx x : Int} {b : Bool} {ms : List Value} (t : Tok) (hk : kx = (i : Int)) (hc : calmOf w (imageOf w i) kx = b) (hx : w kx = x)
    (h : IntsAre ms (((imageOf w i).take (imageOf w i).length).foldl (inn w x b) ([], [])).1) : IntsAre (ms ++ [.int kx t]) (imageOf w (i + 1)) := by
  subst hk; subst hc; subst hx
  rw [List.take_length] at h
  rw [imageOf_succ]
  exact h.append (.cons _ t .nil)
structure InS where
  md : Addr
  pa : Addr
  ms : List Value
  ps : List Value
  km : Nat
  kp : Nat
def InP (w : Int → Int) (x : Int) (b : Bool) (im : List Int) (base : List (Addr × Obj)) (i : Nat) (c : InS) : Prop :=
  IntsAre c.ms ((im.take i).foldl (inn w x b) ([], [])).1 ∧ IntsAre c.ps ((im.take i).foldl (inn w x b) ([], [])).2 ∧ c.md ≠ c.pa ∧ (∀ p ∈ base, p.1 ≠ c.pa) ∧ c.ms.length + c.ps.length ≤ i
structure OuS where
  im : Addr
  vs : List Value
  k : Nat
def OuP (w : Int → Int) (base : List (Addr × Obj)) (i : Nat) (c : OuS) : Prop := IntsAre c.vs (imageOf w i) ∧ ∀ p ∈ base, p.1 < c.im

section
variable {w : World} {mean : ExcName → Option Value} {mg mb : Str → Option Value}
  {dp un : Nat} {gd : Option (List Code)} {cn : Str} {cs : Scope} {a : Addr} {ccd : Value} {cl : List (Str × Addr)} {outer : List Env} {A₀ : Around} {base h₀ : Heap} {L lw : Addr} {m : Str → Option Value} {s : Shared} {Q E : Value → Shared → Prop} {news : List (Addr × Obj)}
  {vs : List Value} {wd : List Int} {k : Nat}
  (B : Below A₀ base outer h₀) (F : Fr h₀ L s.heap m) (X : (hd.heap_39 w.params).In h₀) (N : News h₀ L s.heap news) (T : TopM mean mg mb h₀) (hk : cs.kind = .function)
include B F X N T hk
theorem setup18 : True := by
  k_with_none
  k_with "enter" => (refine code_def (by k_asm) (by k_asm) (by k_asm) (by k_asm) (by k_asm) (by exact rfl) (by exact rfl) (by assumption) (by k_is) (by k_is) (by ktr_room) (by first | exact BindsTo.of_eq rfl | (refine kp_binds (by k_in) (by exact fun _ => rfl))) (by exact locs rfl) ?_ (by exact rfl) (by exact rfl) (by exact rfl) (by decide); k_whole; intro g' L' h' FG' F' N' B' X' T'; (try dsimp only); (try k_fold))
  k_with "call builtin:len" => (k_here; (with_reducible show wpAny _ _ (call (Value.builtin "len") [Value.ref _]) _ _ _); k_dflt (refine lenL (by k_asm) (by walk_at "mem") (by walk_at "len_fits") ?_; k_whole))
  k_with "call builtin:list.insert" => (k_here; k_dflt (refine insL (by k_asm) (by k_asm) (by (first | lia | omega)) (by (first | lia | omega)) (by k_upd) (by walk_at "len_fits") ?_; k_whole); intro h' F' N'; (try k_sweep))
  k_with "addcore" => (k_here; (with_reducible show wpAny _ _ (binaryOp _ (Value.ref _) (Value.ref _)) _ _ _); k_dflt (refine addL (by k_asm) (by k_asm) (by exact News.isList (by assumption) (by walk_at "mem")) (by exact News.isList (by assumption) (by walk_at "mem")) ?_ (by walk_at "len_fits")))
  k_with "newcore" => (k_here; k_dflt (refine newList_K (by k_asm) (by k_asm) ?_; k_whole))
  k_with "call builtin:list.append" => (k_here; k_dflt (refine appendL (by k_asm) (by k_asm) (by k_upd) ?_ (by walk_at "len_fits"); k_whole); intro h' F' N'; (try k_sweep))
  k_with "subscriptTail" => (k_here; (with_reducible show wpAny _ _ (subscriptTail _ _ (Value.ref _) (Value.int _ _)) _ _ _); k_dflt (refine itemI (by k_asm) (by walk_at "mem") (by assumption) (by (first | lia | omega)) (by (first | lia | omega)) (by (first | lia | omega)) ?_ (by with_unfolding_all rfl); k_whole); intro ti')
  k_with "subscriptTail" => (k_here; (with_reducible show wpAny _ _ (subscriptTail _ _ (Value.ref _) (Value.int (-1) _)) _ _ _); k_dflt (refine itemLast (by k_asm) (by walk_at "mem") (by assumption) (by first | assumption | (simp_all; done)) (by (first | lia | omega)) ?_ (by with_unfolding_all rfl); k_whole); intro ti')
  exact True.intro
set_option maxHeartbeats 8000000 in
set_option maxRecDepth 100000 in
theorem image_call (hm : (lw, listOf vs.toArray k) ∈ news) (hI : IntsAre vs wd) (hns : wd.length ≤ 900)
    (hd : dp + 16 < recursionLimit) (hu : un + 128 < cLine)
    (hret : ∀ (l : Addr) (vs' : List Value) (k' : Nat) (h' : Heap) (tk' : Nat), Fr h₀ L h' m → News h₀ L h' ((l, listOf vs'.toArray k') :: news) → (∀ p ∈ news, p.1 < l) → IntsAre vs' (imageOf (fun o => wd.getD o.toNat 0) wd.length) → Q (.ref l) { s with heap := h', toks := tk' }) :
    wpAny (model (RowW.prog (OpenRow.toRowW (OpenLaw.row PySem.Challenge.rw_sn0020_01))) w) (ktrTop dp un gd cn cs L a ccd cl outer) (call (.ref 105) [.ref lw] []) Q E s := by
  revert X; k_fill; intro X
  have hvl := hI.length
  refine wpAny_call ?_
  k_dflt (walk_at "enter")
  k_with "pyIter ref" => refine Hold.out ?_
  k_steps
  (with_reducible rename Fr _ _ _ _ => F'); (with_reducible rename News _ _ _ _ => N')
  (with_reducible rename IsRange _ _ _ _ _ _ _ _ => hR)
  refine ⟨?_⟩
  with_unfolding_all refine' forRange (σ := OuS) (n := wd.length) (fun c => (c.im, listOf c.vs.toArray c.k) :: news) (fun c => [("word", .ref lw), ("image", .ref c.im)]) (OuP (fun o => wd.getD o.toNat 0) news) ⟨lN, [], 0⟩ ?hh hR ?small ?hn F' N' ?hl ?hk ?hp ?turn ?done ?hx
  case hh => rfl
  case small => exact small_one (by (first | lia | omega)) (by (first | lia | omega)) (by (first | lia | omega)) (by (first | lia | omega))
  case hn => rw [rangeSize_nat]; simp
  case hl => intro _ h; exact h
  case hk => walk_at "all_rfl"
  case hp => exact ⟨.nil, lN1⟩
  case hx => intro c; walk_at "all_ne"
  case done =>
    rintro ⟨im, vs', k'⟩ u h tk hP F1 N1
    dsimp only at F1 N1
    clear F' N' hR
    obtain ⟨hI1, hP⟩ := hP
    k_steps
    rename_i kF kN Tc' kX
    exact hret _ _ _ _ _ kF kN hP hI1
  case turn =>
    rintro ⟨im, vs', k'⟩ i kx t u h tk I oI hi hkx hP hIne F1 N1
    dsimp only [envOf, envX] at F1 N1 hIne
    clear F' N' hR
    obtain ⟨hI1, hP⟩ := hP
    dsimp only at hI1 hP
    have hkx' : kx = (i : Int) := by (first | lia | omega)
    have hb := imageOf_bound (fun o => wd.getD o.toNat 0) i
    have hvl1 := hI1.length
    have hlast := imageOf_last (fun o => wd.getD o.toNat 0) hi
    have hil := imageOf_length (fun o => wd.getD o.toNat 0) i
    k_with "FPost" => (dsimp only [FPost])
    k_with "FEnd" => refine Hold.out ?_
    k_steps
    all_goals ((with_reducible rename Fr _ _ _ _ => F'); (with_reducible rename News _ _ _ _ => N'))
    all_goals (rename (∀ p ∈ (_, W.listOf #[] 0) :: (I, oI) :: _, p.1 < _) => hmd)
    all_goals (obtain ⟨md, emd, hmd⟩ := nameIt (P := fun x : Addr => ∀ p : Addr × Obj, p ∈ _ → p.1 < x) hmd; subst emd)
    all_goals (refine ⟨?_⟩)
    all_goals (obtain ⟨u1, F'⟩ := frB [("calm", .bool (calmOf (fun o => wd.getD o.toNat 0) (imageOf (fun o => wd.getD o.toNat 0) i) kx)), ("word", .ref lw), ("image", .ref im), ("place", .int kx t), ("made", .ref md), ("passed", .ref lN)] F' (by refine List.forall_mem_cons.mpr ⟨?_, by walk_at "all_rfl"⟩; refine boolIs rfl ?_; first | exact calm1 (by assumption) | exact calm3 (w := fun o => wd.getD o.toNat 0) (by assumption) | exact calm2 (w := fun o => wd.getD o.toNat 0) (by assumption)))
    all_goals (generalize hcalm : calmOf (fun o => wd.getD o.toNat 0) (imageOf (fun o => wd.getD o.toNat 0) i) kx = calm at F')
    all_goals (have hmdl : ∀ p ∈ (I, oI) :: (im, listOf vs'.toArray k') :: news, p.1 < md := fun p hp => hmd p (by first | assumption | exact .tail _ hp))
    all_goals (have hpal : ∀ p ∈ (I, oI) :: (im, listOf vs'.toArray k') :: news, p.1 ≠ lN := fun p hp => Nat.ne_of_lt (lN1 p (by first | exact .tail _ hp | exact .tail _ (.tail _ hp))))
    all_goals (have hmp : md ≠ lN := Nat.ne_of_lt (lN1 _ (.head _)))
    all_goals
      with_unfolding_all refine' forList (σ := InS) (l := im) (vs := vs') (nn := k') (ns := imageOf (fun o => wd.getD o.toNat 0) i) (fun c => (c.pa, listOf c.ps.toArray c.kp) :: (c.md, listOf c.ms.toArray c.km) :: (I, oI) :: (im, listOf vs'.toArray k') :: news) (fun c => [("calm", .bool calm), ("word", .ref lw), ("image", .ref im), ("place", .int kx t), ("made", .ref c.md), ("passed", .ref c.pa)]) (InP (fun o => wd.getD o.toNat 0) (wd.getD kx.toNat 0) calm (imageOf (fun o => wd.getD o.toNat 0) i) ((I, oI) :: (im, listOf vs'.toArray k') :: news)) ⟨md, lN, [], [], 0, 0⟩ ?_ ?_ ?_ F' N' ?_ ?_ ?_ ?_ ?_ ?_
      · rfl
      · intro c; walk_at "mem"
      · exact hI1
      · first | exact fun _ h => h | exact fun p h => (by simp only [List.mem_cons] at h ⊢; rcases h with h | h | h | h | h <;> simp only [h, true_or, or_true])
      · walk_at "all_rfl"
      · exact ⟨.nil, .nil, hmp, hpal, Nat.le_refl _⟩
      · clear F' N' hcalm
        rintro ⟨md, pa, ms, ps, km, kp⟩ j ko to u2 h2 tk2 I2 oI2 hj hP2 hIne2 F2 N2
        dsimp only [envOf, envX] at F2 N2 hIne2
        obtain ⟨hI2, hI3, hne2, hpa2, hln⟩ := hP2
        dsimp only at hI2 hI3 hne2 hpa2 hln
        obtain ⟨hjl, hje⟩ := List.getElem?_eq_some_iff.mp hj
        have hbo := hb ko (hje ▸ List.getElem_mem hjl)
        have hpa3 : ∀ p ∈ (md, listOf ms.toArray km) :: (I, oI) :: (im, listOf vs'.toArray k') :: news, p.1 ≠ pa := List.forall_mem_cons.mpr ⟨hne2, hpa2⟩
        have hI2pa : I2 ≠ pa := fun e => hIne2 _ (.head _) e.symm
        k_with "FPost" => (dsimp only [FPost])
        k_with "FEnd" => refine Hold.out ?_
        k_steps
        · (with_reducible rename Fr _ _ _ _ => F3); (with_reducible rename News _ _ _ _ => N3)
          rename ((_ == _) = true) => hq
          have hf := inn_yes to hj hI2 hI3 hq
          refine ⟨?_⟩
          have q1 : ∀ p ∈ (I, oI) :: (im, listOf vs'.toArray k') :: news, p.1 ≠ lN := fun p hp => Nat.ne_of_lt (lN1 p (by walk_at "mem"))
          have q2 : lA ≠ lN := Nat.ne_of_lt (lN1 _ (.head _))
          have q3 : lN ≠ I2 := Nat.ne_of_gt (lN1 (I2, oI2) (by walk_at "mem"))
          have q4 : lA ≠ I2 := Nat.ne_of_gt (lA1 (I2, oI2) (by walk_at "mem"))
          have hI2' := List.forall_mem_cons.mp (List.forall_mem_cons.mp hIne2).2
          exact fEnd ⟨lA, lN, ms ++ [.int ko to] ++ ps, [], 0, 0⟩ F3 N3 (by walk_at "sub") (by walk_at "mem") (List.forall_mem_cons.mpr ⟨q3, List.forall_mem_cons.mpr ⟨q4, hI2'.2⟩⟩) (by walk_at "all_rfl") ⟨hf.1, hf.2, q2, q1, by simp only [List.length_append, List.length_cons, List.length_nil]; (first | lia | omega)⟩
        · (with_reducible rename Fr _ _ _ _ => F3); (with_reducible rename News _ _ _ _ => N3)
          rename ((_ == _) = false) => hq
          have hf := inn_no to hj hI2 hI3 hq
          refine ⟨?_⟩
          have hI2' := List.forall_mem_cons.mp hIne2
          exact fEnd ⟨md, pa, ms, ps ++ [.int ko to], km, kp + 1⟩ F3 N3 (by walk_at "sub") (by walk_at "mem") (List.forall_mem_cons.mpr ⟨hI2'.1, hI2'.2⟩) (by walk_at "all_rfl") ⟨hf.1, hf.2, hne2, hpa2, by simp only [List.length_append, List.length_cons, List.length_nil]; (first | lia | omega)⟩
      · clear F'
        rintro ⟨md, pa, ms, ps, km, kp⟩ u2 h2 tk2 hP2 F2 N2
        clear N'
        dsimp only [envOf, envX] at F2 N2
        obtain ⟨hI2, hI3, hne2, hpa2, hln⟩ := hP2
        dsimp only at hI2 hI3 hne2 hpa2 hln
        k_with "FPost" => (dsimp only [FPost])
        k_with "FEnd" => refine Hold.out ?_
        k_steps
        (with_reducible rename Fr _ _ _ _ => F3); (with_reducible rename News _ _ _ _ => N3)
        refine ⟨?_⟩
        have q3 : lA ≠ I := Nat.ne_of_gt (lA1 (I, oI) (by walk_at "mem"))
        have hI2' := List.forall_mem_cons.mp hIne
        exact fEnd ⟨lA, _, _⟩ F3 N3 (by walk_at "sub") (by walk_at "mem") (List.forall_mem_cons.mpr ⟨q3, hI2'.2⟩) (by walk_at "all_rfl") ⟨img_end t hkx' hcalm rfl hI2, fun p hp => lA1 p (by walk_at "mem")⟩
      · intro c; walk_at "all_ne"
end
end
section
def LitIs (o : Obj) (l : Addr) (i : Nat) : Prop := o.cls = .type "list_iterator" ∧ o.data = .fields #[.ref l, .int i 0]
section
variable {prog : Program} {w : World} {A : Around} {E : Value → Shared → Prop} {s : Shared} {h₀ : Heap} {L l it : Addr} {m : Str → Option Value} {news : List (Addr × Obj)} {g : Obj → List (Addr × Obj)} {io : Obj} {vs : List Value} {v : Value} {i k : Nat}
theorem iterL {Q : Value → Shared → Prop} (F : Fr h₀ L s.heap m) (N : News h₀ L s.heap news) (hm : (l, listOf vs.toArray k) ∈ news)
    (h : ∀ (I : Addr) h' oI, Fr h₀ L h' m → News h₀ L h' ((I, oI) :: news) → (∀ p ∈ news, p.1 < I) → LitIs oI l 0 → Q (.ref I) { s with heap := h' }) :
    wpAny (model prog w) A (call (.builtin "iter") [.ref l]) Q E s := by
  refine call_function_entry (by decide +kernel) (by decide +kernel) kdk_entry_iter (kdk_args_iter _) ?_
  unfold Builtin.«iter»
  refine wpAny_bind (m := someArgs "iter" 1 2 _) (wpAny_of_eq (a := [Value.ref l]) (by first | rfl | kernel_rfl!) ?_)
  show wpAny _ _ (pyIter (.ref l) >>= _) _ _ _
  refine wpAny_bind (wpAny_pyIter_list (N.isList hm) ?_)
  exact wpAny_pure ⟨_, rfl, h _ _ _ (F.push _) (News.push F N _ rfl) (fun q hq => Heap.lt_size (N q hq).1) ⟨rfl, rfl⟩⟩
theorem specialL {Q : Option Value → Shared → Prop} {items : Array Value} (hit : s.heap.IsListIter it l i) (hl : s.heap.IsList l items) (hx : items[i]? = some v)
    (hQ : ∀ h', h'.IsListIter it l (i + 1) → Heap.SameBut it s.heap h' → Q (some v) { s with heap := h' }) :
    wpAny (model prog w) A (callSpecial? (.ref it) (Str.ofString "__next__")) Q E s := by
  obtain ⟨o, ho, hc, hd⟩ := id hit
  obtain ⟨ol, hol, _, nl, hdl⟩ := hl
  refine wpAny_callSpecial?_slot (name := Str.ofString "__next__") hit.typeIs slot_listiter_next
    (wpAny_call_entry slot_listiter_next hit.typeIs entry_listiter_next ?_ (args_listiter_next _))
  show wpAny _ _ (field (.ref it) 0 >>= _) _ _ s
  refine wpAny_bind (wpAny_field ho hd (x := .ref l) rfl ?_)
  show wpAny _ _ (if (Value.ref l == Value.none) = true then _ else _) _ _ s
  rw [if_neg (show ¬ ((Value.ref l == Value.none) = true) from Bool.false_ne_true)]
  show wpAny _ _ (field (.ref it) 1 >>= _) _ _ s
  refine wpAny_bind (wpAny_field ho hd (x := .int i 0) rfl ?_)
  show wpAny _ _ (seqItems? (.ref l) >>= _) _ _ s
  refine wpAny_bind (wpAny_seqItems hol hdl ?_)
  simp only [Int.toNat_natCast, hx]
  refine wpAny_bind (wpAny_setField ho hd (by simp) (wpAny_pure ⟨v, rfl, (hQ _ ?_ (Heap.SameBut.update ..))⟩))
  exact ⟨_, Heap.get?_update_self _ ho (Obj.isFreed_of_fields (Obj.data_mapFields hd _)), (Obj.cls_mapFields ..).trans hc, by
    rw [Obj.data_mapFields hd]; simp [rawInt]⟩
theorem nextL {Q : Value → Shared → Prop} (F : Fr h₀ L s.heap m) (N : News h₀ L s.heap news) (U : UpdF it io news g) (hi : LitIs io l i) (hm : (l, listOf vs.toArray k) ∈ news) (hx : vs[i]? = some v)
    (h : ∀ h' o', Fr h₀ L h' m → News h₀ L h' (g o') → LitIs o' l (i + 1) → Q v { s with heap := h' }) :
    wpAny (model prog w) A (call (.builtin "next") [.ref it]) Q E s := by
  obtain ⟨pre, post, hl, hg, a, b⟩ := U.split
  have hmem : (it, io) ∈ news := by rw [hl]; exact List.mem_append_right _ (.head _)
  have hm' := N (it, io) hmem
  have hit : s.heap.IsListIter it l i := ⟨io, hm'.1, hi.1, hi.2⟩
  refine call_function_entry (by decide +kernel) (by decide +kernel) kdk_entry_next (kdk_args_next _) ?_
  unfold Builtin.«next»
  refine wpAny_bind (m := someArgs "next" 1 2 _) (wpAny_of_eq (a := [Value.ref it]) (by first | rfl | kernel_rfl!) ?_)
  dsimp only
  refine wpAny_bind (wpAny_specialOf (name := Str.ofString "__next__") hit.typeIs slot_listiter_next.lookup ?_)
  refine wpAny_ite_split (fun hab => absurd hab (by decide)) (fun _ => ?_)
  refine wpAny_bind (specialL hit (N.isList hm) (by simpa using hx) fun h' hit' hs => ?_)
  obtain ⟨o', ho', hc', hd'⟩ := hit'
  exact wpAny_pure ⟨_, rfl, h h' o' (F.change hs hm'.2.1 hm'.2.2) (hg o' ▸ (show News h₀ L s.heap (pre ++ (it, io) :: post) from hl ▸ N).setIn a b hs ho') ⟨hc', hd'⟩⟩
end

/-- the digits' value -/
def rdm (bs : List Int) : Int := bs.foldl (fun v b => v * 64 + b % 64) 0
structure VaS where
  b : Int
  tb : Tok
  v : Int
  tv : Tok
  io : Obj
  i : Nat
def VaP (l : Addr) (ns : List Int) (c : VaS) : Prop := LitIs c.io l c.i ∧ 0 < c.i ∧ c.i ≤ ns.length ∧ c.b = ns.getD (c.i - 1) 0 ∧ c.v = rdm (ns.take c.i)

theorem bit63 (b : Int) : Builtin.bitAnd b 63 = b % 64 := kbt_mask b 6
theorem var_first {ns : List Int} {b : Int} (e : b = ns.getD 0 0) (h : 0 < ns.length) : Builtin.bitAnd b 63 = rdm (ns.take 1) := by
  cases ns with
  | nil => cases h
  | cons x r => rw [bit63, e]; simp [rdm]
theorem or64 {v c : Int} (hv : 0 ≤ v) (h0 : 0 ≤ c) (h1 : c < 64) : Builtin.bitOr (v * 64) c = v * 64 + c := by
  rw [bitOr_and, bitAnd_pp (by (first | lia | omega)) h0]
  have e : ((v * 64).toNat &&& c.toNat) = 0 := by
    have e1 : (v * 64).toNat = v.toNat <<< 6 := by rw [Nat.shiftLeft_eq]; (first | lia | omega)
    rw [e1]
    have := Nat.shiftLeft_add_eq_or_of_lt (i := 6) (b := c.toNat) (by (first | lia | omega)) v.toNat
    refine Nat.eq_of_testBit_eq fun j => ?_
    rw [Nat.testBit_and, Nat.testBit_shiftLeft, Nat.zero_testBit]
    by_cases q : 6 ≤ j
    · rw [Nat.testBit_lt_two_pow (x := c.toNat) (Nat.lt_of_lt_of_le (by (first | lia | omega) : c.toNat < 2 ^ 6) (Nat.pow_le_pow_right (by decide) q))]; simp
    · simp [q]
  rw [e]; simp
theorem rdm_step (v : Int) (bs : List Int) : bs.foldl (fun v b => v * 64 + b % 64) v = bs.foldl (fun v b => v * 64 + b % 64) v := rfl
theorem rdm_bound : ∀ (bs : List Int) (v : Int) (k : Int), 0 ≤ v → v < k → 0 ≤ bs.foldl (fun v b => v * 64 + b % 64) v ∧ bs.foldl (fun v b => v * 64 + b % 64) v < k * 64 ^ bs.length
  | [], v, k, h0, h1 => by simpa using ⟨h0, h1⟩
  | b :: bs, v, k, h0, h1 => by
    rw [List.foldl_cons, List.length_cons, Int.pow_succ]
    have := rdm_bound bs (v * 64 + b % 64) (k * 64) (by (first | lia | omega)) (by (first | lia | omega))
    rw [Int.mul_comm (64 ^ bs.length) 64, ← Int.mul_assoc]
    exact this
theorem rdm_small {bs : List Int} (h : bs.length ≤ 6) : 0 ≤ rdm bs ∧ (rdm bs).natAbs < 2 ^ 64 := by
  have := rdm_bound bs 0 1 (by decide) (by decide)
  have h2 : (64 : Int) ^ bs.length ≤ 64 ^ 6 := by
    have : bs.length = 0 ∨ bs.length = 1 ∨ bs.length = 2 ∨ bs.length = 3 ∨ bs.length = 4 ∨ bs.length = 5 ∨ bs.length = 6 := by (first | lia | omega)
    rcases this with e | e | e | e | e | e | e <;> rw [e] <;> decide
  have h3 : (64 : Int) ^ 6 = 68719476736 := by decide
  have h4 : (2 : Nat) ^ 64 = 18446744073709551616 := by decide
  unfold rdm
  (first | lia | omega)
theorem rdm_take {ns : List Int} {i : Nat} {x : Int} (h : ns[i]? = some x) : rdm (ns.take (i + 1)) = rdm (ns.take i) * 64 + x % 64 := by
  unfold rdm; rw [List.take_add_one, h, List.foldl_append]; rfl
theorem bit64 (b : Int) : Builtin.bitAnd b 64 = (b / 64 % 2) * 64 := kbt_bit b 6
theorem var_next {pre ns : List Int} {last b : Int} {i : Nat} (hns : pre ++ [last] = ns) (hl1 : 128 ≤ last) (hl2 : last < 192) (h0 : 0 < i) (h1 : i ≤ ns.length) (hb : b = ns.getD (i - 1) 0) (h : Builtin.bitAnd b 64 ≠ 0) : i < ns.length := by
  rcases Nat.lt_or_ge i ns.length with q | q
  · exact q
  · exfalso
    have e : i - 1 = pre.length := by rw [← hns] at h1 q; simp at h1 q; (first | lia | omega)
    rw [e, ← hns] at hb
    simp at hb
    rw [bit64, hb] at h
    (first | lia | omega)
theorem var_done {pre ns : List Int} {last b : Int} {i : Nat} (hns : pre ++ [last] = ns) (hp : ∀ b ∈ pre, 192 ≤ b ∧ b ≤ 255) (h0 : 0 < i) (h1 : i ≤ ns.length) (hb : b = ns.getD (i - 1) 0) (h : Builtin.bitAnd b 64 = 0) : ns.take i = ns := by
  have : i = ns.length := by
    rcases Nat.lt_or_ge i ns.length with q | q
    · exfalso
      have q' : i - 1 < pre.length := by rw [← hns] at q; simp at q; (first | lia | omega)
      rw [← hns] at hb
      rw [List.getD_eq_getElem?_getD, List.getElem?_append_left q', List.getElem?_eq_getElem q'] at hb
      have := hp b (by rw [hb]; exact List.getElem_mem q')
      rw [bit64] at h
      (first | lia | omega)
    · (first | lia | omega)
  rw [this, List.take_length]
section
variable {w : World} {mean : ExcName → Option Value} {mg mb : Str → Option Value}
  {dp un : Nat} {gd : Option (List Code)} {cn : Str} {cs : Scope} {a : Addr} {ccd : Value} {cl : List (Str × Addr)} {outer : List Env} {A₀ : Around} {base h₀ : Heap} {L l it : Addr} {m : Str → Option Value} {s : Shared} {Q E : Value → Shared → Prop} {rest : List (Addr × Obj)}
  {vs : List Value} {pre : List Int} {last : Int} {k : Nat} {io : Obj}
  (B : Below A₀ base outer h₀) (F : Fr h₀ L s.heap m) (X : (hd.heap_39 w.params).In h₀) (N : News h₀ L s.heap ((it, io) :: rest)) (T : TopM mean mg mb h₀) (hk : cs.kind = .function)
include B F X N T hk
local macro_rules | `(tactic| walk_at "inplaceOp LShift int int") => `(tactic| (k_here; with_reducible refine ilshift_int_small (by decide) (by decide) (by assumption) ?_))
theorem setup19 : True := by
  k_with_none
  k_with "enter" => (refine code_def (by k_asm) (by k_asm) (by k_asm) (by k_asm) (by k_asm) (by exact rfl) (by exact rfl) (by assumption) (by k_is) (by k_is) (by ktr_room) (by first | exact BindsTo.of_eq rfl | (refine kp_binds (by k_in) (by exact fun _ => rfl))) (by exact locs rfl) ?_ (by exact rfl) (by exact rfl) (by exact rfl) (by decide); k_whole; intro g' L' h' FG' F' N' B' X' T'; (try dsimp only); (try k_fold))
  k_with "call builtin:len" => (k_here; (with_reducible show wpAny _ _ (call (Value.builtin "len") [Value.ref _]) _ _ _); k_dflt (refine lenL (by k_asm) (by walk_at "mem") (by walk_at "len_fits") ?_; k_whole))
  k_with "call builtin:list.insert" => (k_here; k_dflt (refine insL (by k_asm) (by k_asm) (by (first | lia | omega)) (by (first | lia | omega)) (by k_upd) (by walk_at "len_fits") ?_; k_whole); intro h' F' N'; (try k_sweep))
  k_with "addcore" => (k_here; (with_reducible show wpAny _ _ (binaryOp _ (Value.ref _) (Value.ref _)) _ _ _); k_dflt (refine addL (by k_asm) (by k_asm) (by exact News.isList (by assumption) (by walk_at "mem")) (by exact News.isList (by assumption) (by walk_at "mem")) ?_ (by walk_at "len_fits")))
  k_with "newcore" => (k_here; k_dflt (refine newList_K (by k_asm) (by k_asm) ?_; k_whole))
  k_with "call builtin:next" => (k_here; (with_reducible show wpAny _ _ (call (Value.builtin "next") [Value.ref _]) _ _ _); k_dflt (refine nextL (by k_asm) (by k_asm) (by k_updF) (by k_asm) (by walk_at "mem") (by assumption) ?_; k_whole); intro h' o' F' N' hi'; (try dsimp only at N'))
  exact True.intro
set_option maxHeartbeats 8000000 in
set_option maxRecDepth 100000 in
theorem varint_call (hne : ∀ p ∈ rest, p.1 ≠ it) (hit : LitIs io l 0) (hm : (l, listOf vs.toArray k) ∈ rest) (hI : IntsAre vs ((pre ++ [last]) ++ [193])) (hb : ∀ b ∈ pre, 192 ≤ b ∧ b ≤ 255) (hl1 : 128 ≤ last) (hl2 : last < 192) (hln : pre.length ≤ 5)
    (hd : dp + 1 < recursionLimit) (hu : un + 8 < cLine)
    (hret : ∀ t (h' : Heap) (tk' : Nat), Fr h₀ L h' m → News h₀ L h' rest → Q (.int (rdm (pre ++ [last])) t) { s with heap := h', toks := tk' }) :
    wpAny (model (RowW.prog (OpenRow.toRowW (OpenLaw.row PySem.Challenge.rw_sn0020_01))) w) (ktrTop dp un gd cn cs L a ccd cl outer) (call (.ref 91) [.ref it] []) Q E s := by
  revert X; k_fill; intro X
  have hvl := hI.length
  obtain ⟨t0, hx0⟩ := intsAt hI 0 (by simp)
  refine wpAny_call ?_
  k_dflt (walk_at "enter")
  k_with "exec While BinOp cons nil" => refine Hold.out ?_
  k_steps
  have e0 : (pre ++ [last] ++ [193]).getD 0 0 = (pre ++ [last]).getD 0 0 := by cases pre <;> rfl
  generalize hns : pre ++ [last] = ns at *
  have hnl : ns.length = pre.length + 1 := by rw [← hns]; simp
  (with_reducible rename Fr _ _ _ _ => F'); (with_reducible rename News _ _ _ _ => N'); (with_reducible rename LitIs _ _ _ => hi0)
  refine ⟨?_⟩
  obtain ⟨u0, t1, t2, F'⟩ := frI [("iterator", .ref it)] F' (by walk_at "all_rfl") (x := "b") (y := "val") ⟨_, rfl⟩ ⟨_, rfl⟩
  with_unfolding_all refine' whileR (σ := VaS) (fun c => (it, c.io) :: rest) (fun c => [("b", .int c.b c.tb), ("val", .int c.v c.tv), ("iterator", .ref it)]) (VaP l ns) (fun c => ns.length - c.i) ⟨(ns ++ [193]).getD 0 0, t1, Builtin.bitAnd ((ns ++ [193]).getD 0 0) 63, t2, _, 1⟩ F' N' ?hn ?hk ?hp ?turn
  case hn => intro _ h; exact h
  case hk => walk_at "all_rfl"
  case hp => exact ⟨hi0, Nat.one_pos, (by dsimp only; (first | lia | omega)), e0, var_first e0 (by (first | lia | omega))⟩
  case turn =>
    rintro ⟨b, tb, v, tv, io', i⟩ u h tk hP F1 N1
    dsimp only [envOf, envX] at F1 N1
    clear F' N' hi0 hx0
    obtain ⟨hi0, hP0, hP1, hP2, hP3⟩ := hP
    dsimp only at hi0 hP0 hP1 hP2 hP3
    have hit2 : i < vs.length := by rw [hvl]; simp; (first | lia | omega)
    obtain ⟨t0, hx0⟩ := intsAt hI i (by simp; (first | lia | omega))
    have hvb := hP3 ▸ rdm_small (bs := ns.take i) (by rw [List.length_take]; (first | lia | omega))
    have hvs : v.natAbs < 2 ^ 64 := hvb.2
    k_with "WPost" => (dsimp only [WPost])
    k_with "WEnd" => refine Hold.out ?_
    k_steps
    · rename (Builtin.bitAnd b 64 ≠ 0) => hq
      have hi := var_next hns hl1 hl2 hP0 hP1 hP2 hq
      (with_reducible rename Fr _ _ _ _ => F3); (with_reducible rename News _ _ _ _ => N3); (with_reducible rename LitIs _ _ (_ + 1) => hi3)
      have e3 : (ns ++ [193]).getD i 0 = ns.getD i 0 := by rw [List.getD_eq_getElem?_getD, List.getElem?_append_left hi, List.getD_eq_getElem?_getD]
      have e4 : ns[i]? = some (ns.getD i 0) := by rw [List.getD_eq_getElem?_getD, List.getElem?_eq_getElem hi]; rfl
      rw [e3] at F3
      have e5 : Builtin.bitOr (v * 2 ^ Int.toNat 6) (Builtin.bitAnd (ns.getD i 0) 63) = rdm (ns.take (i + 1)) := by
        rw [rdm_take e4, ← hP3, bit63]
        exact or64 hvb.1 (by (first | lia | omega)) (by (first | lia | omega))
      refine ⟨?_⟩
      exact wEnd ⟨ns.getD i 0, _, _, _, _, i + 1⟩ F3 N3 (fun _ h => h) (by walk_at "all_rfl") ⟨⟨hi3, Nat.succ_pos _, hi, rfl, e5⟩, by dsimp only; (first | lia | omega)⟩
    · rename (Builtin.bitAnd b 64 = 0) => hq
      have hi := var_done hns hb hP0 hP1 hP2 hq
      rw [hi] at hP3
      rw [hP3]
      (with_reducible rename News h₀ L _ ((it, io') :: rest) => N3)
      exact hret _ _ _ (by assumption) (fun p hp => N3 p (.tail _ hp))
end
end
section
noncomputable def fdAt (p : Params) (a : Addr) : FuncData := match (hd.heap_39 p).lookup a with | some o => (match o.data with | .func fd => fd | _ => default) | none => default
noncomputable def bodyAt (p : Params) (a : Addr) : List Stmt := match (fdAt p a).body with | .stmts b => b | _ => []
noncomputable def readLam (p : Params) : Option (Arguments × Expr × Scope) := match (bodyAt p 124).drop 4 with | (.Assign _ (.Lambda a b s _) _) :: _ => some (a, b, s) | _ => none
theorem rd_rdm : ∀ (pre : List Int) (v : Int), (∀ b ∈ pre, 192 ≤ b ∧ b ≤ 255) → rd v pre = pre.foldl (fun v b => v * 64 + b % 64) v
  | [], _, _ => rfl
  | b :: r, v, h => by
    have := h b (.head _)
    show rd (v * 64 + (b - 192)) r = _
    rw [List.foldl_cons, ← rd_rdm r _ (fun b hb => h b (.tail _ hb))]
    congr 1; (first | lia | omega)
theorem Octs.rdm {x : Int} {pre : List Int} {last : Int} (hp : ∀ b ∈ pre, 192 ≤ b ∧ b ≤ 255) (h1 : 128 ≤ last) (h2 : last < 192) (h : rd 0 pre * 64 + (last - 128) = x) : rdm (pre ++ [last]) = x := by
  unfold Mine.rdm
  rw [List.foldl_append, ← rd_rdm pre 0 hp, ← h]
  simp only [List.foldl_cons, List.foldl_nil]
  (first | lia | omega)
/-- the octets of all numbers lie in the ledger -/
def Rows (n : Nat) (val : Int → Int) (refs : List Value) (news : List (Addr × Obj)) : Prop :=
  refs.length = n ∧ ∀ i : Nat, i < n → ∃ (r : Addr) (vs : List Value) (ns : List Int) (k : Nat), refs[i]? = some (.ref r) ∧ (r, listOf vs.toArray k) ∈ news ∧ IntsAre vs ns ∧ Octs (val i) ns
local macro_rules | `(tactic| k_mem) => `(tactic| walk_at "mem")
theorem setup20 : True := by
  k_with_none
  k_with "enter" => (refine code_def (by k_asm) (by k_asm) (by k_asm) (by k_asm) (by k_asm) (by exact rfl) (by exact rfl) (by assumption) (by k_is) (by k_is) (by ktr_room) (by first | exact BindsTo.of_eq rfl | (refine kp_binds (by k_in) (by exact fun _ => rfl))) (by exact locs rfl) ?_ (by exact rfl) (by exact rfl) (by exact rfl) (by decide); k_whole; intro g' L' h' FG' F' N' B' X' T'; (try dsimp only); (try k_fold))
  k_with "call builtin:len" => (k_here; (with_reducible show wpAny _ _ (call (Value.builtin "len") [Value.ref _]) _ _ _); k_dflt (refine lenL (by k_asm) (by walk_at "mem") (by walk_at "len_fits") ?_; k_whole))
  k_with "call builtin:list.insert" => (k_here; k_dflt (refine insL (by k_asm) (by k_asm) (by (first | lia | omega)) (by (first | lia | omega)) (by k_upd) (by walk_at "len_fits") ?_; k_whole); intro h' F' N'; (try k_sweep))
  k_with "addcore" => (k_here; (with_reducible show wpAny _ _ (binaryOp _ (Value.ref _) (Value.ref _)) _ _ _); k_dflt (refine addL (by k_asm) (by k_asm) (by exact News.isList (by assumption) (by walk_at "mem")) (by exact News.isList (by assumption) (by walk_at "mem")) ?_ (by walk_at "len_fits")))
  k_with "newcore" => (k_here; k_dflt (refine newList_K (by k_asm) (by k_asm) ?_; k_whole))
  k_with "eval Name" => (k_here; k_dflt (refine nameX_L (by k_asm) (by exact rfl) ?_ (by rfl) (by rfl) (by decide); k_whole))
  k_with "eval Name" => (k_here; k_dflt (refine nameX_K (by k_asm) (by k_asm) (by k_asm) (by k_is) ?_ (by rfl) (by rfl) (by decide); k_whole))
  k_with "eval Name" => (k_here; k_dflt (refine nameX_B (by k_asm) (by k_asm) (by k_asm) (by k_is) (by boot_by_name) (by decide) ?_ (by rfl) (by rfl) (by decide); k_whole))
  k_with "eval Name" => (k_here; k_dflt (refine nameX_F (by k_asm) (by rfl) (by walk_at "mem") (by assumption) ?_ (by rfl) (by rfl); k_whole))
  k_with "lenter" => (refine kla_code (by k_asm) (by k_asm) (by k_asm) (by k_asm) (by k_asm) (by exact rfl) (by exact rfl) (by assumption) (by walk_at "mem") (by exact codeRec_news (by k_asm) (by walk_at "mem") (by assumption) (by assumption)) (by ktr_room) (by exact rfl) (by exact locs rfl) ?_ (by exact rfl) (by exact rfl) (by exact rfl) (by decide); k_whole; intro g' L' h' FG' F' N' B' X' T'; (try dsimp only); (try k_fold))
  k_with "subscriptTail" => (k_here; (with_reducible show wpAny _ _ (subscriptTail _ _ (Value.ref _) (Value.int _ _)) _ _ _); k_dflt (refine itemL (by k_asm) (by assumption) (by (first | lia | omega)) (by (first | lia | omega)) (by assumption) ?_ (by with_unfolding_all rfl); k_whole))
  k_with "call builtin:iter" => (k_here; (with_reducible show wpAny _ _ (call (Value.builtin "iter") [Value.ref _]) _ _ _); k_dflt (refine iterL (by k_asm) (by k_asm) (by walk_at "mem") ?_; k_whole); intro I' h' oI' F' N' lI' hi')
  k_with "call ref" => (k_here; k_dflt (refine varint_call (by k_asm) (by k_asm) (by k_asm) (by k_asm) (by assumption) (by rfl) (by exact fun p hp => Nat.ne_of_lt ((by assumption : ∀ p ∈ _, p.1 < _) p hp)) (by assumption) (by walk_at "mem") (by exact IntsAre.append (by assumption) (.cons _ _ .nil)) (by assumption) (by assumption) (by assumption) (by (first | lia | omega)) (by ktr_room) (by ktr_units) ?_; k_whole); intro t' h' tk' F' N')
  exact True.intro
set_option maxRecDepth 100000 in
set_option maxHeartbeats 8000000 in
theorem read_ok {w : World} {q c' cc lo : Addr} {qual : Str} {params : Arguments} {body : Expr} {scope : Scope} {pm ctv : Value} {oc ocell : Obj} {fvs : Array Value} {tq : Tok} {n : Nat} {val : Int → Int} {refs : List Value} {k0 : Nat} {need : List (Addr × Obj)}
    (hlam : readLam w.params = some (params, body, scope)) (hn : n ≤ 900)
    (hq : (q, kla_obj "<lambda>" qual params body scope [("octets", cc)] pm c' ctv) ∈ need) (hc : (c', oc) ∈ need) (hoc1 : oc.data = .fields fvs) (hoc2 : fvs[1]? = some (.str qual tq))
    (hcc : (cc, ocell) ∈ need) (hcd : ocell.data = .cell (some (.ref lo))) (hlo : (lo, listOf refs.toArray k0) ∈ need) (hr : Rows n val refs need) :
    KeyOk w q val (fun j => 0 ≤ j ∧ j < (n : Int)) need := by
  revert hlam; unfold KeyOk; k_fill; intro hlam
  with_unfolding_all (conv at hlam => lhs; whnf)
  injection hlam with hlam
  injection hlam with h1 hlam
  injection hlam with h2 h3
  subst h1 h2 h3
  intro mean mg mb dp un gd cn cs a ccd cl outer A₀ base h₀ L m s Q E news B F X N T hk hneed j t hj hd hu hret
  obtain ⟨r, vs, ns, k, hr1, hr2, hrI, hro⟩ := hr.2 j.toNat (by (first | lia | omega))
  have hr1' : refs[j.toNat]? = some (.ref r) := hr1
  have hrl := hr.1
  obtain ⟨⟨pre, last, rfl, hb, hl1, hl2, hrd, hln⟩⟩ := hro
  have hvl := hrI.length
  simp only [List.length_append, List.length_cons, List.length_nil] at hvl
  replace hq := hneed _ hq; replace hc := hneed _ hc; replace hcc := hneed _ hcc; replace hlo := hneed _ hlo; replace hr2 := hneed _ hr2
  refine wpAny_call ?_
  k_dflt (walk_at "lenter")
  k_steps
  have hv : rdm (pre ++ [last]) = val j := by
    rw [Octs.rdm hb hl1 hl2 hrd]; congr 1; (first | lia | omega)
  rw [hv]
  rename_i kF kN Tc' kX
  exact hret _ _ _ kF (fun p hp => kN p (by walk_at "mem"))
end
section
local macro_rules | `(tactic| walk_at "nought0") => `(tactic| skip)
noncomputable def ordLam (p : Params) : Option (Arguments × Expr × Scope) := match (bodyAt p 124).drop 19 with | (.Assign _ (.BinOp (.BinOp _ _ (.Call _ _ (⟨_, .Lambda a b s _, _⟩ :: _) _) _) _ _ _) _) :: _ => some (a, b, s) | _ => none
section
local macro_rules | `(tactic| k_mem) => `(tactic| walk_at "mem")
theorem setup21 : True := by
  k_with_none
  k_with "enter" => (refine code_def (by k_asm) (by k_asm) (by k_asm) (by k_asm) (by k_asm) (by exact rfl) (by exact rfl) (by assumption) (by k_is) (by k_is) (by ktr_room) (by first | exact BindsTo.of_eq rfl | (refine kp_binds (by k_in) (by exact fun _ => rfl))) (by exact locs rfl) ?_ (by exact rfl) (by exact rfl) (by exact rfl) (by decide); k_whole; intro g' L' h' FG' F' N' B' X' T'; (try dsimp only); (try k_fold))
  k_with "call builtin:len" => (k_here; (with_reducible show wpAny _ _ (call (Value.builtin "len") [Value.ref _]) _ _ _); k_dflt (refine lenL (by k_asm) (by walk_at "mem") (by walk_at "len_fits") ?_; k_whole))
  k_with "call builtin:list.insert" => (k_here; k_dflt (refine insL (by k_asm) (by k_asm) (by omega) (by omega) (by k_upd) (by walk_at "len_fits") ?_; k_whole); intro h' F' N'; (try k_sweep))
  k_with "addcore" => (k_here; (with_reducible show wpAny _ _ (binaryOp _ (Value.ref _) (Value.ref _)) _ _ _); k_dflt (refine addL (by k_asm) (by k_asm) (by exact News.isList (by assumption) (by walk_at "mem")) (by exact News.isList (by assumption) (by walk_at "mem")) ?_ (by walk_at "len_fits")))
  k_with "newcore" => (k_here; k_dflt (refine newList_K (by k_asm) (by k_asm) ?_; k_whole))
  k_with "eval Name" => (k_here; k_dflt (refine nameX_L (by k_asm) (by exact rfl) ?_ (by rfl) (by rfl) (by decide); k_whole))
  k_with "eval Name" => (k_here; k_dflt (refine nameX_K (by k_asm) (by k_asm) (by k_asm) (by k_is) ?_ (by rfl) (by rfl) (by decide); k_whole))
  k_with "eval Name" => (k_here; k_dflt (refine nameX_B (by k_asm) (by k_asm) (by k_asm) (by k_is) (by boot_by_name) (by decide) ?_ (by rfl) (by rfl) (by decide); k_whole))
  k_with "eval Name" => (k_here; k_dflt (refine nameX_F (by k_asm) (by rfl) (by walk_at "mem") (by assumption) ?_ (by rfl) (by rfl); k_whole))
  k_with "lenter" => (refine kla_code (by k_asm) (by k_asm) (by k_asm) (by k_asm) (by k_asm) (by exact rfl) (by exact rfl) (by assumption) (by walk_at "mem") (by exact codeRec_news (by k_asm) (by walk_at "mem") (by assumption) (by assumption)) (by ktr_room) (by exact rfl) (by exact locs rfl) ?_ (by exact rfl) (by exact rfl) (by exact rfl) (by decide); k_whole; intro g' L' h' FG' F' N' B' X' T'; (try dsimp only); (try k_fold))
  k_with "subscriptTail" => (k_here; (with_reducible show wpAny _ _ (subscriptTail _ _ (Value.ref _) (Value.int _ _)) _ _ _); k_dflt (refine itemL (by k_asm) (by assumption) (by omega) (by omega) (by assumption) ?_ (by with_unfolding_all rfl); k_whole))
  exact True.intro
set_option maxRecDepth 100000 in
set_option maxHeartbeats 8000000 in
theorem order_ok {w : World} {q c' cc lo : Addr} {qual : Str} {params : Arguments} {body : Expr} {scope : Scope} {pm ctv : Value} {oc ocell : Obj} {fvs : Array Value} {tq : Tok} {n : Nat} {wd : List Int} {wv : List Value} {k0 : Nat} {need : List (Addr × Obj)}
    (hlam : ordLam w.params = some (params, body, scope)) (hn : n ≤ 900) (hwl : wd.length = n) (hI : IntsAre wv wd)
    (hq : (q, kla_obj "<lambda>" qual params body scope [("word", cc)] pm c' ctv) ∈ need) (hc : (c', oc) ∈ need) (hoc1 : oc.data = .fields fvs) (hoc2 : fvs[1]? = some (.str qual tq))
    (hcc : (cc, ocell) ∈ need) (hcd : ocell.data = .cell (some (.ref lo))) (hlo : (lo, listOf wv.toArray k0) ∈ need) :
    KeyOk w q (fun j => wd.getD j.toNat 0) (fun j => 0 ≤ j ∧ j < (n : Int)) need := by
  revert hlam; unfold KeyOk; k_fill; intro hlam
  with_unfolding_all (conv at hlam => lhs; whnf)
  injection hlam with hlam
  injection hlam with h1 hlam
  injection hlam with h2 h3
  subst h1 h2 h3
  intro mean mg mb dp un gd cn cs a ccd cl outer A₀ base h₀ L m s Q E news B F X N T hk hneed j t hj hd hu hret
  obtain ⟨tw, hw⟩ := intsAt hI j.toNat (by omega)
  have hvl := hI.length
  replace hq := hneed _ hq; replace hc := hneed _ hc; replace hcc := hneed _ hcc; replace hlo := hneed _ hlo
  refine wpAny_call ?_
  k_dflt (walk_at "lenter")
  k_steps
  rename_i kF kN Tc' kX
  exact hret _ _ _ kF (fun p hp => kN p (by walk_at "mem"))
end
end
section
set_option maxRecDepth 100000 in
theorem pat1 {w : World} {h : Heap} (X : (hd.heap_39 w.params).In h) : PatAt h 36 35 code1 := by
  with_unfolding_all exact ⟨⟨_, _, X 36 _ rfl, rfl, rfl, ⟨_, rfl⟩, rfl, ⟨_, rfl⟩⟩, ⟨_, _, _, X 35 _ rfl, rfl, by decide +kernel⟩⟩
set_option maxRecDepth 100000 in
theorem pat2 {w : World} {h : Heap} (X : (hd.heap_39 w.params).In h) : PatAt h 41 40 code2 := by
  with_unfolding_all exact ⟨⟨_, _, X 41 _ rfl, rfl, rfl, ⟨_, rfl⟩, rfl, ⟨_, rfl⟩⟩, ⟨_, _, _, X 40 _ rfl, rfl, by decide +kernel⟩⟩
set_option maxRecDepth 100000 in
theorem pat1d {w : World} {h : Heap} (X : (hd.heap_39 w.params).In h) : ∃ o, h.get? 36 = some o ∧ o.dict = none := by
  with_unfolding_all exact ⟨_, X 36 _ rfl, rfl⟩
set_option maxRecDepth 100000 in
theorem pat2d {w : World} {h : Heap} (X : (hd.heap_39 w.params).In h) : ∃ o, h.get? 41 = some o ∧ o.dict = none := by
  with_unfolding_all exact ⟨_, X 41 _ rfl, rfl⟩
def quoted (l : List Nat) : List Nat := dotd true (norm false l)
section
variable {prog : Program} {w : World} {A : Around} {E : Value → Shared → Prop} {s : Shared} {h₀ : Heap} {L : Addr} {m : Str → Option Value} {news : List (Addr × Obj)} {Q : Value → Shared → Prop}
theorem afterSub {o : Obj} {h' : Heap} (F : Fr h₀ L s.heap m) (N : News h₀ L s.heap news) (hs : Heap.SameBut s.heap.objs.size (s.heap.push o) h') : Fr h₀ L h' m ∧ News h₀ L h' news := by
  have hf := next_is_new F
  refine ⟨(F.push o).change hs (fun e => ?_) hf, fun p hp => ?_⟩
  · have := F.ns.lt
    rw [← e] at this; exact Nat.lt_irrefl _ this
  · have n := N p hp
    have hne : p.1 ≠ s.heap.objs.size := Nat.ne_of_lt (Heap.lt_size n.1)
    exact ⟨(hs.2 p.1 hne).trans (Heap.get?_push_of_some _ n.1), n.2⟩
theorem subK {P CT : Addr} {code : Array Nat} {x r : Str} {t tr : Tok} {ok : Nat → Option Nat} {n : Nat} (F : Fr h₀ L s.heap m) (N : News h₀ L s.heap news) (X : PatAt h₀ P CT code)
    (hcomes : ∀ s, s ≤ x.cps.size → Comes (Sre.forSearch code x.cps 0 s x.cps.size false) n (findAt ok (x.cps.size - s) s)) (hN : n < 2 ^ 64) (hok : ∀ s e, ok s = some e → s < e ∧ e ≤ x.cps.size)
    (hr : r.length ≤ 2) (hr92 : r.cps.contains 92 = false) (hx : x.cps.size ≤ 400000)
    (hQ : ∀ t' h' tk', Fr h₀ L h' m → News h₀ L h' news → Q (.str (Builtin.Str.glued ⟨#[]⟩ (pieces ok x r (x.cps.size + 1) 0)) t') { s with heap := h', toks := tk' }) :
    wpAny (model prog w) A (call (.builtin "re.Pattern.sub") [.ref P, .str r tr, .str x t]) Q E s := by
  refine re_sub (code := code) (P := P) (CT := CT) ?_ hcomes hN hok hr hr92 hx fun t' o h' tk' hs => ?_
  · obtain ⟨⟨po, fs, h1, h2⟩, ⟨co, items, n, h3, h4⟩⟩ := X
    exact ⟨⟨po, fs, F.keep _ _ h1, h2⟩, ⟨co, items, n, F.keep _ _ h3, h4⟩⟩
  · obtain ⟨F', N'⟩ := afterSub F N hs
    exact hQ t' h' tk' F' N'
theorem subCR {x r : Str} {t tr : Tok} (F : Fr h₀ L s.heap m) (N : News h₀ L s.heap news) (X : PatAt h₀ 41 40 code2) (e : r = ⟨#[13, 10]⟩) (hx : x.cps.size ≤ 100000)
    (hQ : ∀ t' h' tk', Fr h₀ L h' m → News h₀ L h' news → Q (.str (strOfL (norm false x.cps.toList)) t') { s with heap := h', toks := tk' }) :
    wpAny (model prog w) A (call (.builtin "re.Pattern.sub") [.ref 41, .str r tr, .str x t]) Q E s := by
  subst e
  refine subK F N X (fun s h => found2 x.cps s h) (by decide) ok2_ok (by decide) (by decide +kernel) (by omega) fun t' h' tk' F' N' => ?_
  rw [sub_norm]
  exact hQ t' h' tk' F' N'
theorem subDots {x r : Str} {t tr : Tok} (F : Fr h₀ L s.heap m) (N : News h₀ L s.heap news) (X : PatAt h₀ 36 35 code1) (e : r = ⟨#[46, 46]⟩) (hx : x.cps.size ≤ 400000)
    (hQ : ∀ t' h' tk', Fr h₀ L h' m → News h₀ L h' news → Q (.str (strOfL (dotd true x.cps.toList)) t') { s with heap := h', toks := tk' }) :
    wpAny (model prog w) A (call (.builtin "re.Pattern.sub") [.ref 36, .str r tr, .str x t]) Q E s := by
  subst e
  refine subK F N X (fun s h => found1 x.cps s h) (Nat.lt_of_le_of_lt (m := 3 * 400000 + 9) (by omega) (by decide)) ok1_ok' (by decide) (by decide +kernel) hx fun t' h' tk' F' N' => ?_
  rw [sub_dotd]
  exact hQ t' h' tk' F' N'
theorem reMethodK {P CT : Addr} {code : Array Nat} {pl : Sem Bool} {Q : Value × List Value → Shared → Prop} (F : Fr h₀ L s.heap m) (X : PatAt h₀ P CT code)
    (hd : ∃ o, h₀.get? P = some o ∧ o.dict = none) (h : Q (.builtin "re.Pattern.sub", [.ref P]) s) : wpAny (model prog w) A (getMethod (.ref P) "sub" pl) Q E s := by
  obtain ⟨⟨po, fs, h1, h2, h3, _⟩, _⟩ := X
  refine getMethod_builtin ⟨po, F.keep _ _ h1, h3⟩ plainAttrs_re slot_re_sub type_re_sub (fun a e => ?_) h
  cases e
  obtain ⟨o, ho, hd⟩ := hd
  exact ⟨o, F.keep _ _ ho, hd⟩
end
section
variable {w : World} {mean : ExcName → Option Value} {mg mb : Str → Option Value}
  {dp un : Nat} {gd : Option (List Code)} {cn : Str} {cs : Scope} {a : Addr} {ccd : Value} {cl : List (Str × Addr)} {outer : List Env} {A₀ : Around} {base h₀ : Heap} {L : Addr} {m : Str → Option Value} {s : Shared} {Q E : Value → Shared → Prop} {news : List (Addr × Obj)}
  {x : Str} {t : Tok}
  (B : Below A₀ base outer h₀) (F : Fr h₀ L s.heap m) (X : (hd.heap_39 w.params).In h₀) (N : News h₀ L s.heap news) (T : TopM mean mg mb h₀) (hk : cs.kind = .function)
include B F X N T hk
theorem setup22 : True := by
  k_with_none
  k_with "enter" => (refine code_def (by k_asm) (by k_asm) (by k_asm) (by k_asm) (by k_asm) (by exact rfl) (by exact rfl) (by assumption) (by k_is) (by k_is) (by ktr_room) (by first | exact BindsTo.of_eq rfl | (refine kp_binds (by k_in) (by exact fun _ => rfl))) (by exact locs rfl) ?_ (by exact rfl) (by exact rfl) (by exact rfl) (by decide); k_whole; intro g' L' h' FG' F' N' B' X' T'; (try dsimp only); (try k_fold))
  k_with "call builtin:len" => (k_here; (with_reducible show wpAny _ _ (call (Value.builtin "len") [Value.ref _]) _ _ _); k_dflt (refine lenL (by k_asm) (by walk_at "mem") (by walk_at "len_fits") ?_; k_whole))
  k_with "call builtin:list.insert" => (k_here; k_dflt (refine insL (by k_asm) (by k_asm) (by omega) (by omega) (by k_upd) (by walk_at "len_fits") ?_; k_whole); intro h' F' N'; (try k_sweep))
  k_with "addcore" => (k_here; (with_reducible show wpAny _ _ (binaryOp _ (Value.ref _) (Value.ref _)) _ _ _); k_dflt (refine addL (by k_asm) (by k_asm) (by exact News.isList (by assumption) (by walk_at "mem")) (by exact News.isList (by assumption) (by walk_at "mem")) ?_ (by walk_at "len_fits")))
  k_with "newcore" => (k_here; k_dflt (refine newList_K (by k_asm) (by k_asm) ?_; k_whole))
  k_with "getMethod ref" => (k_here; (first | (with_reducible show wpAny _ _ (getMethod (Value.ref 36) _ _) _ _ _) | (with_reducible show wpAny _ _ (getMethod (Value.ref 41) _ _) _ _ _)); k_dflt (first | (refine reMethodK (by k_asm) (pat1 (by assumption)) (pat1d (by assumption)) ?_; k_whole) | (refine reMethodK (by k_asm) (pat2 (by assumption)) (pat2d (by assumption)) ?_; k_whole)))
  k_with "call builtin:re.Pattern.sub" => (k_here; k_dflt (first | (refine subCR (by k_asm) (by k_asm) (pat2 (by assumption)) (by rfl) (by assumption) ?_; k_whole) | (refine subDots (by k_asm) (by k_asm) (pat1 (by assumption)) (by rfl) (by assumption) ?_; k_whole)); intro t' h' tk' F' N')
  exact True.intro
set_option maxHeartbeats 8000000 in
set_option maxRecDepth 100000 in
theorem quote_call (hx : x.cps.size ≤ 100000) (hd : dp + 4 < recursionLimit) (hu : un + 32 < cLine)
    (hret : ∀ t' h' tk', Fr h₀ L h' m → News h₀ L h' news → Q (.str (strOfL (quoted x.cps.toList)) t') { s with heap := h', toks := tk' }) :
    wpAny (model (RowW.prog (OpenRow.toRowW (OpenLaw.row PySem.Challenge.rw_sn0020_01))) w) (ktrTop dp un gd cn cs L a ccd cl outer) (call (.ref 48) [.str x t] []) Q E s := by
  have hx2 : (strOfL (norm false x.cps.toList)).cps.size ≤ 400000 := by
    have := norm_len false x.cps.toList
    show (norm false x.cps.toList).toArray.size ≤ _
    rw [List.size_toArray]
    simp at this
    omega
  revert X; k_fill; intro X
  refine wpAny_call ?_
  k_dflt (walk_at "enter")
  k_steps
  rename_i kF kN Tc' kX
  exact hret _ _ _ kF kN
end
end
section
/-! Foata's image: as many pairs stand wrong as the falls' places come to -/
def inv (val : Int → Int) : List Int → Nat
  | [] => 0
  | x :: l => (l.filter (fun y => decide (val y < val x))).length + inv val l
theorem len_filter_perm {l l' : List Int} (h : l.Perm l') (p : Int → Bool) : (l.filter p).length = (l'.filter p).length := (h.filter p).length_eq
theorem inv_snoc (val : Int → Int) (x : Int) : ∀ l : List Int, inv val (l ++ [x]) = inv val l + (l.filter (fun y => decide (val x < val y))).length
  | [] => rfl
  | a :: l => by
    rw [List.cons_append]
    show ((l ++ [x]).filter _).length + inv val (l ++ [x]) = (l.filter _).length + inv val l + _
    rw [inv_snoc val x l, List.filter_append, List.length_append, List.filter_cons]
    by_cases h : val x < val a
    · simp [h]; (first | lia | omega)
    · simp [h]; (first | lia | omega)
theorem inv_swap (val : Int → Int) (o : Int) (q : List Int) : ∀ m : List Int, inv val (m ++ o :: q) + (q.filter (fun y => decide (val o < val y))).length = inv val (m ++ q ++ [o]) + (q.filter (fun y => decide (val y < val o))).length
  | [] => by
    show (q.filter _).length + inv val q + _ = inv val ([] ++ q ++ [o]) + _
    rw [List.nil_append, inv_snoc]; (first | lia | omega)
  | a :: m => by
    have ih := inv_swap val o q m
    show ((m ++ o :: q).filter _).length + inv val (m ++ o :: q) + _ = ((m ++ q ++ [o]).filter _).length + inv val (m ++ q ++ [o]) + _
    have hp : (m ++ o :: q).Perm (m ++ q ++ [o]) := by
      rw [List.append_assoc]
      exact (List.perm_append_singleton o q).symm.append_left m
    rw [len_filter_perm hp]; (first | lia | omega)
theorem movL_inv (val : Int → Int) : ∀ l : List Int, movL val l = (inv val l : Int)
  | [] => rfl
  | x :: l => by
    show movL val l + _ = (((l.filter _).length + inv val l : Nat) : Int)
    rw [movL_inv val l, len_filter_perm (sortL_perm val l)]
    (first | lia | omega)
theorem snoc_ind {P : List Int → Prop} (h0 : P []) (h1 : ∀ l x, P l → P (l ++ [x])) : ∀ l, P l := by
  intro l
  have : ∀ (r : List Int), P r.reverse := by
    intro r
    induction r with
    | nil => exact h0
    | cons a r ih => rw [List.reverse_cons]; exact h1 _ _ ih
  have := this l.reverse
  rwa [List.reverse_reverse] at this
theorem movR_inv (val : Int → Int) : ∀ l : List Int, movR val l = (inv val l : Int) := by
  refine snoc_ind rfl fun l x ih => ?_
  rw [movR_snoc, ih, inv_snoc, len_filter_perm (sortR_perm val l)]
  have e : (fun y => !decide (val y ≤ val x)) = (fun y => decide (val x < val y)) := by
    funext y
    by_cases h : val y ≤ val x
    · simp [h, show ¬ val x < val y by (first | lia | omega)]
    · simp [h, show val x < val y by (first | lia | omega)]
  rw [e]; (first | lia | omega)
theorem inv_map (val : Int → Int) : ∀ l : List Int, inv id (l.map val) = inv val l
  | [] => rfl
  | x :: l => by
    show ((l.map val).filter _).length + inv id (l.map val) = (l.filter _).length + inv val l
    rw [inv_map val l, List.filter_map, List.length_map]
    rfl
theorem putR_map (val : Int → Int) (x : Int) (S : List Int) : putR id (val x) (S.map val) = (putR val x S).map val := by
  unfold putR
  rw [List.map_append, List.map_cons, List.filter_map, List.filter_map]
  rfl
theorem putL_map (val : Int → Int) (x : Int) (S : List Int) : putL id (val x) (S.map val) = (putL val x S).map val := by
  unfold putL
  rw [List.map_append, List.map_cons, List.filter_map, List.filter_map]
  rfl
theorem sortR_map (val : Int → Int) : ∀ l : List Int, sortR id (l.map val) = (sortR val l).map val := by
  refine snoc_ind rfl fun l x ih => ?_
  rw [List.map_append, List.map_cons, List.map_nil, sortR_snoc, ih, sortR_snoc, putR_map]
theorem sortL_map (val : Int → Int) : ∀ l : List Int, sortL id (l.map val) = (sortL val l).map val
  | [] => rfl
  | x :: l => by
    show putL id (val x) (sortL id (l.map val)) = (putL val x (sortL val l)).map val
    rw [sortL_map val l, putL_map]
/-- like ones stand in the order of their places -/
def Keep (val : Int → Int) (l : List Int) : Prop := l.Pairwise (fun a b => val a = val b → a < b)
def Lt2 (val : Int → Int) (x y : Int) : Prop := val x < val y ∨ (val x = val y ∧ x < y)
theorem putR_lex {val : Int → Int} {x : Int} {S : List Int} (h : S.Pairwise (Lt2 val)) (hx : ∀ y ∈ S, val y = val x → y < x) : (putR val x S).Pairwise (Lt2 val) := by
  unfold putR
  refine List.pairwise_append.mpr ⟨h.filter _, List.pairwise_cons.mpr ⟨fun b hb => ?_, h.filter _⟩, fun a ha b hb => ?_⟩
  · have := (List.mem_filter.mp hb).2; simp at this; exact .inl this
  · have h1 := List.mem_filter.mp ha
    have h2 := h1.2
    simp at h2
    rcases List.mem_cons.mp hb with rfl | hb
    · by_cases q : val a = val b
      · exact .inr ⟨q, hx a h1.1 q⟩
      · exact .inl (by (first | lia | omega))
    · have := (List.mem_filter.mp hb).2; simp at this; exact .inl (by (first | lia | omega))
theorem putL_lex {val : Int → Int} {x : Int} {S : List Int} (h : S.Pairwise (Lt2 val)) (hx : ∀ y ∈ S, val x = val y → x < y) : (putL val x S).Pairwise (Lt2 val) := by
  unfold putL
  refine List.pairwise_append.mpr ⟨h.filter _, List.pairwise_cons.mpr ⟨fun b hb => ?_, h.filter _⟩, fun a ha b hb => ?_⟩
  · have h1 := List.mem_filter.mp hb
    have h2 := h1.2
    simp at h2
    by_cases q : val x = val b
    · exact .inr ⟨q, hx b h1.1 q⟩
    · exact .inl (by (first | lia | omega))
  · have h1 := (List.mem_filter.mp ha).2
    simp at h1
    rcases List.mem_cons.mp hb with rfl | hb
    · exact .inl h1
    · have := (List.mem_filter.mp hb).2; simp at this; exact .inl (by (first | lia | omega))
theorem sortR_lex {val : Int → Int} : ∀ l : List Int, Keep val l → (sortR val l).Pairwise (Lt2 val) := by
  refine snoc_ind (fun _ => List.Pairwise.nil) fun l x ih h => ?_
  obtain ⟨h1, _, h3⟩ := List.pairwise_append.mp h
  rw [sortR_snoc]
  exact putR_lex (ih h1) fun y hy e => h3 y ((sortR_perm val l).mem_iff.mp hy) x (.head _) e
theorem sortL_lex {val : Int → Int} : ∀ l : List Int, Keep val l → (sortL val l).Pairwise (Lt2 val)
  | [], _ => List.Pairwise.nil
  | x :: l, h => by
    obtain ⟨h1, h2⟩ := List.pairwise_cons.mp h
    exact putL_lex (sortL_lex l h2) fun y hy e => h1 y ((sortL_perm val l).mem_iff.mp hy) e
theorem lex_uniq {val : Int → Int} : ∀ {l l' : List Int}, l.Perm l' → l.Pairwise (Lt2 val) → l'.Pairwise (Lt2 val) → l = l'
  | [], l', h, _, _ => h.symm.eq_nil.symm
  | x :: l, [], h, _, _ => absurd h.eq_nil (by simp)
  | x :: l, y :: l', h, h1, h2 => by
    obtain ⟨a1, a2⟩ := List.pairwise_cons.mp h1
    obtain ⟨b1, b2⟩ := List.pairwise_cons.mp h2
    by_cases e : x = y
    · subst e
      rw [lex_uniq h.cons_inv a2 b2]
    · exfalso
      have hx : x ∈ y :: l' := h.mem_iff.mp (.head _)
      have hy : y ∈ x :: l := h.mem_iff.mpr (.head _)
      rcases List.mem_cons.mp hx with q | hx
      · exact e q
      · rcases List.mem_cons.mp hy with q | hy
        · exact e q.symm
        · have := b1 x hx
          have := a1 y hy
          unfold Lt2 at *
          (first | lia | omega)
/-! the image's step -/
structure Fol (w : Int → Int) (x : Int) (b : Bool) (l : List Int) (s : List Int × List Int) : Prop where
  perm : (s.1 ++ s.2).Perm l
  cls : ∀ y ∈ s.2, (decide (w y ≤ x) == b) = false
  up : b = true → inv w (s.1 ++ s.2) + (l.filter (fun y => !(decide (w y ≤ x) == b))).length = inv w l + s.2.length
  down : b = false → inv w (s.1 ++ s.2) + s.2.length = inv w l + (l.filter (fun y => !(decide (w y ≤ x) == b))).length
  keep : Keep w l → Keep w (s.1 ++ s.2)
  last : ∀ o, l.getLast? = some o → (decide (w o ≤ x) == b) = true → s.2 = []
theorem fol (w : Int → Int) (x : Int) (b : Bool) : ∀ l : List Int, Fol w x b l (l.foldl (inn w x b) ([], [])) := by
  refine snoc_ind ⟨.refl _, fun y hy => (nomatch hy), fun _ => rfl, fun _ => rfl, fun h => h, fun o h => (nomatch h)⟩ fun l o ih => ?_
  rw [List.foldl_append, List.foldl_cons, List.foldl_nil]
  generalize l.foldl (inn w x b) ([], []) = s at ih
  obtain ⟨m, q⟩ := s
  obtain ⟨hp, hc, hu, hd, hk, _⟩ := ih
  dsimp only at hp hc hu hd hk
  unfold inn
  have inc : inv w (m ++ q ++ [o]) + inv w l = inv w (l ++ [o]) + inv w (m ++ q) := by
    rw [inv_snoc, inv_snoc, len_filter_perm hp]; (first | lia | omega)
  by_cases h : (decide (w o ≤ x) == b) = true
  · rw [if_pos h]
    have sw := inv_swap w o q m
    have hpp : (m ++ [o] ++ q ++ []).Perm (l ++ [o]) := by
      rw [List.append_nil, List.append_assoc]
      refine List.Perm.trans ?_ (hp.append_right [o])
      rw [List.append_assoc]
      exact (List.perm_append_singleton o q).symm.append_left m
    have fl : ((l ++ [o]).filter (fun y => !(decide (w y ≤ x) == b))).length = (l.filter (fun y => !(decide (w y ≤ x) == b))).length := by
      rw [List.filter_append]; simp [h]
    have e1 : m ++ [o] ++ q = m ++ o :: q := by simp
    refine ⟨hpp, fun y hy => (nomatch hy), fun hb => ?_, fun hb => ?_, fun hK => ?_, fun _ _ _ => rfl⟩
    · subst hb
      have g1 : q.filter (fun y => decide (w o < w y)) = q := List.filter_eq_self.mpr fun y hy => by
        have := hc y hy; simp at this h; simp; (first | lia | omega)
      have g2 : q.filter (fun y => decide (w y < w o)) = [] := List.filter_eq_nil_iff.mpr fun y hy => by
        have := hc y hy; simp at this h; simp; (first | lia | omega)
      rw [g1, g2] at sw
      have := hu rfl
      dsimp only
      rw [List.append_nil, e1, fl]
      simp only [List.length_nil] at *
      (first | lia | omega)
    · subst hb
      have g1 : q.filter (fun y => decide (w o < w y)) = [] := List.filter_eq_nil_iff.mpr fun y hy => by
        have := hc y hy; simp at this h; simp; (first | lia | omega)
      have g2 : q.filter (fun y => decide (w y < w o)) = q := List.filter_eq_self.mpr fun y hy => by
        have := hc y hy; simp at this h; simp; (first | lia | omega)
      rw [g1, g2] at sw
      have := hd rfl
      dsimp only
      rw [List.append_nil, e1, fl]
      simp only [List.length_nil] at *
      (first | lia | omega)
    · obtain ⟨k1, _, k3⟩ := List.pairwise_append.mp hK
      have k4 := hk k1
      obtain ⟨k5, k6, k7⟩ := List.pairwise_append.mp k4
      show List.Pairwise _ (m ++ [o] ++ q ++ [])
      rw [List.append_nil, e1]
      refine List.pairwise_append.mpr ⟨k5, List.pairwise_cons.mpr ⟨fun y hy e => ?_, k6⟩, fun a ha c hc' e => ?_⟩
      · have := hc y hy
        rw [e] at h
        rw [h] at this; cases this
      · rcases List.mem_cons.mp hc' with rfl | hc'
        · exact k3 a (hp.mem_iff.mp (List.mem_append_left _ ha)) c (.head _) e
        · exact k7 a ha c hc' e
  · rw [if_neg h]
    have h' : (decide (w o ≤ x) == b) = false := by simpa using h
    have fl : ((l ++ [o]).filter (fun y => !(decide (w y ≤ x) == b))).length = (l.filter (fun y => !(decide (w y ≤ x) == b))).length + 1 := by
      rw [List.filter_append]; simp [h']
    have e1 : m ++ (q ++ [o]) = m ++ q ++ [o] := by simp
    refine ⟨?_, fun y hy => ?_, fun hb => ?_, fun hb => ?_, fun hK => ?_, fun o' ho' hc' => ?_⟩
    · show (m ++ (q ++ [o])).Perm _
      rw [e1]; exact hp.append_right [o]
    · rcases List.mem_append.mp hy with hy | hy
      · exact hc y hy
      · rw [List.mem_singleton.mp hy]; exact h'
    · have := hu hb
      dsimp only
      rw [e1, fl, List.length_append, List.length_singleton]; (first | lia | omega)
    · have := hd hb
      dsimp only
      rw [e1, fl, List.length_append, List.length_singleton]; (first | lia | omega)
    · obtain ⟨k1, _, k3⟩ := List.pairwise_append.mp hK
      show List.Pairwise _ (m ++ (q ++ [o]))
      rw [e1]
      refine List.pairwise_append.mpr ⟨hk k1, List.pairwise_singleton _ _, fun a ha c hc' e => k3 a (hp.mem_iff.mp ha) c hc' e⟩
    · rw [List.getLast?_append] at ho'
      simp at ho'
      subst ho'
      rw [h'] at hc'; cases hc'
def majOf (w : Int → Int) : Nat → Nat
  | 0 => 0
  | n + 1 => majOf w n + (if 0 < n ∧ w n < w ((n : Int) - 1) then n else 0)
theorem imageOf_getLast (w : Int → Int) (n : Nat) : (imageOf w (n + 1)).getLast? = some (n : Int) := by
  rw [imageOf_succ]; unfold imgStep; simp
theorem calm_last {w : Int → Int} {im : List Int} {p o : Int} (h : im.getLast? = some o) : calmOf w im p = decide (w o ≤ w p) := by
  unfold calmOf
  have h2 : im.getLastD 0 = o := by rw [List.getLastD_eq_getLast?, h]; rfl
  have h3 : im ≠ [] := fun e => by rw [e] at h; cases h
  rw [h2]
  cases im with
  | nil => exact absurd rfl h3
  | cons a l => simp
structure Image (w : Int → Int) (n : Nat) (l : List Int) : Prop where
  perm : l.Perm (upTo n)
  keep : Keep w l
  inv : inv w l = majOf w n
theorem image_is (w : Int → Int) : ∀ n : Nat, Image w n (imageOf w n)
  | 0 => ⟨.refl _, List.Pairwise.nil, rfl⟩
  | n + 1 => by
    have ih := image_is w n
    have hlen : (imageOf w n).length = n := by rw [ih.perm.length_eq]; simp [upTo]
    rw [imageOf_succ]
    unfold imgStep
    have f := fol w (w n) (calmOf w (imageOf w n) n) (imageOf w n)
    generalize hs : (imageOf w n).foldl (inn w (w n) (calmOf w (imageOf w n) n)) ([], []) = s at f
    have hnil : s.2 = [] := by
      cases n with
      | zero => rw [← hs]; rfl
      | succ k =>
        have hl := imageOf_getLast w k
        refine f.last _ hl ?_
        rw [calm_last hl]; simp
    obtain ⟨m, q⟩ := s
    dsimp only at hnil
    subst hnil
    have hp := f.perm
    dsimp only at hp ⊢
    rw [List.append_nil] at hp
    have hup : upTo (n + 1) = upTo n ++ [(n : Int)] := by unfold upTo; rw [List.range_succ, List.map_append]; rfl
    refine ⟨?_, ?_, ?_⟩
    · rw [hup]
      exact (hp.trans ih.perm).append_right _
    · have hk := f.keep ih.keep
      dsimp only at hk
      rw [List.append_nil] at hk
      refine List.pairwise_append.mpr ⟨hk, List.pairwise_singleton _ _, fun a ha c hc _ => ?_⟩
      rw [List.mem_singleton.mp hc]
      exact (upTo_mem ((hp.trans ih.perm).mem_iff.mp ha)).2
    · rw [inv_snoc, len_filter_perm hp]
      have hsplit : ((imageOf w n).filter (fun y => decide (w y ≤ w n))).length + ((imageOf w n).filter (fun y => decide (w n < w y))).length = n := by
        have e : (fun y => decide (w n < w y)) = (fun y => !decide (w y ≤ w n)) := by
          funext y
          by_cases h : w y ≤ w n
          · simp [h] <;> (first | lia | omega)
          · simp [h] <;> (first | lia | omega)
        rw [e]
        have := (List.filter_append_perm (fun y => decide (w y ≤ w n)) (imageOf w n)).length_eq
        rw [List.length_append] at this
        (first | lia | omega)
      show _ = majOf w n + (if 0 < n ∧ w n < w ((n : Int) - 1) then n else 0)
      rw [← ih.inv]
      cases hb : calmOf w (imageOf w n) n with
      | true =>
        have := f.up hb
        dsimp only at this
        rw [List.append_nil, List.length_nil, hb] at this
        have e : (fun y => !(decide (w y ≤ w n) == true)) = (fun y => decide (w n < w y)) := by
          funext y
          by_cases h : w y ≤ w n
          · simp [h] <;> (first | lia | omega)
          · simp [h] <;> (first | lia | omega)
        rw [e] at this
        have hneg : ¬ (0 < n ∧ w n < w ((n : Int) - 1)) := by
          rintro ⟨hn, hlt⟩
          obtain ⟨k, rfl⟩ : ∃ k, n = k + 1 := ⟨n - 1, by (first | lia | omega)⟩
          rw [calm_last (imageOf_getLast w k)] at hb
          have := of_decide_eq_true hb
          have e2 : (((k + 1 : Nat) : Int) - 1) = (k : Int) := by (first | lia | omega)
          rw [e2] at hlt
          (first | lia | omega)
        rw [if_neg hneg]
        (first | lia | omega)
      | false =>
        have := f.down hb
        dsimp only at this
        rw [List.append_nil, List.length_nil, hb] at this
        have e : (fun y => !(decide (w y ≤ w n) == false)) = (fun y => decide (w y ≤ w n)) := by
          funext y
          by_cases h : w y ≤ w n
          · simp [h]
          · simp [h]
        rw [e] at this
        by_cases hn : 0 < n
        · rw [if_pos]
          · (first | lia | omega)
          · refine ⟨hn, ?_⟩
            obtain ⟨k, rfl⟩ : ∃ k, n = k + 1 := ⟨n - 1, by (first | lia | omega)⟩
            rw [calm_last (imageOf_getLast w k)] at hb
            have := of_decide_eq_false hb
            have e2 : (((k + 1 : Nat) : Int) - 1) = (k : Int) := by (first | lia | omega)
            rw [e2]
            (first | lia | omega)
        · rw [if_neg (fun h => hn h.1)]
          (first | lia | omega)
end
end
section
local macro_rules | `(tactic| walk_at "mem") => `(tactic| first | exact List.mem_cons_self | assumption | (refine List.mem_cons_of_mem _ ?_; walk_at "mem"))
local macro_rules | `(tactic| k_mem) => `(tactic| (k_dflt (walk_at "mem")))
local macro_rules | `(tactic| walk_at "all_rfl") => `(tactic| repeat (first | exact List.forall_mem_nil _ | refine List.forall_mem_cons.mpr ⟨rfl, ?_⟩))
local macro_rules | `(tactic| walk_at "sub") => `(tactic| ((repeat (refine List.forall_mem_cons.mpr ⟨by walk_at "mem", ?_⟩)); (first | exact List.forall_mem_nil _ | (intro p hp; walk_at "mem"))))
local macro_rules | `(tactic| k_all) => `(tactic| (k_dflt ((repeat (refine List.forall_mem_cons.mpr ⟨by k_ne, ?_⟩)); (first | exact List.forall_mem_nil _ | assumption))))
section
noncomputable def lawScope (p : Params) : Scope := (fdAt p 124).scope
abbrev lawCl (c1 c2 c3 c4 c5 c6 c7 c8 : Addr) : List (Str × Addr) := [("word", c8), ("octets", c7), ("ends", c6), ("rows", c5), ("dots", c4), ("read", c3), ("whole", c2), ("size", c1)]
/-- a comprehension over a range is left alone -/
theorem hold_range {M : Model} {A : Around} {elt : Expr} {x : Expr} {f : Str} {p1 p2 p3 : Pos} {args : List Expr} {scope : Scope} {pos : Pos} {env : Env} {Q : Value → Shared → Prop} {E : Value → Shared → Prop} {s : Shared}
    (h : Hold (wpAny M A (eval (.ListComp elt [⟨x, .Call (.Name f p1) args [] p2, [], 0⟩] scope pos) env) Q E s)) : wpAny M A (eval (.ListComp elt [⟨x, .Call (.Name f p1) args [] p2, [], 0⟩] scope pos) env) Q E s := h.out
theorem hold_octets {M : Model} {A : Around} {e : Expr} {p1 p2 : Pos} {env : Env} {Q : Flow → Shared → Prop} {E : Value → Shared → Prop} {s : Shared}
    {rest : List Stmt} (h : Hold (wpAny M A (execs (.Assign [.Name (Str.ofString "octets") p1] e p2 :: rest) env) Q E s)) : wpAny M A (execs (.Assign [.Name (Str.ofString "octets") p1] e p2 :: rest) env) Q E s := h.out
theorem cellInt {o : Obj} {x y : Int} {t : Tok} (h : o.data = .cell (some (.int x t))) (e : x = y) : o.data = .cell (some (.int y t)) := e ▸ h
theorem pickA {h₀ h : Heap} {L : Addr} {a0 a1 a2 a3 a4 a5 : Addr × Obj} {l : List (Addr × Obj)} (N : News h₀ L h (a0 :: a1 :: a2 :: a3 :: a4 :: a5 :: l)) : News h₀ L h (a0 :: a2 :: l) := fun p hp => N p (by
  simp only [List.mem_cons] at hp ⊢
  rcases hp with h | h | h <;> simp [h])
/-- the law's word -/
def wordOf (sc : List Int) : List Int := (sc.take 4).map (fun k' => k'.fmod 262144) ++ [70, 5, 70, 4100, 5, 66]
section
variable {w : World} {mean : ExcName → Option Value} {mg mb : Str → Option Value}
  {dp un : Nat} {gd : Option (List Code)} {fa : Addr} {outer : List Env} {A₀ : Around} {base h₀ : Heap} {L : Addr} {m : Str → Option Value} {s : Shared} {Q : Flow → Shared → Prop} {E : Value → Shared → Prop}
  {c1 c2 c3 c4 c5 c6 c7 c8 scr : Addr} {o1 o2 o3 o4 o5 o6 o7 o8 : Obj} {sc : List Int} {vs : List Value} {scope : Scope} {body : List Stmt}
local macro_rules | `(tactic| walk_at "execs cons") => `(tactic| (with_reducible refine hold_octets ?_))
theorem setup23 : True := by
  k_with_none
  k_with "storeName" => (k_here; k_dflt (refine storeX_C (by k_asm) (by k_asm) (by rfl) (by k_updF) (by k_asm) ?_ (by rfl) (by rfl); k_whole); intro h' o' F' N' d'; (try dsimp only at N'); (try k_sweep))
  exact True.intro
set_option maxHeartbeats 1000000 in
set_option maxRecDepth 100000 in
theorem law_A (B : Below A₀ base outer h₀) (F : Fr h₀ L s.heap m) (X : (hd.heap_39 w.params).In h₀) (T : TopM mean mg mb h₀) (hC : CodeHd h₀ 123 121)
    (N : News h₀ L s.heap [(c8, o8), (c7, o7), (c6, o6), (c5, o5), (c4, o4), (c3, o3), (c2, o2), (c1, o1), (121, tabObj #[])])
    (hc : @LT.lt Nat _ 121 c1 ∧ @LT.lt Nat _ c1 c2 ∧ @LT.lt Nat _ c2 c3 ∧ @LT.lt Nat _ c3 c4 ∧ @LT.lt Nat _ c4 c5 ∧ @LT.lt Nat _ c5 c6 ∧ @LT.lt Nat _ c6 c7 ∧ @LT.lt Nat _ c7 c8)
    (d1 : o1.data = .cell none) (d2 : o2.data = .cell none) (d3 : o3.data = .cell none) (d4 : o4.data = .cell none) (d5 : o5.data = .cell none) (d6 : o6.data = .cell none) (d7 : o7.data = .cell none) (d8 : o8.data = .cell none)
    (hl : h₀.IsList scr vs.toArray) (hI : IntsAre vs sc) (h63 : sc.length ≤ 63) (hm : m "script" = some (.ref scr))
    (hsc : lawScope w.params = scope) (hb : bodyAt w.params 124 = body) (hd : dp + 64 < recursionLimit) (hu : un + 512 < cLine)
    (hrest : ∀ (WD WH : Addr) (wv hv : List Value) (o1' o2' o8' : Obj) (t : Tok) (m' : Str → Option Value) (h' : Heap) (tk' : Nat), Fr h₀ L h' m' →
      News h₀ L h' [(WH, listOf hv.toArray 0), (WD, listOf wv.toArray 0), (c8, o8'), (c7, o7), (c6, o6), (c5, o5), (c4, o4), (c3, o3), (c2, o2'), (c1, o1'), (121, tabObj #[])] →
      o8'.data = .cell (some (.ref WD)) → o2'.data = .cell (some (.ref WH)) → o1'.data = .cell (some (.int ((wordOf sc).length : Int) t)) → @LT.lt Nat _ c8 WD → @LT.lt Nat _ WD WH →
      IntsAre wv (wordOf sc) → IntsAre hv (wordOf sc ++ [262144, 0]) →
      wpAny (model (RowW.prog (OpenRow.toRowW (OpenLaw.row PySem.Challenge.rw_sn0020_01))) w) (ktrTop dp un gd "law" scope L fa (.ref 123) (lawCl c1 c2 c3 c4 c5 c6 c7 c8) outer) (execs (body.drop 3) (envX "law" scope L fa (.ref 123) (lawCl c1 c2 c3 c4 c5 c6 c7 c8))) Q E { s with heap := h', toks := tk' }) :
    wpAny (model (RowW.prog (OpenRow.toRowW (OpenLaw.row PySem.Challenge.rw_sn0020_01))) w) (ktrTop dp un gd "law" scope L fa (.ref 123) (lawCl c1 c2 c3 c4 c5 c6 c7 c8) outer) (execs body (envX "law" scope L fa (.ref 123) (lawCl c1 c2 c3 c4 c5 c6 c7 c8))) Q E s := by
  with_unfolding_all (conv at hsc => lhs; whnf)
  with_unfolding_all (conv at hb => lhs; whnf)
  subst hsc hb
  revert X hrest; k_fill; intro X hrest
  obtain ⟨u0, F⟩ := frB [("script", .ref scr)] F (List.forall_mem_cons.mpr ⟨hm, List.forall_mem_nil _⟩)
  k_steps
  refine ⟨?_⟩
  (with_reducible rename Fr _ _ _ _ => F9); (with_reducible rename News _ _ _ _ => N9)
  have N10 := pickA N9
  with_unfolding_all exact hrest _ _ _ _ _ _ _ _ _ _ _ F9 N10 (by assumption) (by assumption) (by refine cellInt (by assumption) ?_; simp [wordOf]) (by omega) (by omega) (by assumption) (by assumption)
end
end
section
theorem hold_if {M : Model} {A : Around} {test : Expr} {b1 b2 : List Stmt} {p : Pos} {env : Env} {Q : Flow → Shared → Prop} {E : Value → Shared → Prop} {s : Shared}
    {rest : List Stmt} (h : Hold (wpAny M A (execs (.If test b1 b2 p :: rest) env) Q E s)) : wpAny M A (execs (.If test b1 b2 p :: rest) env) Q E s := h.out
/-- a comprehension's turns, by an invariant -/
theorem compTurns {prog : Program} {w : World} {A : Around} {h₀ : Heap} {L : Addr} {m : Str → Option Value} {env : Env} {elt : Expr} {x : Str} {scope : Scope} {cl : List (Str × Addr)} {s : Shared} {S : List (Addr × Obj) → Prop} {P : Nat → Value → Prop}
    {Fin : List Value → List (Addr × Obj) → Prop} {n : Nat} {news : List (Addr × Obj)} (Inv : Nat → List Value → List (Addr × Obj) → Prop) (h0 : Inv 0 [] news)
    (turn : ∀ i ys nw, i < n → Inv i ys nw → ∀ v I oI C oC D m₂ h tk (E' : Value → Shared → Prop), P i v → LCg.NsObj oC m₂ → m₂ x = some v → Fr h₀ L h m → News h₀ L h ((I, oI) :: (C, oC) :: (D, LCg.lst ys) :: nw) → LCg.Off3 I C D nw → ((@Ne Nat I C) ∧ (@Ne Nat I D) ∧ (@Ne Nat C D)) →
      wpAny (model prog w) A (eval elt (compEnvC scope cl C env)) (LCg.CompEnd h₀ L m { s with heap := h, toks := tk } I oI C oC D (LCg.lst ys) S (fun y news' => Inv (i + 1) (ys ++ [y]) news')) E' { s with heap := h, toks := tk })
    (fin : ∀ ys nw, Inv n ys nw → Fin ys nw) : LCg.CompRest prog w A h₀ L m env elt x scope cl s S P Fin n 0 [] news := by
  have key : ∀ k i ys nw, i + k = n → Inv i ys nw → LCg.CompRest prog w A h₀ L m env elt x scope cl s S P Fin k i ys nw := by
    intro k
    induction k with
    | zero =>
      intro i ys nw h hi
      obtain rfl : i = n := by omega
      exact LCg.CompRest.zero (fin ys nw hi)
    | succ k ih =>
      intro i ys nw h hi
      refine LCg.CompRest.succ fun v I oI C oC D m₂ hh tk E' hP hC hx F N off ne => ?_
      refine wpAny_mono (turn i ys nw (by omega) hi v I oI C oC D m₂ hh tk E' hP hC hx F N off ne) (fun y s' hend => ?_) fun _ _ e => e
      obtain ⟨h', tk', nw', e, F', N', off', hS, r⟩ := hend
      exact ⟨h', tk', nw', e, F', N', off', hS, ih (i + 1) _ _ (by omega) r⟩
  exact key n 0 [] news (by omega) h0
abbrev baseB (WH WD c8 c7 c6 c5 c4 c3 c2 c1 : Addr) (o8 o7 o6 o5 o4 o3 o2 o1 : Obj) (hv wv : List Value) (rowsL : List (Addr × Obj)) : List (Addr × Obj) :=
  (WH, listOf hv.toArray 0) :: (WD, listOf wv.toArray 0) :: (c8, o8) :: (c7, o7) :: (c6, o6) :: (c5, o5) :: (c4, o4) :: (c3, o3) :: (c2, o2) :: (c1, o1) :: (121, tabObj #[]) :: rowsL
theorem mem_mid {α : Type} {C R : List α} {x p : α} (h : p ∈ C ++ x :: R) : p = x ∨ p ∈ C ++ R := by
  rcases List.mem_append.mp h with h | h
  · exact .inr (List.mem_append_left _ h)
  · exact (List.mem_cons.mp h).imp id (List.mem_append_right _)
theorem memB {WH WD c8 c7 c6 c5 c4 c3 c2 c1 : Addr} {o8 o7 o6 o5 o4 o3 o2 o1 : Obj} {hv wv : List Value} {rowsL : List (Addr × Obj)} {x p : Addr × Obj} (h : p ∈ baseB WH WD c8 c7 c6 c5 c4 c3 c2 c1 o8 o7 o6 o5 o4 o3 o2 o1 hv wv (x :: rowsL)) :
    p = x ∨ p ∈ baseB WH WD c8 c7 c6 c5 c4 c3 c2 c1 o8 o7 o6 o5 o4 o3 o2 o1 hv wv rowsL :=
  mem_mid (C := baseB WH WD c8 c7 c6 c5 c4 c3 c2 c1 o8 o7 o6 o5 o4 o3 o2 o1 hv wv []) h
theorem Rows.snoc {n : Nat} {val : Int → Int} {refs : List Value} {rowsL : List (Addr × Obj)} {l : Addr} {vs : List Value} {ns : List Int} {k : Nat} (h : Rows n val refs rowsL) (hI : IntsAre vs ns) (ho : Octs (val n) ns) :
    Rows (n + 1) val (refs ++ [.ref l]) ((l, listOf vs.toArray k) :: rowsL) := by
  refine ⟨by rw [List.length_append, h.1]; rfl, fun i hi => ?_⟩
  by_cases q : i < n
  · obtain ⟨r, vs', ns', k', e1, e2, e3, e4⟩ := h.2 i q
    exact ⟨r, vs', ns', k', by rw [List.getElem?_append_left (by rw [h.1]; exact q)]; exact e1, .tail _ e2, e3, e4⟩
  · obtain rfl : i = n := by omega
    exact ⟨l, vs, ns, k, by rw [List.getElem?_append_right (by rw [h.1]; exact Nat.le_refl _), h.1, Nat.sub_self]; rfl, .head _, hI, ho⟩
section
variable {w : World} {mean : ExcName → Option Value} {mg mb : Str → Option Value}
  {dp un : Nat} {gd : Option (List Code)} {fa : Addr} {outer : List Env} {A₀ : Around} {base h₀ : Heap} {L : Addr} {m : Str → Option Value} {s : Shared} {Q : Flow → Shared → Prop} {E : Value → Shared → Prop}
  {c1 c2 c3 c4 c5 c6 c7 c8 WD WH : Addr} {o1 o2 o3 o4 o5 o6 o7 o8 : Obj} {wd : List Int} {wv hv : List Value} {scope ls : Scope} {body : List Stmt} {t1 : Tok} {pr : Arguments} {lb : Expr}
local macro_rules | `(tactic| walk_at "eval ListComp") => `(tactic| (k_dflt (refine Hold.out ?_)))
local macro_rules | `(tactic| walk_at "CompSrc") => `(tactic| (k_dflt (refine Hold.out ?_)))
local macro_rules | `(tactic| walk_at "execs cons") => `(tactic| (with_reducible refine hold_if ?_))
local macro_rules | `(tactic| walk_at "CompEnd") => `(tactic| (k_dflt (refine Hold.out ?_)))
set_option hygiene false in
local macro_rules | `(tactic| walk_at "call ref") => `(tactic| (walk_at "octcore"; intro l9 vs9 ns9 k9 h9 tk9 F9 N9 hl9 hI9 hO9))
theorem setup24 : True := by
  k_with_none
  k_with "storeName" => (k_here; k_dflt (refine storeX_C (by k_asm) (by k_asm) (by rfl) (by k_updF) (by k_asm) ?_ (by rfl) (by rfl); k_whole); intro h' o' F' N' d'; (try dsimp only at N'); (try k_sweep))
  k_with "subscriptTail" => (k_here; (with_reducible show wpAny _ _ (subscriptTail _ _ (Value.ref _) (Value.int _ _)) _ _ _); k_dflt (refine itemI (by k_asm) (by walk_at "mem") (by assumption) (by omega) (by (simp only [List.length_append, List.length_cons, List.length_nil]; omega)) (by (simp only [List.length_append, List.length_cons, List.length_nil]; omega)) ?_ (by with_unfolding_all rfl); k_whole); intro ti')
  k_with "octcore" => (k_here; k_dflt (refine octets_call _ _ _ _ _ _ _ _ _ _ _ _ _ _ _ _ _ _ (by k_asm) (by k_asm) (by k_asm) (by k_asm) (by assumption) (by rfl) _ _ _ _ (by omega) (by omega) (by omega) (by omega) (by ktr_room) (by ktr_units) ?_; k_whole))
  exact True.intro
set_option maxHeartbeats 1000000 in
set_option maxRecDepth 100000 in
theorem law_B (B : Below A₀ base outer h₀) (F : Fr h₀ L s.heap m) (X : (hd.heap_39 w.params).In h₀) (T : TopM mean mg mb h₀) (hC : CodeHd h₀ 123 121)
    (N : News h₀ L s.heap [(WH, listOf hv.toArray 0), (WD, listOf wv.toArray 0), (c8, o8), (c7, o7), (c6, o6), (c5, o5), (c4, o4), (c3, o3), (c2, o2), (c1, o1), (121, tabObj #[])])
    (hc : @LT.lt Nat _ 121 c1 ∧ @LT.lt Nat _ c1 c2 ∧ @LT.lt Nat _ c2 c3 ∧ @LT.lt Nat _ c3 c4 ∧ @LT.lt Nat _ c4 c5 ∧ @LT.lt Nat _ c5 c6 ∧ @LT.lt Nat _ c6 c7 ∧ @LT.lt Nat _ c7 c8 ∧ @LT.lt Nat _ c8 WD ∧ @LT.lt Nat _ WD WH)
    (d1 : o1.data = .cell (some (.int (wd.length : Int) t1))) (d2 : o2.data = .cell (some (.ref WH))) (d3 : o3.data = .cell none) (d7 : o7.data = .cell none)
    (hI : IntsAre hv (wd ++ [262144, 0])) (hwb : ∀ x ∈ wd, 0 ≤ x ∧ x < 262144) (hwl : wd.length ≤ 10)
    (hsc : lawScope w.params = scope) (hb : (bodyAt w.params 124).drop 3 = body) (hd : dp + 64 < recursionLimit) (hu : un + 512 < cLine) (hlam : readLam w.params = some (pr, lb, ls))
    (hrest : ∀ (f c' D : Addr) (oc' o7' o3' : Obj) (fvs : Array Value) (tq : Tok) (qual : Str) (pm ctv : Value) (refs : List Value) (k0 : Nat) (rowsL : List (Addr × Obj)) (ps : Array Value) (m' : Str → Option Value) (h' : Heap) (tk' : Nat), Fr h₀ L h' m' →
      News h₀ L h' ((f, kla_obj "<lambda>" qual pr lb ls [("octets", c7)] pm c' ctv) :: (c', oc') :: (D, listOf refs.toArray k0) :: (WH, listOf hv.toArray 0) :: (WD, listOf wv.toArray 0) :: (c8, o8) :: (c7, o7') :: (c6, o6) :: (c5, o5) :: (c4, o4) :: (c3, o3') :: (c2, o2) :: (c1, o1) :: (121, tabObj ps) :: rowsL) →
      oc'.data = .fields fvs → fvs[1]? = some (.str qual tq) → o7'.data = .cell (some (.ref D)) → o3'.data = .cell (some (.ref f)) → Rows (wd.length + 2) (fun j => (wd ++ [262144, 0]).getD j.toNat 0) refs rowsL → (∃ v, ps = #[rawInt 112, rawInt 11, v]) →
      (∀ p ∈ rowsL, @LT.lt Nat _ WH p.1) → (∀ p ∈ (D, listOf refs.toArray k0) :: (WH, listOf hv.toArray 0) :: rowsL, @LT.lt Nat _ p.1 c') → @LT.lt Nat _ c' f →
      (@Ne Nat WH D ∧ @Ne Nat WD D ∧ @Ne Nat c8 D ∧ @Ne Nat c7 D ∧ @Ne Nat c6 D ∧ @Ne Nat c5 D ∧ @Ne Nat c4 D ∧ @Ne Nat c3 D ∧ @Ne Nat c2 D ∧ @Ne Nat c1 D ∧ @Ne Nat 121 D ∧ LCg.Off1 D rowsL) →
      wpAny (model (RowW.prog (OpenRow.toRowW (OpenLaw.row PySem.Challenge.rw_sn0020_01))) w) (ktrTop dp un gd "law" scope L fa (.ref 123) (lawCl c1 c2 c3 c4 c5 c6 c7 c8) outer) (execs (body.drop 2) (envX "law" scope L fa (.ref 123) (lawCl c1 c2 c3 c4 c5 c6 c7 c8))) Q E { s with heap := h', toks := tk' }) :
    wpAny (model (RowW.prog (OpenRow.toRowW (OpenLaw.row PySem.Challenge.rw_sn0020_01))) w) (ktrTop dp un gd "law" scope L fa (.ref 123) (lawCl c1 c2 c3 c4 c5 c6 c7 c8) outer) (execs body (envX "law" scope L fa (.ref 123) (lawCl c1 c2 c3 c4 c5 c6 c7 c8))) Q E s := by
  with_unfolding_all (conv at hsc => lhs; whnf)
  with_unfolding_all (conv at hb => lhs; whnf)
  with_unfolding_all (conv at hlam => lhs; whnf)
  injection hlam with hlam
  injection hlam with hl1 hlam
  injection hlam with hl2 hl3
  subst hl1 hl2 hl3
  subst hsc hb
  revert X hrest; k_fill; intro X hrest
  k_steps
  refine ⟨?_⟩
  k_dflt (refine LCg.ListComp_U (F₀ := by k_asm) (by with_unfolding_all rfl) (by decide) (by rfl) (by decide) (by rfl) ?_)
  k_steps
  refine ⟨?_⟩
  (with_reducible rename Fr _ _ _ _ => F1); (with_reducible rename News _ _ _ _ => N1); (with_reducible rename IsRange _ _ _ _ _ _ _ _ => hR)
  with_unfolding_all refine LCg.CompSrc.range (n := wd.length + 2) rfl F1 N1 hR ?_ ?_ ?_ fun g => ?_
  · exact small_one (by omega) (by omega) (by omega) (by omega)
  · rw [show (wd.length : Int) + 2 = ((wd.length + 2 : Nat) : Int) by omega, rangeSize_nat]; (try simp); (try omega)
  · rw [sizeLine_eq]; omega
  refine compTurns (fun i ys nw => ∃ rowsL, nw = baseB WH WD c8 c7 c6 c5 c4 c3 c2 c1 o8 o7 o6 o5 o4 o3 o2 o1 hv wv rowsL ∧ Rows i (fun j => (wd ++ [262144, 0]).getD j.toNat 0) ys rowsL ∧ ∀ p ∈ rowsL, @LT.lt Nat _ WH p.1) ⟨[], rfl, ⟨rfl, fun i hi => absurd hi (Nat.not_lt_zero _)⟩, List.forall_mem_nil _⟩ ?_ ?_
  · clear F1 N1 hR
    rintro i ys nw hi ⟨rowsL, rfl, hrows, hrl⟩ v I oI C oC D m₂ hh tk E' ⟨t, rfl⟩ hoC hmx F1 N1 off ne
    have hx : 0 ≤ (wd ++ [262144, 0]).getD (0 + (i : Int)).toNat 0 ∧ (wd ++ [262144, 0]).getD (0 + (i : Int)).toNat 0 ≤ 262144 := by
      have hmem : (wd ++ [262144, 0]).getD (0 + (i : Int)).toNat 0 ∈ wd ++ [262144, 0] := getD_memI' (by simp only [List.length_append, List.length_cons, List.length_nil]; omega)
      rcases List.mem_append.mp hmem with h | h
      · have := hwb _ h; omega
      · simp only [List.mem_cons, List.not_mem_nil, or_false] at h
        omega
    have hm2 : 0 ≤ (0 + (i : Int)).fmod 2 ∧ (0 + (i : Int)).fmod 2 ≤ 1 := by
      rw [Int.fmod_eq_emod_of_nonneg _ (by decide)]; omega
    k_steps
    refine ⟨?_⟩
    have e0 : (0 + (i : Int)).toNat = i := by omega
    rw [e0] at hO9
    refine LCg.CompEnd.intro F9 N9 (baseB WH WD c8 c7 c6 c5 c4 c3 c2 c1 o8 o7 o6 o5 o4 o3 o2 o1 hv wv ((l9, listOf vs9.toArray k9) :: rowsL)) ?_ (LCg.Off3.of fun p hp => ?_) trivial ⟨_, rfl, Rows.snoc hrows hI9 (by simpa using hO9), List.forall_mem_cons.mpr ⟨hl9 _ (.tail _ (.tail _ (.tail _ (.head _)))), hrl⟩⟩
    · intro p hp
      rcases List.mem_cons.mp hp with rfl | hp
      · walk_at "mem"
      rcases List.mem_cons.mp hp with rfl | hp
      · walk_at "mem"
      rcases List.mem_cons.mp hp with rfl | hp
      · walk_at "mem"
      rcases memB hp with rfl | hp
      · exact List.mem_cons_self
      · walk_at "mem"
    · rcases memB hp with rfl | hp
      · exact ⟨Nat.ne_of_gt (hl9 (I, oI) (.head _)), Nat.ne_of_gt (hl9 (C, oC) (.tail _ (.head _))), Nat.ne_of_gt (hl9 (D, LCg.lst ys) (.tail _ (.tail _ (.head _))))⟩
      · exact off.mem p hp
  · rintro ys nw ⟨rowsL, rfl, hrows, hrl⟩
    intro D g' tk' F9 N9 off9
    clear F1 N1 hR
    simp only [LCg.Off1] at off9
    have hr7 : ∀ p ∈ rowsL, p.1 ≠ c7 := fun p hp => Nat.ne_of_gt (Nat.lt_trans (by omega) (hrl p hp))
    have hr3 : ∀ p ∈ rowsL, p.1 ≠ c3 := fun p hp => Nat.ne_of_gt (Nat.lt_trans (by omega) (hrl p hp))
    have hr121 : ∀ p ∈ rowsL, p.1 ≠ 121 := fun p hp => Nat.ne_of_gt (Nat.lt_trans (by omega) (hrl p hp))
    dsimp only [baseB] at N9
    k_steps
    (with_reducible rename Fr _ _ _ _ => F8); (with_reducible rename News _ _ _ _ => N8)
    refine ⟨?_⟩
    with_unfolding_all refine hrest _ _ _ _ _ _ _ _ _ _ _ _ _ _ _ _ _ _ F8 N8 (by assumption) (by assumption) (by assumption) (by assumption) hrows ⟨_, rfl⟩ hrl ?_ (by assumption) off9
    rename (@LT.lt Nat _ D _ ∧ _) => hl
    exact List.forall_mem_cons.mpr ⟨hl.1, List.forall_mem_cons.mpr ⟨hl.2.1, lt_of_all hl.2.2.2.2.2.2.2.2.2.2.2.2⟩⟩
end
end
section
def wholeAt (wd : List Int) (j : Int) : Int := (wd ++ [262144, 0]).getD j.toNat 0
abbrev cellsL (c8 c7 c6 c5 c4 c3 c2 c1 : Addr) (o8 o7 o6 o5 o4 o3 o2 o1 : Obj) (R : List (Addr × Obj)) : List (Addr × Obj) :=
  (c8, o8) :: (c7, o7) :: (c6, o6) :: (c5, o5) :: (c4, o4) :: (c3, o3) :: (c2, o2) :: (c1, o1) :: R
theorem cells_sub {c8 c7 c6 c5 c4 c3 c2 c1 : Addr} {o8 o7 o6 o5 o4 o3 o2 o1 : Obj} {R : List (Addr × Obj)} {p : Addr × Obj} (h : p ∈ R) : p ∈ cellsL c8 c7 c6 c5 c4 c3 c2 c1 o8 o7 o6 o5 o4 o3 o2 o1 R :=
  .tail _ (.tail _ (.tail _ (.tail _ (.tail _ (.tail _ (.tail _ (.tail _ h)))))))
theorem cells_need {c8 c7 c6 c5 c4 c3 c2 c1 : Addr} {o8 o7 o6 o5 o4 o3 o2 o1 : Obj} {R need : List (Addr × Obj)} (h : ∀ p ∈ need, p = (c7, o7) ∨ p ∈ R) : ∀ p ∈ need, p ∈ cellsL c8 c7 c6 c5 c4 c3 c2 c1 o8 o7 o6 o5 o4 o3 o2 o1 R := fun p hp => by
  rcases h p hp with rfl | q
  · exact .tail _ (.head _)
  · exact cells_sub q
theorem ne_sameL {prog : Program} {w : World} {A : Around} {E : Value → Shared → Prop} {s : Shared} {a b L : Addr} {h₀ : Heap} {news : List (Addr × Obj)} {xs ys : List Value} {k1 k2 : Nat} {ns : List Int} {Q : Value → Shared → Prop}
    (N : News h₀ L s.heap news) (ha : (a, listOf xs.toArray k1) ∈ news) (hb : (b, listOf ys.toArray k2) ∈ news) (hi : IntsAre xs ns) (hj : IntsAre ys ns) (hu : A.units + 64 < cLine) (h : Q (.bool false) s) :
    wpAny (model prog w) A (compareOp .NotEq (.ref a) (.ref b)) Q E s :=
  ke_ne_ints (News.isList N ha) (News.isList N hb) hi hj hu (by rw [decide_eq_true rfl]; exact h)
theorem hold_assign {M : Model} {A : Around} {e : Expr} {tg : List Expr} {p2 : Pos} {env : Env} {Q : Flow → Shared → Prop} {E : Value → Shared → Prop} {s : Shared}
    {rest : List Stmt} (h : Hold (wpAny M A (execs (.Assign tg e p2 :: rest) env) Q E s)) : wpAny M A (execs (.Assign tg e p2 :: rest) env) Q E s := h.out
theorem map_upTo (wd : List Int) : (upTo (wd.length + 2)).map (wholeAt wd) = wd ++ [262144, 0] := by
  refine List.ext_getElem (by simp [upTo]) fun i h1 h2 => ?_
  simp only [upTo, List.getElem_map, List.getElem_range, wholeAt, Int.toNat_natCast]
  rw [List.getD_eq_getElem?_getD, List.getElem?_eq_getElem h2]; rfl
section
variable {w : World} {mean : ExcName → Option Value} {mg mb : Str → Option Value}
  {dp un : Nat} {gd : Option (List Code)} {fa : Addr} {outer : List Env} {A₀ : Around} {base h₀ : Heap} {L : Addr} {m : Str → Option Value} {s : Shared} {Q : Flow → Shared → Prop} {E : Value → Shared → Prop}
  {c1 c2 c3 c4 c5 c6 c7 c8 WH f c' : Addr} {ls : Scope} {pr : Arguments} {lb : Expr} {qual : Str} {pm ctv : Value} {o1 o2 o3 o4 o5 o6 o7 o8 : Obj} {wd : List Int} {hv : List Value} {scope : Scope} {body : List Stmt} {t1 : Tok} {R need : List (Addr × Obj)}
local macro_rules | `(tactic| walk_at "eval ListComp") => `(tactic| (k_dflt (refine Hold.out ?_)))
local macro_rules | `(tactic| walk_at "CompSrc") => `(tactic| (k_dflt (refine Hold.out ?_)))
local macro_rules | `(tactic| walk_at "CompEnd") => `(tactic| (k_dflt (refine Hold.out ?_)))
local macro_rules | `(tactic| walk_at "call ref") => `(tactic| (k_dflt (refine Hold.out ?_)))
local macro_rules | `(tactic| walk_at "execs cons") => `(tactic| (with_reducible refine hold_assign ?_))
local macro_rules | `(tactic| walk_at "compareOp NotEq ref ref") => `(tactic| (k_dflt (refine Hold.out ?_)))
theorem setup25 : True := by
  k_with_none
  k_with "storeName" => (k_here; k_dflt (refine storeX_C (by k_asm) (by k_asm) (by rfl) (by k_updF) (by k_asm) ?_ (by rfl) (by rfl); k_whole); intro h' o' F' N' d'; (try dsimp only at N'); (try k_sweep))
  exact True.intro
set_option maxHeartbeats 1000000 in
set_option maxRecDepth 100000 in
theorem law_C (B : Below A₀ base outer h₀) (F : Fr h₀ L s.heap m) (X : (hd.heap_39 w.params).In h₀) (T : TopM mean mg mb h₀) (hC : CodeHd h₀ 123 121)
    (N : News h₀ L s.heap (cellsL c8 c7 c6 c5 c4 c3 c2 c1 o8 o7 o6 o5 o4 o3 o2 o1 R))
    (d1 : o1.data = .cell (some (.int (wd.length : Int) t1))) (d2 : o2.data = .cell (some (.ref WH))) (d3 : o3.data = .cell (some (.ref f))) (hWH : (WH, listOf hv.toArray 0) ∈ R) (hf : (f, kla_obj "<lambda>" qual pr lb ls [("octets", c7)] pm c' ctv) ∈ R)
    (hI : IntsAre hv (wd ++ [262144, 0])) (hwl : wd.length ≤ 10) (K : KeyOk w f (wholeAt wd) (fun j => 0 ≤ j ∧ j < ((wd.length + 2 : Nat) : Int)) need) (hneed : ∀ p ∈ need, p = (c7, o7) ∨ p ∈ R)
    (hsc : lawScope w.params = scope) (hb : (bodyAt w.params 124).drop 5 = body) (hd : dp + 64 < recursionLimit) (hu : un + 512 < cLine)
    (hrest : ∀ (h' : Heap) (tk' : Nat), Fr h₀ L h' m → News h₀ L h' (cellsL c8 c7 c6 c5 c4 c3 c2 c1 o8 o7 o6 o5 o4 o3 o2 o1 R) →
      wpAny (model (RowW.prog (OpenRow.toRowW (OpenLaw.row PySem.Challenge.rw_sn0020_01))) w) (ktrTop dp un gd "law" scope L fa (.ref 123) (lawCl c1 c2 c3 c4 c5 c6 c7 c8) outer) (execs (body.drop 1) (envX "law" scope L fa (.ref 123) (lawCl c1 c2 c3 c4 c5 c6 c7 c8))) Q E { s with heap := h', toks := tk' }) :
    wpAny (model (RowW.prog (OpenRow.toRowW (OpenLaw.row PySem.Challenge.rw_sn0020_01))) w) (ktrTop dp un gd "law" scope L fa (.ref 123) (lawCl c1 c2 c3 c4 c5 c6 c7 c8) outer) (execs body (envX "law" scope L fa (.ref 123) (lawCl c1 c2 c3 c4 c5 c6 c7 c8))) Q E s := by
  with_unfolding_all (conv at hsc => lhs; whnf)
  with_unfolding_all (conv at hb => lhs; whnf)
  subst hsc hb
  revert X hrest; k_fill; intro X hrest
  k_steps
  refine ⟨?_⟩
  k_dflt (refine LCg.ListComp_U (F₀ := by k_asm) (by with_unfolding_all rfl) (by decide) (by rfl) (by decide) (by rfl) ?_)
  k_steps
  refine ⟨?_⟩
  (with_reducible rename Fr _ _ _ _ => F1); (with_reducible rename News _ _ _ _ => N1); (with_reducible rename IsRange _ _ _ _ _ _ _ _ => hR)
  with_unfolding_all refine LCg.CompSrc.range (n := wd.length + 2) rfl F1 N1 hR ?_ ?_ ?_ fun g => ?_
  · exact small_one (by (first | lia | omega)) (by (first | lia | omega)) (by (first | lia | omega)) (by (first | lia | omega))
  · rw [show (wd.length : Int) + 2 = ((wd.length + 2 : Nat) : Int) by (first | lia | omega), rangeSize_nat]; (try simp); (try (first | lia | omega))
  · rw [sizeLine_eq]; (first | lia | omega)
  refine compTurns (fun i ys nw => nw = (cellsL c8 c7 c6 c5 c4 c3 c2 c1 o8 o7 o6 o5 o4 o3 o2 o1 R) ∧ IntsAre ys ((upTo i).map (wholeAt wd))) ⟨rfl, .nil⟩ ?_ ?_
  · clear F1 N1 hR
    rintro i ys nw hi ⟨rfl, hys⟩ v I oI C oC D2 m₂ hh tk E' ⟨t, rfl⟩ hoC hmx F1 N1 off ne
    k_steps
    refine ⟨?_⟩
    with_unfolding_all refine KeyOk.use K B F1 X N1 T rfl (fun p hp => .tail _ (.tail _ (.tail _ (cells_need hneed p hp)))) ?_ ?_ ?_ ?_
    · (first | lia | omega)
    · ktr_room
    · ktr_units
    intro t9 h9 tk9 F9 N9
    k_steps
    refine ⟨?_⟩
    refine LCg.CompEnd.intro F9 N9 _ (fun p hp => hp) off trivial ⟨rfl, ?_⟩
    have e : upTo (i + 1) = upTo i ++ [(i : Int)] := by unfold upTo; rw [List.range_succ, List.map_append]; rfl
    rw [e, List.map_append]
    have e0 : wholeAt wd (0 + (i : Int)) = wholeAt wd i := by congr 1; (first | lia | omega)
    rw [e0]
    exact IntsAre.append hys (.cons _ t9 .nil)
  · rintro ys nw ⟨rfl, hys⟩
    intro D2 g' tk' F9 N9 off9
    rw [map_upTo] at hys
    k_steps
    refine ⟨?_⟩
    refine ne_sameL N9 List.mem_cons_self (List.mem_cons_of_mem _ (cells_sub hWH)) hys hI (by ktr_units) ?_
    k_steps
    refine ⟨?_⟩
    with_unfolding_all exact hrest _ _ F9 (fun p hp => N9 p (List.mem_cons_of_mem _ hp))
end
end
section
theorem mem_out {α : Type} {C R : List α} {x p : α} (h : p ∈ C ++ x :: R) : p ∈ x :: (C ++ R) := List.mem_cons.mpr (mem_mid h)
theorem cells_push {h₀ h : Heap} {L D : Addr} {oD : Obj} {c8 c7 c6 c5 c4 c3 c2 c1 : Addr} {o8 o7 o6 o5 o4 o3 o2 o1 : Obj} {R : List (Addr × Obj)} (N : News h₀ L h ((D, oD) :: cellsL c8 c7 c6 c5 c4 c3 c2 c1 o8 o7 o6 o5 o4 o3 o2 o1 R)) :
    News h₀ L h (cellsL c8 c7 c6 c5 c4 c3 c2 c1 o8 o7 o6 o5 o4 o3 o2 o1 ((D, oD) :: R)) := fun p hp => N p (mem_out (C := cellsL c8 c7 c6 c5 c4 c3 c2 c1 o8 o7 o6 o5 o4 o3 o2 o1 []) hp)
theorem strs_snoc {ys : List Value} {g : Nat → Str} {i : Nat} {y : Str} (t : Tok) (h : StrsAre ys ((List.range i).map g)) (e : y = g i) : StrsAre (ys ++ [.str y t]) ((List.range (i + 1)).map g) := by
  rw [List.range_succ, List.map_append]; subst e
  exact StrsAre.append' h (.cons _ _ .nil)
theorem off1_ne {D : Addr} : ∀ {l : List (Addr × Obj)}, LCg.Off1 D l → ∀ p ∈ l, @Ne Nat p.1 D
  | [], _, _, h => nomatch h
  | _ :: _, x, p, h => by
    rcases List.mem_cons.mp h with rfl | h
    · exact x.1
    · exact off1_ne x.2 p h
/-- the dot ahead of a row -/
def dotS (wd : List Int) (k : Nat) : Str := if 0 < k ∧ wd.getD k 0 < wd.getD (k - 1) 0 then Str.ofString "." else Str.ofString ""
section
variable {w : World} {mean : ExcName → Option Value} {mg mb : Str → Option Value}
  {dp un : Nat} {gd : Option (List Code)} {fa : Addr} {outer : List Env} {A₀ : Around} {base h₀ : Heap} {L : Addr} {m : Str → Option Value} {s : Shared} {Q : Flow → Shared → Prop} {E : Value → Shared → Prop}
  {c1 c2 c3 c4 c5 c6 c7 c8 WD : Addr} {o1 o2 o3 o4 o5 o6 o7 o8 : Obj} {wd : List Int} {wv : List Value} {scope : Scope} {body : List Stmt} {t1 : Tok} {R : List (Addr × Obj)}
local macro_rules | `(tactic| walk_at "eval ListComp") => `(tactic| (k_dflt (refine Hold.out ?_)))
local macro_rules | `(tactic| walk_at "CompSrc") => `(tactic| (k_dflt (refine Hold.out ?_)))
local macro_rules | `(tactic| walk_at "CompEnd") => `(tactic| (k_dflt (refine Hold.out ?_)))
local macro_rules | `(tactic| walk_at "execs cons") => `(tactic| (with_reducible refine hold_assign ?_))
theorem setup26 : True := by
  k_with_none
  k_with "storeName" => (k_here; k_dflt (refine storeX_C (by k_asm) (by k_asm) (by rfl) (by k_updF) (by k_asm) ?_ (by rfl) (by rfl); k_whole); intro h' o' F' N' d'; (try dsimp only at N'); (try k_sweep))
  k_with "subscriptTail" => (k_here; (with_reducible show wpAny _ _ (subscriptTail _ _ (Value.ref _) (Value.int _ _)) _ _ _); k_dflt (refine itemI (by k_asm) (by walk_at "mem") (by assumption) (by (first | lia | omega)) (by (simp only [List.length_append, List.length_cons, List.length_nil]; (first | lia | omega))) (by (simp only [List.length_append, List.length_cons, List.length_nil]; (first | lia | omega))) ?_ (by with_unfolding_all rfl); k_whole); intro ti')
  exact True.intro
set_option maxHeartbeats 1000000 in
set_option maxRecDepth 100000 in
theorem law_D (B : Below A₀ base outer h₀) (F : Fr h₀ L s.heap m) (X : (hd.heap_39 w.params).In h₀) (T : TopM mean mg mb h₀) (hC : CodeHd h₀ 123 121)
    (N : News h₀ L s.heap (cellsL c8 c7 c6 c5 c4 c3 c2 c1 o8 o7 o6 o5 o4 o3 o2 o1 R))
    (hc : @LT.lt Nat _ 121 c1 ∧ @LT.lt Nat _ c1 c2 ∧ @LT.lt Nat _ c2 c3 ∧ @LT.lt Nat _ c3 c4 ∧ @LT.lt Nat _ c4 c5 ∧ @LT.lt Nat _ c5 c6 ∧ @LT.lt Nat _ c6 c7 ∧ @LT.lt Nat _ c7 c8) (hR4 : ∀ p ∈ R, p.1 ≠ c4)
    (d1 : o1.data = .cell (some (.int (wd.length : Int) t1))) (d8 : o8.data = .cell (some (.ref WD))) (d4 : o4.data = .cell none) (hWD : (WD, listOf wv.toArray 0) ∈ R)
    (hI : IntsAre wv wd) (hwl : wd.length ≤ 10)
    (hsc : lawScope w.params = scope) (hb : (bodyAt w.params 124).drop 6 = body) (hd : dp + 64 < recursionLimit) (hu : un + 512 < cLine)
    (hrest : ∀ (D : Addr) (o4' : Obj) (dv : List Value) (h' : Heap) (tk' : Nat), Fr h₀ L h' m → News h₀ L h' (cellsL c8 c7 c6 c5 c4 c3 c2 c1 o8 o7 o6 o5 o4' o3 o2 o1 ((D, LCg.lst dv) :: R)) →
      o4'.data = .cell (some (.ref D)) → StrsAre dv ((List.range wd.length).map (dotS wd)) → (∀ p ∈ cellsL c8 c7 c6 c5 c4 c3 c2 c1 o8 o7 o6 o5 o4 o3 o2 o1 R, @Ne Nat p.1 D) →
      wpAny (model (RowW.prog (OpenRow.toRowW (OpenLaw.row PySem.Challenge.rw_sn0020_01))) w) (ktrTop dp un gd "law" scope L fa (.ref 123) (lawCl c1 c2 c3 c4 c5 c6 c7 c8) outer) (execs (body.drop 1) (envX "law" scope L fa (.ref 123) (lawCl c1 c2 c3 c4 c5 c6 c7 c8))) Q E { s with heap := h', toks := tk' }) :
    wpAny (model (RowW.prog (OpenRow.toRowW (OpenLaw.row PySem.Challenge.rw_sn0020_01))) w) (ktrTop dp un gd "law" scope L fa (.ref 123) (lawCl c1 c2 c3 c4 c5 c6 c7 c8) outer) (execs body (envX "law" scope L fa (.ref 123) (lawCl c1 c2 c3 c4 c5 c6 c7 c8))) Q E s := by
  with_unfolding_all (conv at hsc => lhs; whnf)
  with_unfolding_all (conv at hb => lhs; whnf)
  subst hsc hb
  revert X hrest; k_fill; intro X hrest
  refine wpAny_execs_cons ?_
  k_steps
  refine ⟨?_⟩
  k_dflt (refine LCg.ListComp_U (F₀ := by k_asm) (by with_unfolding_all rfl) (by decide) (by rfl) (by decide) (by rfl) ?_)
  k_steps
  refine ⟨?_⟩
  (with_reducible rename Fr _ _ _ _ => F1); (with_reducible rename News _ _ _ _ => N1); (with_reducible rename IsRange _ _ _ _ _ _ _ _ => hR)
  with_unfolding_all refine LCg.CompSrc.range (n := wd.length) rfl F1 N1 hR ?_ ?_ ?_ fun g => ?_
  · exact small_one (by (first | lia | omega)) (by (first | lia | omega)) (by (first | lia | omega)) (by (first | lia | omega))
  · rw [rangeSize_nat]; (try simp); (try (first | lia | omega))
  · rw [sizeLine_eq]; (first | lia | omega)
  refine compTurns (fun i ys nw => nw = (cellsL c8 c7 c6 c5 c4 c3 c2 c1 o8 o7 o6 o5 o4 o3 o2 o1 R) ∧ StrsAre ys ((List.range i).map (dotS wd))) ⟨rfl, .nil⟩ ?_ ?_
  · clear F1 N1 hR
    rintro i ys nw hi ⟨rfl, hys⟩ v I oI C oC D2 m₂ hh tk E' ⟨t, rfl⟩ hoC hmx F1 N1 off ne
    rcases Nat.eq_zero_or_pos i with h0 | h0
    · k_steps
      refine ⟨?_⟩
      exact LCg.CompEnd.intro F1 N1 _ (fun p hp => hp) off trivial ⟨rfl, strs_snoc _ hys (by rw [dotS, if_neg (by (first | lia | omega))])⟩
    · have e1 : (0 + (i : Int)).toNat = i := by (first | lia | omega)
      have e2 : (0 + (i : Int) - 1).toNat = i - 1 := by (first | lia | omega)
      k_steps
      · rename _ < _ => hlt
        rw [e1, e2] at hlt
        refine ⟨?_⟩
        exact LCg.CompEnd.intro F1 N1 _ (fun p hp => hp) off trivial ⟨rfl, strs_snoc _ hys (by rw [dotS, if_pos ⟨h0, hlt⟩])⟩
      · rename ¬ (_ < _) => hlt
        rw [e1, e2] at hlt
        refine ⟨?_⟩
        exact LCg.CompEnd.intro F1 N1 _ (fun p hp => hp) off trivial ⟨rfl, strs_snoc _ hys (by rw [dotS, if_neg (fun q => hlt q.2)])⟩
  · rintro ys nw ⟨rfl, hys⟩
    intro D2 g' tk' F9 N9 off9
    have off9' := off1_ne off9
    simp only [LCg.Off1] at off9
    k_steps
    (with_reducible rename Fr _ _ _ _ => F8); (with_reducible rename News _ _ _ _ => N8)
    refine ⟨?_⟩
    with_unfolding_all exact hrest _ _ _ _ _ F8 (cells_push N8) (by assumption) hys off9'
end
end
section
local macro_rules | `(tactic| walk_at "eval ListComp") => `(tactic| (k_dflt (refine Hold.out ?_)))
local macro_rules | `(tactic| walk_at "CompSrc") => `(tactic| (k_dflt (refine Hold.out ?_)))
local macro_rules | `(tactic| walk_at "CompEnd") => `(tactic| (k_dflt (refine Hold.out ?_)))
local macro_rules | `(tactic| walk_at "execs cons") => `(tactic| first | (with_reducible refine hold_assign ?_) | (with_reducible refine hold_if ?_))
local macro_rules | `(tactic| walk_at "call builtin:str.join") => `(tactic| (k_dflt (refine Hold.out ?_)))
local macro_rules | `(tactic| walk_at "binaryOp Add str str") => `(tactic| (k_dflt (refine Hold.out ?_)))
local macro_rules | `(tactic| walk_at "call builtin:chr") => `(tactic| (refine chr_of_range (by omega) (by omega) ?_))
local macro_rules | `(tactic| walk_at "call ref") => `(tactic| (k_dflt (refine Hold.out ?_)))
local macro_rules | `(tactic| walk_at "compareOp NotEq str str") => `(tactic| (k_dflt (refine Hold.out ?_)))
local macro_rules | `(tactic| walk_at "pyIter ref") => `(tactic| (k_dflt (refine Hold.out ?_)))
local macro_rules | `(tactic| walk_at "call builtin:sum") => `(tactic| (k_dflt (refine Hold.out ?_)))
local macro_rules | `(tactic| walk_at "call builtin:len") => `(tactic| (k_dflt (refine Hold.out ?_)))
local macro_rules | `(tactic| walk_at "all_ne") => `(tactic| repeat (first | exact List.forall_mem_nil _ | refine List.forall_mem_cons.mpr ⟨(by (try dsimp only); decide), ?_⟩))
section
def chrS (o : Int) : Str := ⟨#[o.toNat]⟩
def rowS (dS : Nat → Str) (oc : Nat → List Int) (k : Nat) : Str := dS k ++ Txt.join (Str.ofString "") ((oc k).map chrS)
theorem chr_sum : ∀ l : List Int, ((l.map chrS).map (·.length)).sum = l.length
  | [] => rfl
  | a :: l => by
    rw [List.map_cons, List.map_cons, List.sum_cons, chr_sum l]
    show 1 + l.length = l.length + 1
    (first | lia | omega)
theorem chr_len (l : List Int) : (Txt.join (Str.ofString "") (l.map chrS)).length = l.length := by
  rw [KT.join_ones _ (fun a ha => by obtain ⟨b, hb, rfl⟩ := List.mem_map.1 ha; rfl), List.length_map]
theorem strs_take {ys : List Value} {l : List Int} {j : Nat} {o : Int} (t : Tok) (h : StrsAre ys ((l.take j).map chrS)) (e : l[j]? = some o) : StrsAre (ys ++ [.str (chrS o) t]) ((l.take (j + 1)).map chrS) := by
  rw [List.take_add_one, e, List.map_append]
  exact StrsAre.append' h (.cons _ _ .nil)
section
variable {w : World} {mean : ExcName → Option Value} {mg mb : Str → Option Value}
  {dp un : Nat} {gd : Option (List Code)} {fa : Addr} {outer : List Env} {A₀ : Around} {base h₀ : Heap} {L : Addr} {m : Str → Option Value} {s : Shared} {Q : Flow → Shared → Prop} {E : Value → Shared → Prop}
  {c1 c2 c3 c4 c5 c6 c7 c8 DD DO : Addr} {o1 o2 o3 o4 o5 o6 o7 o8 : Obj} {n : Nat} {dv refs : List Value} {scope : Scope} {body : List Stmt} {t1 : Tok} {R : List (Addr × Obj)} {kd k0 : Nat} {dS : Nat → Str} {oc : Nat → List Int}
theorem setup27 : True := by
  k_with_none
  k_with "storeName" => (k_here; k_dflt (refine storeX_C (by k_asm) (by k_asm) (by rfl) (by k_updF) (by k_asm) ?_ (by rfl) (by rfl); k_whole); intro h' o' F' N' d'; (try dsimp only at N'); (try k_sweep))
  k_with "subscriptTail" => (k_here; (with_reducible show wpAny _ _ (subscriptTail _ _ (Value.ref _) (Value.int _ _)) _ _ _); k_dflt (refine itemL (by k_asm) (by walk_at "mem") (by (first | lia | omega)) (by (first | lia | omega)) (by assumption) ?_ (by with_unfolding_all rfl); k_whole))
  k_with "exec For Name Call cons nil" => (k_here; (rename Fr _ _ _ _ => lF'); (with_unfolding_all refine For_invVF lF' (by exact rfl) (by exact rfl) ?_; k_whole))
  exact True.intro
set_option maxHeartbeats 1000000 in
set_option maxRecDepth 100000 in
theorem law_E (B : Below A₀ base outer h₀) (F : Fr h₀ L s.heap m) (X : (hd.heap_39 w.params).In h₀) (T : TopM mean mg mb h₀) (hC : CodeHd h₀ 123 121)
    (N : News h₀ L s.heap (cellsL c8 c7 c6 c5 c4 c3 c2 c1 o8 o7 o6 o5 o4 o3 o2 o1 R))
    (hc : @LT.lt Nat _ 121 c1 ∧ @LT.lt Nat _ c1 c2 ∧ @LT.lt Nat _ c2 c3 ∧ @LT.lt Nat _ c3 c4 ∧ @LT.lt Nat _ c4 c5 ∧ @LT.lt Nat _ c5 c6 ∧ @LT.lt Nat _ c6 c7 ∧ @LT.lt Nat _ c7 c8) (hR5 : ∀ p ∈ R, p.1 ≠ c5)
    (d1 : o1.data = .cell (some (.int (n : Int) t1))) (d4 : o4.data = .cell (some (.ref DD))) (d7 : o7.data = .cell (some (.ref DO))) (d5 : o5.data = .cell none)
    (hDD : (DD, listOf dv.toArray kd) ∈ R) (hDO : (DO, listOf refs.toArray k0) ∈ R) (hdv : StrsAre dv ((List.range n).map dS)) (hdl : ∀ i, (dS i).length ≤ 1)
    (hrl : refs.length = n + 2) (hoc : ∀ i, i < n + 2 → ∃ (r : Addr) (vs : List Value) (k : Nat), refs[i]? = some (.ref r) ∧ (r, listOf vs.toArray k) ∈ R ∧ IntsAre vs (oc i))
    (hol : ∀ i, i < n + 2 → (oc i).length ≤ 6 ∧ ∀ o ∈ oc i, 0 ≤ o ∧ o ≤ 1000) (hnl : n ≤ 10)
    (hsc : lawScope w.params = scope) (hb : (bodyAt w.params 124).drop 7 = body) (hd : dp + 64 < recursionLimit) (hu : un + 512 < cLine)
    (hrest : ∀ (D : Addr) (o5' : Obj) (rv : List Value) (h' : Heap) (tk' : Nat), Fr h₀ L h' m → News h₀ L h' (cellsL c8 c7 c6 c5 c4 c3 c2 c1 o8 o7 o6 o5' o4 o3 o2 o1 ((D, LCg.lst rv) :: R)) →
      o5'.data = .cell (some (.ref D)) → StrsAre rv ((List.range n).map (rowS dS oc)) → (∀ p ∈ cellsL c8 c7 c6 c5 c4 c3 c2 c1 o8 o7 o6 o5 o4 o3 o2 o1 R, @Ne Nat p.1 D) →
      wpAny (model (RowW.prog (OpenRow.toRowW (OpenLaw.row PySem.Challenge.rw_sn0020_01))) w) (ktrTop dp un gd "law" scope L fa (.ref 123) (lawCl c1 c2 c3 c4 c5 c6 c7 c8) outer) (execs (body.drop 1) (envX "law" scope L fa (.ref 123) (lawCl c1 c2 c3 c4 c5 c6 c7 c8))) Q E { s with heap := h', toks := tk' }) :
    wpAny (model (RowW.prog (OpenRow.toRowW (OpenLaw.row PySem.Challenge.rw_sn0020_01))) w) (ktrTop dp un gd "law" scope L fa (.ref 123) (lawCl c1 c2 c3 c4 c5 c6 c7 c8) outer) (execs body (envX "law" scope L fa (.ref 123) (lawCl c1 c2 c3 c4 c5 c6 c7 c8))) Q E s := by
  with_unfolding_all (conv at hsc => lhs; whnf)
  with_unfolding_all (conv at hb => lhs; whnf)
  subst hsc hb
  revert X hrest; k_fill; intro X hrest
  have hdvl : dv.length = n := by rw [hdv.length, List.length_map, List.length_range]
  refine wpAny_execs_cons ?_
  k_steps
  refine ⟨?_⟩
  k_dflt (refine LCg.ListComp_U (F₀ := by k_asm) (by with_unfolding_all rfl) (by decide) (by rfl) (by decide) (by rfl) ?_)
  k_steps
  refine ⟨?_⟩
  (with_reducible rename Fr _ _ _ _ => F1); (with_reducible rename News _ _ _ _ => N1); (with_reducible rename IsRange _ _ _ _ _ _ _ _ => hR)
  with_unfolding_all refine LCg.CompSrc.range (n := n) rfl F1 N1 hR ?_ ?_ ?_ fun g => ?_
  · exact small_one (by (first | lia | omega)) (by (first | lia | omega)) (by (first | lia | omega)) (by (first | lia | omega))
  · rw [rangeSize_nat]; (try simp); (try (first | lia | omega))
  · rw [sizeLine_eq]; (first | lia | omega)
  refine compTurns (fun i ys nw => nw = (cellsL c8 c7 c6 c5 c4 c3 c2 c1 o8 o7 o6 o5 o4 o3 o2 o1 R) ∧ StrsAre ys ((List.range i).map (rowS dS oc))) ⟨rfl, .nil⟩ ?_ ?_
  · clear F1 N1 hR
    rintro i ys nw hi ⟨rfl, hys⟩ v I oI C oC D2 m₂ hh tk E' ⟨t, rfl⟩ hoC hmx F1 N1 off ne
    obtain ⟨r, vs, kr, hr1, hr2, hrI⟩ := hoc i (by (first | lia | omega))
    obtain ⟨hol1, hol2⟩ := hol i (by (first | lia | omega))
    have hrI' := hrI.length
    have e1 : (0 + (i : Int)).toNat = i := by (first | lia | omega)
    obtain ⟨td, hdi⟩ := hdv.get i (dS i) (by rw [List.getElem?_map, List.getElem?_range hi]; rfl)
    have hdi' : dv[(0 + (i : Int)).toNat]? = some (.str (dS i) td) := by rw [e1]; exact hdi
    have hr1' : refs[(0 + (i : Int)).toNat]? = some (.ref r) := by rw [e1]; exact hr1
    k_steps
    refine ⟨?_⟩
    k_dflt (refine LCg.ListComp_U (F₀ := by k_asm) (by with_unfolding_all rfl) (by decide) (by rfl) (by decide) (by rfl) ?_)
    k_steps
    refine ⟨?_⟩
    have hrm : (r, listOf vs.toArray kr) ∈ (I, oI) :: (C, oC) :: (D2, LCg.lst ys) :: cellsL c8 c7 c6 c5 c4 c3 c2 c1 o8 o7 o6 o5 o4 o3 o2 o1 R := List.mem_cons_of_mem _ (List.mem_cons_of_mem _ (List.mem_cons_of_mem _ (cells_sub hr2)))
    with_unfolding_all refine LCg.CompSrc.ledger rfl F1 N1 hrm ?_ fun g2 => ?_
    · rw [sizeLine_eq, List.size_toArray]; (first | lia | omega)
    refine compTurns (fun j ys' nw => nw = (I, oI) :: (C, oC) :: (D2, LCg.lst ys) :: cellsL c8 c7 c6 c5 c4 c3 c2 c1 o8 o7 o6 o5 o4 o3 o2 o1 R ∧ StrsAre ys' (((oc i).take j).map chrS)) ⟨rfl, .nil⟩ ?_ ?_
    · rintro j ys' nw hj ⟨rfl, hys'⟩ v I2 oI2 C2 oC2 D3 m₃ hh2 tk2 E2 hv hoC2 hmx2 F2 N2 off2 ne2
      rw [List.size_toArray] at hj
      obtain ⟨t2, e2⟩ := intsAt hrI j (by (first | lia | omega))
      have hv' : vs[j]? = some v := by simpa using hv
      rw [e2] at hv'
      injection hv' with hv'
      subst hv'
      have hej : (oc i)[j]? = some ((oc i).getD j 0) := by rw [List.getD_eq_getElem?_getD, List.getElem?_eq_getElem (by (first | lia | omega))]; rfl
      have hob := hol2 _ (List.mem_of_getElem? hej)
      k_steps
      refine ⟨?_⟩
      (with_reducible rename Fr _ _ _ _ => F3); (with_reducible rename News _ _ _ _ => N3)
      exact LCg.CompEnd.intro F3 N3 _ (fun p hp => hp) off2 (.inr ⟨_, hrm, rfl, _, rfl⟩) ⟨rfl, strs_take _ hys' hej⟩
    · rintro ys' nw ⟨rfl, hys'⟩
      intro D3 g3 tk3 F3 N3 off3
      rw [List.size_toArray, hrI', List.take_length] at hys'
      k_steps
      refine ⟨?_⟩
      refine join_listW (News.isList N3 List.mem_cons_self) hys' (by decide) (by rw [chr_sum, List.length_map]; (first | lia | omega)) fun t9 k9 => ?_
      k_steps
      refine ⟨?_⟩
      refine KXadd.add (Nat.le_refl _) (Nat.le_refl _) ?_ fun t10 k10 hlen => ?_
      · have := hdl i; rw [chr_len]; (first | lia | omega)
      k_steps
      refine ⟨?_⟩
      exact LCg.CompEnd.intro F3 N3 _ (fun p hp => List.mem_cons_of_mem _ hp) off trivial ⟨rfl, strs_snoc _ hys rfl⟩
  · rintro ys nw ⟨rfl, hys⟩
    intro D2 g' tk' F9 N9 off9
    have off9' := off1_ne off9
    simp only [LCg.Off1] at off9
    k_steps
    (with_reducible rename Fr _ _ _ _ => F8); (with_reducible rename News _ _ _ _ => N8)
    refine ⟨?_⟩
    with_unfolding_all exact hrest _ _ _ _ _ F8 (cells_push N8) (by assumption) hys off9'
end
end
section
local macro_rules | `(tactic| walk_at "nought0") => `(tactic| skip)
theorem cells_lt {D : Addr} {c8 c7 c6 c5 c4 c3 c2 c1 : Addr} {o8 o7 o6 o5 o4 o3 o2 o1 : Obj} {R : List (Addr × Obj)} (h : (@LT.lt Nat _ c8 D) ∧ (@LT.lt Nat _ c7 D) ∧ (@LT.lt Nat _ c6 D) ∧ (@LT.lt Nat _ c5 D) ∧ (@LT.lt Nat _ c4 D) ∧ (@LT.lt Nat _ c3 D) ∧ (@LT.lt Nat _ c2 D) ∧ (@LT.lt Nat _ c1 D) ∧ AllLt D R) :
    ∀ p ∈ cellsL c8 c7 c6 c5 c4 c3 c2 c1 o8 o7 o6 o5 o4 o3 o2 o1 R, @LT.lt Nat _ p.1 D := by
  obtain ⟨h1, h2, h3, h4, h5, h6, h7, h8, h9⟩ := h
  have h9' := lt_of_all h9
  intro p hp
  simp only [cellsL, List.mem_cons] at hp
  rcases hp with rfl | rfl | rfl | rfl | rfl | rfl | rfl | rfl | hp
  all_goals first | assumption | exact h9' p hp
theorem sum_len_le {b : Nat} : ∀ {l : List Str}, (∀ y ∈ l, y.length ≤ b) → (l.map (·.length)).sum ≤ l.length * b
  | [], _ => Nat.zero_le _
  | a :: l, h => by
    have h1 := sum_len_le (l := l) fun y hy => h y (.tail _ hy)
    have h2 := h a (.head _)
    rw [List.map_cons, List.sum_cons, List.length_cons, Nat.succ_mul]
    omega
section
variable {w : World} {mean : ExcName → Option Value} {mg mb : Str → Option Value}
  {dp un : Nat} {gd : Option (List Code)} {fa : Addr} {outer : List Env} {A₀ : Around} {base h₀ : Heap} {L : Addr} {m : Str → Option Value} {s : Shared} {Q : Flow → Shared → Prop} {E : Value → Shared → Prop}
  {c1 c2 c3 c4 c5 c6 c7 c8 : Addr} {o1 o2 o3 o4 o5 o6 o7 o8 : Obj} {scope : Scope} {body : List Stmt} {R : List (Addr × Obj)} {u0 : Str → Option Value}


theorem setup28 : True := by
  k_with_none
  k_with "storeName" => (k_here; k_dflt (refine storeX_C (by k_asm) (by k_asm) (by rfl) (by k_updF) (by k_asm) ?_ (by rfl) (by rfl); k_whole); intro h' o' F' N' d'; (try dsimp only at N'); (try k_sweep))
  k_with "subscriptTail" => (k_here; (with_reducible show wpAny _ _ (subscriptTail _ _ (Value.ref _) (Value.int _ _)) _ _ _); k_dflt (refine itemL (by k_asm) (by walk_at "mem") (by omega) (by omega) (by assumption) ?_ (by with_unfolding_all rfl); k_whole))
  k_with "exec For Name Call cons nil" => (k_here; (rename Fr _ _ _ _ => lF'); (with_unfolding_all refine For_invVF lF' (by exact rfl) (by exact rfl) ?_; k_whole))
  exact True.intro
set_option maxHeartbeats 1000000 in
set_option maxRecDepth 100000 in
theorem law_F
    (B : Below A₀ base outer h₀) (F : Fr h₀ L s.heap (m)) (X : (hd.heap_39 w.params).In h₀) (T : TopM mean mg mb h₀) (hC : CodeHd h₀ 123 121)
    (N : News h₀ L s.heap (cellsL c8 c7 c6 c5 c4 c3 c2 c1 o8 o7 o6 o5 o4 o3 o2 o1 R))
    (hc : @LT.lt Nat _ 121 c1 ∧ @LT.lt Nat _ c1 c2 ∧ @LT.lt Nat _ c2 c3 ∧ @LT.lt Nat _ c3 c4 ∧ @LT.lt Nat _ c4 c5 ∧ @LT.lt Nat _ c5 c6 ∧ @LT.lt Nat _ c6 c7 ∧ @LT.lt Nat _ c7 c8)
    (hsc : lawScope w.params = scope) (hb : (bodyAt w.params 124).drop 8 = body) (hd : dp + 64 < recursionLimit) (hu : un + 512 < cLine)

    (hR6 : ∀ p ∈ R, p.1 ≠ c6) (d6 : o6.data = .cell none)
    (hrest : ∀ (D : Addr) (o6' : Obj) (ev : List Value) (k' : Nat) (h' : Heap) (tk' : Nat), Fr h₀ L h' m → News h₀ L h' (cellsL c8 c7 c6 c5 c4 c3 c2 c1 o8 o7 o6' o5 o4 o3 o2 o1 ((D, listOf ev.toArray k') :: R)) →
      o6'.data = .cell (some (.ref D)) → StrsAre ev [Str.ofString "\r\n", Str.ofString "\r", Str.ofString "\n"] → (∀ p ∈ (cellsL c8 c7 c6 c5 c4 c3 c2 c1 o8 o7 o6 o5 o4 o3 o2 o1 R), @LT.lt Nat _ p.1 D) →
      wpAny (model (RowW.prog (OpenRow.toRowW (OpenLaw.row PySem.Challenge.rw_sn0020_01))) w) (ktrTop dp un gd "law" scope L fa (.ref 123) (lawCl c1 c2 c3 c4 c5 c6 c7 c8) outer) (execs (body.drop 1) (envX "law" scope L fa (.ref 123) (lawCl c1 c2 c3 c4 c5 c6 c7 c8))) Q E { s with heap := h', toks := tk' }
    ) :
    wpAny (model (RowW.prog (OpenRow.toRowW (OpenLaw.row PySem.Challenge.rw_sn0020_01))) w) (ktrTop dp un gd "law" scope L fa (.ref 123) (lawCl c1 c2 c3 c4 c5 c6 c7 c8) outer) (execs body (envX "law" scope L fa (.ref 123) (lawCl c1 c2 c3 c4 c5 c6 c7 c8))) Q E s := by

  with_unfolding_all (conv at hsc => lhs; whnf)
  with_unfolding_all (conv at hb => lhs; whnf)
  subst hsc hb
  revert X hrest; k_fill; intro X hrest
  refine wpAny_execs_cons ?_

  k_steps
  (with_reducible rename Fr _ _ _ _ => F8); (with_reducible rename News _ _ _ _ => N8); rename (@LT.lt Nat _ c8 _ ∧ _) => hl
  refine ⟨?_⟩
  with_unfolding_all exact hrest _ _ _ _ _ _ F8 (cells_push N8) (by assumption) (.cons _ _ (.cons _ _ (.cons _ _ .nil))) (cells_lt hl)
end
end
section
def endS (j : Nat) : Str := [Str.ofString "\r\n", Str.ofString "\r", Str.ofString "\n"].getD j (Str.ofString "")
def tailS (rS : Nat → Str) (n k : Nat) : Str := Txt.join (Str.ofString "") ((List.range (n - k)).map fun j => rS (k + j) ++ endS ((k + j + n) % 3))
theorem endS_len (j : Nat) : (endS j).length ≤ 2 := by
  unfold endS
  match j with
  | 0 => decide
  | 1 => decide
  | 2 => decide
  | (k + 3) => exact Nat.le_of_ble_eq_true rfl
section
variable {w : World} {mean : ExcName → Option Value} {mg mb : Str → Option Value}
  {dp un : Nat} {gd : Option (List Code)} {fa : Addr} {outer : List Env} {A₀ : Around} {base h₀ : Heap} {L : Addr} {m : Str → Option Value} {s : Shared} {Q : Flow → Shared → Prop} {E : Value → Shared → Prop}
  {c1 c2 c3 c4 c5 c6 c7 c8 : Addr} {o1 o2 o3 o4 o5 o6 o7 o8 : Obj} {scope : Scope} {body : List Stmt} {R : List (Addr × Obj)} {u0 : Str → Option Value}

  {DR DE : Addr} {n : Nat} {rv ev : List Value} {kr ke : Nat} {t1 : Tok} {rS : Nat → Str}

theorem setup29 : True := by
  k_with_none
  k_with "storeName" => (k_here; k_dflt (refine storeX_C (by k_asm) (by k_asm) (by rfl) (by k_updF) (by k_asm) ?_ (by rfl) (by rfl); k_whole); intro h' o' F' N' d'; (try dsimp only at N'); (try k_sweep))
  k_with "subscriptTail" => (k_here; (with_reducible show wpAny _ _ (subscriptTail _ _ (Value.ref _) (Value.int _ _)) _ _ _); k_dflt (refine itemL (by k_asm) (by walk_at "mem") (by (first | lia | omega)) (by (first | lia | omega)) (by assumption) ?_ (by with_unfolding_all rfl); k_whole))
  k_with "exec For Name Call cons nil" => (k_here; (rename Fr _ _ _ _ => lF'); (with_unfolding_all refine For_invVF lF' (by exact rfl) (by exact rfl) ?_; k_whole))
  exact True.intro
set_option maxHeartbeats 1000000 in
set_option maxRecDepth 100000 in
theorem law_G
    (B : Below A₀ base outer h₀) (F : Fr h₀ L s.heap (m)) (X : (hd.heap_39 w.params).In h₀) (T : TopM mean mg mb h₀) (hC : CodeHd h₀ 123 121)
    (N : News h₀ L s.heap (cellsL c8 c7 c6 c5 c4 c3 c2 c1 o8 o7 o6 o5 o4 o3 o2 o1 R))
    (hc : @LT.lt Nat _ 121 c1 ∧ @LT.lt Nat _ c1 c2 ∧ @LT.lt Nat _ c2 c3 ∧ @LT.lt Nat _ c3 c4 ∧ @LT.lt Nat _ c4 c5 ∧ @LT.lt Nat _ c5 c6 ∧ @LT.lt Nat _ c6 c7 ∧ @LT.lt Nat _ c7 c8)
    (hsc : lawScope w.params = scope) (hb : (bodyAt w.params 124).drop 9 = body) (hd : dp + 64 < recursionLimit) (hu : un + 512 < cLine)

    (d1 : o1.data = .cell (some (.int (n : Int) t1))) (d5 : o5.data = .cell (some (.ref DR))) (d6 : o6.data = .cell (some (.ref DE)))
    (hDR : (DR, listOf rv.toArray kr) ∈ R) (hDE : (DE, listOf ev.toArray ke) ∈ R) (hrv : StrsAre rv ((List.range n).map rS)) (hev : StrsAre ev [Str.ofString "\r\n", Str.ofString "\r", Str.ofString "\n"]) (hrl : ∀ i, i < n → (rS i).length ≤ 7) (hnl : n ≤ 10)
    (hrest : ∀ (D : Addr) (tv : List Value) (u : Str → Option Value) (h' : Heap) (tk' : Nat), Fr h₀ L h' (bnd u [("tails", .ref D)]) → News h₀ L h' (cellsL c8 c7 c6 c5 c4 c3 c2 c1 o8 o7 o6 o5 o4 o3 o2 o1 ((D, LCg.lst tv) :: R)) →
      StrsAre tv ((List.range n).map (tailS rS n)) → (∀ p ∈ (cellsL c8 c7 c6 c5 c4 c3 c2 c1 o8 o7 o6 o5 o4 o3 o2 o1 R), @Ne Nat p.1 D) →
      wpAny (model (RowW.prog (OpenRow.toRowW (OpenLaw.row PySem.Challenge.rw_sn0020_01))) w) (ktrTop dp un gd "law" scope L fa (.ref 123) (lawCl c1 c2 c3 c4 c5 c6 c7 c8) outer) (execs (body.drop 1) (envX "law" scope L fa (.ref 123) (lawCl c1 c2 c3 c4 c5 c6 c7 c8))) Q E { s with heap := h', toks := tk' }
    ) :
    wpAny (model (RowW.prog (OpenRow.toRowW (OpenLaw.row PySem.Challenge.rw_sn0020_01))) w) (ktrTop dp un gd "law" scope L fa (.ref 123) (lawCl c1 c2 c3 c4 c5 c6 c7 c8) outer) (execs body (envX "law" scope L fa (.ref 123) (lawCl c1 c2 c3 c4 c5 c6 c7 c8))) Q E s := by

  have hrvl : rv.length = n := by rw [hrv.length, List.length_map, List.length_range]
  have hevl : ev.length = 3 := by rw [hev.length]; rfl
  with_unfolding_all (conv at hsc => lhs; whnf)
  with_unfolding_all (conv at hb => lhs; whnf)
  subst hsc hb
  revert X hrest; k_fill; intro X hrest
  refine wpAny_execs_cons ?_

  k_steps
  refine ⟨?_⟩
  (with_reducible rename Fr _ _ _ _ => F1); (with_reducible rename News _ _ _ _ => N1); (with_reducible rename IsRange _ _ _ _ _ _ _ _ => hR)
  with_unfolding_all refine LCg.CompSrc.range (n := n) rfl F1 N1 hR ?_ ?_ ?_ fun g => ?_
  · exact small_one (by (first | lia | omega)) (by (first | lia | omega)) (by (first | lia | omega)) (by (first | lia | omega))
  · rw [rangeSize_nat]; (try simp); (try (first | lia | omega))
  · rw [sizeLine_eq]; (first | lia | omega)
  refine compTurns (fun i ys nw => nw = (cellsL c8 c7 c6 c5 c4 c3 c2 c1 o8 o7 o6 o5 o4 o3 o2 o1 R) ∧ StrsAre ys ((List.range i).map (tailS rS n))) ⟨rfl, .nil⟩ ?_ ?_
  · clear F1 N1 hR
    rintro i ys nw hi ⟨rfl, hys⟩ v I oI C oC D2 m₂ hh tk E' ⟨t, rfl⟩ hoC hmx F1 N1 off ne
    k_steps
    refine ⟨?_⟩
    k_dflt (refine LCg.ListComp_U (F₀ := by k_asm) (by with_unfolding_all rfl) (by decide) (by rfl) (by decide) (by rfl) ?_)
    k_steps
    refine ⟨?_⟩
    (with_reducible rename Fr _ _ _ _ => Fa); (with_reducible rename News _ _ _ _ => Na); (with_reducible rename IsRange _ _ _ _ _ _ _ _ => hR)
    have Nb : News h₀ L _ ((I, oI) :: (C, oC) :: (D2, LCg.lst ys) :: (cellsL c8 c7 c6 c5 c4 c3 c2 c1 o8 o7 o6 o5 o4 o3 o2 o1 R)) := fun p hp => Na p (by walk_at "mem")
    with_unfolding_all refine LCg.CompSrc.range (n := n - i) rfl Fa Nb hR ?_ ?_ ?_ fun g2 => ?_
    · exact small_one (by (first | lia | omega)) (by (first | lia | omega)) (by (first | lia | omega)) (by (first | lia | omega))
    · rw [rangeSize_nat]; (first | lia | omega)
    · rw [sizeLine_eq]; (first | lia | omega)
    refine compTurns (fun j ys' nw => nw = (I, oI) :: (C, oC) :: (D2, LCg.lst ys) :: (cellsL c8 c7 c6 c5 c4 c3 c2 c1 o8 o7 o6 o5 o4 o3 o2 o1 R) ∧ StrsAre ys' ((List.range j).map fun j => rS (i + j) ++ endS ((i + j + n) % 3))) ⟨rfl, .nil⟩ ?_ ?_
    · clear Fa Na Nb hR
      rintro j ys' nw hj ⟨rfl, hys'⟩ v I2 oI2 C2 oC2 D3 m₃ hh2 tk2 E2 ⟨t2, rfl⟩ hoC2 hmx2 F2 N2 off2 ne2
      have hf0 : 0 ≤ ((0 + (i : Int) + (j : Int)) + (n : Int)).fmod 3 ∧ ((0 + (i : Int) + (j : Int)) + (n : Int)).fmod 3 < 3 ∧ (((0 + (i : Int) + (j : Int)) + (n : Int)).fmod 3).toNat = (i + j + n) % 3 := by
        rw [Int.fmod_eq_emod_of_nonneg _ (by decide)]; (first | lia | omega)
      obtain ⟨hf1, hf2, hf3⟩ := hf0
      obtain ⟨te, hei⟩ := hev.get ((i + j + n) % 3) (endS ((i + j + n) % 3)) (by
        have : (i + j + n) % 3 < 3 := Nat.mod_lt _ (by decide)
        generalize (i + j + n) % 3 = q at this
        match q, this with
        | 0, _ => rfl
        | 1, _ => rfl
        | 2, _ => rfl)
      obtain ⟨tr, hri⟩ := hrv.get (i + j) (rS (i + j)) (by rw [List.getElem?_map, List.getElem?_range (by (first | lia | omega))]; rfl)
      have e1 : (0 + (i : Int) + (j : Int)).toNat = i + j := by (first | lia | omega)
      have hri' : rv[(0 + (i : Int) + (j : Int)).toNat]? = some (.str (rS (i + j)) tr) := by rw [e1]; exact hri
      have hei' : ev[(((0 + (i : Int) + (j : Int)) + (n : Int)).fmod 3).toNat]? = some (.str (endS ((i + j + n) % 3)) te) := by rw [hf3]; exact hei
      k_steps
      refine ⟨?_⟩
      refine KXadd.add (Nat.le_refl _) (Nat.le_refl _) ?_ fun t10 k10 hlen => ?_
      · have h1 := hrl (i + j) (by (first | lia | omega)); have h2 := endS_len ((i + j + n) % 3); (first | lia | omega)
      k_steps
      refine ⟨?_⟩
      exact LCg.CompEnd.intro F2 N2 _ (fun p hp => hp) off2 trivial ⟨rfl, strs_snoc _ hys' rfl⟩
    · rintro ys' nw ⟨rfl, hys'⟩
      intro D3 g3 tk3 F3 N3 off3
      k_steps
      refine ⟨?_⟩
      refine join_listW (News.isList N3 List.mem_cons_self) hys' (by decide) ?_ fun t9 k9 => ?_
      · have h1 := sum_len_le (b := 9) (l := (List.range (n - i)).map fun j => rS (i + j) ++ endS ((i + j + n) % 3)) fun y hy => by
          obtain ⟨j, hj, rfl⟩ := List.mem_map.1 hy
          have hj' := List.mem_range.1 hj
          have h1 := hrl (i + j) (by (first | lia | omega)); have h2 := endS_len ((i + j + n) % 3)
          rw [PySem.Str.length_append]; (first | lia | omega)
        rw [List.length_map, List.length_range] at h1 ⊢
        (first | lia | omega)
      k_steps
      refine ⟨?_⟩
      exact LCg.CompEnd.intro F3 N3 _ (fun p hp => List.mem_cons_of_mem _ hp) off trivial ⟨rfl, strs_snoc _ hys rfl⟩
  · rintro ys nw ⟨rfl, hys⟩
    intro D2 g' tk' F9 N9 off9
    have off9' := off1_ne off9
    simp only [LCg.Off1] at off9
    k_steps
    (with_reducible rename Fr _ _ _ _ => F8); (with_reducible rename News _ _ _ _ => N8)
    obtain ⟨u1, F7⟩ := frB [("tails", .ref D2)] F8 (by walk_at "all_rfl")
    refine ⟨?_⟩
    with_unfolding_all exact hrest _ _ _ _ _ F7 (cells_push N8) hys off9'
end
end
section
local macro_rules | `(tactic| walk_at "nought0") => `(tactic| skip)
def sentS (dS rS : Nat → Str) (n : Nat) : Str := Txt.join (Str.ofString "") ((List.range n).map fun k => dS k ++ rS k ++ Str.ofString "\r\n") ++ Str.ofString "!.\r\n\r\n...\r\n.."
theorem strs_len {g : Nat → Str} {b n : Nat} (h : ∀ i, i < n → (g i).length ≤ b) : (((List.range n).map g).map (·.length)).sum ≤ n * b := by
  have h1 := sum_len_le (b := b) (l := (List.range n).map g) fun y hy => by
    obtain ⟨j, hj, rfl⟩ := List.mem_map.1 hy
    exact h j (List.mem_range.1 hj)
  rw [List.length_map, List.length_range] at h1
  exact h1
section
variable {w : World} {mean : ExcName → Option Value} {mg mb : Str → Option Value}
  {dp un : Nat} {gd : Option (List Code)} {fa : Addr} {outer : List Env} {A₀ : Around} {base h₀ : Heap} {L : Addr} {m : Str → Option Value} {s : Shared} {Q : Flow → Shared → Prop} {E : Value → Shared → Prop}
  {c1 c2 c3 c4 c5 c6 c7 c8 : Addr} {o1 o2 o3 o4 o5 o6 o7 o8 : Obj} {scope : Scope} {body : List Stmt} {R : List (Addr × Obj)} {u0 : Str → Option Value}

  {DR DD TL : Addr} {n : Nat} {rv dv : List Value} {kr kd : Nat} {t1 : Tok} {rS dS : Nat → Str}

theorem setup30 : True := by
  k_with_none
  k_with "storeName" => (k_here; k_dflt (refine storeX_C (by k_asm) (by k_asm) (by rfl) (by k_updF) (by k_asm) ?_ (by rfl) (by rfl); k_whole); intro h' o' F' N' d'; (try dsimp only at N'); (try k_sweep))
  k_with "subscriptTail" => (k_here; (with_reducible show wpAny _ _ (subscriptTail _ _ (Value.ref _) (Value.int _ _)) _ _ _); k_dflt (refine itemL (by k_asm) (by walk_at "mem") (by (first | lia | omega)) (by (first | lia | omega)) (by assumption) ?_ (by with_unfolding_all rfl); k_whole))
  k_with "exec For Name Call cons nil" => (k_here; (rename Fr _ _ _ _ => lF'); (with_unfolding_all refine For_invVF lF' (by exact rfl) (by exact rfl) ?_; k_whole))
  exact True.intro
set_option maxHeartbeats 1000000 in
set_option maxRecDepth 100000 in
theorem law_H
    (B : Below A₀ base outer h₀) (F : Fr h₀ L s.heap (bnd u0 [("tails", .ref TL)])) (X : (hd.heap_39 w.params).In h₀) (T : TopM mean mg mb h₀) (hC : CodeHd h₀ 123 121)
    (N : News h₀ L s.heap (cellsL c8 c7 c6 c5 c4 c3 c2 c1 o8 o7 o6 o5 o4 o3 o2 o1 R))
    (hc : @LT.lt Nat _ 121 c1 ∧ @LT.lt Nat _ c1 c2 ∧ @LT.lt Nat _ c2 c3 ∧ @LT.lt Nat _ c3 c4 ∧ @LT.lt Nat _ c4 c5 ∧ @LT.lt Nat _ c5 c6 ∧ @LT.lt Nat _ c6 c7 ∧ @LT.lt Nat _ c7 c8)
    (hsc : lawScope w.params = scope) (hb : (bodyAt w.params 124).drop 10 = body) (hd : dp + 64 < recursionLimit) (hu : un + 512 < cLine)

    (d1 : o1.data = .cell (some (.int (n : Int) t1))) (d5 : o5.data = .cell (some (.ref DR))) (d4 : o4.data = .cell (some (.ref DD)))
    (hDR : (DR, listOf rv.toArray kr) ∈ R) (hDD : (DD, listOf dv.toArray kd) ∈ R) (hrv : StrsAre rv ((List.range n).map rS)) (hdv : StrsAre dv ((List.range n).map dS)) (hrl : ∀ i, i < n → (rS i).length ≤ 7) (hdl : ∀ i, (dS i).length ≤ 1) (hnl : n ≤ 10)
    (hjl : (Txt.join (Str.ofString "") ((List.range n).map fun k => dS k ++ rS k ++ Str.ofString "\r\n")).length ≤ 1000)
    (hrest : ∀ (t : Tok) (u : Str → Option Value) (h' : Heap) (tk' : Nat), Fr h₀ L h' (bnd u [("sent", .str (sentS dS rS n) t), ("tails", .ref TL)]) → News h₀ L h' (cellsL c8 c7 c6 c5 c4 c3 c2 c1 o8 o7 o6 o5 o4 o3 o2 o1 R) →
      wpAny (model (RowW.prog (OpenRow.toRowW (OpenLaw.row PySem.Challenge.rw_sn0020_01))) w) (ktrTop dp un gd "law" scope L fa (.ref 123) (lawCl c1 c2 c3 c4 c5 c6 c7 c8) outer) (execs (body.drop 1) (envX "law" scope L fa (.ref 123) (lawCl c1 c2 c3 c4 c5 c6 c7 c8))) Q E { s with heap := h', toks := tk' }
    ) :
    wpAny (model (RowW.prog (OpenRow.toRowW (OpenLaw.row PySem.Challenge.rw_sn0020_01))) w) (ktrTop dp un gd "law" scope L fa (.ref 123) (lawCl c1 c2 c3 c4 c5 c6 c7 c8) outer) (execs body (envX "law" scope L fa (.ref 123) (lawCl c1 c2 c3 c4 c5 c6 c7 c8))) Q E s := by

  have hrvl : rv.length = n := by rw [hrv.length, List.length_map, List.length_range]
  have hdvl : dv.length = n := by rw [hdv.length, List.length_map, List.length_range]
  with_unfolding_all (conv at hsc => lhs; whnf)
  with_unfolding_all (conv at hb => lhs; whnf)
  subst hsc hb
  revert X hrest; k_fill; intro X hrest
  refine wpAny_execs_cons ?_

  k_steps
  refine ⟨?_⟩
  k_dflt (refine LCg.ListComp_U (F₀ := by k_asm) (by with_unfolding_all rfl) (by decide) (by rfl) (by decide) (by rfl) ?_)
  k_steps
  refine ⟨?_⟩
  (with_reducible rename Fr _ _ _ _ => F1); (with_reducible rename News _ _ _ _ => N1); (with_reducible rename IsRange _ _ _ _ _ _ _ _ => hR)
  with_unfolding_all refine LCg.CompSrc.range (n := n) rfl F1 N1 hR ?_ ?_ ?_ fun g => ?_
  · exact small_one (by (first | lia | omega)) (by (first | lia | omega)) (by (first | lia | omega)) (by (first | lia | omega))
  · rw [rangeSize_nat]; (try simp); (try (first | lia | omega))
  · rw [sizeLine_eq]; (first | lia | omega)
  refine compTurns (fun i ys nw => nw = (cellsL c8 c7 c6 c5 c4 c3 c2 c1 o8 o7 o6 o5 o4 o3 o2 o1 R) ∧ StrsAre ys ((List.range i).map fun k => dS k ++ rS k ++ Str.ofString "\r\n")) ⟨rfl, .nil⟩ ?_ ?_
  · clear F1 N1 hR
    rintro i ys nw hi ⟨rfl, hys⟩ v I oI C oC D2 m₂ hh tk E' ⟨t, rfl⟩ hoC hmx F1 N1 off ne
    have e1 : (0 + (i : Int)).toNat = i := by (first | lia | omega)
    obtain ⟨td, hdi⟩ := hdv.get i (dS i) (by rw [List.getElem?_map, List.getElem?_range hi]; rfl)
    obtain ⟨tr, hri⟩ := hrv.get i (rS i) (by rw [List.getElem?_map, List.getElem?_range hi]; rfl)
    have hdi' : dv[(0 + (i : Int)).toNat]? = some (.str (dS i) td) := by rw [e1]; exact hdi
    have hri' : rv[(0 + (i : Int)).toNat]? = some (.str (rS i) tr) := by rw [e1]; exact hri
    have b1 := hdl i
    have b2 := hrl i hi
    have b3 : (Str.ofString "\r\n").length ≤ 2 := by decide
    k_steps
    refine ⟨?_⟩
    refine KXadd.add (Nat.le_refl _) (Nat.le_refl _) (by (first | lia | omega)) fun t10 k10 hlen => ?_
    k_steps
    refine ⟨?_⟩
    refine KXadd.add (Nat.le_refl _) (Nat.le_refl _) (by (first | lia | omega)) fun t11 k11 hlen2 => ?_
    k_steps
    refine ⟨?_⟩
    exact LCg.CompEnd.intro F1 N1 _ (fun p hp => hp) off trivial ⟨rfl, strs_snoc _ hys rfl⟩
  · rintro ys nw ⟨rfl, hys⟩
    intro D2 g' tk' F9 N9 off9
    k_steps
    refine ⟨?_⟩
    refine join_listW (News.isList N9 List.mem_cons_self) hys (by decide) ?_ fun t9 k9 => ?_
    · have h1 := strs_len (n := n) (b := 10) (g := fun k => dS k ++ rS k ++ Str.ofString "\r\n") fun i hi => by
        have b1 := hdl i
        have b2 := hrl i hi
        have b3 : (Str.ofString "\r\n").length ≤ 2 := by decide
        rw [PySem.Str.length_append, PySem.Str.length_append]; (first | lia | omega)
      rw [List.length_map, List.length_range]
      (first | lia | omega)
    have b4 : (Str.ofString "!.\r\n\r\n...\r\n..").length ≤ 20 := by decide
    k_steps
    refine ⟨?_⟩
    refine KXadd.add (Nat.le_refl _) (Nat.le_refl _) (by (first | lia | omega)) fun t11 k11 hlen2 => ?_
    k_steps
    (with_reducible rename Fr _ _ _ _ => F8); (with_reducible rename News _ _ _ _ => N8)
    obtain ⟨u1, F7⟩ := frB [("sent", .str (sentS dS rS n) t11), ("tails", .ref TL)] F8 (by walk_at "all_rfl")
    refine ⟨?_⟩
    with_unfolding_all exact hrest _ _ _ _ F7 (fun p hp => N8 p (List.mem_cons_of_mem _ hp))
end
end
section
theorem ne_str_same {prog : Program} {w : World} {A : Around} {E : Value → Shared → Prop} {s : Shared} {x y : Str} {t u : Tok} {Q : Value → Shared → Prop} (e : x = y) (h : Q (.bool false) s) : wpAny (model prog w) A (compareOp .NotEq (.str x t) (.str y u)) Q E s := by
  subst e
  refine ne_str ?_
  simpa using h
section
variable {w : World} {mean : ExcName → Option Value} {mg mb : Str → Option Value}
  {dp un : Nat} {gd : Option (List Code)} {fa : Addr} {outer : List Env} {A₀ : Around} {base h₀ : Heap} {L : Addr} {m : Str → Option Value} {s : Shared} {Q : Flow → Shared → Prop} {E : Value → Shared → Prop}
  {c1 c2 c3 c4 c5 c6 c7 c8 : Addr} {o1 o2 o3 o4 o5 o6 o7 o8 : Obj} {scope : Scope} {body : List Stmt} {R : List (Addr × Obj)} {u0 : Str → Option Value}

  {TL : Addr} {tv : List Value} {kt : Nat} {ts : Tok} {n : Nat} {tS : Nat → Str} {sS : Str}

theorem setup31 : True := by
  k_with_none
  k_with "storeName" => (k_here; k_dflt (refine storeX_C (by k_asm) (by k_asm) (by rfl) (by k_updF) (by k_asm) ?_ (by rfl) (by rfl); k_whole); intro h' o' F' N' d'; (try dsimp only at N'); (try k_sweep))
  k_with "subscriptTail" => (k_here; (with_reducible show wpAny _ _ (subscriptTail _ _ (Value.ref _) (Value.int _ _)) _ _ _); k_dflt (refine itemL (by k_asm) (by walk_at "mem") (by omega) (by omega) (by assumption) ?_ (by with_unfolding_all rfl); k_whole))
  k_with "exec For Name Call cons nil" => (k_here; (rename Fr _ _ _ _ => lF'); (with_unfolding_all refine For_invVF lF' (by exact rfl) (by exact rfl) ?_; k_whole))
  exact True.intro
set_option maxHeartbeats 1000000 in
set_option maxRecDepth 100000 in
theorem law_I
    (B : Below A₀ base outer h₀) (F : Fr h₀ L s.heap (bnd u0 [("sent", .str sS ts), ("tails", .ref TL)])) (X : (hd.heap_39 w.params).In h₀) (T : TopM mean mg mb h₀) (hC : CodeHd h₀ 123 121)
    (N : News h₀ L s.heap (cellsL c8 c7 c6 c5 c4 c3 c2 c1 o8 o7 o6 o5 o4 o3 o2 o1 R))
    (hc : @LT.lt Nat _ 121 c1 ∧ @LT.lt Nat _ c1 c2 ∧ @LT.lt Nat _ c2 c3 ∧ @LT.lt Nat _ c3 c4 ∧ @LT.lt Nat _ c4 c5 ∧ @LT.lt Nat _ c5 c6 ∧ @LT.lt Nat _ c6 c7 ∧ @LT.lt Nat _ c7 c8)
    (hsc : lawScope w.params = scope) (hb : (bodyAt w.params 124).drop 11 = body) (hd : dp + 64 < recursionLimit) (hu : un + 512 < cLine)

    (hTL : (TL, listOf tv.toArray kt) ∈ R) (htv : StrsAre tv ((List.range n).map tS)) (hn : 0 < n) (htl : (tS 0).length ≤ 1000)
    (hq : strOfL (quoted (tS 0 ++ Str.ofString "!.\n\r..\n.").cps.toList) = sS)
    (hrest : ∀ (h' : Heap) (tk' : Nat), Fr h₀ L h' (bnd u0 [("sent", .str sS ts), ("tails", .ref TL)]) → News h₀ L h' (cellsL c8 c7 c6 c5 c4 c3 c2 c1 o8 o7 o6 o5 o4 o3 o2 o1 R) →
      wpAny (model (RowW.prog (OpenRow.toRowW (OpenLaw.row PySem.Challenge.rw_sn0020_01))) w) (ktrTop dp un gd "law" scope L fa (.ref 123) (lawCl c1 c2 c3 c4 c5 c6 c7 c8) outer) (execs (body.drop 1) (envX "law" scope L fa (.ref 123) (lawCl c1 c2 c3 c4 c5 c6 c7 c8))) Q E { s with heap := h', toks := tk' }
    ) :
    wpAny (model (RowW.prog (OpenRow.toRowW (OpenLaw.row PySem.Challenge.rw_sn0020_01))) w) (ktrTop dp un gd "law" scope L fa (.ref 123) (lawCl c1 c2 c3 c4 c5 c6 c7 c8) outer) (execs body (envX "law" scope L fa (.ref 123) (lawCl c1 c2 c3 c4 c5 c6 c7 c8))) Q E s := by

  have htvl : tv.length = n := by rw [htv.length, List.length_map, List.length_range]
  obtain ⟨tt, hti⟩ := htv.get 0 (tS 0) (by rw [List.getElem?_map, List.getElem?_range hn]; rfl)
  have hti' : tv[(0 : Int).toNat]? = some (.str (tS 0) tt) := hti
  have b4 : (Str.ofString "!.\n\r..\n.").length ≤ 20 := by decide
  with_unfolding_all (conv at hsc => lhs; whnf)
  with_unfolding_all (conv at hb => lhs; whnf)
  subst hsc hb
  revert X hrest; k_fill; intro X hrest
  refine wpAny_execs_cons ?_

  k_steps
  refine ⟨?_⟩
  refine KXadd.add (Nat.le_refl _) (Nat.le_refl _) (by omega) fun t11 k11 hlen2 => ?_
  k_steps
  refine ⟨?_⟩
  refine quote_call B F X N T rfl (x := _) (t := _) ?_ ?_ ?_ ?_
  · show (tS 0 ++ Str.ofString "!.\n\r..\n.").length ≤ _; omega
  · ktr_room
  · ktr_units
  intro t9 h9 tk9 F9 N9
  k_steps
  refine ⟨?_⟩
  refine ne_str_same hq ?_
  k_steps
  refine ⟨?_⟩
  with_unfolding_all exact hrest _ _ F9 N9
end
end
section
local macro_rules | `(tactic| walk_at "nought0") => `(tactic| skip)
def fallsTo (tl rl : Nat → Int) : Nat → Int
  | 0 => 0
  | i + 1 => fallsTo tl rl i + tl (i + 1) - rl (i + 1)
def rowSum (rS : Nat → Str) (n k : Nat) : Int := ((List.range (n - k)).map fun j => ((rS (k + j)).length : Int) + 2).sum
theorem ints_snoc {ys : List Value} {g : Nat → Int} {i : Nat} {y : Int} (t : Tok) (h : IntsAre ys ((List.range i).map g)) (e : y = g i) : IntsAre (ys ++ [.int y t]) ((List.range (i + 1)).map g) := by
  rw [List.range_succ, List.map_append]; subst e
  exact IntsAre.append h (.cons _ _ .nil)
section
variable {w : World} {mean : ExcName → Option Value} {mg mb : Str → Option Value}
  {dp un : Nat} {gd : Option (List Code)} {fa : Addr} {outer : List Env} {A₀ : Around} {base h₀ : Heap} {L : Addr} {m : Str → Option Value} {s : Shared} {Q : Flow → Shared → Prop} {E : Value → Shared → Prop}
  {c1 c2 c3 c4 c5 c6 c7 c8 : Addr} {o1 o2 o3 o4 o5 o6 o7 o8 : Obj} {scope : Scope} {body : List Stmt} {R : List (Addr × Obj)} {u0 : Str → Option Value}

  {TL DR : Addr} {tv rv : List Value} {kt kr : Nat} {ts t1 : Tok} {n : Nat} {tS qS rS : Nat → Str} {sS : Str}

theorem setup32 : True := by
  k_with_none
  k_with "storeName" => (k_here; k_dflt (refine storeX_C (by k_asm) (by k_asm) (by rfl) (by k_updF) (by k_asm) ?_ (by rfl) (by rfl); k_whole); intro h' o' F' N' d'; (try dsimp only at N'); (try k_sweep))
  k_with "subscriptTail" => (k_here; (with_reducible show wpAny _ _ (subscriptTail _ _ (Value.ref _) (Value.int _ _)) _ _ _); k_dflt (refine itemL (by k_asm) (by walk_at "mem") (by (first | lia | omega)) (by (first | lia | omega)) (by assumption) ?_ (by with_unfolding_all rfl); k_whole))
  k_with "exec For Name Call cons nil" => (k_here; (rename Fr _ _ _ _ => lF'); (with_unfolding_all refine For_invVF lF' (by exact rfl) (by exact rfl) ?_; k_whole))
  exact True.intro
set_option maxHeartbeats 1000000 in
set_option maxRecDepth 100000 in
theorem law_J
    (B : Below A₀ base outer h₀) (F : Fr h₀ L s.heap (bnd u0 [("sent", .str sS ts), ("tails", .ref TL)])) (X : (hd.heap_39 w.params).In h₀) (T : TopM mean mg mb h₀) (hC : CodeHd h₀ 123 121)
    (N : News h₀ L s.heap (cellsL c8 c7 c6 c5 c4 c3 c2 c1 o8 o7 o6 o5 o4 o3 o2 o1 R))
    (hc : @LT.lt Nat _ 121 c1 ∧ @LT.lt Nat _ c1 c2 ∧ @LT.lt Nat _ c2 c3 ∧ @LT.lt Nat _ c3 c4 ∧ @LT.lt Nat _ c4 c5 ∧ @LT.lt Nat _ c5 c6 ∧ @LT.lt Nat _ c6 c7 ∧ @LT.lt Nat _ c7 c8)
    (hsc : lawScope w.params = scope) (hb : (bodyAt w.params 124).drop 12 = body) (hd : dp + 64 < recursionLimit) (hu : un + 512 < cLine)

    (d1 : o1.data = .cell (some (.int (n : Int) t1))) (d5 : o5.data = .cell (some (.ref DR)))
    (hTL : (TL, listOf tv.toArray kt) ∈ R) (htv : StrsAre tv ((List.range n).map tS)) (hn : 0 < n) (hnl : n ≤ 10) (htl : ∀ k, k < n → (tS k).length ≤ 1000)
    (hDR : (DR, listOf rv.toArray kr) ∈ R) (hrv : StrsAre rv ((List.range n).map rS)) (hrl : ∀ i, i < n → (rS i).length ≤ 7)
    (hq : ∀ k, k < n → strOfL (quoted (tS k).cps.toList) = qS k ∧ (qS k).length ≤ 100000)
    (hE : PassesOwn (model (RowW.prog (OpenRow.toRowW (OpenLaw.row PySem.Challenge.rw_sn0020_01))) w) (ktrTop dp un gd "law" scope L fa (.ref 123) (lawCl c1 c2 c3 c4 c5 c6 c7 c8) outer) (envX "law" scope L fa (.ref 123) (lawCl c1 c2 c3 c4 c5 c6 c7 c8)) E)
    (hrest : ∀ (t : Tok) (u : Str → Option Value) (h' : Heap) (tk' : Nat), Fr h₀ L h' (bnd u [("falls", .int (fallsTo (fun k => ((qS k).length : Int)) (rowSum rS n) (n - 1)) t)]) → News h₀ L h' (cellsL c8 c7 c6 c5 c4 c3 c2 c1 o8 o7 o6 o5 o4 o3 o2 o1 R) →
      wpAny (model (RowW.prog (OpenRow.toRowW (OpenLaw.row PySem.Challenge.rw_sn0020_01))) w) (ktrTop dp un gd "law" scope L fa (.ref 123) (lawCl c1 c2 c3 c4 c5 c6 c7 c8) outer) (execs (body.drop 2) (envX "law" scope L fa (.ref 123) (lawCl c1 c2 c3 c4 c5 c6 c7 c8))) Q E { s with heap := h', toks := tk' }
    ) :
    wpAny (model (RowW.prog (OpenRow.toRowW (OpenLaw.row PySem.Challenge.rw_sn0020_01))) w) (ktrTop dp un gd "law" scope L fa (.ref 123) (lawCl c1 c2 c3 c4 c5 c6 c7 c8) outer) (execs body (envX "law" scope L fa (.ref 123) (lawCl c1 c2 c3 c4 c5 c6 c7 c8))) Q E s := by

  have htvl : tv.length = n := by rw [htv.length, List.length_map, List.length_range]
  have hrvl : rv.length = n := by rw [hrv.length, List.length_map, List.length_range]
  with_unfolding_all (conv at hsc => lhs; whnf)
  with_unfolding_all (conv at hb => lhs; whnf)
  subst hsc hb
  revert X hrest; k_fill; intro X hrest
  refine wpAny_execs_cons ?_

  k_steps
  (with_reducible rename Fr _ _ _ _ => F'); (with_reducible rename News _ _ _ _ => N')
  (with_reducible rename IsRange _ _ _ _ _ _ _ _ => hR)
  refine ⟨?_⟩
  obtain ⟨u0', tf0, F'⟩ := frI1 (x := "falls") (i := 0) [("tails", .ref TL)] F' (by walk_at "all_rfl") ⟨_, rfl⟩
  with_unfolding_all refine' forRange (σ := Int × Tok) (n := n - 1) (fun _ => (cellsL c8 c7 c6 c5 c4 c3 c2 c1 o8 o7 o6 o5 o4 o3 o2 o1 R)) (fun c => [("falls", .int c.1 c.2), ("tails", .ref TL)]) (fun i c => c.1 = fallsTo (fun k => ((qS k).length : Int)) (rowSum rS n) i) ⟨0, tf0⟩ ?hh hR ?small ?hn F' N' ?hl ?hk ?hp ?turn ?done ?hx
  case hh => rfl
  case small => exact small_one (by (first | lia | omega)) (by (first | lia | omega)) (by (first | lia | omega)) (by (first | lia | omega))
  case hn => rw [rangeSize_nat]; (first | lia | omega)
  case hl => intro _ h; exact h
  case hk => walk_at "all_rfl"
  case hp => rfl
  case hx => intro c; walk_at "all_ne"
  case done =>
    rintro ⟨fl, t⟩ u h tk hP F1 N1
    dsimp only at F1 N1 hP
    subst hP
    clear F' N' hR
    obtain ⟨u1, F1⟩ := frB [("falls", .int (fallsTo (fun k => ((qS k).length : Int)) (rowSum rS n) (n - 1)) t)] F1 (by walk_at "all_rfl")
    k_steps
    refine ⟨?_⟩
    with_unfolding_all exact hrest _ _ _ _ F1 N1
  case turn =>
    rintro ⟨fl, t⟩ i kx tx u h tk I oI hi hkx hP hIne F1 N1
    dsimp only [envOf, envX] at F1 N1 hIne hP
    clear F' N' hR
    have hkx' : kx.toNat = i + 1 := by (first | lia | omega)
    obtain ⟨tt, hti⟩ := htv.get (i + 1) (tS (i + 1)) (by rw [List.getElem?_map, List.getElem?_range (by (first | lia | omega))]; rfl)
    have hti' : tv[kx.toNat]? = some (.str (tS (i + 1)) tt) := by rw [hkx']; exact hti
    obtain ⟨hq1, hq2⟩ := hq (i + 1) (by (first | lia | omega))
    have htl1 := htl (i + 1) (by (first | lia | omega))
    k_with "FPost" => (dsimp only [FPost])
    k_with "FEnd" => refine Hold.out ?_
    refine wpAny_execs_cons ?_
    k_steps
    refine ⟨?_⟩
    refine quote_call B F1 X N1 T rfl (x := _) (t := _) ?_ ?_ ?_ ?_
    · show (tS (i + 1)).length ≤ _; (first | lia | omega)
    · ktr_room
    · ktr_units
    intro t9 h9 tk9 F9 N9
    rw [hq1]
    k_steps
    refine ⟨?_⟩
    refine P.len_str (by (first | lia | omega)) ?_
    k_steps
    refine ⟨?_⟩
    k_dflt (refine LCg.ListComp_U (F₀ := by k_asm) (by with_unfolding_all rfl) (by decide) (by rfl) (by decide) (by rfl) ?_)
    k_steps
    refine ⟨?_⟩
    (with_reducible rename Fr _ _ _ _ => Fa); (with_reducible rename News _ _ _ _ => Na); (with_reducible rename IsRange _ _ _ _ _ _ _ _ => hR)
    have Nb : News h₀ L _ ((I, oI) :: (cellsL c8 c7 c6 c5 c4 c3 c2 c1 o8 o7 o6 o5 o4 o3 o2 o1 R)) := fun p hp => Na p (by walk_at "mem")
    with_unfolding_all refine LCg.CompSrc.range (n := n - (i + 1)) rfl Fa Nb hR ?_ ?_ ?_ fun g2 => ?_
    · exact small_one (by (first | lia | omega)) (by (first | lia | omega)) (by (first | lia | omega)) (by (first | lia | omega))
    · rw [rangeSize_nat]; (first | lia | omega)
    · rw [sizeLine_eq]; (first | lia | omega)
    refine compTurns (fun j ys' nw => nw = (I, oI) :: (cellsL c8 c7 c6 c5 c4 c3 c2 c1 o8 o7 o6 o5 o4 o3 o2 o1 R) ∧ IntsAre ys' ((List.range j).map fun j => ((rS (i + 1 + j)).length : Int) + 2)) ⟨rfl, .nil⟩ ?_ ?_
    · clear Fa Na Nb hR
      rintro j ys' nw hj ⟨rfl, hys'⟩ v I2 oI2 C2 oC2 D3 m₃ hh2 tk2 E2 ⟨t2, rfl⟩ hoC2 hmx2 F2 N2 off2 ne2
      obtain ⟨tr, hri⟩ := hrv.get (i + 1 + j) (rS (i + 1 + j)) (by rw [List.getElem?_map, List.getElem?_range (by (first | lia | omega))]; rfl)
      have hri' : rv[(kx + (j : Int)).toNat]? = some (.str (rS (i + 1 + j)) tr) := by rw [show (kx + (j : Int)).toNat = i + 1 + j by (first | lia | omega)]; exact hri
      have hrl1 := hrl (i + 1 + j) (by (first | lia | omega))
      k_steps
      refine ⟨?_⟩
      refine P.len_str (by (first | lia | omega)) ?_
      k_steps
      refine ⟨?_⟩
      exact LCg.CompEnd.intro F2 N2 _ (fun p hp => hp) off2 trivial ⟨rfl, ints_snoc _ hys' rfl⟩
    · rintro ys' nw ⟨rfl, hys'⟩
      intro D3 g3 tk3 F3 N3 off3
      k_steps
      refine ⟨?_⟩
      with_unfolding_all refine sumK rfl F3 N3 (News.isList N3 List.mem_cons_self) hys' fun h4 tk4 t4 F4 N4 => ?_
      k_steps
      (with_reducible rename Fr _ _ _ _ => F5); (with_reducible rename News _ _ _ _ => N5)
      refine ⟨?_⟩
      exact fEnd ⟨fl + ((qS (i + 1)).length : Int) - rowSum rS n (i + 1), _⟩ F5 N5 (by walk_at "sub") (by walk_at "mem") hIne (by walk_at "all_rfl") (by subst hP; rfl)
end
end
section
theorem cells_push2 {h₀ h : Heap} {L D D' : Addr} {oD oD' : Obj} {c8 c7 c6 c5 c4 c3 c2 c1 : Addr} {o8 o7 o6 o5 o4 o3 o2 o1 : Obj} {R : List (Addr × Obj)} (N : News h₀ L h ((D, oD) :: (D', oD') :: cellsL c8 c7 c6 c5 c4 c3 c2 c1 o8 o7 o6 o5 o4 o3 o2 o1 R)) :
    News h₀ L h (cellsL c8 c7 c6 c5 c4 c3 c2 c1 o8 o7 o6 o5 o4 o3 o2 o1 ((D, oD) :: (D', oD') :: R)) := fun p hp => N p (by
  rcases List.mem_cons.mp (mem_out (C := cellsL c8 c7 c6 c5 c4 c3 c2 c1 o8 o7 o6 o5 o4 o3 o2 o1 []) hp) with h | h
  · exact h ▸ .head _
  · exact .tail _ (mem_out (C := cellsL c8 c7 c6 c5 c4 c3 c2 c1 o8 o7 o6 o5 o4 o3 o2 o1 []) h))
section
variable {w : World} {mean : ExcName → Option Value} {mg mb : Str → Option Value}
  {dp un : Nat} {gd : Option (List Code)} {fa : Addr} {outer : List Env} {A₀ : Around} {base h₀ : Heap} {L : Addr} {m : Str → Option Value} {s : Shared} {Q : Flow → Shared → Prop} {E : Value → Shared → Prop}
  {c1 c2 c3 c4 c5 c6 c7 c8 : Addr} {o1 o2 o3 o4 o5 o6 o7 o8 : Obj} {scope : Scope} {body : List Stmt} {R : List (Addr × Obj)} {u0 : Str → Option Value}

  {WD : Addr} {wv : List Value} {wd : List Int} {kw : Nat} {t1 tf : Tok} {fl : Int}

local macro_rules | `(tactic| walk_at "binaryOp Add ref ref") => `(tactic| (k_dflt (refine Hold.out ?_)))
local macro_rules | `(tactic| walk_at "call type:list") => `(tactic| (k_dflt (refine Hold.out ?_)))
theorem setup33 : True := by
  k_with_none
  k_with "storeName" => (k_here; k_dflt (refine storeX_C (by k_asm) (by k_asm) (by rfl) (by k_updF) (by k_asm) ?_ (by rfl) (by rfl); k_whole); intro h' o' F' N' d'; (try dsimp only at N'); (try k_sweep))
  k_with "subscriptTail" => (k_here; (with_reducible show wpAny _ _ (subscriptTail _ _ (Value.ref _) (Value.int _ _)) _ _ _); k_dflt (refine itemL (by k_asm) (by walk_at "mem") (by (first | lia | omega)) (by (first | lia | omega)) (by assumption) ?_ (by with_unfolding_all rfl); k_whole))
  k_with "exec For Name Call cons nil" => (k_here; (rename Fr _ _ _ _ => lF'); (with_unfolding_all refine For_invVF lF' (by exact rfl) (by exact rfl) ?_; k_whole))
  exact True.intro
set_option maxHeartbeats 1000000 in
set_option maxRecDepth 100000 in
theorem law_K
    (B : Below A₀ base outer h₀) (F : Fr h₀ L s.heap (bnd u0 [("falls", .int fl tf)])) (X : (hd.heap_39 w.params).In h₀) (T : TopM mean mg mb h₀) (hC : CodeHd h₀ 123 121)
    (N : News h₀ L s.heap (cellsL c8 c7 c6 c5 c4 c3 c2 c1 o8 o7 o6 o5 o4 o3 o2 o1 R))
    (hc : @LT.lt Nat _ 121 c1 ∧ @LT.lt Nat _ c1 c2 ∧ @LT.lt Nat _ c2 c3 ∧ @LT.lt Nat _ c3 c4 ∧ @LT.lt Nat _ c4 c5 ∧ @LT.lt Nat _ c5 c6 ∧ @LT.lt Nat _ c6 c7 ∧ @LT.lt Nat _ c7 c8)
    (hsc : lawScope w.params = scope) (hb : (bodyAt w.params 124).drop 14 = body) (hd : dp + 64 < recursionLimit) (hu : un + 512 < cLine)

    (d1 : o1.data = .cell (some (.int (wd.length : Int) t1))) (d8 : o8.data = .cell (some (.ref WD)))
    (hWD : (WD, listOf wv.toArray kw) ∈ R) (hI : IntsAre wv wd) (hnl : wd.length ≤ 10)
    (hrest : ∀ (FR RE : Addr) (fv rv : List Value) (kf kr : Nat) (u : Str → Option Value) (h' : Heap) (tk' : Nat), Fr h₀ L h' (bnd u [("rear", .ref RE), ("front", .ref FR), ("falls", .int fl tf)]) → News h₀ L h' (cellsL c8 c7 c6 c5 c4 c3 c2 c1 o8 o7 o6 o5 o4 o3 o2 o1 ((RE, listOf rv.toArray kr) :: (FR, listOf fv.toArray kf) :: R)) →
      IntsAre fv ([(wd.length : Int)] ++ (imageOf (fun o => wd.getD o.toNat 0) wd.length ++ [(wd.length : Int) + 1])) → IntsAre rv ([(wd.length : Int)] ++ (imageOf (fun o => wd.getD o.toNat 0) wd.length ++ [(wd.length : Int) + 1])) →
      (∀ p ∈ (cellsL c8 c7 c6 c5 c4 c3 c2 c1 o8 o7 o6 o5 o4 o3 o2 o1 R), @LT.lt Nat _ p.1 FR) → (∀ p ∈ (cellsL c8 c7 c6 c5 c4 c3 c2 c1 o8 o7 o6 o5 o4 o3 o2 o1 R), @LT.lt Nat _ p.1 RE) → @LT.lt Nat _ FR RE →
      wpAny (model (RowW.prog (OpenRow.toRowW (OpenLaw.row PySem.Challenge.rw_sn0020_01))) w) (ktrTop dp un gd "law" scope L fa (.ref 123) (lawCl c1 c2 c3 c4 c5 c6 c7 c8) outer) (execs (body.drop 2) (envX "law" scope L fa (.ref 123) (lawCl c1 c2 c3 c4 c5 c6 c7 c8))) Q E { s with heap := h', toks := tk' }
    ) :
    wpAny (model (RowW.prog (OpenRow.toRowW (OpenLaw.row PySem.Challenge.rw_sn0020_01))) w) (ktrTop dp un gd "law" scope L fa (.ref 123) (lawCl c1 c2 c3 c4 c5 c6 c7 c8) outer) (execs body (envX "law" scope L fa (.ref 123) (lawCl c1 c2 c3 c4 c5 c6 c7 c8))) Q E s := by

  with_unfolding_all (conv at hsc => lhs; whnf)
  with_unfolding_all (conv at hb => lhs; whnf)
  subst hsc hb
  revert X hrest; k_fill; intro X hrest
  refine wpAny_execs_cons ?_

  k_steps
  refine ⟨?_⟩
  refine image_call B (by assumption) X (by assumption) T rfl (lw := WD) (vs := wv) (wd := wd) (k := kw) (by walk_at "mem") hI (by (first | lia | omega)) ?_ ?_ ?_
  · ktr_room
  · ktr_units
  intro li vi ki h2 tk2 F2 N2 hli hI2
  have hvl : vi.length ≤ wd.length := by rw [hI2.length]; exact imageOf_length (fun o => wd.getD o.toNat 0) wd.length
  k_steps
  refine ⟨?_⟩
  refine addL F2 N2 (News.isList N2 (by walk_at "mem")) (News.isList N2 List.mem_cons_self) (fun DA hA FA NA lA => ?_) (by simp only [List.length_cons, List.length_nil]; (first | lia | omega))
  k_steps
  refine ⟨?_⟩
  (with_reducible rename Fr _ _ _ _ => FC); (with_reducible rename News _ _ _ _ => NC)
  refine addL (us := [Value.int (wd.length : Int) t1] ++ vi) (vs := [Value.int ((wd.length : Int) + 1) (tk2 + 1)]) FC NC (News.isList NC (by walk_at "mem")) (News.isList NC List.mem_cons_self) (fun DB hB FB NB lB => ?_) (by simp only [List.length_append, List.length_cons, List.length_nil]; (first | lia | omega))
  k_steps
  refine ⟨?_⟩
  refine wpAny_execs_cons ?_
  k_steps
  refine ⟨?_⟩
  (with_reducible rename Fr _ _ _ _ => FD); (with_reducible rename News _ _ _ _ => ND)
  refine kup_listOf (zs := ([Value.int (wd.length : Int) t1] ++ vi) ++ [Value.int ((wd.length : Int) + 1) (tk2 + 1)]) FD ND List.mem_cons_self rfl (fun DE ce hE FE NE lE => ?_) ?_
  case refine_2 => rw [sizeLine_eq]; simp only [List.length_append, List.length_cons, List.length_nil]; (first | lia | omega)
  k_steps
  (with_reducible rename Fr _ _ _ _ => F8); (with_reducible rename News _ _ _ _ => N8)
  obtain ⟨u1, F7⟩ := frB [("rear", .ref DE), ("front", .ref DB), ("falls", .int fl tf)] F8 (by walk_at "all_rfl")
  refine ⟨?_⟩
  have N9 : News h₀ L _ ((DE, listOf (([Value.int (wd.length : Int) t1] ++ vi) ++ [Value.int ((wd.length : Int) + 1) (tk2 + 1)]).toArray ce) :: (DB, listOf (([Value.int (wd.length : Int) t1] ++ vi) ++ [Value.int ((wd.length : Int) + 1) (tk2 + 1)]).toArray 0) :: (cellsL c8 c7 c6 c5 c4 c3 c2 c1 o8 o7 o6 o5 o4 o3 o2 o1 R)) := fun p hp => N8 p (by
    rcases List.mem_cons.mp hp with rfl | hp
    · walk_at "mem"
    rcases List.mem_cons.mp hp with rfl | hp
    · walk_at "mem"
    · walk_at "mem")
  have hI9 : IntsAre (([Value.int (wd.length : Int) t1] ++ vi) ++ [Value.int ((wd.length : Int) + 1) (tk2 + 1)]) ([(wd.length : Int)] ++ (imageOf (fun o => wd.getD o.toNat 0) wd.length ++ [(wd.length : Int) + 1])) := by
    rw [List.append_assoc]
    exact IntsAre.append (.cons _ _ .nil) (IntsAre.append hI2 (.cons _ _ .nil))
  have q1 : ∀ p ∈ (cellsL c8 c7 c6 c5 c4 c3 c2 c1 o8 o7 o6 o5 o4 o3 o2 o1 R), @LT.lt Nat _ p.1 DB := fun p hp => lB p (.tail _ (.tail _ (.tail _ (.tail _ hp))))
  have q2 : @LT.lt Nat _ DB DE := lE _ List.mem_cons_self
  have q3 : ∀ p ∈ (cellsL c8 c7 c6 c5 c4 c3 c2 c1 o8 o7 o6 o5 o4 o3 o2 o1 R), @LT.lt Nat _ p.1 DE := fun p hp => Nat.lt_trans (q1 p hp) q2
  with_unfolding_all exact hrest _ _ _ _ _ _ _ _ _ F7 (cells_push2 N9) hI9 hI9 q1 q3 q2
end
end
section
theorem ints_take {ys : List Value} {l : List Int} {g : Int → Int} {j : Nat} {o : Int} (t : Tok) (h : IntsAre ys ((l.take j).map g)) (e : l[j]? = some o) : IntsAre (ys ++ [.int (g o) t]) ((l.take (j + 1)).map g) := by
  rw [List.take_add_one, e, List.map_append]
  exact IntsAre.append h (.cons _ _ .nil)
def lookAt (hl : List Int) (x : Int) : Int := hl.getD x.toNat 0
section
variable {w : World} {mean : ExcName → Option Value} {mg mb : Str → Option Value}
  {dp un : Nat} {gd : Option (List Code)} {fa : Addr} {outer : List Env} {A₀ : Around} {base h₀ : Heap} {L : Addr} {m : Str → Option Value} {s : Shared} {Q : Flow → Shared → Prop} {E : Value → Shared → Prop}
  {c1 c2 c3 c4 c5 c6 c7 c8 : Addr} {o1 o2 o3 o4 o5 o6 o7 o8 : Obj} {scope : Scope} {body : List Stmt} {R : List (Addr × Obj)} {u0 : Str → Option Value}

  {WH FR RE : Addr} {hv fv : List Value} {hl fr : List Int} {kw kf : Nat} {tf : Tok} {fl : Int}

local macro_rules | `(tactic| walk_at "call type:list") => `(tactic| (k_dflt (refine Hold.out ?_)))
theorem setup34 : True := by
  k_with_none
  k_with "storeName" => (k_here; k_dflt (refine storeX_C (by k_asm) (by k_asm) (by rfl) (by k_updF) (by k_asm) ?_ (by rfl) (by rfl); k_whole); intro h' o' F' N' d'; (try dsimp only at N'); (try k_sweep))
  k_with "subscriptTail" => (k_here; (with_reducible show wpAny _ _ (subscriptTail _ _ (Value.ref _) (Value.int _ _)) _ _ _); k_dflt (refine itemL (by k_asm) (by walk_at "mem") (by (first | lia | omega)) (by (first | lia | omega)) (by assumption) ?_ (by with_unfolding_all rfl); k_whole))
  k_with "exec For Name Call cons nil" => (k_here; (rename Fr _ _ _ _ => lF'); (with_unfolding_all refine For_invVF lF' (by exact rfl) (by exact rfl) ?_; k_whole))
  exact True.intro
set_option maxHeartbeats 1000000 in
set_option maxRecDepth 100000 in
theorem law_L
    (B : Below A₀ base outer h₀) (F : Fr h₀ L s.heap (bnd u0 [("rear", .ref RE), ("front", .ref FR), ("falls", .int fl tf)])) (X : (hd.heap_39 w.params).In h₀) (T : TopM mean mg mb h₀) (hC : CodeHd h₀ 123 121)
    (N : News h₀ L s.heap (cellsL c8 c7 c6 c5 c4 c3 c2 c1 o8 o7 o6 o5 o4 o3 o2 o1 R))
    (hc : @LT.lt Nat _ 121 c1 ∧ @LT.lt Nat _ c1 c2 ∧ @LT.lt Nat _ c2 c3 ∧ @LT.lt Nat _ c3 c4 ∧ @LT.lt Nat _ c4 c5 ∧ @LT.lt Nat _ c5 c6 ∧ @LT.lt Nat _ c6 c7 ∧ @LT.lt Nat _ c7 c8)
    (hsc : lawScope w.params = scope) (hb : (bodyAt w.params 124).drop 16 = body) (hd : dp + 64 < recursionLimit) (hu : un + 512 < cLine)

    (d2 : o2.data = .cell (some (.ref WH))) (hWH : (WH, listOf hv.toArray kw) ∈ R) (hI : IntsAre hv hl)
    (hFR : (FR, listOf fv.toArray kf) ∈ R) (hfI : IntsAre fv fr) (hfl : fr.length ≤ 20) (hfb : ∀ x ∈ fr, 0 ≤ x ∧ x < hl.length) (hhl : hl.length ≤ 20)
    (hrest : ∀ (PL BA : Addr) (pv bv : List Value) (kp kb : Nat) (u : Str → Option Value) (h' : Heap) (tk' : Nat), Fr h₀ L h' (bnd u [("bare", .ref BA), ("plain", .ref PL), ("rear", .ref RE), ("front", .ref FR), ("falls", .int fl tf)]) → News h₀ L h' (cellsL c8 c7 c6 c5 c4 c3 c2 c1 o8 o7 o6 o5 o4 o3 o2 o1 ((BA, listOf bv.toArray kb) :: (PL, listOf pv.toArray kp) :: R)) →
      IntsAre pv (fr.map (lookAt hl)) → IntsAre bv (fr.map (lookAt hl)) →
      (∀ p ∈ (cellsL c8 c7 c6 c5 c4 c3 c2 c1 o8 o7 o6 o5 o4 o3 o2 o1 R), @Ne Nat p.1 PL) → (∀ p ∈ (cellsL c8 c7 c6 c5 c4 c3 c2 c1 o8 o7 o6 o5 o4 o3 o2 o1 R), @Ne Nat p.1 BA) → @Ne Nat PL BA →
      wpAny (model (RowW.prog (OpenRow.toRowW (OpenLaw.row PySem.Challenge.rw_sn0020_01))) w) (ktrTop dp un gd "law" scope L fa (.ref 123) (lawCl c1 c2 c3 c4 c5 c6 c7 c8) outer) (execs (body.drop 2) (envX "law" scope L fa (.ref 123) (lawCl c1 c2 c3 c4 c5 c6 c7 c8))) Q E { s with heap := h', toks := tk' }
    ) :
    wpAny (model (RowW.prog (OpenRow.toRowW (OpenLaw.row PySem.Challenge.rw_sn0020_01))) w) (ktrTop dp un gd "law" scope L fa (.ref 123) (lawCl c1 c2 c3 c4 c5 c6 c7 c8) outer) (execs body (envX "law" scope L fa (.ref 123) (lawCl c1 c2 c3 c4 c5 c6 c7 c8))) Q E s := by

  have hvl := hI.length
  have hfvl := hfI.length
  with_unfolding_all (conv at hsc => lhs; whnf)
  with_unfolding_all (conv at hb => lhs; whnf)
  subst hsc hb
  revert X hrest; k_fill; intro X hrest
  refine wpAny_execs_cons ?_

  k_steps
  refine ⟨?_⟩
  (with_reducible rename Fr _ _ _ _ => F1); (with_reducible rename News _ _ _ _ => N1)
  have hrm : (FR, listOf fv.toArray kf) ∈ (cellsL c8 c7 c6 c5 c4 c3 c2 c1 o8 o7 o6 o5 o4 o3 o2 o1 R) := cells_sub hFR
  with_unfolding_all refine LCg.CompSrc.ledger rfl F1 N1 hrm ?_ fun g2 => ?_
  · rw [sizeLine_eq, List.size_toArray]; (first | lia | omega)
  refine compTurns (fun j ys nw => nw = (cellsL c8 c7 c6 c5 c4 c3 c2 c1 o8 o7 o6 o5 o4 o3 o2 o1 R) ∧ IntsAre ys ((fr.take j).map (lookAt hl))) ⟨rfl, .nil⟩ ?_ ?_
  · rintro j ys nw hj ⟨rfl, hys⟩ v I oI C oC D2 m₂ hh tk E' hv' hoC hmx F2 N2 off ne
    rw [List.size_toArray] at hj
    obtain ⟨t2, e2⟩ := intsAt hfI j (by (first | lia | omega))
    have hv2 : fv[j]? = some v := by simpa using hv'
    rw [e2] at hv2
    injection hv2 with hv2
    subst hv2
    have hej : fr[j]? = some (fr.getD j 0) := by rw [List.getD_eq_getElem?_getD, List.getElem?_eq_getElem (by (first | lia | omega))]; rfl
    have hb := hfb _ (List.mem_of_getElem? hej)
    obtain ⟨tw, hw⟩ := intsAt hI (fr.getD j 0).toNat (by (first | lia | omega))
    k_steps
    refine ⟨?_⟩
    (with_reducible rename Fr _ _ _ _ => F3); (with_reducible rename News _ _ _ _ => N3)
    exact LCg.CompEnd.intro F3 N3 _ (fun p hp => hp) off (.inr ⟨_, hrm, rfl, _, rfl⟩) ⟨rfl, ints_take _ hys hej⟩
  · rintro ys nw ⟨rfl, hys⟩
    intro D2 g' tk' F9 N9 off9
    rw [List.size_toArray, hfvl, List.take_length] at hys
    have hyl := hys.length
    rw [List.length_map] at hyl
    have off9' := off1_ne off9
    simp only [LCg.Off1] at off9
    k_steps
    refine ⟨?_⟩
    refine wpAny_execs_cons ?_
    k_steps
    refine ⟨?_⟩
    (with_reducible rename Fr _ _ _ _ => FD); (with_reducible rename News _ _ _ _ => ND)
    refine kup_listOf (zs := ys) FD ND List.mem_cons_self rfl (fun DE ce hE FE NE lE => ?_) ?_
    case refine_2 => rw [sizeLine_eq]; simp only [List.length_append, List.length_cons, List.length_nil]; (first | lia | omega)
    k_steps
    (with_reducible rename Fr _ _ _ _ => F8); (with_reducible rename News _ _ _ _ => N8)
    obtain ⟨u1, F7⟩ := frB [("bare", .ref DE), ("plain", .ref D2), ("rear", .ref RE), ("front", .ref FR), ("falls", .int fl tf)] F8 (by walk_at "all_rfl")
    refine ⟨?_⟩
    have q2 : @LT.lt Nat _ D2 DE := lE _ List.mem_cons_self
    have q3 : ∀ p ∈ (cellsL c8 c7 c6 c5 c4 c3 c2 c1 o8 o7 o6 o5 o4 o3 o2 o1 R), @Ne Nat p.1 DE := fun p hp => Nat.ne_of_lt (lE p (List.mem_cons_of_mem _ hp))
    with_unfolding_all exact hrest _ _ _ _ _ _ _ _ _ F7 (cells_push2 N8) hys hys off9' q3 (Nat.ne_of_lt q2)
end
end
section
section
variable {h₀ h : Heap} {L l : Addr} {C R0 : List (Addr × Obj)} {x0 x1 x2 x3 x4 : Addr × Obj}
theorem nm1 (N : News h₀ L h (C ++ (x1 :: x2 :: x3 :: x4 :: R0))) : News h₀ L h (x4 :: (C ++ (x1 :: x2 :: x3 :: R0))) := fun p hp => N p (by
  simp only [List.mem_cons, List.mem_append] at hp ⊢; rcases hp with h | h | h | h | h | h <;> simp [h])
theorem nm2 (N : News h₀ L h (x4 :: (C ++ (x1 :: x2 :: x3 :: R0)))) : News h₀ L h (x3 :: (C ++ (x1 :: x2 :: x4 :: R0))) := fun p hp => N p (by
  simp only [List.mem_cons, List.mem_append] at hp ⊢; rcases hp with h | h | h | h | h | h <;> simp [h])
theorem nm3 (N : News h₀ L h (x3 :: (C ++ (x1 :: x2 :: x4 :: R0)))) : News h₀ L h (x2 :: (C ++ (x1 :: x3 :: x4 :: R0))) := fun p hp => N p (by
  simp only [List.mem_cons, List.mem_append] at hp ⊢; rcases hp with h | h | h | h | h | h <;> simp [h])
theorem nm4 (N : News h₀ L h (x2 :: (C ++ (x1 :: x3 :: x4 :: R0)))) : News h₀ L h (x1 :: (C ++ (x2 :: x3 :: x4 :: R0))) := fun p hp => N p (by
  simp only [List.mem_cons, List.mem_append] at hp ⊢; rcases hp with h | h | h | h | h | h <;> simp [h])
theorem nm5 (N : News h₀ L h (x0 :: x1 :: (C ++ (x2 :: x3 :: x4 :: R0)))) : News h₀ L h (C ++ (x0 :: x1 :: x2 :: x3 :: x4 :: R0)) := fun p hp => N p (by
  simp only [List.mem_cons, List.mem_append] at hp ⊢; rcases hp with h | h | h | h | h | h | h <;> simp [h])
theorem ne3 (h : ∀ p ∈ C ++ R0, @Ne Nat p.1 l) (h1 : @Ne Nat x1.1 l) (h2 : @Ne Nat x2.1 l) (h3 : @Ne Nat x3.1 l) : ∀ p ∈ C ++ (x1 :: x2 :: x3 :: R0), p.1 ≠ l := by
  intro p hp
  simp only [List.mem_cons, List.mem_append] at hp
  rcases hp with q | rfl | rfl | rfl | q
  · exact h p (List.mem_append.mpr (.inl q))
  · exact h1
  · exact h2
  · exact h3
  · exact h p (List.mem_append.mpr (.inr q))
theorem need3 {need : List (Addr × Obj)} {c : Addr × Obj} (hneed : ∀ p ∈ need, p = c ∨ p ∈ R0) : ∀ p ∈ need, p = c ∨ p ∈ x1 :: x2 :: x3 :: R0 := fun p hp => (hneed p hp).imp id fun h => .tail _ (.tail _ (.tail _ h))
end
section
variable {w : World} {mean : ExcName → Option Value} {mg mb : Str → Option Value}
  {dp un : Nat} {gd : Option (List Code)} {fa : Addr} {outer : List Env} {A₀ : Around} {base h₀ : Heap} {L : Addr} {m : Str → Option Value} {s : Shared} {Q : Flow → Shared → Prop} {E : Value → Shared → Prop}
  {c1 c2 c3 c4 c5 c6 c7 c8 : Addr} {o1 o2 o3 o4 o5 o6 o7 o8 : Obj} {scope : Scope} {body : List Stmt} {R : List (Addr × Obj)} {u0 : Str → Option Value}

  {FR RE PL BA f c' : Addr} {fv rv pv bv : List Value} {hl img pm : List Int} {kf kr kp kb n : Nat} {tf : Tok} {fl a b : Int} {R0 need : List (Addr × Obj)} {val : Int → Int} {ls : Scope} {pr : Arguments} {lb : Expr} {qual : Str} {pmv ctv : Value}

theorem setup35 : True := by
  k_with_none
  k_with "storeName" => (k_here; k_dflt (refine storeX_C (by k_asm) (by k_asm) (by rfl) (by k_updF) (by k_asm) ?_ (by rfl) (by rfl); k_whole); intro h' o' F' N' d'; (try dsimp only at N'); (try k_sweep))
  k_with "subscriptTail" => (k_here; (with_reducible show wpAny _ _ (subscriptTail _ _ (Value.ref _) (Value.int _ _)) _ _ _); k_dflt (refine itemL (by k_asm) (by walk_at "mem") (by omega) (by omega) (by assumption) ?_ (by with_unfolding_all rfl); k_whole))
  k_with "exec For Name Call cons nil" => (k_here; (rename Fr _ _ _ _ => lF'); (with_unfolding_all refine For_invVF lF' (by exact rfl) (by exact rfl) ?_; k_whole))
  exact True.intro
set_option maxHeartbeats 1000000 in
set_option maxRecDepth 100000 in
theorem law_M
    (B : Below A₀ base outer h₀) (F : Fr h₀ L s.heap (bnd u0 [("bare", .ref BA), ("plain", .ref PL), ("rear", .ref RE), ("front", .ref FR), ("falls", .int fl tf)])) (X : (hd.heap_39 w.params).In h₀) (T : TopM mean mg mb h₀) (hC : CodeHd h₀ 123 121)
    (N : News h₀ L s.heap (cellsL c8 c7 c6 c5 c4 c3 c2 c1 o8 o7 o6 o5 o4 o3 o2 o1 R))
    (hc : @LT.lt Nat _ 121 c1 ∧ @LT.lt Nat _ c1 c2 ∧ @LT.lt Nat _ c2 c3 ∧ @LT.lt Nat _ c3 c4 ∧ @LT.lt Nat _ c4 c5 ∧ @LT.lt Nat _ c5 c6 ∧ @LT.lt Nat _ c6 c7 ∧ @LT.lt Nat _ c7 c8)
    (hsc : lawScope w.params = scope) (hb : (bodyAt w.params 124).drop 18 = body) (hd : dp + 64 < recursionLimit) (hu : un + 512 < cLine)

    (hR : R = (BA, listOf bv.toArray kb) :: (PL, listOf pv.toArray kp) :: (RE, listOf rv.toArray kr) :: (FR, listOf fv.toArray kf) :: R0)
    (d3 : o3.data = .cell (some (.ref f))) (hf : (f, kla_obj "<lambda>" qual pr lb ls [("octets", c7)] pmv c' ctv) ∈ R0)
    {dom : Int → Prop} (K : KeyOk w f val dom need) (hneed : ∀ p ∈ need, p = (c7, o7) ∨ p ∈ R0) (hdom : ∀ x ∈ img, dom x) (hil : img.length ≤ 20) (hpl : pm.length ≤ 20)
    (hfI : IntsAre fv ([(n : Int)] ++ (img ++ [(n : Int) + 1]))) (hrI : IntsAre rv ([(n : Int)] ++ (img ++ [(n : Int) + 1]))) (hpI : IntsAre pv ([a] ++ (pm ++ [b]))) (hbI : IntsAre bv ([a] ++ (pm ++ [b])))
    (hFR : ∀ p ∈ (cellsL c8 c7 c6 c5 c4 c3 c2 c1 o8 o7 o6 o5 o4 o3 o2 o1 R0), @Ne Nat p.1 FR) (hRE : ∀ p ∈ (cellsL c8 c7 c6 c5 c4 c3 c2 c1 o8 o7 o6 o5 o4 o3 o2 o1 R0), @Ne Nat p.1 RE) (hPL : ∀ p ∈ (cellsL c8 c7 c6 c5 c4 c3 c2 c1 o8 o7 o6 o5 o4 o3 o2 o1 R0), @Ne Nat p.1 PL) (hBA : ∀ p ∈ (cellsL c8 c7 c6 c5 c4 c3 c2 c1 o8 o7 o6 o5 o4 o3 o2 o1 R0), @Ne Nat p.1 BA)
    (hne : @Ne Nat FR RE ∧ @Ne Nat FR PL ∧ @Ne Nat FR BA ∧ @Ne Nat RE PL ∧ @Ne Nat RE BA ∧ @Ne Nat PL BA)
    (hrest : ∀ (MO : Addr) (mv fv' rv' pv' bv' : List Value) (km kf' kr' kp' kb' : Nat) (u : Str → Option Value) (h' : Heap) (tk' : Nat), Fr h₀ L h' (bnd u [("moves", .ref MO), ("bare", .ref BA), ("plain", .ref PL), ("rear", .ref RE), ("front", .ref FR), ("falls", .int fl tf)]) →
      News h₀ L h' (cellsL c8 c7 c6 c5 c4 c3 c2 c1 o8 o7 o6 o5 o4 o3 o2 o1 ((MO, listOf mv.toArray km) :: (BA, listOf bv'.toArray kb') :: (PL, listOf pv'.toArray kp') :: (RE, listOf rv'.toArray kr') :: (FR, listOf fv'.toArray kf') :: R0)) →
      IntsAre mv [movR val img, movL val img, movR id pm, movL id pm] → IntsAre fv' ([(n : Int)] ++ (sortR val img ++ [(n : Int) + 1])) → IntsAre rv' ([(n : Int)] ++ (sortL val img ++ [(n : Int) + 1])) → IntsAre pv' ([a] ++ (sortR id pm ++ [b])) → IntsAre bv' ([a] ++ (sortL id pm ++ [b])) → (∀ p ∈ R0, @Ne Nat p.1 MO) →
      wpAny (model (RowW.prog (OpenRow.toRowW (OpenLaw.row PySem.Challenge.rw_sn0020_01))) w) (ktrTop dp un gd "law" scope L fa (.ref 123) (lawCl c1 c2 c3 c4 c5 c6 c7 c8) outer) (execs (body.drop 1) (envX "law" scope L fa (.ref 123) (lawCl c1 c2 c3 c4 c5 c6 c7 c8))) Q E { s with heap := h', toks := tk' }
    ) :
    wpAny (model (RowW.prog (OpenRow.toRowW (OpenLaw.row PySem.Challenge.rw_sn0020_01))) w) (ktrTop dp un gd "law" scope L fa (.ref 123) (lawCl c1 c2 c3 c4 c5 c6 c7 c8) outer) (execs body (envX "law" scope L fa (.ref 123) (lawCl c1 c2 c3 c4 c5 c6 c7 c8))) Q E s := by

  with_unfolding_all (conv at hsc => lhs; whnf)
  with_unfolding_all (conv at hb => lhs; whnf)
  subst hsc hb
  revert X hrest; k_fill; intro X hrest
  refine wpAny_execs_cons ?_

  subst hR
  obtain ⟨n1, n2, n3, n4, n5, n6⟩ := hne
  k_steps
  refine ⟨?_⟩
  (with_reducible rename Fr _ _ _ _ => F1); (with_reducible rename News _ _ _ _ => N1)
  have Na : News h₀ L _ ((FR, listOf fv.toArray kf) :: (cellsL c8 c7 c6 c5 c4 c3 c2 c1 o8 o7 o6 o5 o4 o3 o2 o1 ((BA, listOf bv.toArray kb) :: (PL, listOf pv.toArray kp) :: (RE, listOf rv.toArray kr) :: R0))) := nm1 (C := cellsL c8 c7 c6 c5 c4 c3 c2 c1 o8 o7 o6 o5 o4 o3 o2 o1 []) N1
  with_unfolding_all refine front_key B F1 X Na T rfl K (cells_need (need3 hneed)) (cells_sub (.tail _ (.tail _ (.tail _ hf)))) hdom (ne3 (C := cellsL c8 c7 c6 c5 c4 c3 c2 c1 o8 o7 o6 o5 o4 o3 o2 o1 []) hFR (Ne.symm n3) (Ne.symm n2) (Ne.symm n1)) hfI (by omega) ?_ ?_ ?_
  · ktr_room
  · ktr_units
  intro fv' kf' tm1 h2 tk2 F2 N2 hfI'
  k_steps
  refine ⟨?_⟩
  have Nb : News h₀ L _ ((RE, listOf rv.toArray kr) :: (cellsL c8 c7 c6 c5 c4 c3 c2 c1 o8 o7 o6 o5 o4 o3 o2 o1 ((BA, listOf bv.toArray kb) :: (PL, listOf pv.toArray kp) :: (FR, listOf fv'.toArray kf') :: R0))) := nm2 (C := cellsL c8 c7 c6 c5 c4 c3 c2 c1 o8 o7 o6 o5 o4 o3 o2 o1 []) N2
  with_unfolding_all refine rear_key B F2 X Nb T rfl K (cells_need (need3 hneed)) (cells_sub (.tail _ (.tail _ (.tail _ hf)))) hdom (ne3 (C := cellsL c8 c7 c6 c5 c4 c3 c2 c1 o8 o7 o6 o5 o4 o3 o2 o1 []) hRE (Ne.symm n5) (Ne.symm n4) n1) hrI (by omega) ?_ ?_ ?_
  · ktr_room
  · ktr_units
  intro rv' kr' tm2 h3 tk3 F3 N3 hrI'
  k_steps
  refine ⟨?_⟩
  have Nc : News h₀ L _ ((PL, listOf pv.toArray kp) :: (cellsL c8 c7 c6 c5 c4 c3 c2 c1 o8 o7 o6 o5 o4 o3 o2 o1 ((BA, listOf bv.toArray kb) :: (RE, listOf rv'.toArray kr') :: (FR, listOf fv'.toArray kf') :: R0))) := nm3 (C := cellsL c8 c7 c6 c5 c4 c3 c2 c1 o8 o7 o6 o5 o4 o3 o2 o1 []) N3
  with_unfolding_all refine front_none B F3 X Nc T rfl (ne3 (C := cellsL c8 c7 c6 c5 c4 c3 c2 c1 o8 o7 o6 o5 o4 o3 o2 o1 []) hPL (Ne.symm n6) n4 n2) hpI (by omega) ?_ ?_ ?_
  · ktr_room
  · ktr_units
  intro pv' kp' tm3 h4 tk4 F4 N4 hpI'
  k_steps
  refine ⟨?_⟩
  have Nd : News h₀ L _ ((BA, listOf bv.toArray kb) :: (cellsL c8 c7 c6 c5 c4 c3 c2 c1 o8 o7 o6 o5 o4 o3 o2 o1 ((PL, listOf pv'.toArray kp') :: (RE, listOf rv'.toArray kr') :: (FR, listOf fv'.toArray kf') :: R0))) := nm4 (C := cellsL c8 c7 c6 c5 c4 c3 c2 c1 o8 o7 o6 o5 o4 o3 o2 o1 []) N4
  with_unfolding_all refine rear_none B F4 X Nd T rfl (ne3 (C := cellsL c8 c7 c6 c5 c4 c3 c2 c1 o8 o7 o6 o5 o4 o3 o2 o1 []) hBA n6 n5 n3) hbI (by omega) ?_ ?_ ?_
  · ktr_room
  · ktr_units
  intro bv' kb' tm4 h5 tk5 F5 N5 hbI'
  k_steps
  (with_reducible rename Fr _ _ _ _ => F8); (with_reducible rename News _ _ _ _ => N8)
  refine ⟨?_⟩
  obtain ⟨u1, F7⟩ := frB [("moves", .ref _), ("bare", .ref BA), ("plain", .ref PL), ("rear", .ref RE), ("front", .ref FR), ("falls", .int fl tf)] F8 (by walk_at "all_rfl")
  rename (@LT.lt Nat _ BA _ ∧ _) => hlM
  have N9 := nm5 (C := cellsL c8 c7 c6 c5 c4 c3 c2 c1 o8 o7 o6 o5 o4 o3 o2 o1 []) N8
  with_unfolding_all exact hrest _ [.int (movR val img) tm1, .int (movL val img) tm2, .int (movR id pm) tm3, .int (movL id pm) tm4] _ _ _ _ _ _ _ _ _ _ _ _ F7 N9 (.cons _ _ (.cons _ _ (.cons _ _ (.cons _ _ .nil)))) hfI' hrI' hpI' hbI' (fun p hp => Nat.ne_of_lt (lt_of_all hlM.2.2.2.2.2.2.2.2.2.2.2.2 p hp))
end
end
section
theorem news_drop7 {h₀ h : Heap} {L : Addr} {a b1 b2 b3 b4 b5 b6 b7 : Addr × Obj} {l : List (Addr × Obj)} (N : News h₀ L h (a :: b1 :: b2 :: b3 :: b4 :: b5 :: b6 :: b7 :: l)) : News h₀ L h (a :: l) := fun p hp => N p (by
  rcases List.mem_cons.mp hp with rfl | hp
  · exact .head _
  · exact .tail _ (.tail _ (.tail _ (.tail _ (.tail _ (.tail _ (.tail _ (.tail _ hp))))))))
inductive GoOn : Prop
  | mk : GoOn
theorem keepRange {h h1 h₀ : Heap} {L : Addr} {m : Str → Option Value} {l l' : List (Addr × Obj)} {a b c : Int} {t u v : Tok} (F1 : Fr h₀ L h1 m) (N1 : News h₀ L h1 l) (hr : IsRange h h1.objs.size a b c t u v) (N : News h₀ L h l') :
    ∃ o, News h₀ L h ((h1.objs.size, o) :: l') ∧ (∀ h2 : Heap, h2.get? h1.objs.size = some o → IsRange h2 h1.objs.size a b c t u v) ∧ (∀ p ∈ l, p.1 < h1.objs.size) :=
  ⟨_, List.forall_mem_cons.mpr ⟨⟨hr, Nat.ne_of_gt F1.ns.lt, next_is_new F1⟩, N⟩, fun _ e => e, fun p hp => Heap.lt_size (N1 p hp).1⟩
theorem order_ok' {w : World} {q c' cc lo L : Addr} {h₀ h : Heap} {qual : Str} {params : Arguments} {body : Expr} {scope : Scope} {pm ctv : Value} {oc ocell : Obj} {fvs : Array Value} {tq : Tok} {n : Nat} {wd : List Int} {wv : List Value} {k0 : Nat} {need : List (Addr × Obj)}
    (N : News h₀ L h need) (hlam : ordLam w.params = some (params, body, scope)) (hn : n ≤ 900) (hwl : wd.length = n) (hI : IntsAre wv wd)
    (hq : (q, kla_obj "<lambda>" qual params body scope [("word", cc)] pm c' ctv) ∈ need) (hc : (c', oc) ∈ need) (hoc1 : oc.data = .fields fvs) (hoc2 : fvs[1]? = some (.str qual tq))
    (hcc : (cc, ocell) ∈ need) (hcd : ocell.data = .cell (some (.ref lo))) (hlo : (lo, listOf wv.toArray k0) ∈ need) :
    KeyOk w q (fun j => wd.getD j.toNat 0) (fun j => 0 ≤ j ∧ j < (n : Int)) need := order_ok hlam hn hwl hI hq hc hoc1 hoc2 hcc hcd hlo
section
variable {w : World} {mean : ExcName → Option Value} {mg mb : Str → Option Value}
  {dp un : Nat} {gd : Option (List Code)} {fa : Addr} {outer : List Env} {A₀ : Around} {base h₀ : Heap} {L : Addr} {m : Str → Option Value} {s : Shared} {Q : Flow → Shared → Prop} {E : Value → Shared → Prop}
  {c1 c2 c3 c4 c5 c6 c7 c8 : Addr} {o1 o2 o3 o4 o5 o6 o7 o8 : Obj} {scope : Scope} {body : List Stmt} {R : List (Addr × Obj)} {u0 : Str → Option Value}

  {WD WH FR RE PL BA MO : Addr} {wv hv fv rv pv bv mv : List Value} {wd hl : List Int} {kw kh n : Nat} {tf t1 : Tok} {fl : Int} {R1 : List (Addr × Obj)} {ps : Array Value} {ls : Scope} {pr : Arguments} {lb : Expr}

local macro_rules | `(tactic| walk_at "eval Lambda") => `(tactic| (k_here; (fail_if_success (with_reducible rename GoOn => hgoOn)); k_dflt (refine Hold.out ?_)))
local macro_rules | `(tactic| walk_at "call builtin:sorted") => `(tactic| (k_dflt (refine Hold.out ?_)))
local macro_rules | `(tactic| walk_at "binaryOp Add ref ref") => `(tactic| (k_dflt (refine Hold.out ?_)))
theorem setup36 : True := by
  k_with_none
  k_with "storeName" => (k_here; k_dflt (refine storeX_C (by k_asm) (by k_asm) (by rfl) (by k_updF) (by k_asm) ?_ (by rfl) (by rfl); k_whole); intro h' o' F' N' d'; (try dsimp only at N'); (try k_sweep))
  k_with "subscriptTail" => (k_here; (with_reducible show wpAny _ _ (subscriptTail _ _ (Value.ref _) (Value.int _ _)) _ _ _); k_dflt (refine itemL (by k_asm) (by walk_at "mem") (by (first | lia | omega)) (by (first | lia | omega)) (by assumption) ?_ (by with_unfolding_all rfl); k_whole))
  k_with "exec For Name Call cons nil" => (k_here; (rename Fr _ _ _ _ => lF'); (with_unfolding_all refine For_invVF lF' (by exact rfl) (by exact rfl) ?_; k_whole))
  exact True.intro
set_option maxHeartbeats 1000000 in
set_option maxRecDepth 100000 in
theorem law_N
    (B : Below A₀ base outer h₀) (F : Fr h₀ L s.heap (bnd u0 [("moves", .ref MO), ("bare", .ref BA), ("plain", .ref PL), ("rear", .ref RE), ("front", .ref FR), ("falls", .int fl tf)])) (X : (hd.heap_39 w.params).In h₀) (T : TopM mean mg mb h₀) (hC : CodeHd h₀ 123 121)
    (N : News h₀ L s.heap (cellsL c8 c7 c6 c5 c4 c3 c2 c1 o8 o7 o6 o5 o4 o3 o2 o1 R))
    (hc : @LT.lt Nat _ 121 c1 ∧ @LT.lt Nat _ c1 c2 ∧ @LT.lt Nat _ c2 c3 ∧ @LT.lt Nat _ c3 c4 ∧ @LT.lt Nat _ c4 c5 ∧ @LT.lt Nat _ c5 c6 ∧ @LT.lt Nat _ c6 c7 ∧ @LT.lt Nat _ c7 c8)
    (hsc : lawScope w.params = scope) (hb : (bodyAt w.params 124).drop 19 = body) (hd : dp + 64 < recursionLimit) (hu : un + 512 < cLine)

    (hR : R = (121, tabObj ps) :: R1) (h121 : ∀ p ∈ R1, p.1 ≠ 121)
    (d1 : o1.data = .cell (some (.int (n : Int) t1))) (d8 : o8.data = .cell (some (.ref WD))) (hWD : (WD, listOf wv.toArray kw) ∈ R1) (hI : IntsAre wv wd) (hwl : wd.length = n) (hnl : n ≤ 10)
    (hps : ∃ v, ps = #[rawInt 112, rawInt 11, v]) (hlam : ordLam w.params = some (pr, lb, ls))
    (hrest : ∀ (OR : Addr) (ov : List Value) (os : List Int) (ko : Nat) (ps' : Array Value) (u : Str → Option Value) (h' : Heap) (tk' : Nat), Fr h₀ L h' (bnd u [("order", .ref OR), ("moves", .ref MO), ("bare", .ref BA), ("plain", .ref PL), ("rear", .ref RE), ("front", .ref FR), ("falls", .int fl tf)]) →
      News h₀ L h' (cellsL c8 c7 c6 c5 c4 c3 c2 c1 o8 o7 o6 o5 o4 o3 o2 o1 ((OR, listOf ov.toArray ko) :: (121, tabObj ps') :: R1)) →
      IntsAre ov ([(n : Int)] ++ (os ++ [(n : Int) + 1])) → os.Perm (upTo n) → os.Pairwise (fun x y => wd.getD x.toNat 0 < wd.getD y.toNat 0 ∨ (wd.getD x.toNat 0 = wd.getD y.toNat 0 ∧ x < y)) →
      wpAny (model (RowW.prog (OpenRow.toRowW (OpenLaw.row PySem.Challenge.rw_sn0020_01))) w) (ktrTop dp un gd "law" scope L fa (.ref 123) (lawCl c1 c2 c3 c4 c5 c6 c7 c8) outer) (execs (body.drop 1) (envX "law" scope L fa (.ref 123) (lawCl c1 c2 c3 c4 c5 c6 c7 c8))) Q E { s with heap := h', toks := tk' }
    ) :
    wpAny (model (RowW.prog (OpenRow.toRowW (OpenLaw.row PySem.Challenge.rw_sn0020_01))) w) (ktrTop dp un gd "law" scope L fa (.ref 123) (lawCl c1 c2 c3 c4 c5 c6 c7 c8) outer) (execs body (envX "law" scope L fa (.ref 123) (lawCl c1 c2 c3 c4 c5 c6 c7 c8))) Q E s := by

  obtain ⟨pv0, rfl⟩ := hps
  subst hR
  have hlam0 := hlam
  with_unfolding_all (conv at hlam => lhs; whnf)
  injection hlam with hlam
  injection hlam with hl1 hlam
  injection hlam with hl2 hl3
  subst hl1 hl2 hl3
  with_unfolding_all (conv at hsc => lhs; whnf)
  with_unfolding_all (conv at hb => lhs; whnf)
  subst hsc hb
  revert X hrest; k_fill; intro X hrest
  refine wpAny_execs_cons ?_

  k_steps
  refine ⟨?_⟩
  (with_reducible rename IsRange _ _ _ _ _ _ _ _ => hR0); (with_reducible rename News _ _ _ _ => N0); (with_reducible rename Fr _ _ _ _ => F0)
  revert N0 F0
  (with_reducible rename News _ _ _ _ => N1); (with_reducible rename Fr _ _ _ _ => F1)
  intro F0 N0
  obtain ⟨oR, N2, hRk, hrl⟩ := keepRange F1 N1 hR0 N0
  have h121r := hrl (121, tabObj #[rawInt 112, rawInt 11, pv0]) (by walk_at "mem")
  replace h121r : @LT.lt Nat _ 121 _ := h121r
  clear N0
  have hgo := GoOn.mk
  k_steps
  refine ⟨?_⟩
  (with_reducible rename News _ _ _ _ => N3); (with_reducible rename Fr _ _ _ _ => F3)
  (with_reducible rename (_ = Data.fields _) => dq1)
  (with_reducible rename (_ = some (Value.str _ _)) => dq2)
  have K := order_ok' N3 hlam0 (by (first | lia | omega)) hwl hI List.mem_cons_self (by walk_at "mem") dq1 dq2 (by walk_at "mem") d8 (by walk_at "mem")
  with_unfolding_all refine sorted_key (n := n) (kf := fun j => wd.getD j.toNat 0) rfl F3 N3 (hRk _ (N3 (_, oR) (by walk_at "mem")).1) ?small ?hn (by (first | lia | omega)) ?turn ?rest
  case small => exact small_one (by (first | lia | omega)) (by (first | lia | omega)) (by (first | lia | omega)) (by (first | lia | omega))
  case hn => rw [rangeSize_nat]; (first | lia | omega)
  case turn =>
    intro j tj hj h5 tk5 own F5 N5
    with_unfolding_all refine KeyOk.use (un := un + 2) K B F5 X N5 T rfl (fun p hp => List.mem_append_left _ hp) hj ?_ ?_ fun t6 h6 tk6 F6 N6 => KskEnd.intro F6 N6 fun p hp => hp
    · exact Nat.lt_of_le_of_lt (by (first | lia | omega) : dp + 2 ≤ dp + 64) hd
    · exact Nat.lt_of_le_of_lt (by (first | lia | omega) : un + 2 + 16 ≤ un + 512) hu
  case rest =>
    intro D h4 tk4 out os c F4 N4 hl4 hI4 hp hs
    have hol : os.length = n := by rw [hp.length_eq, upTo, List.length_map, List.length_range]
    have hvl := hI4.length
    k_steps
    refine ⟨?_⟩
    refine addL (us := [Value.int (n : Int) t1]) (vs := out.toList) F4 N4 (News.isList N4 (by walk_at "mem")) (News.isList N4 (List.mem_cons_self)) (fun DA hA FA NA lA => ?_) (by simp only [List.length_cons, List.length_nil]; (first | lia | omega))
    k_steps
    refine ⟨?_⟩
    (with_reducible rename Fr _ _ _ _ => FC); (with_reducible rename News _ _ _ _ => NC)
    refine addL (us := [Value.int (n : Int) t1] ++ out.toList) (vs := [Value.int ((n : Int) + 1) _]) FC NC (News.isList NC (by walk_at "mem")) (News.isList NC List.mem_cons_self) (fun DB hB FB NB lB => ?_) (by simp only [List.length_append, List.length_cons, List.length_nil]; (first | lia | omega))
    k_steps
    (with_reducible rename Fr _ _ _ _ => F8); (with_reducible rename News _ _ _ _ => N8)
    obtain ⟨u1, F7⟩ := frB [("order", .ref DB), ("moves", .ref MO), ("bare", .ref BA), ("plain", .ref PL), ("rear", .ref RE), ("front", .ref FR), ("falls", .int fl tf)] F8 (by walk_at "all_rfl")
    refine ⟨?_⟩
    have hI9 : IntsAre (([Value.int (n : Int) t1] ++ out.toList) ++ [Value.int ((n : Int) + 1) (tk4 + 1)]) ([(n : Int)] ++ (os ++ [(n : Int) + 1])) := by
      rw [List.append_assoc]
      exact IntsAre.append (.cons _ _ .nil) (IntsAre.append hI4 (.cons _ _ .nil))
    with_unfolding_all exact hrest _ _ _ _ _ _ _ _ F7 (cells_push (news_drop7 N8)) hI9 hp hs
end
end
section
section
variable {w : World} {mean : ExcName → Option Value} {mg mb : Str → Option Value}
  {dp un : Nat} {gd : Option (List Code)} {fa : Addr} {outer : List Env} {A₀ : Around} {base h₀ : Heap} {L : Addr} {m : Str → Option Value} {s : Shared} {Q : Flow → Shared → Prop} {E : Value → Shared → Prop}
  {c1 c2 c3 c4 c5 c6 c7 c8 : Addr} {o1 o2 o3 o4 o5 o6 o7 o8 : Obj} {scope : Scope} {body : List Stmt} {R : List (Addr × Obj)} {u0 : Str → Option Value}

  {WH FR RE PL BA MO OR : Addr} {hv fv : List Value} {hl fr : List Int} {kw kf : Nat} {tf : Tok} {fl : Int}

theorem hold_ret {M : Model} {A : Around} {e : Option Expr} {p2 : Pos} {env : Env} {Q : Flow → Shared → Prop} {E : Value → Shared → Prop} {s : Shared}
    {rest : List Stmt} (h : Hold (wpAny M A (execs (.Return e p2 :: rest) env) Q E s)) : wpAny M A (execs (.Return e p2 :: rest) env) Q E s := h.out
local macro_rules | `(tactic| walk_at "execs cons") => `(tactic| (with_reducible refine hold_ret ?_))
local macro_rules | `(tactic| walk_at "call type:list") => `(tactic| (k_dflt (refine Hold.out ?_)))
theorem setup37 : True := by
  k_with_none
  k_with "storeName" => (k_here; k_dflt (refine storeX_C (by k_asm) (by k_asm) (by rfl) (by k_updF) (by k_asm) ?_ (by rfl) (by rfl); k_whole); intro h' o' F' N' d'; (try dsimp only at N'); (try k_sweep))
  k_with "subscriptTail" => (k_here; (with_reducible show wpAny _ _ (subscriptTail _ _ (Value.ref _) (Value.int _ _)) _ _ _); k_dflt (refine itemL (by k_asm) (by walk_at "mem") (by omega) (by omega) (by assumption) ?_ (by with_unfolding_all rfl); k_whole))
  k_with "exec For Name Call cons nil" => (k_here; (rename Fr _ _ _ _ => lF'); (with_unfolding_all refine For_invVF lF' (by exact rfl) (by exact rfl) ?_; k_whole))
  exact True.intro
set_option maxHeartbeats 1000000 in
set_option maxRecDepth 100000 in
theorem law_O
    (B : Below A₀ base outer h₀) (F : Fr h₀ L s.heap (bnd u0 [("order", .ref OR), ("moves", .ref MO), ("bare", .ref BA), ("plain", .ref PL), ("rear", .ref RE), ("front", .ref FR), ("falls", .int fl tf)])) (X : (hd.heap_39 w.params).In h₀) (T : TopM mean mg mb h₀) (hC : CodeHd h₀ 123 121)
    (N : News h₀ L s.heap (cellsL c8 c7 c6 c5 c4 c3 c2 c1 o8 o7 o6 o5 o4 o3 o2 o1 R))
    (hc : @LT.lt Nat _ 121 c1 ∧ @LT.lt Nat _ c1 c2 ∧ @LT.lt Nat _ c2 c3 ∧ @LT.lt Nat _ c3 c4 ∧ @LT.lt Nat _ c4 c5 ∧ @LT.lt Nat _ c5 c6 ∧ @LT.lt Nat _ c6 c7 ∧ @LT.lt Nat _ c7 c8)
    (hsc : lawScope w.params = scope) (hb : (bodyAt w.params 124).drop 20 = body) (hd : dp + 64 < recursionLimit) (hu : un + 512 < cLine)

    (d2 : o2.data = .cell (some (.ref WH))) (hWH : (WH, listOf hv.toArray kw) ∈ R) (hI : IntsAre hv hl)
    (hOR : (OR, listOf fv.toArray kf) ∈ R) (hfI : IntsAre fv fr) (hfl : fr.length ≤ 20) (hfb : ∀ x ∈ fr, 0 ≤ x ∧ x < hl.length) (hhl : hl.length ≤ 20)
    (hrest : ∀ (LI : Addr) (lv : List Value) (u : Str → Option Value) (h' : Heap) (tk' : Nat), Fr h₀ L h' (bnd u [("line", .ref LI), ("order", .ref OR), ("moves", .ref MO), ("bare", .ref BA), ("plain", .ref PL), ("rear", .ref RE), ("front", .ref FR), ("falls", .int fl tf)]) → News h₀ L h' (cellsL c8 c7 c6 c5 c4 c3 c2 c1 o8 o7 o6 o5 o4 o3 o2 o1 ((LI, LCg.lst lv) :: R)) →
      IntsAre lv (fr.map (lookAt hl)) →
      wpAny (model (RowW.prog (OpenRow.toRowW (OpenLaw.row PySem.Challenge.rw_sn0020_01))) w) (ktrTop dp un gd "law" scope L fa (.ref 123) (lawCl c1 c2 c3 c4 c5 c6 c7 c8) outer) (execs (body.drop 1) (envX "law" scope L fa (.ref 123) (lawCl c1 c2 c3 c4 c5 c6 c7 c8))) Q E { s with heap := h', toks := tk' }
    ) :
    wpAny (model (RowW.prog (OpenRow.toRowW (OpenLaw.row PySem.Challenge.rw_sn0020_01))) w) (ktrTop dp un gd "law" scope L fa (.ref 123) (lawCl c1 c2 c3 c4 c5 c6 c7 c8) outer) (execs body (envX "law" scope L fa (.ref 123) (lawCl c1 c2 c3 c4 c5 c6 c7 c8))) Q E s := by

  have hvl := hI.length
  have hfvl := hfI.length
  with_unfolding_all (conv at hsc => lhs; whnf)
  with_unfolding_all (conv at hb => lhs; whnf)
  subst hsc hb
  revert X hrest; k_fill; intro X hrest
  refine wpAny_execs_cons ?_

  k_steps
  refine ⟨?_⟩
  (with_reducible rename Fr _ _ _ _ => F1); (with_reducible rename News _ _ _ _ => N1)
  have hrm : (OR, listOf fv.toArray kf) ∈ (cellsL c8 c7 c6 c5 c4 c3 c2 c1 o8 o7 o6 o5 o4 o3 o2 o1 R) := cells_sub hOR
  with_unfolding_all refine LCg.CompSrc.ledger rfl F1 N1 hrm ?_ fun g2 => ?_
  · rw [sizeLine_eq, List.size_toArray]; omega
  refine compTurns (fun j ys nw => nw = (cellsL c8 c7 c6 c5 c4 c3 c2 c1 o8 o7 o6 o5 o4 o3 o2 o1 R) ∧ IntsAre ys ((fr.take j).map (lookAt hl))) ⟨rfl, .nil⟩ ?_ ?_
  · rintro j ys nw hj ⟨rfl, hys⟩ v I oI C oC D2 m₂ hh tk E' hv' hoC hmx F2 N2 off ne
    rw [List.size_toArray] at hj
    obtain ⟨t2, e2⟩ := intsAt hfI j (by omega)
    have hv2 : fv[j]? = some v := by simpa using hv'
    rw [e2] at hv2
    injection hv2 with hv2
    subst hv2
    have hej : fr[j]? = some (fr.getD j 0) := by rw [List.getD_eq_getElem?_getD, List.getElem?_eq_getElem (by omega)]; rfl
    have hb := hfb _ (List.mem_of_getElem? hej)
    obtain ⟨tw, hw⟩ := intsAt hI (fr.getD j 0).toNat (by omega)
    k_steps
    refine ⟨?_⟩
    (with_reducible rename Fr _ _ _ _ => F3); (with_reducible rename News _ _ _ _ => N3)
    exact LCg.CompEnd.intro F3 N3 _ (fun p hp => hp) off (.inr ⟨_, hrm, rfl, _, rfl⟩) ⟨rfl, ints_take _ hys hej⟩
  · rintro ys nw ⟨rfl, hys⟩
    intro D2 g' tk' F9 N9 off9
    rw [List.size_toArray, hfvl, List.take_length] at hys
    have hyl := hys.length
    rw [List.length_map] at hyl
    have off9' := off1_ne off9
    simp only [LCg.Off1] at off9
    k_steps
    (with_reducible rename Fr _ _ _ _ => F8); (with_reducible rename News _ _ _ _ => N8)
    obtain ⟨u1, F7⟩ := frB [("line", .ref D2), ("order", .ref OR), ("moves", .ref MO), ("bare", .ref BA), ("plain", .ref PL), ("rear", .ref RE), ("front", .ref FR), ("falls", .int fl tf)] F8 (by walk_at "all_rfl")
    refine ⟨?_⟩
    with_unfolding_all exact hrest _ _ _ _ _ F7 (cells_push N8) hys
end
end
section
theorem eq_nested {prog : Program} {w : World} {A : Around} {E : Value → Shared → Prop} {s : Shared} {Q : Value → Shared → Prop} {h₀ : Heap} {L a b a1 a2 a3 a4 a5 b1 b2 b3 b4 b5 : Addr} {ka kb k1 k2 k3 k4 k5 j1 j2 j3 j4 j5 : Nat} {v1 v2 v3 v4 v5 w1 w2 w3 w4 w5 : List Value} {x1 x2 x3 x4 x5 : List Int} {news : List (Addr × Obj)}
    (N : News h₀ L s.heap news) (ha : (a, listOf #[.ref a1, .ref a2, .ref a3, .ref a4, .ref a5] ka) ∈ news) (hb : (b, listOf #[.ref b1, .ref b2, .ref b3, .ref b4, .ref b5] kb) ∈ news)
    (m1 : (a1, listOf v1.toArray k1) ∈ news) (m2 : (a2, listOf v2.toArray k2) ∈ news) (m3 : (a3, listOf v3.toArray k3) ∈ news) (m4 : (a4, listOf v4.toArray k4) ∈ news) (m5 : (a5, listOf v5.toArray k5) ∈ news)
    (n1 : (b1, listOf w1.toArray j1) ∈ news) (n2 : (b2, listOf w2.toArray j2) ∈ news) (n3 : (b3, listOf w3.toArray j3) ∈ news) (n4 : (b4, listOf w4.toArray j4) ∈ news) (n5 : (b5, listOf w5.toArray j5) ∈ news)
    (i1 : IntsAre v1 x1) (i2 : IntsAre v2 x2) (i3 : IntsAre v3 x3) (i4 : IntsAre v4 x4) (i5 : IntsAre v5 x5) (l1 : IntsAre w1 x1) (l2 : IntsAre w2 x2) (l3 : IntsAre w3 x3) (l4 : IntsAre w4 x4) (l5 : IntsAre w5 x5)
    (hu : A.units + 64 < cLine) (h : Q (.bool true) s) : wpAny (model prog w) A (compareOp .Eq (.ref a) (.ref b)) Q E s := by
  have sh : SeqAt.shaped (.list [.list (x1.map PyData.int), .list (x2.map PyData.int), .list (x3.map PyData.int), .list (x4.map PyData.int), .list (x5.map PyData.int)]) = true := by
    simp [SeqAt.shaped, PyData.canLay0, PyData.canLayAll0, PyData.depth, PyData.depthAll, ke_canLayAll0, ke_depthAll]
  refine eq_dataH (reads_list_at (N _ ha).1 rfl rfl (.cons (reads_newData (News.isList N m1) (ke_carried i1)) (.cons (reads_newData (News.isList N m2) (ke_carried i2)) (.cons (reads_newData (News.isList N m3) (ke_carried i3)) (.cons (reads_newData (News.isList N m4) (ke_carried i4)) (.cons (reads_newData (News.isList N m5) (ke_carried i5)) .nil))))))
    (reads_list_at (N _ hb).1 rfl rfl (.cons (reads_newData (News.isList N n1) (ke_carried l1)) (.cons (reads_newData (News.isList N n2) (ke_carried l2)) (.cons (reads_newData (News.isList N n3) (ke_carried l3)) (.cons (reads_newData (News.isList N n4) (ke_carried l4)) (.cons (reads_newData (News.isList N n5) (ke_carried l5)) .nil)))))) sh sh hu ?_
  have e : PyData.eqv (.list [.list (x1.map PyData.int), .list (x2.map PyData.int), .list (x3.map PyData.int), .list (x4.map PyData.int), .list (x5.map PyData.int)]) (.list [.list (x1.map PyData.int), .list (x2.map PyData.int), .list (x3.map PyData.int), .list (x4.map PyData.int), .list (x5.map PyData.int)]) = true := by
    simp [PyData.eqv, PyData.eqvAll, ked_eqvAll]
  rw [e]
  exact h
section
variable {w : World} {mean : ExcName → Option Value} {mg mb : Str → Option Value}
  {dp un : Nat} {gd : Option (List Code)} {fa : Addr} {outer : List Env} {A₀ : Around} {base h₀ : Heap} {L : Addr} {m : Str → Option Value} {s : Shared} {Q : Flow → Shared → Prop} {E : Value → Shared → Prop}
  {c1 c2 c3 c4 c5 c6 c7 c8 : Addr} {o1 o2 o3 o4 o5 o6 o7 o8 : Obj} {scope : Scope} {body : List Stmt} {R : List (Addr × Obj)} {u0 : Str → Option Value}

  {FR RE PL BA MO OR LI : Addr} {fv rv pv bv mv ov lv : List Value} {kf kr kp kb km ko kl : Nat} {tf : Tok} {fl : Int} {xs ys : List Int}

local macro_rules | `(tactic| walk_at "compareOp Eq ref ref") => `(tactic| (k_dflt (refine Hold.out ?_)))
theorem setup38 : True := by
  k_with_none
  k_with "storeName" => (k_here; k_dflt (refine storeX_C (by k_asm) (by k_asm) (by rfl) (by k_updF) (by k_asm) ?_ (by rfl) (by rfl); k_whole); intro h' o' F' N' d'; (try dsimp only at N'); (try k_sweep))
  k_with "subscriptTail" => (k_here; (with_reducible show wpAny _ _ (subscriptTail _ _ (Value.ref _) (Value.int _ _)) _ _ _); k_dflt (refine itemL (by k_asm) (by walk_at "mem") (by omega) (by omega) (by assumption) ?_ (by with_unfolding_all rfl); k_whole))
  k_with "exec For Name Call cons nil" => (k_here; (rename Fr _ _ _ _ => lF'); (with_unfolding_all refine For_invVF lF' (by exact rfl) (by exact rfl) ?_; k_whole))
  exact True.intro
set_option maxHeartbeats 1000000 in
set_option maxRecDepth 100000 in
theorem law_P
    (B : Below A₀ base outer h₀) (F : Fr h₀ L s.heap (bnd u0 [("line", .ref LI), ("order", .ref OR), ("moves", .ref MO), ("bare", .ref BA), ("plain", .ref PL), ("rear", .ref RE), ("front", .ref FR), ("falls", .int fl tf)])) (X : (hd.heap_39 w.params).In h₀) (T : TopM mean mg mb h₀) (hC : CodeHd h₀ 123 121)
    (N : News h₀ L s.heap (cellsL c8 c7 c6 c5 c4 c3 c2 c1 o8 o7 o6 o5 o4 o3 o2 o1 R))
    (hc : @LT.lt Nat _ 121 c1 ∧ @LT.lt Nat _ c1 c2 ∧ @LT.lt Nat _ c2 c3 ∧ @LT.lt Nat _ c3 c4 ∧ @LT.lt Nat _ c4 c5 ∧ @LT.lt Nat _ c5 c6 ∧ @LT.lt Nat _ c6 c7 ∧ @LT.lt Nat _ c7 c8)
    (hsc : lawScope w.params = scope) (hb : (bodyAt w.params 124).drop 21 = body) (hd : dp + 64 < recursionLimit) (hu : un + 512 < cLine)

    (hMO : (MO, listOf mv.toArray km) ∈ R) (hFR : (FR, listOf fv.toArray kf) ∈ R) (hRE : (RE, listOf rv.toArray kr) ∈ R) (hPL : (PL, listOf pv.toArray kp) ∈ R) (hBA : (BA, listOf bv.toArray kb) ∈ R) (hOR : (OR, listOf ov.toArray ko) ∈ R) (hLI : (LI, listOf lv.toArray kl) ∈ R)
    (iMO : IntsAre mv [fl, fl, fl, fl]) (iFR : IntsAre fv xs) (iRE : IntsAre rv xs) (iPL : IntsAre pv ys) (iBA : IntsAre bv ys) (iOR : IntsAre ov xs) (iLI : IntsAre lv ys)
    (hrest : ∀ (h' : Heap) (tk' : Nat) (m' : Str → Option Value), Fr h₀ L h' m' → News h₀ L h' (cellsL c8 c7 c6 c5 c4 c3 c2 c1 o8 o7 o6 o5 o4 o3 o2 o1 R) → Q (.ret (.bool true)) { s with heap := h', toks := tk' }) :
    wpAny (model (RowW.prog (OpenRow.toRowW (OpenLaw.row PySem.Challenge.rw_sn0020_01))) w) (ktrTop dp un gd "law" scope L fa (.ref 123) (lawCl c1 c2 c3 c4 c5 c6 c7 c8) outer) (execs body (envX "law" scope L fa (.ref 123) (lawCl c1 c2 c3 c4 c5 c6 c7 c8))) Q E s := by

  with_unfolding_all (conv at hsc => lhs; whnf)
  with_unfolding_all (conv at hb => lhs; whnf)
  subst hsc hb
  revert X hrest; k_fill; intro X hrest
  refine wpAny_execs_cons ?_

  k_steps
  refine ⟨?_⟩
  (with_reducible rename Fr _ _ _ _ => F8); (with_reducible rename News _ _ _ _ => N8)
  refine eq_nested N8 (by walk_at "mem") (by walk_at "mem") (by walk_at "mem") (by walk_at "mem") (by walk_at "mem") (by walk_at "mem") (by walk_at "mem") (w1 := [Value.int fl tf, Value.int fl tf, Value.int fl tf, Value.int fl tf]) (j1 := 0) (List.mem_cons_of_mem _ List.mem_cons_self) (by walk_at "mem") (by walk_at "mem") (by walk_at "mem") (by walk_at "mem") iMO iFR iRE iPL iBA (.cons _ _ (.cons _ _ (.cons _ _ (.cons _ _ .nil)))) iOR iOR iLI iLI ?_ ?_
  · ktr_units
  k_steps
  refine hrest _ _ _ F8 (fun p hp => N8 p (by walk_at "mem"))
end
end
end
end
section
/-! what the mail comes to -/
theorem ofs_empty : (Str.ofString "" : Str) = ⟨#[]⟩ := by decide
theorem join_flat (l : List Str) : (Txt.join (Str.ofString "") l).cps.toList = flat l := by
  show (Builtin.Str.glued (Str.ofString "") l).cps.toList = _
  rw [ofs_empty, glued_flat]
theorem app_cps (a b : Str) : (a ++ b).cps.toList = a.cps.toList ++ b.cps.toList := by
  show (a.cps ++ b.cps).toList = _
  rw [Array.toList_append]
def Good (r : List Nat) : Prop := r ≠ [] ∧ ∀ c ∈ r, c ≠ 13 ∧ c ≠ 10
theorem norm_good : ∀ {r : List Nat} {b : Bool} {x : List Nat}, (∀ c ∈ r, c ≠ 13 ∧ c ≠ 10) → r ≠ [] → norm b (r ++ x) = r ++ norm false x
  | [], _, _, _, h => absurd rfl h
  | c :: r, b, x, h, _ => by
    have hc := h c (.head _)
    rw [List.cons_append, norm, if_neg hc.1, if_neg hc.2]
    cases r with
    | nil => rfl
    | cons d r => rw [norm_good (fun c hc => h c (.tail _ hc)) (by simp)]; rfl
def endL (j : Nat) : List Nat := match j with | 0 => [13, 10] | 1 => [13] | _ => [10]
theorem head_row {r x : List Nat} (h : Good r) : (r ++ x).head? ≠ some 10 := by
  obtain ⟨h1, h2⟩ := h
  cases r with
  | nil => exact absurd rfl h1
  | cons c r => intro e; simp at e; exact (h2 c (.head _)).2 e
theorem head_cat {row : Nat → List Nat} {e : Nat → Nat} {suf : List Nat} (hs : suf.head? ≠ some 10) : ∀ {js : List Nat}, (∀ j ∈ js, Good (row j)) → ((js.map fun j => row j ++ endL (e j)).flatten ++ suf).head? ≠ some 10
  | [], _ => by simpa using hs
  | j :: js, h => by
    rw [List.map_cons, List.flatten_cons, List.append_assoc, List.append_assoc]
    exact head_row (h j (.head _))
theorem norm_cat {row : Nat → List Nat} {e : Nat → Nat} {suf : List Nat} (hs : suf.head? ≠ some 10) : ∀ {js : List Nat}, (∀ j ∈ js, Good (row j)) →
    norm false ((js.map fun j => row j ++ endL (e j)).flatten ++ suf) = (js.map fun j => row j ++ [13, 10]).flatten ++ norm false suf
  | [], _ => by simp
  | j :: js, h => by
    have hj := h j (.head _)
    have hr : ∀ i ∈ js, Good (row i) := fun i hi => h i (.tail _ hi)
    have ih := norm_cat (row := row) (e := e) hs hr
    have hh := head_cat (row := row) (e := e) hs hr
    rw [List.map_cons, List.flatten_cons, List.append_assoc, List.append_assoc, norm_good hj.2 hj.1, List.map_cons, List.flatten_cons, List.append_assoc, List.append_assoc]
    congr 1
    rw [← ih]
    generalize (js.map fun j => row j ++ endL (e j)).flatten ++ suf = x at hh
    match e j with
    | 0 => rfl
    | 1 => show 13 :: 10 :: norm true x = _; rw [norm_true hh]; rfl
    | (k + 2) => rfl
theorem dotd_hi : ∀ {r : List Nat} {x : List Nat}, (∀ c ∈ r, 128 ≤ c) → dotd false (r ++ 13 :: 10 :: x) = r ++ 13 :: 10 :: dotd true x
  | [], _, _ => rfl
  | c :: r, x, h => by
    have hc := h c (.head _)
    rw [List.cons_append, dotd, if_neg (by omega), show (c == 10) = false by simp; omega, dotd_hi fun c hc => h c (.tail _ hc)]
    rfl
theorem dotd_row {d r x : List Nat} (hd : d = [46] ∨ d = []) (hr : r ≠ []) (h : ∀ c ∈ r, 128 ≤ c) : dotd true ((d ++ r) ++ [13, 10] ++ x) = (d ++ (d ++ r) ++ [13, 10]) ++ dotd true x := by
  rcases hd with rfl | rfl
  · show 46 :: 46 :: dotd false (r ++ [13, 10] ++ x) = _
    rw [List.append_assoc]
    show 46 :: 46 :: dotd false (r ++ 13 :: 10 :: x) = _
    rw [dotd_hi h]; simp
  · cases r with
    | nil => exact absurd rfl hr
    | cons c r =>
      have hc := h c (.head _)
      rw [List.nil_append, List.append_assoc, List.cons_append, dotd, if_neg (by omega), show (c == 10) = false by simp; omega]
      show c :: dotd false (r ++ 13 :: 10 :: x) = _
      rw [dotd_hi fun c hc => h c (.tail _ hc)]; simp
theorem dotd_cat {d r : Nat → List Nat} {suf : List Nat} : ∀ {js : List Nat}, (∀ j ∈ js, (d j = [46] ∨ d j = []) ∧ r j ≠ [] ∧ ∀ c ∈ r j, 128 ≤ c) →
    dotd true ((js.map fun j => (d j ++ r j) ++ [13, 10]).flatten ++ suf) = (js.map fun j => d j ++ (d j ++ r j) ++ [13, 10]).flatten ++ dotd true suf
  | [], _ => by simp
  | j :: js, h => by
    obtain ⟨h1, h2, h3⟩ := h j (.head _)
    rw [List.map_cons, List.flatten_cons, List.append_assoc, dotd_row h1 h2 h3, dotd_cat fun i hi => h i (.tail _ hi), List.map_cons, List.flatten_cons]
    simp only [List.append_assoc]
theorem quoted_cat {d r : Nat → List Nat} {e : Nat → Nat} {suf : List Nat} (hs : suf.head? ≠ some 10) {js : List Nat} (h : ∀ j ∈ js, (d j = [46] ∨ d j = []) ∧ r j ≠ [] ∧ ∀ c ∈ r j, 128 ≤ c) :
    quoted ((js.map fun j => (d j ++ r j) ++ endL (e j)).flatten ++ suf) = (js.map fun j => d j ++ (d j ++ r j) ++ [13, 10]).flatten ++ quoted suf := by
  unfold quoted
  rw [norm_cat (row := fun j => d j ++ r j) hs fun j hj => ?_, dotd_cat h]
  obtain ⟨h1, h2, h3⟩ := h j hj
  refine ⟨by simp [h2], fun c hc => ?_⟩
  rcases List.mem_append.mp hc with q | q
  · rcases h1 with e | e
    · rw [e] at q; simp at q; omega
    · rw [e] at q; cases q
  · have := h3 c q; omega
theorem flat_map {α : Type} (f : α → Str) (l : List α) : flat (l.map f) = (l.map fun x => (f x).cps.toList).flatten := by
  unfold flat; rw [List.map_map]; rfl
theorem endS_list (j : Nat) (h : j < 3) : (endS j).cps.toList = endL j := by
  match j, h with
  | 0, _ => decide
  | 1, _ => decide
  | 2, _ => decide
/-- a row's parts -/
structure Parts (dS : Nat → Str) (oc : Nat → List Int) (n : Nat) : Prop where
  dot : ∀ j, dS j = Str.ofString "." ∨ dS j = Str.ofString ""
  ne : ∀ j, j < n → oc j ≠ []
  hi : ∀ j, j < n → ∀ o ∈ oc j, 128 ≤ o ∧ o ≤ 255
  len : ∀ j, j < n → (oc j).length ≤ 5
section
variable {dS : Nat → Str} {oc : Nat → List Int} {n : Nat} (H : Parts dS oc n)
def octL (l : List Int) : List Nat := l.map Int.toNat
theorem chr_flat (l : List Int) : flat (l.map chrS) = octL l := by
  rw [flat_map]
  induction l with
  | nil => rfl
  | cons a l ih => rw [List.map_cons, List.flatten_cons, ih]; rfl
theorem row_list (dS : Nat → Str) (oc : Nat → List Int) (k : Nat) : (rowS dS oc k).cps.toList = (dS k).cps.toList ++ octL (oc k) := by
  unfold rowS
  rw [app_cps, join_flat, chr_flat]
include H
theorem parts_ok {j : Nat} (hj : j < n) : ((dS j).cps.toList = [46] ∨ (dS j).cps.toList = []) ∧ octL (oc j) ≠ [] ∧ ∀ c ∈ octL (oc j), 128 ≤ c := by
  refine ⟨?_, ?_, fun c hc => ?_⟩
  · rcases H.dot j with e | e <;> rw [e]
    · exact .inl (by decide)
    · exact .inr (by decide)
  · have := H.ne j hj
    unfold octL; simpa using this
  · obtain ⟨o, ho, rfl⟩ := List.mem_map.mp hc
    have := H.hi j hj o ho
    omega
theorem tail_list (k : Nat) : (tailS (rowS dS oc) n k).cps.toList = (((List.range (n - k)).map (k + ·)).map fun j => ((dS j).cps.toList ++ octL (oc j)) ++ endL ((j + n) % 3)).flatten := by
  unfold tailS
  rw [join_flat, flat_map, List.map_map]
  congr 1
  refine List.map_congr_left fun j _ => ?_
  show (rowS dS oc (k + j) ++ endS ((k + j + n) % 3)).cps.toList = _
  rw [app_cps, row_list, endS_list _ (Nat.mod_lt _ (by decide))]
  rfl
theorem quoted_tail (k : Nat) (suf : List Nat) (hs : suf.head? ≠ some 10) :
    quoted ((tailS (rowS dS oc) n k).cps.toList ++ suf) = (((List.range (n - k)).map (k + ·)).map fun j => (dS j).cps.toList ++ ((dS j).cps.toList ++ octL (oc j)) ++ [13, 10]).flatten ++ quoted suf := by
  rw [tail_list H, quoted_cat (d := fun j => (dS j).cps.toList) (r := fun j => octL (oc j)) (e := fun j => (j + n) % 3) hs fun j hj => ?_]
  obtain ⟨i, hi, rfl⟩ := List.mem_map.mp hj
  have := List.mem_range.mp hi
  exact parts_ok H (by omega)
theorem sent_eq : strOfL (quoted (tailS (rowS dS oc) n 0 ++ Str.ofString "!.\n\r..\n.").cps.toList) = sentS dS (rowS dS oc) n := by
  refine str_ext ?_
  show (quoted _).toArray.toList = _
  rw [List.toList_toArray, app_cps, quoted_tail H 0 _ (by decide)]
  unfold sentS
  rw [app_cps, join_flat, flat_map]
  have e1 : quoted (Str.ofString "!.\n\r..\n.").cps.toList = (Str.ofString "!.\r\n\r\n...\r\n..").cps.toList := by decide
  rw [e1]
  congr 2
  rw [Nat.sub_zero, List.map_map]
  refine List.map_congr_left fun j _ => ?_
  show (dS (0 + j)).cps.toList ++ ((dS (0 + j)).cps.toList ++ octL (oc (0 + j))) ++ [13, 10] = (dS j ++ rowS dS oc j ++ Str.ofString "\r\n").cps.toList
  rw [Nat.zero_add, app_cps, app_cps, row_list]
  rfl
end
end
section
theorem len_cps (x : Str) : x.length = x.cps.toList.length := (Array.length_toList).symm
theorem len_flat_map {α : Type} (f : α → List Nat) : ∀ l : List α, (l.map f).flatten.length = (l.map fun x => (f x).length).sum
  | [] => rfl
  | a :: l => by rw [List.map_cons, List.flatten_cons, List.length_append, len_flat_map f l, List.map_cons, List.sum_cons]
section
variable {dS : Nat → Str} {oc : Nat → List Int} {n : Nat} (H : Parts dS oc n)
include H
theorem dS_len (j : Nat) : (dS j).length ≤ 1 := by
  rcases H.dot j with e | e <;> rw [e] <;> decide
theorem rowS_len {j : Nat} (hj : j < n) : (rowS dS oc j).length ≤ 7 := by
  have h1 := dS_len H j
  have h2 := H.len j hj
  rw [len_cps] at h1 ⊢
  rw [row_list, List.length_append]
  unfold octL
  rw [List.length_map]; omega
theorem sum_cap {α : Type} {f : α → Nat} {b : Nat} : ∀ {l : List α}, (∀ x ∈ l, f x ≤ b) → (l.map f).sum ≤ l.length * b
  | [], _ => Nat.zero_le _
  | a :: l, h => by
    have h1 := sum_cap (f := f) (b := b) (l := l) fun y hy => h y (.tail _ hy)
    have h2 := h a (.head _)
    rw [List.map_cons, List.sum_cons, List.length_cons, Nat.succ_mul]
    omega
theorem tailS_len (hn : n ≤ 10) (k : Nat) : (tailS (rowS dS oc) n k).length ≤ 1000 := by
  rw [len_cps]
  unfold tailS
  rw [join_flat, flat_map, len_flat_map]
  have := sum_cap H (f := fun j => (rowS dS oc (k + j) ++ endS ((k + j + n) % 3)).cps.toList.length) (b := 9) (l := List.range (n - k)) fun j hj => by
    have hj' := List.mem_range.mp hj
    have h1 := rowS_len H (j := k + j) (by omega)
    have h2 := endS_len ((k + j + n) % 3)
    rw [app_cps, List.length_append, ← len_cps, ← len_cps]; omega
  rw [List.length_range] at this
  omega
theorem sentJ_len (hn : n ≤ 10) : (Txt.join (Str.ofString "") ((List.range n).map fun k => dS k ++ rowS dS oc k ++ Str.ofString "\r\n")).length ≤ 1000 := by
  rw [len_cps, join_flat, flat_map, len_flat_map]
  have := sum_cap H (f := fun k => (dS k ++ rowS dS oc k ++ Str.ofString "\r\n").cps.toList.length) (b := 10) (l := List.range n) fun j hj => by
    have hj' := List.mem_range.mp hj
    have h1 := rowS_len H hj'
    have h2 := dS_len H j
    have h3 : (Str.ofString "\r\n").length ≤ 2 := by decide
    rw [app_cps, app_cps, List.length_append, List.length_append, ← len_cps, ← len_cps, ← len_cps]; omega
  rw [List.length_range] at this
  omega
def qS (dS : Nat → Str) (oc : Nat → List Int) (n k : Nat) : Str := strOfL (quoted (tailS (rowS dS oc) n k).cps.toList)
theorem qS_len (k : Nat) : (qS dS oc n k).length = ((List.range (n - k)).map fun j => (dS (k + j)).length + ((rowS dS oc (k + j)).length + 2)).sum := by
  rw [len_cps]
  show (quoted _).toArray.toList.length = _
  have := quoted_tail H k [] (by simp)
  rw [List.append_nil] at this
  rw [List.toList_toArray, this, show quoted [] = [] by decide, List.append_nil, len_flat_map, List.map_map]
  congr 1
  refine List.map_congr_left fun j _ => ?_
  show ((dS (k + j)).cps.toList ++ ((dS (k + j)).cps.toList ++ octL (oc (k + j))) ++ [13, 10]).length = _
  rw [len_cps, len_cps (rowS dS oc (k + j)), row_list]
  simp only [List.length_append, List.length_cons, List.length_nil]; omega
end
/-- how many dots stand from place k -/
def sf (g : Nat → Nat) (n k : Nat) : Nat := ((List.range (n - k)).map fun j => g (k + j)).sum
def st (g : Nat → Nat) (n : Nat) : Nat → Nat
  | 0 => 0
  | i + 1 => st g n i + sf g n (i + 1)
theorem sf_succ (g : Nat → Nat) {n k : Nat} (h : k ≤ n) : sf g (n + 1) k = sf g n k + g n := by
  unfold sf
  rw [show n + 1 - k = (n - k) + 1 by omega, List.range_succ, List.map_append, List.sum_append]
  simp only [List.map_cons, List.map_nil, List.sum_cons, List.sum_nil]
  rw [show k + (n - k) = n by omega]; rfl
theorem st_succ (g : Nat → Nat) {n : Nat} : ∀ {i : Nat}, i ≤ n → st g (n + 1) i = st g n i + i * g n
  | 0, _ => by simp [st]
  | i + 1, h => by
    show st g (n + 1) i + sf g (n + 1) (i + 1) = st g n i + sf g n (i + 1) + (i + 1) * g n
    rw [st_succ g (by omega : i ≤ n), sf_succ g h, Nat.succ_mul]; omega
theorem st_top (g : Nat → Nat) : ∀ n, st g (n + 1) n = st g n (n - 1) + n * g n
  | 0 => by simp [st]
  | n + 1 => by
    rw [st_succ g (Nat.le_refl _)]
    show st g (n + 1) n + sf g (n + 1) (n + 1) + _ = _
    have : sf g (n + 1) (n + 1) = 0 := by unfold sf; rw [Nat.sub_self]; rfl
    rw [this]; rfl
theorem maj_st (wd : List Int) : ∀ n, majOf (fun o => wd.getD o.toNat 0) n = st (fun j => (dotS wd j).length) n (n - 1)
  | 0 => rfl
  | n + 1 => by
    show majOf _ n + _ = st _ (n + 1) n
    rw [st_top, maj_st wd n]
    congr 1
    have e : ((n : Int) - 1).toNat = n - 1 := by omega
    have e0 : (0 < n ∧ (fun o : Int => wd.getD o.toNat 0) (n : Int) < (fun o : Int => wd.getD o.toNat 0) ((n : Int) - 1)) ↔ (0 < n ∧ wd.getD n 0 < wd.getD (n - 1) 0) := by
      dsimp only; rw [e, Int.toNat_natCast]
    dsimp only
    by_cases h : 0 < n ∧ wd.getD n 0 < wd.getD (n - 1) 0
    · rw [if_pos (e0.mpr h)]
      unfold dotS
      rw [if_pos h]
      show n = n * 1; omega
    · rw [if_neg (fun q => h (e0.mp q))]
      unfold dotS
      rw [if_neg h]
      show 0 = n * 0; rfl
theorem sum_add {α : Type} (f g : α → Nat) : ∀ l : List α, (l.map fun x => f x + g x).sum = (l.map f).sum + (l.map g).sum
  | [] => rfl
  | a :: l => by
    rw [List.map_cons, List.sum_cons, sum_add f g l, List.map_cons, List.sum_cons, List.map_cons, List.sum_cons]; omega
theorem sum_cast {α : Type} (f : α → Nat) : ∀ l : List α, (l.map fun x => ((f x : Nat) : Int) + 2).sum = (((l.map fun x => f x + 2).sum : Nat) : Int)
  | [] => rfl
  | a :: l => by
    rw [List.map_cons, List.sum_cons, sum_cast f l, List.map_cons, List.sum_cons]; omega
theorem falls_is {dS : Nat → Str} {oc : Nat → List Int} {n : Nat} (H : Parts dS oc n) : ∀ i, i < n → fallsTo (fun k => ((qS dS oc n k).length : Int)) (rowSum (rowS dS oc) n) i = (st (fun j => (dS j).length) n i : Int)
  | 0, _ => rfl
  | i + 1, h => by
    show fallsTo _ _ i + _ - _ = ((st _ n i + sf _ n (i + 1) : Nat) : Int)
    rw [falls_is H i (by omega)]
    have h1 := qS_len H (i + 1)
    rw [sum_add] at h1
    have h2 : rowSum (rowS dS oc) n (i + 1) = (((List.range (n - (i + 1))).map fun j => (rowS dS oc (i + 1 + j)).length + 2).sum : Nat) := by
      unfold rowSum
      rw [← sum_cast]
    dsimp only
    rw [h1, h2]
    unfold sf
    dsimp only
    omega
theorem falls_maj {wd : List Int} {oc : Nat → List Int} {n : Nat} (H : Parts (dotS wd) oc n) (hn : 0 < n) : fallsTo (fun k => ((qS (dotS wd) oc n k).length : Int)) (rowSum (rowS (dotS wd) oc) n) (n - 1) = (majOf (fun o => wd.getD o.toNat 0) n : Int) := by
  rw [falls_is H _ (by omega), maj_st]
end
section
abbrev wAt (wd : List Int) : Int → Int := fun o => wd.getD o.toNat 0
section
variable {wd : List Int} {os : List Int} {n : Nat} (hp : os.Perm (upTo n)) (hs : os.Pairwise (fun x y => wd.getD x.toNat 0 < wd.getD y.toNat 0 ∨ (wd.getD x.toNat 0 = wd.getD y.toNat 0 ∧ x < y)))
include hp hs
theorem sortR_os : sortR (wAt wd) (imageOf (wAt wd) n) = os := by
  have I := image_is (wAt wd) n
  exact lex_uniq ((sortR_perm _ _).trans (I.perm.trans hp.symm)) (sortR_lex _ I.keep) hs
theorem sortL_os : sortL (wAt wd) (imageOf (wAt wd) n) = os := by
  have I := image_is (wAt wd) n
  exact lex_uniq ((sortL_perm _ _).trans (I.perm.trans hp.symm)) (sortL_lex _ I.keep) hs
end
theorem movR_maj (wd : List Int) (n : Nat) : movR (wAt wd) (imageOf (wAt wd) n) = (majOf (wAt wd) n : Int) := by rw [movR_inv, (image_is (wAt wd) n).inv]
theorem movL_maj (wd : List Int) (n : Nat) : movL (wAt wd) (imageOf (wAt wd) n) = (majOf (wAt wd) n : Int) := by rw [movL_inv, (image_is (wAt wd) n).inv]
theorem movR_maj' (wd : List Int) (n : Nat) : movR id ((imageOf (wAt wd) n).map (wAt wd)) = (majOf (wAt wd) n : Int) := by rw [movR_inv, inv_map, (image_is (wAt wd) n).inv]
theorem movL_maj' (wd : List Int) (n : Nat) : movL id ((imageOf (wAt wd) n).map (wAt wd)) = (majOf (wAt wd) n : Int) := by rw [movL_inv, inv_map, (image_is (wAt wd) n).inv]
theorem look_in {wd : List Int} {x : Int} (h0 : 0 ≤ x) (h1 : x < wd.length) : lookAt (wd ++ [262144, 0]) x = wAt wd x := by
  unfold lookAt wAt
  rw [List.getD_eq_getElem?_getD, List.getD_eq_getElem?_getD, List.getElem?_append_left (by omega)]
theorem look_map {wd l : List Int} (h : ∀ x ∈ l, 0 ≤ x ∧ x < (wd.length : Int)) : l.map (lookAt (wd ++ [262144, 0])) = l.map (wAt wd) := List.map_congr_left fun x hx => look_in (h x hx).1 (h x hx).2
theorem whole_in {wd : List Int} {x : Int} (h0 : 0 ≤ x) (h1 : x < wd.length) : wholeAt wd x = wAt wd x := look_in h0 h1
theorem KeyOk.weak {w : World} {q : Addr} {val val' : Int → Int} {dom dom' : Int → Prop} {need : List (Addr × Obj)} (K : KeyOk w q val dom need) (h : ∀ j, dom' j → dom j ∧ val j = val' j) : KeyOk w q val' dom' need := by
  unfold KeyOk at K ⊢
  intro mean mg mb dp un gd cn cs a ccd cl outer A₀ base h₀ L m s Q E news B F X N T hk hneed j t hj hd hu hret
  refine K mean mg mb dp un gd cn cs a ccd cl outer A₀ base h₀ L m s Q E news B F X N T hk hneed j t (h j hj).1 hd hu fun t' h' tk' F' N' => ?_
  rw [(h j hj).2]; exact hret t' h' tk' F' N'
theorem Octs.parts {x : Int} {ns : List Int} (h : Octs x ns) : ns ≠ [] ∧ (∀ o ∈ ns, 128 ≤ o ∧ o ≤ 255) ∧ ns.length ≤ 5 := by
  obtain ⟨⟨pre, last, rfl, hb, h1, h2, _, hl⟩⟩ := h
  refine ⟨by simp, fun o ho => ?_, by rw [List.length_append, List.length_singleton]; omega⟩
  rcases List.mem_append.mp ho with q | q
  · have := hb o q; omega
  · rw [List.mem_singleton] at q; omega
theorem rows_oc {n : Nat} {val : Int → Int} {refs : List Value} {rowsL : List (Addr × Obj)} (h : Rows n val refs rowsL) :
    ∃ oc : Nat → List Int, ∀ i, i < n → (∃ (r : Addr) (vs : List Value) (k : Nat), refs[i]? = some (.ref r) ∧ (r, listOf vs.toArray k) ∈ rowsL ∧ IntsAre vs (oc i)) ∧ oc i ≠ [] ∧ (∀ o ∈ oc i, 128 ≤ o ∧ o ≤ 255) ∧ (oc i).length ≤ 5 := by
  have key : ∀ i : Nat, ∃ ns : List Int, i < n → (∃ (r : Addr) (vs : List Value) (k : Nat), refs[i]? = some (.ref r) ∧ (r, listOf vs.toArray k) ∈ rowsL ∧ IntsAre vs ns) ∧ ns ≠ [] ∧ (∀ o ∈ ns, 128 ≤ o ∧ o ≤ 255) ∧ ns.length ≤ 5 := by
    intro i
    by_cases hi : i < n
    · obtain ⟨r, vs, ns, k, e1, e2, e3, e4⟩ := h.2 i hi
      exact ⟨ns, fun _ => ⟨⟨r, vs, k, e1, e2, e3⟩, e4.parts⟩⟩
    · exact ⟨[], fun q => absurd q hi⟩
  exact Classical.axiomOfChoice key
theorem dotS_or (wd : List Int) (j : Nat) : dotS wd j = Str.ofString "." ∨ dotS wd j = Str.ofString "" := by
  unfold dotS
  split
  · exact .inl rfl
  · exact .inr rfl
theorem wordOf_len (sc : List Int) : 6 ≤ (wordOf sc).length ∧ (wordOf sc).length ≤ 10 := by
  unfold wordOf
  rw [List.length_append, List.length_map, List.length_take]
  simp only [List.length_cons, List.length_nil]
  omega
theorem wordOf_bd (sc : List Int) : ∀ x ∈ wordOf sc, 0 ≤ x ∧ x < 262144 := by
  intro x hx
  rcases List.mem_append.mp hx with q | q
  · obtain ⟨y, _, rfl⟩ := List.mem_map.mp q
    rw [Int.fmod_eq_emod_of_nonneg _ (by decide)]
    omega
  · simp only [List.mem_cons, List.not_mem_nil, or_false] at q
    omega
end
section
theorem nextDrop {b x : List Stmt} {i j k : Nat} (e : b.drop i = x) (h : i + j = k) : b.drop k = x.drop j := by subst e; subst h; rw [List.drop_drop]
set_option maxRecDepth 100000 in
theorem readLam_some (p : Params) : ∃ a b c, readLam p = some (a, b, c) := by with_unfolding_all exact ⟨_, _, _, rfl⟩
set_option maxRecDepth 100000 in
theorem ordLam_some (p : Params) : ∃ a b c, ordLam p = some (a, b, c) := by with_unfolding_all exact ⟨_, _, _, rfl⟩
theorem Rows.mono {n : Nat} {val : Int → Int} {refs : List Value} {l l' : List (Addr × Obj)} (h : Rows n val refs l) (hs : ∀ p ∈ l, p ∈ l') : Rows n val refs l' :=
  ⟨h.1, fun i hi => by obtain ⟨r, vs, ns, k, e1, e2, e3, e4⟩ := h.2 i hi; exact ⟨r, vs, ns, k, e1, hs _ e2, e3, e4⟩⟩
theorem mem_flip {α : Type} {A B C R : List α} {p : α} (h : p ∈ A ++ (B ++ (C ++ R))) : p ∈ A ++ (C ++ (B ++ R)) := by
  simp only [List.mem_append] at h ⊢
  rcases h with h | h | h | h
  · exact .inl h
  · exact .inr (.inr (.inl h))
  · exact .inr (.inl h)
  · exact .inr (.inr (.inr h))
theorem mem_rot {α : Type} {A B C R : List α} {p : α} (h : p ∈ A ++ (B ++ (C ++ R))) : p ∈ C ++ (A ++ (B ++ R)) := by
  simp only [List.mem_append] at h ⊢
  rcases h with h | h | h | h
  · exact .inr (.inl h)
  · exact .inr (.inr (.inl h))
  · exact .inl h
  · exact .inr (.inr (.inr h))
theorem toCells {h₀ h : Heap} {L f c' D WH WD c8 c7 c6 c5 c4 c3 c2 c1 : Addr} {of oc' oD oWH oWD o8 o7 o6 o5 o4 o3 o2 o1 oT : Obj} {rowsL : List (Addr × Obj)}
    (N : News h₀ L h ((f, of) :: (c', oc') :: (D, oD) :: (WH, oWH) :: (WD, oWD) :: (c8, o8) :: (c7, o7) :: (c6, o6) :: (c5, o5) :: (c4, o4) :: (c3, o3) :: (c2, o2) :: (c1, o1) :: (121, oT) :: rowsL)) :
    News h₀ L h (cellsL c8 c7 c6 c5 c4 c3 c2 c1 o8 o7 o6 o5 o4 o3 o2 o1 ((121, oT) :: (f, of) :: (c', oc') :: (D, oD) :: (WH, oWH) :: (WD, oWD) :: rowsL)) := fun p hp => N p (by
  have h1 : p ∈ cellsL c8 c7 c6 c5 c4 c3 c2 c1 o8 o7 o6 o5 o4 o3 o2 o1 [] ++ ([(121, oT)] ++ ([(f, of), (c', oc'), (D, oD), (WH, oWH), (WD, oWD)] ++ rowsL)) := hp
  show p ∈ [(f, of), (c', oc'), (D, oD), (WH, oWH), (WD, oWD)] ++ (cellsL c8 c7 c6 c5 c4 c3 c2 c1 o8 o7 o6 o5 o4 o3 o2 o1 [] ++ ([(121, oT)] ++ rowsL))
  exact mem_rot h1)
theorem ne_base {f c' D WH WD c : Addr} {of oc' oD oWH oWD oT : Obj} {rowsL : List (Addr × Obj)} (h1 : @LT.lt Nat _ 121 c) (h2 : @LT.lt Nat _ c WD) (h3 : @LT.lt Nat _ WD WH) (h4 : @LT.lt Nat _ WH c') (h5 : @LT.lt Nat _ c' f) (h6 : @Ne Nat c D) (h7 : ∀ p ∈ rowsL, @LT.lt Nat _ WH p.1) :
    ∀ p ∈ (121, oT) :: (f, of) :: (c', oc') :: (D, oD) :: (WH, oWH) :: (WD, oWD) :: rowsL, p.1 ≠ c := by
  intro p hp
  simp only [List.mem_cons] at hp
  rcases hp with rfl | rfl | rfl | rfl | rfl | rfl | hp
  · exact Nat.ne_of_lt h1
  · exact Nat.ne_of_gt (by omega : @LT.lt Nat _ c f)
  · exact Nat.ne_of_gt (by omega : @LT.lt Nat _ c c')
  · exact Ne.symm h6
  · exact Nat.ne_of_gt (by omega : @LT.lt Nat _ c WH)
  · exact Nat.ne_of_gt h2
  · exact Nat.ne_of_gt (Nat.lt_trans (by omega : @LT.lt Nat _ c WH) (h7 p hp))
theorem reorderN {h₀ h : Heap} {L : Addr} {c8 c7 c6 c5 c4 c3 c2 c1 : Addr} {o8 o7 o6 o5 o4 o3 o2 o1 : Obj} {x0 x1 x2 x3 x4 x5 x6 x7 x8 y : Addr × Obj} {Rb : List (Addr × Obj)}
    (N : News h₀ L h (cellsL c8 c7 c6 c5 c4 c3 c2 c1 o8 o7 o6 o5 o4 o3 o2 o1 (x0 :: x1 :: x2 :: x3 :: x4 :: x5 :: x6 :: x7 :: x8 :: y :: Rb))) :
    News h₀ L h (cellsL c8 c7 c6 c5 c4 c3 c2 c1 o8 o7 o6 o5 o4 o3 o2 o1 (y :: x0 :: x1 :: x2 :: x3 :: x4 :: x5 :: x6 :: x7 :: x8 :: Rb)) := fun p hp => N p (by
  have h1 : p ∈ cellsL c8 c7 c6 c5 c4 c3 c2 c1 o8 o7 o6 o5 o4 o3 o2 o1 [] ++ ([y] ++ ([x0, x1, x2, x3, x4, x5, x6, x7, x8] ++ Rb)) := hp
  show p ∈ cellsL c8 c7 c6 c5 c4 c3 c2 c1 o8 o7 o6 o5 o4 o3 o2 o1 [] ++ ([x0, x1, x2, x3, x4, x5, x6, x7, x8] ++ ([y] ++ Rb))
  exact mem_flip h1)
theorem map_ends (f : Int → Int) (a b : Int) (l : List Int) : ([a] ++ (l ++ [b])).map f = [f a] ++ (l.map f ++ [f b]) := by simp
theorem ends_bd {wd l : List Int} (h : ∀ x ∈ l, 0 ≤ x ∧ x < (wd.length : Int)) : ∀ x ∈ [(wd.length : Int)] ++ (l ++ [(wd.length : Int) + 1]), 0 ≤ x ∧ x < ((wd ++ [262144, 0]).length : Int) := by
  intro x hx
  rw [List.length_append]
  simp only [List.length_cons, List.length_nil]
  simp only [List.mem_append, List.mem_singleton] at hx
  rcases hx with rfl | hx | rfl
  · omega
  · have := h x hx; omega
  · omega
theorem cells_skip2 {c8 c7 c6 c5 c4 c3 c2 c1 : Addr} {o8 o7 o6 o5 o4 o3 o2 o1 : Obj} {R : List (Addr × Obj)} {a b p : Addr × Obj} (h : p ∈ cellsL c8 c7 c6 c5 c4 c3 c2 c1 o8 o7 o6 o5 o4 o3 o2 o1 R) : p ∈ cellsL c8 c7 c6 c5 c4 c3 c2 c1 o8 o7 o6 o5 o4 o3 o2 o1 (a :: b :: R) := by
  have h1 : p ∈ cellsL c8 c7 c6 c5 c4 c3 c2 c1 o8 o7 o6 o5 o4 o3 o2 o1 [] ++ R := h
  show p ∈ cellsL c8 c7 c6 c5 c4 c3 c2 c1 o8 o7 o6 o5 o4 o3 o2 o1 [] ++ (a :: b :: R)
  exact (List.mem_append.mp h1).elim (List.mem_append_left _) fun q => List.mem_append_right _ (.tail _ (.tail _ q))
theorem qS_cap {dS : Nat → Str} {oc : Nat → List Int} {n : Nat} (H : Parts dS oc n) (hn : n ≤ 10) (k : Nat) : (qS dS oc n k).length ≤ 100000 := by
  rw [qS_len H]
  have := sum_cap H (f := fun j => (dS (k + j)).length + ((rowS dS oc (k + j)).length + 2)) (b := 10) (l := List.range (n - k)) fun j hj => by
    have hj' := List.mem_range.mp hj
    have h1 := rowS_len H (j := k + j) (by omega)
    have h2 := dS_len H (k + j)
    omega
  rw [List.length_range] at this
  omega
section
variable {w : World} {mean : ExcName → Option Value} {mg mb : Str → Option Value}
  {dp un : Nat} {gd : Option (List Code)} {fa : Addr} {outer : List Env} {A₀ : Around} {base h₀ : Heap} {L : Addr} {m : Str → Option Value} {s : Shared} {Q : Flow → Shared → Prop} {E : Value → Shared → Prop}
  {c1 c2 c3 c4 c5 c6 c7 c8 scr : Addr} {o1 o2 o3 o4 o5 o6 o7 o8 : Obj} {sc : List Int} {vs : List Value}
local macro_rules | `(tactic| walk_at "mem") => `(tactic| first | exact List.mem_cons_self | assumption | (refine List.mem_cons_of_mem _ ?_; walk_at "mem"))
theorem setup39 : True := by
  k_with_none
  exact True.intro
set_option maxHeartbeats 4000000 in
theorem law_all (B : Below A₀ base outer h₀) (F : Fr h₀ L s.heap m) (X : (hd.heap_39 w.params).In h₀) (T : TopM mean mg mb h₀) (hC : CodeHd h₀ 123 121)
    (N : News h₀ L s.heap [(c8, o8), (c7, o7), (c6, o6), (c5, o5), (c4, o4), (c3, o3), (c2, o2), (c1, o1), (121, tabObj #[])])
    (hc : @LT.lt Nat _ 121 c1 ∧ @LT.lt Nat _ c1 c2 ∧ @LT.lt Nat _ c2 c3 ∧ @LT.lt Nat _ c3 c4 ∧ @LT.lt Nat _ c4 c5 ∧ @LT.lt Nat _ c5 c6 ∧ @LT.lt Nat _ c6 c7 ∧ @LT.lt Nat _ c7 c8)
    (d1 : o1.data = .cell none) (d2 : o2.data = .cell none) (d3 : o3.data = .cell none) (d4 : o4.data = .cell none) (d5 : o5.data = .cell none) (d6 : o6.data = .cell none) (d7 : o7.data = .cell none) (d8 : o8.data = .cell none)
    (hl : h₀.IsList scr vs.toArray) (hI : IntsAre vs sc) (h63 : sc.length ≤ 63) (hm : m "script" = some (.ref scr))
    (hd : dp + 64 < recursionLimit) (hu : un + 512 < cLine)
    (hE : PassesOwn (model (RowW.prog (OpenRow.toRowW (OpenLaw.row PySem.Challenge.rw_sn0020_01))) w) (ktrTop dp un gd "law" (lawScope w.params) L fa (.ref 123) (lawCl c1 c2 c3 c4 c5 c6 c7 c8) outer) (envX "law" (lawScope w.params) L fa (.ref 123) (lawCl c1 c2 c3 c4 c5 c6 c7 c8)) E)
    (hret : ∀ (h' : Heap) (tk' : Nat) (m' : Str → Option Value) (ps : Array Value), Fr h₀ L h' m' → News h₀ L h' [(121, tabObj ps)] → Q (.ret (.bool true)) { s with heap := h', toks := tk' }) :
    wpAny (model (RowW.prog (OpenRow.toRowW (OpenLaw.row PySem.Challenge.rw_sn0020_01))) w) (ktrTop dp un gd "law" (lawScope w.params) L fa (.ref 123) (lawCl c1 c2 c3 c4 c5 c6 c7 c8) outer) (execs (bodyAt w.params 124) (envX "law" (lawScope w.params) L fa (.ref 123) (lawCl c1 c2 c3 c4 c5 c6 c7 c8))) Q E s := by
  generalize hsc : lawScope w.params = scope at *
  generalize hb0 : bodyAt w.params 124 = b at *
  have e0 : (bodyAt w.params 124).drop 0 = b := hb0
  have e3 := nextDrop (k := 3) (j := 3) e0 rfl
  have e5 := nextDrop (k := 5) (j := 2) e3 rfl
  have e6 := nextDrop (k := 6) (j := 1) e5 rfl
  have e7 := nextDrop (k := 7) (j := 1) e6 rfl
  have e8 := nextDrop (k := 8) (j := 1) e7 rfl
  have e9 := nextDrop (k := 9) (j := 1) e8 rfl
  have e10 := nextDrop (k := 10) (j := 1) e9 rfl
  have e11 := nextDrop (k := 11) (j := 1) e10 rfl
  have e12 := nextDrop (k := 12) (j := 1) e11 rfl
  have e14 := nextDrop (k := 14) (j := 2) e12 rfl
  have e16 := nextDrop (k := 16) (j := 2) e14 rfl
  have e18 := nextDrop (k := 18) (j := 2) e16 rfl
  have e19 := nextDrop (k := 19) (j := 1) e18 rfl
  have e20 := nextDrop (k := 20) (j := 1) e19 rfl
  have e21 := nextDrop (k := 21) (j := 1) e20 rfl
  obtain ⟨pr, lb, ls, hlam⟩ := readLam_some w.params
  obtain ⟨pr2, lb2, ls2, hlam2⟩ := ordLam_some w.params
  refine law_A B F X T hC N hc d1 d2 d3 d4 d5 d6 d7 d8 hl hI h63 hm hsc hb0 hd hu ?_
  intro WD WH wv hv o1' o2' o8' t1 m1 h1 tk1 F1 N1 d8' d2' d1' lWD lWH iW iH
  obtain ⟨hn6, hn10⟩ := wordOf_len sc
  have hwb := wordOf_bd sc
  generalize wordOf sc = wd at *
  clear F N hl hI hm d1 d2 d8
  refine law_B B F1 X T hC N1 ⟨hc.1, hc.2.1, hc.2.2.1, hc.2.2.2.1, hc.2.2.2.2.1, hc.2.2.2.2.2.1, hc.2.2.2.2.2.2.1, hc.2.2.2.2.2.2.2, lWD, lWH⟩ d1' d2' d3 d7 iH hwb hn10 hsc e3 hd hu hlam ?_
  intro f c' D oc' o7' o3' fvs tq qual pmv ctv refs k0 rowsL ps m2 h2 tk2 F2 N2 hoc1 hoc2 d7' d3' hrows hps hrl hlt hlt2 hneD
  obtain ⟨nD1, nD2, nD3, nD4, nD5, nD6, nD7, nD8, nD9, nD10, nD11, offD⟩ := hneD
  have hWHc : @LT.lt Nat _ WH c' := hlt _ (.tail _ (.head _))
  have hrows' : Rows (wd.length + 2) (fun j => (wd ++ [262144, 0]).getD j.toNat 0) refs ((c7, o7') :: (f, kla_obj "<lambda>" qual pr lb ls [("octets", c7)] pmv c' ctv) :: (c', oc') :: (D, listOf refs.toArray k0) :: (WH, listOf hv.toArray 0) :: (WD, listOf wv.toArray 0) :: rowsL) := hrows.mono fun p hp => .tail _ (.tail _ (.tail _ (.tail _ (.tail _ (.tail _ hp)))))
  have K := read_ok (need := (c7, o7') :: (f, kla_obj "<lambda>" qual pr lb ls [("octets", c7)] pmv c' ctv) :: (c', oc') :: (D, listOf refs.toArray k0) :: (WH, listOf hv.toArray 0) :: (WD, listOf wv.toArray 0) :: rowsL) hlam (n := wd.length + 2) (by omega) (by walk_at "mem") (by walk_at "mem") hoc1 hoc2 (by walk_at "mem") d7' (by walk_at "mem") hrows'
  have N3 := toCells N2
  obtain ⟨oc, hoc⟩ := rows_oc hrows
  have hrefl : refs.length = wd.length + 2 := hrows.1
  have hne4 := ne_base (oT := tabObj ps) (of := kla_obj "<lambda>" qual pr lb ls [("octets", c7)] pmv c' ctv) (oc' := oc') (oD := listOf refs.toArray k0) (oWH := listOf hv.toArray 0) (oWD := listOf wv.toArray 0) (c := c4) (by omega) (by omega) lWH hWHc hlt2 nD7 hrl
  have hne5 := ne_base (oT := tabObj ps) (of := kla_obj "<lambda>" qual pr lb ls [("octets", c7)] pmv c' ctv) (oc' := oc') (oD := listOf refs.toArray k0) (oWH := listOf hv.toArray 0) (oWD := listOf wv.toArray 0) (c := c5) (by omega) (by omega) lWH hWHc hlt2 nD6 hrl
  have hne6 := ne_base (oT := tabObj ps) (of := kla_obj "<lambda>" qual pr lb ls [("octets", c7)] pmv c' ctv) (oc' := oc') (oD := listOf refs.toArray k0) (oWH := listOf hv.toArray 0) (oWD := listOf wv.toArray 0) (c := c6) (by omega) (by omega) lWH hWHc hlt2 nD5 hrl
  have h121b : ∀ p ∈ (f, kla_obj "<lambda>" qual pr lb ls [("octets", c7)] pmv c' ctv) :: (c', oc') :: (D, listOf refs.toArray k0) :: (WH, listOf hv.toArray 0) :: (WD, listOf wv.toArray 0) :: rowsL, p.1 ≠ 121 := by
    intro p hp
    simp only [List.mem_cons] at hp
    rcases hp with rfl | rfl | rfl | rfl | rfl | hp
    · exact Nat.ne_of_gt (by omega : @LT.lt Nat _ 121 f)
    · exact Nat.ne_of_gt (by omega : @LT.lt Nat _ 121 c')
    · exact Ne.symm nD11
    · exact Nat.ne_of_gt (by omega : @LT.lt Nat _ 121 WH)
    · exact Nat.ne_of_gt (by omega : @LT.lt Nat _ 121 WD)
    · exact Nat.ne_of_gt (Nat.lt_trans (by omega : @LT.lt Nat _ 121 WH) (hrl p hp))
  have mf : (f, kla_obj "<lambda>" qual pr lb ls [("octets", c7)] pmv c' ctv) ∈ (f, kla_obj "<lambda>" qual pr lb ls [("octets", c7)] pmv c' ctv) :: (c', oc') :: (D, listOf refs.toArray k0) :: (WH, listOf hv.toArray 0) :: (WD, listOf wv.toArray 0) :: rowsL := .head _
  have mD : (D, listOf refs.toArray k0) ∈ (f, kla_obj "<lambda>" qual pr lb ls [("octets", c7)] pmv c' ctv) :: (c', oc') :: (D, listOf refs.toArray k0) :: (WH, listOf hv.toArray 0) :: (WD, listOf wv.toArray 0) :: rowsL := .tail _ (.tail _ (.head _))
  have mWH : (WH, listOf hv.toArray 0) ∈ (f, kla_obj "<lambda>" qual pr lb ls [("octets", c7)] pmv c' ctv) :: (c', oc') :: (D, listOf refs.toArray k0) :: (WH, listOf hv.toArray 0) :: (WD, listOf wv.toArray 0) :: rowsL := .tail _ (.tail _ (.tail _ (.head _)))
  have mWD : (WD, listOf wv.toArray 0) ∈ (f, kla_obj "<lambda>" qual pr lb ls [("octets", c7)] pmv c' ctv) :: (c', oc') :: (D, listOf refs.toArray k0) :: (WH, listOf hv.toArray 0) :: (WD, listOf wv.toArray 0) :: rowsL := .tail _ (.tail _ (.tail _ (.tail _ (.head _))))
  have mrows : ∀ p ∈ rowsL, p ∈ (f, kla_obj "<lambda>" qual pr lb ls [("octets", c7)] pmv c' ctv) :: (c', oc') :: (D, listOf refs.toArray k0) :: (WH, listOf hv.toArray 0) :: (WD, listOf wv.toArray 0) :: rowsL := fun p hp => .tail _ (.tail _ (.tail _ (.tail _ (.tail _ hp))))
  have hneed : ∀ p ∈ (c7, o7') :: (f, kla_obj "<lambda>" qual pr lb ls [("octets", c7)] pmv c' ctv) :: (c', oc') :: (D, listOf refs.toArray k0) :: (WH, listOf hv.toArray 0) :: (WD, listOf wv.toArray 0) :: rowsL, p = (c7, o7') ∨ p ∈ (f, kla_obj "<lambda>" qual pr lb ls [("octets", c7)] pmv c' ctv) :: (c', oc') :: (D, listOf refs.toArray k0) :: (WH, listOf hv.toArray 0) :: (WD, listOf wv.toArray 0) :: rowsL := fun p hp => List.mem_cons.mp hp
  clear N1 N2 F1
  generalize hRb : (f, kla_obj "<lambda>" qual pr lb ls [("octets", c7)] pmv c' ctv) :: (c', oc') :: (D, listOf refs.toArray k0) :: (WH, listOf hv.toArray 0) :: (WD, listOf wv.toArray 0) :: rowsL = Rb at *
  have H : Parts (dotS wd) oc wd.length := ⟨dotS_or wd, fun j hj => (hoc j (by omega)).2.1, fun j hj => (hoc j (by omega)).2.2.1, fun j hj => (hoc j (by omega)).2.2.2⟩
  have hn0 : 0 < wd.length := by omega
  refine law_C B F2 X T hC N3 d1' d2' d3' (.tail _ mWH) (.tail _ mf) iH hn10 K (fun p hp => (hneed p hp).imp id (.tail _)) hsc e5 hd hu ?_
  intro h4 tk4 F4 N4
  clear F2 N3
  refine law_D B F4 X T hC N4 hc hne4 d1' d8' d4 (.tail _ mWD) iW hn10 hsc e6 hd hu ?_
  intro DD o4' dv h5 tk5 F5 N5 d4' idv nDD
  clear F4 N4
  have hR5 : ∀ p ∈ (DD, LCg.lst dv) :: (121, tabObj ps) :: Rb, p.1 ≠ c5 := List.forall_mem_cons.mpr ⟨Ne.symm (nDD (c5, o5) (by walk_at "mem")), hne5⟩
  refine law_E B F5 X T hC N5 hc hR5 d1' d4' d7' d5 List.mem_cons_self (.tail _ (.tail _ mD)) idv (dS_len H) hrefl (fun i hi => by obtain ⟨r, vs', k', q1, q2, q3⟩ := (hoc i hi).1; exact ⟨r, vs', k', q1, .tail _ (.tail _ (mrows _ q2)), q3⟩) (fun i hi => ⟨by have := (hoc i hi).2.2.2; omega, fun o ho => by have := (hoc i hi).2.2.1 o ho; omega⟩) hn10 hsc e7 hd hu ?_
  intro DR o5' rv h6 tk6 F6 N6 d5' irv nDR
  clear F5 N5
  have hR6 : ∀ p ∈ (DR, LCg.lst rv) :: (DD, LCg.lst dv) :: (121, tabObj ps) :: Rb, p.1 ≠ c6 := List.forall_mem_cons.mpr ⟨Ne.symm (nDR (c6, o6) (by walk_at "mem")), List.forall_mem_cons.mpr ⟨Ne.symm (nDD (c6, o6) (by walk_at "mem")), hne6⟩⟩
  refine law_F B F6 X T hC N6 hc hsc e8 hd hu hR6 d6 ?_
  intro DE o6' ev ke h7 tk7 F7 N7 d6' iev nDE
  clear F6 N6
  refine law_G B F7 X T hC N7 hc hsc e9 hd hu d1' d5' d6' (.tail _ (.head _)) (.head _) irv iev (fun i hi => rowS_len H hi) hn10 ?_
  intro TL tv u8 h8 tk8 F8 N8 itv nTL
  clear F7 N7
  refine law_H B F8 X T hC N8 hc hsc e10 hd hu d1' d5' d4' (.tail _ (.tail _ (.head _))) (.tail _ (.tail _ (.tail _ (.head _)))) irv idv (fun i hi => rowS_len H hi) (dS_len H) hn10 (sentJ_len H hn10) ?_
  intro t9 u9 h9 tk9 F9 N9
  clear F8 N8
  refine law_I B F9 X T hC N9 hc hsc e11 hd hu (.head _) itv hn0 (tailS_len H hn10 0) (sent_eq H) ?_
  intro h10 tk10 F10 N10
  clear F9 N9
  refine law_J B F10 X T hC N10 hc hsc e12 hd hu d1' d5' (.head _) itv hn0 hn10 (fun k hk => tailS_len H hn10 k) (.tail _ (.tail _ (.head _))) irv (fun i hi => rowS_len H hi) (qS := qS (dotS wd) oc wd.length) (fun k hk => ⟨rfl, qS_cap H hn10 k⟩) hE ?_
  intro t11 u11 h11 tk11 F11 N11
  clear F10 N10
  rw [falls_maj H hn0] at F11
  refine law_K B F11 X T hC N11 hc hsc e14 hd hu d1' d8' (.tail _ (.tail _ (.tail _ (.tail _ (.tail _ mWD))))) iW hn10 ?_
  intro FR RE fv rv' kf kr u12 h12 tk12 F12 N12 ifv irv' lFR lRE lFRE
  clear F11 N11
  have I := image_is (wAt wd) wd.length
  have hib := imageOf_bound (wAt wd) wd.length
  have hil := imageOf_length (wAt wd) wd.length
  change IntsAre fv ([(wd.length : Int)] ++ (imageOf (wAt wd) wd.length ++ [(wd.length : Int) + 1])) at ifv
  change IntsAre rv' ([(wd.length : Int)] ++ (imageOf (wAt wd) wd.length ++ [(wd.length : Int) + 1])) at irv'
  refine law_L B F12 X T hC N12 hc hsc e16 hd hu d2' (.tail _ (.tail _ (.tail _ (.tail _ (.tail _ (.tail _ (.tail _ mWH))))))) iH (.tail _ (.head _)) ifv (by simp only [List.length_append, List.length_cons, List.length_nil]; omega) (ends_bd hib) (by simp only [List.length_append, List.length_cons, List.length_nil]; omega) ?_
  intro PL BA pv bv kp kb u13 h13 tk13 F13 N13 ipv ibv nPL nBA nPB
  clear F12 N12
  rw [map_ends, look_map hib] at ipv ibv
  generalize hla : lookAt (wd ++ [262144, 0]) (wd.length : Int) = la at ipv ibv
  generalize hlb : lookAt (wd ++ [262144, 0]) ((wd.length : Int) + 1) = lb' at ipv ibv
  have nFR : ∀ p ∈ cellsL c8 c7 c6 c5 c4 c3 c2 c1 o8' o7' o6' o5' o4' o3' o2' o1' ((TL, LCg.lst tv) :: (DE, listOf ev.toArray ke) :: (DR, LCg.lst rv) :: (DD, LCg.lst dv) :: (121, tabObj ps) :: Rb), @Ne Nat p.1 FR := fun p hp => Nat.ne_of_lt (lFR p hp)
  have nRE : ∀ p ∈ cellsL c8 c7 c6 c5 c4 c3 c2 c1 o8' o7' o6' o5' o4' o3' o2' o1' ((TL, LCg.lst tv) :: (DE, listOf ev.toArray ke) :: (DR, LCg.lst rv) :: (DD, LCg.lst dv) :: (121, tabObj ps) :: Rb), @Ne Nat p.1 RE := fun p hp => Nat.ne_of_lt (lRE p hp)
  refine law_M B F13 X T hC N13 hc hsc e18 hd hu rfl d3' (.tail _ (.tail _ (.tail _ (.tail _ (.tail _ mf))))) (K.weak (val' := wAt wd) (dom' := fun j => 0 ≤ j ∧ j < (wd.length : Int)) fun j hj => ⟨⟨hj.1, by omega⟩, whole_in hj.1 hj.2⟩) (fun p hp => (hneed p hp).imp id fun q => .tail _ (.tail _ (.tail _ (.tail _ (.tail _ q))))) hib (by omega) (by rw [List.length_map]; omega) ifv irv' ipv ibv nFR nRE (fun p hp => nPL p (cells_skip2 hp)) (fun p hp => nBA p (cells_skip2 hp)) ⟨Nat.ne_of_lt lFRE, nPL (FR, _) (cells_sub (.tail _ (.head _))), nBA (FR, _) (cells_sub (.tail _ (.head _))), nPL (RE, _) (cells_sub (.head _)), nBA (RE, _) (cells_sub (.head _)), nPB⟩ ?_
  intro MO mv fv' rv'' pv' bv' km kf' kr' kp' kb' u14 h14 tk14 F14 N14 imv ifv' irv'' ipv' ibv' nMO
  clear F13 N13
  rw [movR_maj, movL_maj, movR_maj', movL_maj'] at imv
  rw [sortR_map] at ipv'
  rw [sortL_map] at ibv'
  have N15 := reorderN N14
  clear N14
  have h121 : ∀ p ∈ (MO, listOf mv.toArray km) :: (BA, listOf bv'.toArray kb') :: (PL, listOf pv'.toArray kp') :: (RE, listOf rv''.toArray kr') :: (FR, listOf fv'.toArray kf') :: (TL, LCg.lst tv) :: (DE, listOf ev.toArray ke) :: (DR, LCg.lst rv) :: (DD, LCg.lst dv) :: Rb, p.1 ≠ 121 := by
    refine List.forall_mem_cons.mpr ⟨?_, List.forall_mem_cons.mpr ⟨?_, List.forall_mem_cons.mpr ⟨?_, List.forall_mem_cons.mpr ⟨?_, List.forall_mem_cons.mpr ⟨?_, List.forall_mem_cons.mpr ⟨?_, List.forall_mem_cons.mpr ⟨?_, List.forall_mem_cons.mpr ⟨?_, List.forall_mem_cons.mpr ⟨?_, h121b⟩⟩⟩⟩⟩⟩⟩⟩⟩
    · exact Ne.symm (nMO (121, tabObj ps) (.tail _ (.tail _ (.tail _ (.tail _ (.head _))))))
    · exact Ne.symm (nBA (121, tabObj ps) (cells_sub (.tail _ (.tail _ (.tail _ (.tail _ (.tail _ (.tail _ (.head _)))))))))
    · exact Ne.symm (nPL (121, tabObj ps) (cells_sub (.tail _ (.tail _ (.tail _ (.tail _ (.tail _ (.tail _ (.head _)))))))))
    · exact Ne.symm (nRE (121, tabObj ps) (cells_sub (.tail _ (.tail _ (.tail _ (.tail _ (.head _)))))))
    · exact Ne.symm (nFR (121, tabObj ps) (cells_sub (.tail _ (.tail _ (.tail _ (.tail _ (.head _)))))))
    · exact Ne.symm (nTL (121, tabObj ps) (cells_sub (.tail _ (.tail _ (.tail _ (.head _))))))
    · exact Nat.ne_of_gt (nDE (121, tabObj ps) (cells_sub (.tail _ (.tail _ (.head _)))))
    · exact Ne.symm (nDR (121, tabObj ps) (cells_sub (.tail _ (.head _))))
    · exact Ne.symm (nDD (121, tabObj ps) (cells_sub (.head _)))
  refine law_N B F14 X T hC N15 hc hsc e19 hd hu rfl h121 d1' d8' (.tail _ (.tail _ (.tail _ (.tail _ (.tail _ (.tail _ (.tail _ (.tail _ (.tail _ mWD))))))))) iW rfl hn10 hps hlam2 ?_
  intro OR ov os ko ps' u15 h15 tk15 F15 N16 iov hp hs
  clear F14 N15
  have hos : ∀ x ∈ os, 0 ≤ x ∧ x < (wd.length : Int) := fun x hx => upTo_mem (hp.mem_iff.mp hx)
  have hol : os.length = wd.length := by rw [hp.length_eq, upTo, List.length_map, List.length_range]
  rw [sortR_os hp hs] at ifv' ipv'
  rw [sortL_os hp hs] at irv'' ibv'
  refine law_O B F15 X T hC N16 hc hsc e20 hd hu d2' (.tail _ (.tail _ (.tail _ (.tail _ (.tail _ (.tail _ (.tail _ (.tail _ (.tail _ (.tail _ (.tail _ mWH))))))))))) iH (.head _) iov (by simp only [List.length_append, List.length_cons, List.length_nil]; omega) (ends_bd hos) (by simp only [List.length_append, List.length_cons, List.length_nil]; omega) ?_
  intro LI lv u16 h16 tk16 F16 N17 ilv
  clear F15 N16
  rw [map_ends, look_map hos, hla, hlb] at ilv
  refine law_P B F16 X T hC N17 hc hsc e21 hd hu (.tail _ (.tail _ (.tail _ (.head _)))) (.tail _ (.tail _ (.tail _ (.tail _ (.tail _ (.tail _ (.tail _ (.head _)))))))) (.tail _ (.tail _ (.tail _ (.tail _ (.tail _ (.tail _ (.head _))))))) (.tail _ (.tail _ (.tail _ (.tail _ (.tail _ (.head _)))))) (.tail _ (.tail _ (.tail _ (.tail _ (.head _))))) (.tail _ (.head _)) (.head _) imv ifv' irv'' ipv' ibv' iov ilv ?_
  intro h17 tk17 m17 F17 N18
  exact hret h17 tk17 m17 ps' F17 (List.forall_mem_cons.mpr ⟨N18 _ (cells_sub (.tail _ (.tail _ (.head _)))), List.forall_mem_nil _⟩)
end
end
section
theorem setup40 : True := by
  k_with_none
  exact True.intro
set_option maxHeartbeats 4000000 in
set_option maxRecDepth 100000 in
theorem main0 : PySem.Challenge.rw_sn0020_01.Holds := hd (by
  k_go0
  all_goals (try k_fold)
  (with_reducible rename Below _ _ _ _ => B0); (with_reducible rename Fr _ _ _ _ => F0); (with_reducible rename News _ _ _ _ => N0); (with_reducible rename CodeHd _ _ _ => C0); (with_reducible rename IntsAre _ _ => I0)
  (rename Frag.In _ _ => X0); (rename Top _ _ _ _ _ _ => T0); (rename Heap.IsList _ _ _ => L0)
  rename (¬ (_ < _)) => h63
  rename_i l0
  with_unfolding_all refine law_all B0 F0 X0 T0 C0 N0 ?hc ?d1 ?d2 ?d3 ?d4 ?d5 ?d6 ?d7 ?d8 L0 I0 ?h63 ?hm ?hd ?hu ?hE ?hret
  case hc => refine ⟨?_, ?_, ?_, ?_, ?_, ?_, ?_, ?_⟩ <;> omega
  case d1 => with_unfolding_all assumption
  case d2 => with_unfolding_all assumption
  case d3 => with_unfolding_all assumption
  case d4 => with_unfolding_all assumption
  case d5 => with_unfolding_all assumption
  case d6 => with_unfolding_all assumption
  case d7 => with_unfolding_all assumption
  case d8 => with_unfolding_all assumption
  case h63 => omega
  case hm => with_unfolding_all rfl
  case hd => with_unfolding_all decide
  case hu => with_unfolding_all decide
  case hE => passes_own
  case hret =>
    intro h' tk' m' ps F' N'
    k_steps)
end
end Mine
theorem PySem.Challenge.cw_sn0020_01_holds : PySem.Challenge.rw_sn0020_01.Holds := by
  exact Mine.main0
