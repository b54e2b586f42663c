import PyProof.Rows.All
import Wide.All
import OpenK.AllK
import Wide.FinOn
import Lean
import PySem.Challenge.RW_gq5009_01
open PySem PySem.W PyProof.Rows
set_option Elab.async false
set_option maxRecDepth 100000
set_option linter.unusedVariables false

/-! The law of _substitution_cost: the cheapest pairing. 1: the head. 2: rules for lists of lists on the ledger and the loops. 3: a contract of each def (by its walk). 4: the plain law. 5: the law's own walk. -/
namespace Mine

section
set_option maxHeartbeats 8000000
open_top hd for PySem.Challenge.rw_gq5009_01
end

section
/-- a list of lists of ints, borne by the ledger -/
inductive RowsIn (news : List (Addr × Obj)) : List Value → List (List Int) → Prop
  | nil : RowsIn news [] []
  | cons {r : Addr} {ws vs : List Value} {n : Nat} {ns : List Int} {rows : List (List Int)} : (r, listOf ws.toArray n) ∈ news → IntsAre ws ns → RowsIn news vs rows → RowsIn news (.ref r :: vs) (ns :: rows)

theorem RowsIn.mono {news news' : List (Addr × Obj)} (hs : ∀ p ∈ news, p ∈ news') {vs : List Value} {rows : List (List Int)} (h : RowsIn news vs rows) : RowsIn news' vs rows := by
  induction h with
  | nil => exact .nil
  | cons hm hi _ ih => exact .cons (hs _ hm) hi ih
theorem RowsIn.length {news : List (Addr × Obj)} {vs : List Value} {rows : List (List Int)} (h : RowsIn news vs rows) : vs.length = rows.length := by
  induction h with
  | nil => rfl
  | cons _ _ _ ih => simp only [List.length_cons, ih]
theorem RowsIn.snoc {news : List (Addr × Obj)} {vs : List Value} {rows : List (List Int)} (h : RowsIn news vs rows) {r : Addr} {ws : List Value} {n : Nat} {ns : List Int} (hm : (r, listOf ws.toArray n) ∈ news) (hi : IntsAre ws ns) :
    RowsIn news (vs ++ [.ref r]) (rows ++ [ns]) := by
  induction h with
  | nil => exact .cons hm hi .nil
  | cons hm' hi' _ ih => exact .cons hm' hi' ih
theorem RowsIn.get {news : List (Addr × Obj)} {vs : List Value} {rows : List (List Int)} (h : RowsIn news vs rows) {k : Nat} (hk : k < rows.length) :
    ∃ r ws n, vs[k]? = some (.ref r) ∧ (r, listOf ws.toArray n) ∈ news ∧ IntsAre ws (rows.getD k []) := by
  induction h generalizing k with
  | nil => exact absurd hk (Nat.not_lt_zero _)
  | @cons r ws _ n _ _ hm hi _ ih =>
    cases k with
    | zero => exact ⟨r, ws, n, rfl, hm, hi⟩
    | succ k =>
      obtain ⟨r', ws', n', h1, h2, h3⟩ := ih (Nat.lt_of_succ_lt_succ hk)
      exact ⟨r', ws', n', h1, h2, h3⟩

section
variable {prog : Program} {w : World} {A : Around} {E : Value → Shared → Prop} {s : Shared} {h₀ : Heap} {L l b : Addr} {m : Str → Option Value} {news : List (Addr × Obj)}
theorem isL {h : Heap} {us : List Value} {n : Nat} (N : News h₀ L h news) (hm : (l, listOf us.toArray n) ∈ news) : h.IsList l us.toArray := ⟨_, (N _ hm).1, rfl, n, rfl⟩

theorem rows_len {news' : List (Addr × Obj)} {us : List Value} {rows : List (List Int)} {n : Nat} {Q : Value → Shared → Prop} (N : News h₀ L s.heap news) (hm : (l, listOf us.toArray n) ∈ news) (hd : RowsIn news' us rows) (hfit : rows.length ≤ 5)
    (h : Q (.int (rows.length : Int) (s.toks + 1)) { s with toks := s.toks + 1 + 1 }) : wpAny (model prog w) A (call (.builtin "len") [.ref l]) Q E s := by
  have e : us.toArray.size = rows.length := by rw [List.size_toArray, hd.length]
  exact PyProof.Rows.len_list (isL N hm) (by rw [e]; omega) (by rw [e]; exact h)

theorem rows_item {value slice : PySem.Expr} {news' : List (Addr × Obj)} {us : List Value} {rows : List (List Int)} {n k : Nat} {u : Tok} {Q : Value → Shared → Prop} (N : News h₀ L s.heap news) (hm : (l, listOf us.toArray n) ∈ news) (hd : RowsIn news' us rows)
    (h1 : k < rows.length) (hfit : rows.length ≤ 5) (h : ∀ r ws n', (r, listOf ws.toArray n') ∈ news' → IntsAre ws (rows.getD k []) → Q (.ref r) s)
    (hs : subscripted slice false (.ref l) (.int (k : Int) u) = operate [.ref l, .int (k : Int) u] (getItem (.ref l) (.int (k : Int) u)) := by with_unfolding_all rfl)
    (hg : ∀ r, letTemporaryGo value (.ref l) r = pure () := by intro _; with_unfolding_all rfl) :
    wpAny (model prog w) A (subscriptTail value slice (.ref l) (.int (k : Int) u)) Q E s := by
  obtain ⟨r, ws, n', hv, hr, hi⟩ := hd.get h1
  exact item_list (isL N hm) (by omega) (by omega) (x := .ref r) (by simpa using hv) (h r ws n' hr hi) hs hg

theorem rows_add {us vs : List Value} {n n' : Nat} {ns ms : List Int} {Q : Value → Shared → Prop} (F : Fr h₀ L s.heap m) (N : News h₀ L s.heap news) (hl : (l, listOf us.toArray n) ∈ news) (hb : (b, listOf vs.toArray n') ∈ news) (hi : IntsAre us ns) (hj : IntsAre vs ms)
    (hlen : ns.length + ms.length ≤ 64)
    (h : ∀ h', Fr h₀ L h' m → News h₀ L h' ((s.heap.objs.size, listOf (us ++ vs).toArray 0) :: news) → IntsAre (us ++ vs) (ns ++ ms) → Q (.ref s.heap.objs.size) { s with heap := h' }) :
    wpAny (model prog w) A (binaryOp .Add (.ref l) (.ref b)) Q E s :=
  add_lists_ints (hsz := by rw [PySem.sizeLine_eq]; omega) (vs := us) (ws := vs) F N (isL N hl) (isL N hb) hi hj h
end

/-- the best so far: None, or an int -/
inductive BV : Value → Option Int → Prop
  | none : BV Value.none Option.none
  | some (b : Int) (t : Tok) : BV (Value.int b t) (Option.some b)

section
variable {prog : Program} {w : World} {A : Around} {E : Value → Shared → Prop} {s : Shared} {env : Env} {h₀ : Heap} {x : Str} {body : List Stmt} {Q : Flow → Shared → Prop}

theorem rng_inv {r : Addr} {t₀ u₀ v₀ : Tok} {n : Nat} {m₀ : Str → Option Value} {news : List (Addr × Obj)} (J : Nat → (Str → Option Value) → Prop)
    (hh : A.handled = none) (hr : IsRange s.heap r 0 (n : Int) 1 t₀ u₀ v₀) (hn : n ≤ 5) (F : Fr h₀ env.locals s.heap m₀) (N : News h₀ env.locals s.heap news) (hj : J 0 m₀)
    (turn : ∀ (k : Nat) t m₁ h tk own, k < n → J k m₁ → Fr h₀ env.locals h (fun y => if y = x then some (.int (k : Int) t) else m₁ y) → News h₀ env.locals h (own ++ news) →
      wpAny (model prog w) A (execs body env) (InvPost h₀ env.locals (J (k + 1)) (own ++ news) { s with heap := h, toks := tk } Q) E { s with heap := h, toks := tk })
    (done : ∀ m₁ h tk, J n m₁ → Fr h₀ env.locals h m₁ → News h₀ env.locals h news → Q .next { s with heap := h, toks := tk }) :
    wpAny (model prog w) A (pyIter (.ref r)) (fun it s₂ => LoopAtV prog w A h₀ env x body Q E it s₂) E s := by
  refine wpAny_pyIter_range hr (small_one (by omega) (by omega) (by omega) (by omega)) ?_
  have W : Walks prog w A s.heap.objs.size [s.heap.objs.size] [s.heap.objs.size] n (fun i v => i < n ∧ ∃ t, v = .int (0 + i * 1) t)
      (fun i h => IsRangeIter h s.heap.objs.size (0 + (i : Nat) * 1) ((n : Int) - (i : Nat)) 1) := (Walks.range hh _ 0 1 n).bound
  have hsz : Builtin.Range.rangeSize 0 (n : Int) 1 = (n : Int) := by
    have e := rangeSize_nat 0 (n : Int)
    rw [e]; omega
  refine ⟨_, _, _, n, _, _, m₀, news, (fun i m nx => nx = news ∧ J i m), rfl, W, ?_, ?_, ?_, ?_, F.push _, (fun p hp => ⟨Heap.get?_push_of_some _ (N p hp).1, (N p hp).2⟩), ⟨rfl, hj⟩, ?_, ?_⟩
  · intro hm
    exact absurd F.ns.lt ((List.mem_singleton.mp hm) ▸ Nat.lt_irrefl _)
  · intro b hb
    rw [List.mem_singleton.mp hb]
    exact next_is_new F
  · intro p hp hI
    exact absurd (Heap.lt_size (N p hp).1) ((List.mem_singleton.mp hI) ▸ Nat.lt_irrefl _)
  · show IsRangeIter _ _ _ _ _
    rw [hsz]; simpa using Heap.get?_push_size _ rfl
  · rintro i v m₁ news₁ s₁ own ⟨hh', tk', rfl⟩ hin ⟨_, t, rfl⟩ ⟨rfl, hJ⟩ hoff _ _ _ _ F₁ N₁
    have e1 : (0 : Int) + (i : Int) * 1 = (i : Int) := by omega
    rw [e1] at F₁
    refine wpAny_mono (turn i t m₁ hh' tk' own hin hJ F₁ N₁) (fun f s₂ p => ?_) fun _ _ e => e
    have fin : InvEnd h₀ env.locals (J (i + 1)) (own ++ news₁) { s with heap := hh', toks := tk' } s₂ →
        LoopStepU h₀ env.locals [s.heap.objs.size] own (fun m nx => nx = news₁ ∧ J (i + 1) m) { s with heap := hh', toks := tk' } .next s₂ := by
      rintro ⟨h', tk, m', news', e, F', N', hn', hm⟩
      exact ⟨rfl, h', tk, m', news₁, e, F', fun p hp => N' p (hn' p hp), hoff, rfl, hm⟩
    cases f with
    | ret v => exact .ret p
    | brk => exact .brk p
    | next => exact .next (fin p)
    | cont => exact .cont (fin p)
  · rintro h' tk m' news' F' N' _ ⟨rfl, hJ⟩
    exact done m' h' tk hJ F' N'

/-- the loop of the search: one name holds the best so far, one is a temporary -/
theorem best_loop {r : Addr} {t₀ u₀ v₀ : Tok} {n : Nat} {m₀ : Str → Option Value} {news : List (Addr × Obj)} {y z : Str} (g : Nat → Option Int) (hyx : y ≠ x) (hzx : z ≠ x) (hzy : z ≠ y)
    (hh : A.handled = none) (hr : IsRange s.heap r 0 (n : Int) 1 t₀ u₀ v₀) (hn : n ≤ 5) (F : Fr h₀ env.locals s.heap m₀) (N : News h₀ env.locals s.heap news) (hb : m₀ y = some .none) (h0 : g 0 = none)
    (turn : ∀ (k : Nat) t v u h tk own, k < n → BV v (g k) → Fr h₀ env.locals h (fun q => if q = x then some (.int (k : Int) t) else if q = y then some v else if q = z then u else m₀ q) → News h₀ env.locals h (own ++ news) →
      wpAny (model prog w) A (execs body env) (InvPost h₀ env.locals (fun m' => (∃ v', m' y = some v' ∧ BV v' (g (k + 1))) ∧ ∀ q, q ≠ x → q ≠ y → q ≠ z → m' q = m₀ q) (own ++ news) { s with heap := h, toks := tk } Q) E { s with heap := h, toks := tk })
    (done : ∀ v u₁ u₂ h tk, BV v (g n) → Fr h₀ env.locals h (fun q => if q = x then u₁ else if q = y then some v else if q = z then u₂ else m₀ q) → News h₀ env.locals h news → Q .next { s with heap := h, toks := tk }) :
    wpAny (model prog w) A (pyIter (.ref r)) (fun it s₂ => LoopAtV prog w A h₀ env x body Q E it s₂) E s := by
  refine rng_inv (fun i m => (∃ v', m y = some v' ∧ BV v' (g i)) ∧ ∀ q, q ≠ x → q ≠ y → q ≠ z → m q = m₀ q) hh hr hn F N ⟨⟨_, hb, by rw [h0]; exact .none⟩, fun _ _ _ _ => rfl⟩ ?_ ?_
  · rintro k t m₁ h tk own hk ⟨⟨v, hv, hB⟩, hm⟩ F₁ N₁
    have e : (fun q => if q = x then some (Value.int (k : Int) t) else m₁ q) = fun q => if q = x then some (Value.int (k : Int) t) else if q = y then some v else if q = z then m₁ z else m₀ q := by
      funext q
      by_cases h1 : q = x
      · simp [h1]
      · simp only [if_neg h1]
        by_cases h2 : q = y
        · simp [h2, hv]
        · simp only [if_neg h2]
          by_cases h3 : q = z
          · simp [h3]
          · simp only [if_neg h3]; exact hm q h1 h2 h3
    rw [e] at F₁
    exact turn k t v _ h tk own hk hB F₁ N₁
  · rintro m₁ h tk ⟨⟨v, hv, hB⟩, hm⟩ F₁ N₁
    refine done v (m₁ x) (m₁ z) h tk hB ?_ N₁
    have e : (fun q => if q = x then m₁ x else if q = y then some v else if q = z then m₁ z else m₀ q) = m₁ := by
      funext q
      by_cases h1 : q = x
      · simp [h1]
      · simp only [if_neg h1]
        by_cases h2 : q = y
        · simp [h2, hv]
        · simp only [if_neg h2]
          by_cases h3 : q = z
          · simp [h3]
          · simp only [if_neg h3]; exact (hm q h1 h2 h3).symm
    rw [e]; exact F₁
end
end

section
def pick : Option Int → Int → Option Int
  | none, c => some c
  | some b, c => if c < b then some c else some b

def stepB (rows : List (List Int)) (row : Nat) (next : List Int → Int) (used : List Int) (b : Option Int) (k : Nat) : Option Int :=
  if (k : Int) ∈ used then b else pick b ((rows.getD row []).getD k 0 + next (used ++ [(k : Int)]))

noncomputable def bestUpTo (rows : List (List Int)) (row : Nat) (next : List Int → Int) (used : List Int) : Nat → Option Int
  | 0 => none
  | k + 1 => stepB rows row next used (bestUpTo rows row next used k) k

noncomputable def least (rows : List (List Int)) : Nat → List Int → Int
  | 0, _ => 0
  | j + 1, used => (bestUpTo rows (rows.length - (j + 1)) (least rows j) used rows.length).getD 0

structure LD where
  rows : List (List Int)
  row : Nat
  used : List Int

abbrev leastT : ToldN LD where
  Rel := fun news vs d => ∃ T U vT nT vU nU tk, vs = [.ref T, .int (d.row : Int) tk, .ref U] ∧ (T, listOf vT.toArray nT) ∈ news ∧ RowsIn news vT d.rows ∧ (U, listOf vU.toArray nU) ∈ news ∧ IntsAre vU d.used
  Ok := fun d => d.rows.length ≤ 5 ∧ d.row ≤ d.rows.length ∧ d.used.length = d.row ∧ ∀ r ∈ d.rows, r.length = d.rows.length
  size := fun d => d.rows.length - d.row + 1
  Tl := fun tl => tl = []
  Out := fun _ r d => ∃ tk, r = .int (least d.rows (d.rows.length - d.row) d.used) tk

structure Word (g : Nat → Option Int) : Prop where
  mark : True

theorem mem_sub {p : Addr × Obj} {l l' : List (Addr × Obj)} (h : p ∈ l) (s : ∀ q ∈ l, q ∈ l') : p ∈ l' := s p h

section
variable {prog : Program} {w : World} {A : Around} {E : Value → Shared → Prop} {s : Shared} {env : Env} {h₀ : Heap} {x : Str} {body : List Stmt} {Q : Flow → Shared → Prop}
theorem best_loopW {g : Nat → Option Int} (hW0 : Word g) {r : Addr} {t₀ u₀ v₀ : Tok} {n : Nat} {m₀ : Str → Option Value} {news : List (Addr × Obj)} {y z : Str} (hyx : y ≠ x) (hzx : z ≠ x) (hzy : z ≠ y)
    (hh : A.handled = none) (hr : IsRange s.heap r 0 (n : Int) 1 t₀ u₀ v₀) (hn : n ≤ 5) (F : Fr h₀ env.locals s.heap m₀) (N : News h₀ env.locals s.heap news) (hb : m₀ y = some .none) (h0 : g 0 = none)
    (turn : ∀ (k : Nat) t v u h tk own, k < n → BV v (g k) → Fr h₀ env.locals h (fun q => if q = x then some (.int (k : Int) t) else if q = y then some v else if q = z then u else m₀ q) → News h₀ env.locals h (own ++ news) →
      wpAny (model prog w) A (execs body env) (InvPost h₀ env.locals (fun m' => (∃ v', m' y = some v' ∧ BV v' (g (k + 1))) ∧ ∀ q, q ≠ x → q ≠ y → q ≠ z → m' q = m₀ q) (own ++ news) { s with heap := h, toks := tk } Q) E { s with heap := h, toks := tk })
    (done : ∀ v u₁ u₂ h tk, BV v (g n) → Fr h₀ env.locals h (fun q => if q = x then u₁ else if q = y then some v else if q = z then u₂ else m₀ q) → News h₀ env.locals h news → Q .next { s with heap := h, toks := tk }) :
    wpAny (model prog w) A (pyIter (.ref r)) (fun it s₂ => LoopAtV prog w A h₀ env x body Q E it s₂) E s :=
  best_loop g hyx hzx hzy hh hr hn F N hb h0 turn done
end


theorem BV.split {v : Value} {o : Option Int} (h : BV v o) : (v = Value.none ∧ o = Option.none) ∨ ∃ b t, v = Value.int b t ∧ o = Option.some b := by
  cases h with
  | none => exact .inl ⟨rfl, rfl⟩
  | some b t => exact .inr ⟨b, t, rfl, rfl⟩

section
variable {prog : Program} {w : World} {A : Around} {E : Value → Shared → Prop} {s : Shared} {h₀ : Heap} {L l : Addr} {m : Str → Option Value} {news : List (Addr × Obj)}
theorem used_notin {us : List Value} {ns : List Int} {n : Nat} {k : Int} {t : Tok} {Q : Value → Shared → Prop} (N : News h₀ L s.heap news) (hm : (l, listOf us.toArray n) ∈ news) (hi : IntsAre us ns)
    (h : Q (.bool (!decide (k ∈ ns))) s) : wpAny (model prog w) A (compareOp .NotIn (.int k t) (.ref l)) Q E s := by
  refine notin_list_ints (isL N hm) hi ?_
  have e : ns.any (· == k) = decide (k ∈ ns) := by
    rw [Bool.eq_iff_iff, List.any_eq_true, decide_eq_true_eq]
    constructor
    · rintro ⟨x, hx, e⟩; rw [← beq_iff_eq.mp e]; exact hx
    · intro h; exact ⟨k, h, beq_self_eq_true k⟩
  rw [e]; exact h
theorem rows_cell {value slice : PySem.Expr} {ws : List Value} {rows : List (List Int)} {row k n : Nat} {u : Tok} {Q : Value → Shared → Prop} (N : News h₀ L s.heap news) (hm : (l, listOf ws.toArray n) ∈ news) (hi : IntsAre ws (rows.getD row []))
    (ok1 : rows.length ≤ 5) (ok4 : ∀ r ∈ rows, r.length = rows.length) (hrow : row < rows.length) (hk : k < rows.length) (h : ∀ t, Q (.int ((rows.getD row []).getD k 0) t) s)
    (hs : subscripted slice false (.ref l) (.int (k : Int) u) = operate [.ref l, .int (k : Int) u] (getItem (.ref l) (.int (k : Int) u)) := by with_unfolding_all rfl)
    (hg : ∀ r, letTemporaryGo value (.ref l) r = pure () := by intro _; with_unfolding_all rfl) :
    wpAny (model prog w) A (subscriptTail value slice (.ref l) (.int (k : Int) u)) Q E s := by
  have e : (rows.getD row []).length = rows.length := by
    refine ok4 _ ?_
    rw [List.getD_eq_getElem?_getD, List.getElem?_eq_getElem hrow]
    exact List.getElem_mem hrow
  exact item_list_ints (isL N hm) hi (by omega) (by omega) (by omega) (fun t => h t) hs hg
end

def Rec (prog : Program) (w : World) (K : Frag) (p : Program) (loose : List Str) (mean : ExcName → Option Value) (mg mb : Str → Option Value) (rows : List (List Int)) (row : Nat) (used : List Int) : Prop :=
  ∀ d' : LD, leastT.size d' < leastT.size ⟨rows, row, used⟩ → TellsN prog w K p loose mean mg mb 29 leastT d'

section
variable {prog : Program} {w : World} {K : Frag} {p : Program} {loose : List Str} {mean : ExcName → Option Value} {mg mb : Str → Option Value}
theorem least_call {rows : List (List Int)} {row : Nat} {used used' : List Int} (R : Rec prog w K p loose mean mg mb rows row used)
    {dp un : Nat} {gd : Option (List Code)} {cn : Str} {cs : Scope} {a : Addr} {ccd : Value} {cl : List (Str × Addr)} {outer : List Env} {A₀ : Around} {base h₀ : Heap} {L : Addr} {m : Str → Option Value} {news news₀ : List (Addr × Obj)} {s : Shared}
    {Q E : Value → Shared → Prop} {T U : Addr} {vT vU : List Value} {nT nU : Nat} {i : Int} {tk : Tok} (B : Below A₀ base outer h₀) (F : Fr h₀ L s.heap m) (X : K.In h₀) (N : News h₀ L s.heap news) (Tp : Top p loose mean mg mb h₀) (hk : cs.kind = .function)
    (hT : (T, listOf vT.toArray nT) ∈ news) (hr : RowsIn news₀ vT rows) (hs : ∀ q ∈ news₀, q ∈ news) (hU : (U, listOf vU.toArray nU) ∈ news) (hu : IntsAre vU used') (hi : i = ((row + 1 : Nat) : Int)) (hul : used'.length = row + 1)
    (ok1 : rows.length ≤ 5) (ok4 : ∀ r ∈ rows, r.length = rows.length) (hrow : row < rows.length)
    (hd : dp + (rows.length - row) < recursionLimit) (hun : un + 8 * (rows.length - row) < cLine)
    (ret : ∀ tk h' tk', Fr h₀ L h' m → News h₀ L h' news → Q (.int (least rows (rows.length - (row + 1)) used') tk) { s with heap := h', toks := tk' }) :
    wpAny (model prog w) (ktrTop dp un gd cn cs L a ccd cl outer) (call (.ref 29) [.ref T, .int i tk, .ref U]) Q E s := by
  subst hi
  refine tellsN_use (c := leastT) (d := ⟨rows, row + 1, used'⟩) B F X N Tp hk ?_ (R ⟨rows, row + 1, used'⟩ ?_) ?_ ?_ ?_ ?_
  · exact ⟨T, U, vT, nT, vU, nU, tk, rfl, hT, hr.mono hs, hU, hu⟩
  · show rows.length - (row + 1) + 1 < rows.length - row + 1; omega
  · exact ⟨ok1, by show row + 1 ≤ rows.length; omega, hul, ok4⟩
  · show dp + (rows.length - (row + 1) + 1) < recursionLimit; have e : rows.length - (row + 1) + 1 = rows.length - row := by omega
    rw [e]; exact hd
  · show un + 8 * (rows.length - (row + 1) + 1) < cLine; have e : rows.length - (row + 1) + 1 = rows.length - row := by omega
    rw [e]; exact hun
  · rintro r tl h' tk' F' N' _ rfl ⟨t, rfl⟩
    rw [List.append_nil] at N'
    exact ret t h' tk' F' N'
end

section
variable {rows : List (List Int)} {row k : Nat} {next : List Int → Int} {used : List Int} {b : Int} {t : Tok}
theorem bv_skip0 (hg : bestUpTo rows row next used k = none) (hk : (k : Int) ∈ used) : BV Value.none (bestUpTo rows row next used (k + 1)) := by
  have e : bestUpTo rows row next used (k + 1) = none := by rw [bestUpTo, stepB, if_pos hk, hg]
  rw [e]; exact .none
theorem bv_skip1 (hg : bestUpTo rows row next used k = some b) (hk : (k : Int) ∈ used) : BV (Value.int b t) (bestUpTo rows row next used (k + 1)) := by
  have e : bestUpTo rows row next used (k + 1) = some b := by rw [bestUpTo, stepB, if_pos hk, hg]
  rw [e]; exact .some b t
theorem bv_new (hg : bestUpTo rows row next used k = none) (hk : ¬ (k : Int) ∈ used) : BV (Value.int ((rows.getD row []).getD k 0 + next (used ++ [(k : Int)])) t) (bestUpTo rows row next used (k + 1)) := by
  have e : bestUpTo rows row next used (k + 1) = some ((rows.getD row []).getD k 0 + next (used ++ [(k : Int)])) := by rw [bestUpTo, stepB, if_neg hk, hg, pick]
  rw [e]; exact .some _ t
theorem bv_less (hg : bestUpTo rows row next used k = some b) (hk : ¬ (k : Int) ∈ used) (hl : (rows.getD row []).getD k 0 + next (used ++ [(k : Int)]) < b) :
    BV (Value.int ((rows.getD row []).getD k 0 + next (used ++ [(k : Int)])) t) (bestUpTo rows row next used (k + 1)) := by
  have e : bestUpTo rows row next used (k + 1) = some ((rows.getD row []).getD k 0 + next (used ++ [(k : Int)])) := by rw [bestUpTo, stepB, if_neg hk, hg, pick, if_pos hl]
  rw [e]; exact .some _ t
theorem bv_keep (hg : bestUpTo rows row next used k = some b) (hk : ¬ (k : Int) ∈ used) (hl : ¬ (rows.getD row []).getD k 0 + next (used ++ [(k : Int)]) < b) :
    BV (Value.int b t) (bestUpTo rows row next used (k + 1)) := by
  have e : bestUpTo rows row next used (k + 1) = some b := by rw [bestUpTo, stepB, if_neg hk, hg, pick, if_neg hl]
  rw [e]; exact .some _ t
end

/-- a place that is free makes a best -/
theorem best_some {rows : List (List Int)} {row : Nat} {next : List Int → Int} {used : List Int} : ∀ {n k : Nat}, k < n → ¬ (k : Int) ∈ used → (bestUpTo rows row next used n).isSome = true
  | n + 1, k, hk, hu => by
    rw [bestUpTo, stepB]
    by_cases h : (n : Int) ∈ used
    · rw [if_pos h]
      refine best_some (k := k) ?_ hu
      rcases Nat.lt_or_eq_of_le (Nat.le_of_lt_succ hk) with h1 | h1
      · exact h1
      · subst h1; exact absurd h hu
    · rw [if_neg h]
      cases bestUpTo rows row next used n with
      | none => rfl
      | some b => simp only [pick]; split <;> rfl

theorem free_place : ∀ (n : Nat) (used : List Int), used.length < n → ∃ k : Nat, k < n ∧ ¬ (k : Int) ∈ used
  | 0, _, h => absurd h (Nat.not_lt_zero _)
  | n + 1, used, h => by
    by_cases hn : (n : Int) ∈ used
    · obtain ⟨k, hk, hu⟩ := free_place n (used.filter (· != (n : Int))) (by
        have h1 : (used.filter (· != (n : Int))).length < used.length := by
          refine Nat.lt_of_le_of_ne (List.length_filter_le _ _) fun e => ?_
          have h2 := (List.length_filter_eq_length_iff.mp e) _ hn
          simp at h2
        omega)
      refine ⟨k, by omega, fun hm => hu ?_⟩
      rw [List.mem_filter]
      refine ⟨hm, ?_⟩
      have : (k : Int) ≠ (n : Int) := by omega
      simpa using this
    · exact ⟨n, by omega, hn⟩

theorem base_int {rows : List (List Int)} {row : Nat} {used : List Int} {tk : Tok} (h : row = rows.length) : ∃ tk', Value.int 0 tk = .int (least rows (rows.length - row) used) tk' := by
  have e : rows.length - row = 0 := by omega
  rw [e]; exact ⟨tk, rfl⟩
theorem best_int {rows : List (List Int)} {row : Nat} {used : List Int} {v : Value} (h1 : row < rows.length) (h2 : used.length = row)
    (h : BV v (bestUpTo rows row (least rows (rows.length - (row + 1))) used rows.length)) : ∃ tk, v = .int (least rows (rows.length - row) used) tk := by
  obtain ⟨k, hk, hu⟩ := free_place rows.length used (by omega)
  have hs := best_some (rows := rows) (row := row) (next := least rows (rows.length - (row + 1))) hk hu
  have e1 : rows.length - row = (rows.length - (row + 1)) + 1 := by omega
  have e2 : rows.length - (rows.length - (row + 1) + 1) = row := by omega
  rw [e1, least, e2]
  rcases BV.split h with ⟨_, e⟩ | ⟨b, t, rfl, e⟩
  · rw [e] at hs; cases hs
  · rw [e]; exact ⟨t, rfl⟩

local macro_rules | `(tactic| walk_at "call builtin:len") => `(tactic| (k_here; (with_reducible show wpAny _ _ (call (Value.builtin "len") [Value.ref _]) _ _ _); k_dflt (refine' rows_len ?k1 ?k2 ?k3 ?k4 ?_; (case k1 => k_asm); (case k2 => kcf_m); (case k3 => assumption); (case k4 => assumption))))
local macro_rules | `(tactic| walk_at "exec For Name Call cons nil") => `(tactic| (k_here; (rename Fr _ _ _ _ => lF'); (with_unfolding_all refine' For_invVF lF' ?k1 ?k2 ?_; (case k1 => exact rfl); (case k2 => exact rfl); k_whole)))
local macro_rules | `(tactic| walk_at "pyIter ref") => `(tactic| (
  k_here
  (with_reducible show wpAny _ _ (pyIter (Value.ref _)) (fun it s₂ => LoopAtV _ _ _ _ _ _ _ _ _ it s₂) _ _)
  (rename Fr _ _ _ _ => lF')
  (rename News _ _ _ _ => lN')
  (rename IsRange _ _ _ _ _ _ _ _ => rgX)
  (rename Word _ => wX)
  (with_unfolding_all refine' best_loopW wX (y := Str.ofString "best") (z := Str.ofString "cost") ?d1 ?d2 ?d3 (by rfl) rgX ?n lF' lN' (by rfl) ?g0 (fun k' t' v' u' h' tk' own' hk' hB' F' N' => ?_) (fun v' u1' u2' h' tk' hB' F' N' => ?_))
  (case d1 => k_dflt decide)
  (case d2 => k_dflt decide)
  (case d3 => k_dflt decide)
  (case n => k_asm)
  (case g0 => k_dflt (exact rfl))
  (all_goals (try clear lF' lN'))
  (focus (rcases BV.split hB' with ⟨hv', hg'⟩ | ⟨b', t9', hv', hg'⟩ <;> subst hv'))
  (all_goals (try k_fold))))
local macro_rules | `(tactic| walk_at "compareOp NotIn int ref") => `(tactic| (k_here; (with_reducible show wpAny _ _ (compareOp CmpOp.NotIn (Value.int _ _) (Value.ref _)) _ _ _); k_dflt (refine' used_notin ?k1 ?k2 ?k3 ?_; (case k1 => k_asm); (case k2 => kcf_m); (case k3 => assumption))))
local macro_rules | `(tactic| walk_at "subscriptTail Name Name ref int") => `(tactic| (k_here; (with_reducible show wpAny _ _ (subscriptTail _ _ (Value.ref _) (Value.int _ _)) _ _ _); k_dflt (refine' rows_item ?k1 ?k2 ?k3 ?k4 ?k5 ?_; (case k1 => k_asm); (case k2 => kcf_m); (case k3 => assumption); (case k4 => omega); (case k5 => assumption)); intro r' ws' n' hr' hi'))
local macro_rules | `(tactic| walk_at "subscriptTail Name Name ref int") => `(tactic| (k_here; (with_reducible show wpAny _ _ (subscriptTail _ _ (Value.ref _) (Value.int _ _)) _ _ _); k_dflt (refine' rows_cell ?k1 ?k2 ?k3 ?k4 ?k5 ?k6 ?k7 ?_; (case k1 => k_asm); (case k2 => kcf_m); (case k3 => assumption); (case k4 => assumption); (case k5 => assumption); (case k6 => omega); (case k7 => assumption)); intro t'))
local macro_rules | `(tactic| walk_at "binaryOp Add ref ref") => `(tactic| (k_here; (with_reducible show wpAny _ _ (binaryOp Operator.Add (Value.ref _) (Value.ref _)) _ _ _); k_dflt (refine' rows_add ?k1 ?k2 ?k3 ?k4 ?k5 ?k6 ?k7 ?_; (case k1 => k_asm); (case k2 => k_asm); (case k3 => kcf_m); (case k4 => kcf_m); (case k5 => assumption); (case k6 => exact IntsAre.cons _ _ .nil); (case k7 => (simp only [List.length_cons, List.length_nil]; omega))); intro h' F' N' hA'))
local macro_rules | `(tactic| walk_at "call ref") => `(tactic| (
  k_here
  (with_reducible show wpAny _ _ (call (Value.ref _) [Value.ref _, Value.int _ _, Value.ref _]) _ _ _)
  (rename Rec _ _ _ _ _ _ _ _ _ _ _ => rX)
  k_dflt (refine' least_call rX ?k1 ?k2 ?k3 ?k4 ?k5 ?k6 ?k7 ?k8 ?k9 ?k10 ?k11 ?k12 ?k13 ?k14 ?k15 ?k16 ?k17 ?k18 ?_)
  (case k1 => k_asm)
  (case k2 => k_asm)
  (case k3 => k_asm)
  (case k4 => k_asm)
  (case k5 => k_asm)
  (case k6 => k_dflt (exact rfl))
  (case k7 => kcf_m)
  (case k8 => assumption)
  (case k9 => (intro q9 hq9; first | exact hq9 | (simp only [List.mem_append, List.mem_cons]; simp only [hq9, or_true, true_or])))
  (case k10 => kcf_m)
  (case k11 => assumption)
  (case k12 => omega)
  (case k13 => (simp only [List.length_append, List.length_cons, List.length_nil]; omega))
  (case k14 => assumption)
  (case k15 => assumption)
  (case k16 => omega)
  (case k17 => first | ktr_room | skip)
  (case k18 => first | ktr_units | skip)
  (intro tk' h' tk'' F' N')))

set_option maxHeartbeats 8000000 in
theorem least_tells (w : World) (mean : ExcName → Option Value) (mg mb : Str → Option Value) : ∀ d, TellsN PySem.Challenge.rw_gq5009_01.row.prog w (hd.heap_39 w.params) hd.view_39 (looseW hd.view_39 []) mean mg mb 29 leastT d := by
  w_top off
  k_fill
  refine tellsN_of fun d IH => ?_
  unfold TellsN
  intro dp un gd cn cs a ccd cl outer A₀ base h₀ L m news s vs Q E B F X N T hk hR hok hdp hu hret
  obtain ⟨T1, U, vT, nT, vU, nU, tkr, rfl, hT, hrows, hU, hused⟩ := hR
  obtain ⟨rows, row, used⟩ := d
  obtain ⟨ok1, ok2, ok3, ok4⟩ := hok
  dsimp only [leastT] at *
  have hRec : Rec PySem.Challenge.rw_gq5009_01.row.prog w (hd.heap_39 w.params) hd.view_39 (looseW hd.view_39 []) mean mg mb rows row used := IH
  clear IH
  have hW : Word (bestUpTo rows row (least rows (rows.length - (row + 1))) used) := ⟨trivial⟩
  refine wpAny_call ?_
  k_dflt ktr_enter
  k_steps
  · refine hret _ [] _ _ (by assumption) (by rw [List.append_nil]; assumption) (fun _ _ _ h => nomatch h) rfl (base_int (by omega))
  iterate 5
    · refine InvEnd.intro (by assumption) (by assumption) (by intro p hp; kcf_m) ⟨⟨_, by with_unfolding_all rfl, ?_⟩, ?_⟩
      · first
          | exact bv_skip0 (by assumption) (by assumption)
          | exact bv_skip1 (by assumption) (by assumption)
          | exact bv_new (by assumption) (by assumption)
          | exact bv_less (by assumption) (by assumption) (by assumption)
          | exact bv_keep (by assumption) (by assumption) (by assumption)
      · intro q h1 h2 h3
        simp only [h1, h2, h3, if_false]
  · rename BV _ _ => hB9
    obtain ⟨tk9, e9⟩ := best_int (by omega) ok3 hB9
    exact hret _ [] _ _ (by assumption) (by rw [List.append_nil]; assumption) (fun _ _ _ h => nomatch h) rfl ⟨tk9, e9⟩
end

section
abbrev led (T c : Addr) (p1 p2 p3 p4 p5 q1 q2 : Addr × Obj) (vT : List Value) (nT : Nat) (o : Obj) (rest : List (Addr × Obj)) : List (Addr × Obj) :=
  (T, listOf vT.toArray nT) :: p1 :: p2 :: p3 :: p4 :: p5 :: (c, o) :: q1 :: q2 :: rest
abbrev ledA (T c : Addr) (p1 p2 p3 p4 p5 q1 q2 : Addr × Obj) : List Addr := [T, p1.1, p2.1, p3.1, p4.1, p5.1, c, q1.1, q2.1]

structure TabWord (G : Int → List Int) : Prop where
  mark : True

def TabEnd (T c : Addr) (p1 p2 p3 p4 p5 q1 q2 : Addr × Obj) (h₀ : Heap) (L : Addr) (m₀ : Str → Option Value) (vT : List Value) (o : Obj) (rest : List (Addr × Obj)) (ms : List Int) (s₁ s₂ : Shared) : Prop :=
  ∃ h' tk' D ys k n', s₂ = { s₁ with heap := h', toks := tk' } ∧ Fr h₀ L h' m₀ ∧ News h₀ L h' ((D, listOf ys.toArray k) :: led T c p1 p2 p3 p4 p5 q1 q2 (vT ++ [.ref D]) n' o rest) ∧ IntsAre ys ms ∧ ∀ b ∈ ledA T c p1 p2 p3 p4 p5 q1 q2, b ≠ D
def TabPost (T c : Addr) (p1 p2 p3 p4 p5 q1 q2 : Addr × Obj) (h₀ : Heap) (L : Addr) (m₀ : Str → Option Value) (vT : List Value) (o : Obj) (rest : List (Addr × Obj)) (ms : List Int) (s₁ : Shared) (f : Flow) (s₂ : Shared) : Prop :=
  match f with
  | .next => TabEnd T c p1 p2 p3 p4 p5 q1 q2 h₀ L m₀ vT o rest ms s₁ s₂
  | _ => False

section
variable {prog : Program} {w : World} {A : Around} {E : Value → Shared → Prop} {s : Shared} {env : Env} {h₀ : Heap} {x : Str} {body : List Stmt} {Q : Flow → Shared → Prop}

theorem tab_loop {G : Int → List Int} (hW0 : TabWord G) {px : Pos} {l T c : Addr} {p1 p2 p3 p4 p5 q1 q2 : Addr × Obj} {oc : Obj} {v₀ : Option Value} {vs : List Value} {ns : List Int} {nn : Nat} {m₀ : Str → Option Value}
    (hh : A.handled = none) (hl : (l, listOf vs.toArray nn) ∈ [p1, p2, p3, p4, p5, q1, q2]) (hi : IntsAre vs ns) (hns : ns.length ≤ 5) (F : Fr h₀ env.locals s.heap m₀)
    (N : News h₀ env.locals s.heap (led T c p1 p2 p3 p4 p5 q1 q2 [] 0 oc []))
    (hk : env.scope.kind = .function) (hx : env.kindOf x = some .cell) (hcl : env.cells.lookup x = some c) (hcd : oc.data = .cell v₀) (hne : ∀ b ∈ [T, p1.1, p2.1, p3.1, p4.1, p5.1, q1.1, q2.1], b ≠ c)
    (turn : ∀ n t vT nT o rest s₁, n ∈ ns → o.data = .cell (some (.int n t)) → vT.length ≤ 5 → OwnOff rest (ledA T c p1 p2 p3 p4 p5 q1 q2) → Fr h₀ env.locals s₁.heap m₀ → News h₀ env.locals s₁.heap (led T c p1 p2 p3 p4 p5 q1 q2 vT nT o rest) →
      wpAny (model prog w) A (execs body env) (TabPost T c p1 p2 p3 p4 p5 q1 q2 h₀ env.locals m₀ vT o rest (G n) s₁) E s₁)
    (done : ∀ h' tk vT nT o v tl, o.data = .cell v → RowsIn tl vT (ns.map G) → OwnOff tl (ledA T c p1 p2 p3 p4 p5 q1 q2) → Fr h₀ env.locals h' m₀ → News h₀ env.locals h' (led T c p1 p2 p3 p4 p5 q1 q2 vT nT o tl) →
      Q .next { s with heap := h', toks := tk }) :
    wpAny (model prog w) A (pyIter (.ref l)) (fun it s₂ => LoopAtT prog w A h₀ env (.Name x px) body Q E it s₂) E s := by
  have sub0 : ∀ (vT : List Value) (nT : Nat) (o : Obj) (rest : List (Addr × Obj)), ∀ p ∈ [p1, p2, p3, p4, p5, q1, q2], p ∈ led T c p1 p2 p3 p4 p5 q1 q2 vT nT o rest := by
    intro vT nT o rest p hp
    simp only [List.mem_cons, List.not_mem_nil, or_false] at hp ⊢
    rcases hp with rfl | rfl | rfl | rfl | rfl | rfl | rfl <;> simp
  have hl0 := sub0 [] 0 oc [] _ hl
  have hol : s.heap.get? l = some (listOf vs.toArray nn) := (N _ hl0).1
  have hls : s.heap.IsList l vs.toArray := ⟨_, hol, rfl, nn, rfl⟩
  have hne' : l ≠ s.heap.objs.size := Nat.ne_of_lt (Heap.lt_size hol)
  refine wpAny_pyIter_list hls ?_
  have W := Walks.list (prog := prog) (w := w) hh s.heap.objs.size l hne' vs.toArray
  have hlen : vs.toArray.size = ns.length := by rw [List.size_toArray, hi.length]
  rw [hlen] at W
  refine ⟨_, _, _, ns.length, _, _, m₀, led T c p1 p2 p3 p4 p5 q1 q2 [] 0 oc [], (fun i m nx => m = m₀ ∧ ∃ vT nT o v tl, nx = led T c p1 p2 p3 p4 p5 q1 q2 vT nT o tl ∧ o.data = .cell v ∧ RowsIn tl vT ((ns.take i).map G) ∧ OwnOff tl (ledA T c p1 p2 p3 p4 p5 q1 q2)), rfl, W, ?_, ?_, ?_,
    ⟨⟨_, Heap.get?_push_size _ rfl, rfl, rfl⟩, hls.at fun o e => Heap.get?_push_of_some _ e⟩, F.push _, (fun p hp => ⟨Heap.get?_push_of_some _ (N p hp).1, (N p hp).2⟩), ?_, ?_, ?_, ?_⟩
  · intro hm
    rcases List.mem_cons.mp hm with e | hm
    · exact absurd F.ns.lt (e ▸ Nat.lt_irrefl _)
    · exact (N _ hl0).2.1 ((List.mem_singleton.mp hm).symm)
  · intro b hb
    rw [List.mem_singleton.mp hb]
    exact next_is_new F
  · intro p hp hI
    exact absurd (Heap.lt_size (N p hp).1) ((List.mem_singleton.mp hI) ▸ Nat.lt_irrefl _)
  · intro i s' v Q' _ hQ'
    exact wpAny_pure hQ'
  · exact ⟨rfl, [], 0, oc, v₀, [], rfl, hcd, .nil, fun _ h => nomatch h⟩
  · rintro i v m₁ news₁ s₁ own hin hP ⟨rfl, vT, nT, o, v', tl, rfl, hod, hR, hO⟩ hoff hown hget hfp hst F₁ N₁
    have hP' : vs[i]? = some v := by simpa using hP
    have hI0 : h₀.get? s.heap.objs.size = none := next_is_new F
    obtain ⟨⟨oI, hoI, hIc, hId⟩, _⟩ := id hst
    obtain ⟨t, hx'⟩ := hi.get i ns[i] (List.getElem?_eq_getElem hin)
    have hv : v = .int ns[i] t := by rw [hx'] at hP'; exact (Option.some.inj hP').symm
    subst hv
    -- the entries of the iterator alone
    let ow := own.filter fun p => decide (p.1 = s.heap.objs.size)
    have hIown : (s.heap.objs.size, oI) ∈ ow := List.mem_filter.mpr ⟨hfp _ (List.mem_cons.mpr (.inl rfl)) hI0 _ hoI, by simp⟩
    have how : ∀ p ∈ ow, p.1 = s.heap.objs.size ∧ p.2 = oI := by
      intro p hp
      have h1 : p.1 = s.heap.objs.size := by simpa using (List.mem_filter.mp hp).2
      have h2 := hget p (List.mem_filter.mp hp).1
      rw [h1, hoI] at h2
      exact ⟨h1, (Option.some.inj h2).symm⟩
    have hIoff : ∀ b ∈ ledA T c p1 p2 p3 p4 p5 q1 q2, s.heap.objs.size ≠ b := by
      intro b hb e
      have : ∃ q ∈ led T c p1 p2 p3 p4 p5 q1 q2 vT nT o tl, q.1 = b := by
        simp only [List.mem_cons, List.not_mem_nil, or_false] at hb
        rcases hb with h | h | h | h | h | h | h | h | h
        · exact ⟨_, List.mem_cons_self, h.symm⟩
        · exact ⟨p1, by simp, h.symm⟩
        · exact ⟨p2, by simp, h.symm⟩
        · exact ⟨p3, by simp, h.symm⟩
        · exact ⟨p4, by simp, h.symm⟩
        · exact ⟨p5, by simp, h.symm⟩
        · exact ⟨(c, o), by simp, h.symm⟩
        · exact ⟨q1, by simp, h.symm⟩
        · exact ⟨q2, by simp, h.symm⟩
      obtain ⟨q, hq, rfl⟩ := this
      exact hoff q hq (List.mem_singleton.mpr e.symm)
    have hrest : OwnOff (tl ++ ow) (ledA T c p1 p2 p3 p4 p5 q1 q2) := by
      intro p hp b hb
      rcases List.mem_append.mp hp with hp | hp
      · exact hO p hp b hb
      · rw [(how p hp).1]; exact hIoff b hb
    have N₂ : News h₀ env.locals s₁.heap (led T c p1 p2 p3 p4 p5 q1 q2 vT nT o (tl ++ ow)) := by
      intro p hp
      refine N₁ p ?_
      simp only [List.mem_cons, List.mem_append] at hp ⊢
      rcases hp with h | h | h | h | h | h | h | h | h | h | h
      · exact .inr (.inl h)
      · exact .inr (.inr (.inl h))
      · exact .inr (.inr (.inr (.inl h)))
      · exact .inr (.inr (.inr (.inr (.inl h))))
      · exact .inr (.inr (.inr (.inr (.inr (.inl h)))))
      · exact .inr (.inr (.inr (.inr (.inr (.inr (.inl h))))))
      · exact .inr (.inr (.inr (.inr (.inr (.inr (.inr (.inl h)))))))
      · exact .inr (.inr (.inr (.inr (.inr (.inr (.inr (.inr (.inl h))))))))
      · exact .inr (.inr (.inr (.inr (.inr (.inr (.inr (.inr (.inr (.inl h)))))))))
      · exact .inr (.inr (.inr (.inr (.inr (.inr (.inr (.inr (.inr (.inr h)))))))))
      · exact .inl ((List.mem_filter.mp h).1)
    have hc2 := N₂ (c, o) (by simp)
    refine wpAny_assign_Name (wpAny_storeName_cell hk hx hcl ⟨o, hc2.1, hod⟩ fun h₂ hv₂ hs₂ => ?_)
    obtain ⟨o₂, ho₂, hd₂⟩ := hv₂
    have F₂ : Fr h₀ env.locals h₂ m₁ := ⟨F₁.ns.sameBut hs₂ (Ne.symm hc2.2.1), fun b ob e => (hs₂.2 b (fun q => by rw [q, hc2.2.2] at e; cases e)).trans (F₁.keep b ob e), F₁.above⟩
    have N₃ : News h₀ env.locals h₂ (led T c p1 p2 p3 p4 p5 q1 q2 vT nT o₂ (tl ++ ow)) := by
      refine News.setAt (own := [(T, listOf vT.toArray nT), p1, p2, p3, p4, p5]) (rest := q1 :: q2 :: (tl ++ ow)) (o := o) N₂ ?_ ?_ hs₂ ho₂
      · intro p hp
        simp only [List.mem_cons, List.not_mem_nil, or_false] at hp
        rcases hp with rfl | rfl | rfl | rfl | rfl | rfl <;> exact hne _ (by simp)
      · intro p hp
        rcases List.mem_cons.mp hp with rfl | hp
        · exact hne _ (by simp)
        · rcases List.mem_cons.mp hp with rfl | hp
          · exact hne _ (by simp)
          · exact hrest p hp c (by simp)
    have hvl : vT.length ≤ 5 := by
      rw [hR.length, List.length_map, List.length_take]; omega
    refine wpAny_mono (turn ns[i] t vT nT o₂ (tl ++ ow) _ (List.getElem_mem hin) hd₂ hvl hrest F₂ N₃) (fun f s₂ p => ?_) fun _ _ e => e
    cases f with
    | ret v => exact p.elim
    | brk => exact p.elim
    | cont => exact p.elim
    | next =>
      obtain ⟨h', tk', D, ys, k, n', rfl, F', N', hys, hD⟩ := p
      have hlo : (l, listOf vs.toArray nn) ∈ led T c p1 p2 p3 p4 p5 q1 q2 (vT ++ [.ref D]) n' o₂ ((D, listOf ys.toArray k) :: tl) := sub0 _ _ _ _ _ hl
      have hDI : D ≠ s.heap.objs.size := by
        intro e
        have h1 := (N' (D, listOf ys.toArray k) List.mem_cons_self).1
        have h2 := (N' (s.heap.objs.size, oI) (by simp only [List.mem_cons, List.mem_append]; exact .inr (.inr (.inr (.inr (.inr (.inr (.inr (.inr (.inr (.inr (.inr hIown))))))))))  )).1
        simp only at h1 h2
        rw [e, h2] at h1
        have h3 : oI = listOf ys.toArray k := Option.some.inj h1
        rw [h3] at hIc
        injection hIc with hIc'
        exact absurd hIc' (by decide)
      have hN4 : ∀ p ∈ led T c p1 p2 p3 p4 p5 q1 q2 (vT ++ [.ref D]) n' o₂ ((D, listOf ys.toArray k) :: tl), p ∈ (D, listOf ys.toArray k) :: led T c p1 p2 p3 p4 p5 q1 q2 (vT ++ [.ref D]) n' o₂ (tl ++ ow) := by
        intro p hp
        simp only [List.mem_cons, List.mem_append] at hp ⊢
        rcases hp with h | h | h | h | h | h | h | h | h | h | h
        · exact .inr (.inl h)
        · exact .inr (.inr (.inl h))
        · exact .inr (.inr (.inr (.inl h)))
        · exact .inr (.inr (.inr (.inr (.inl h))))
        · exact .inr (.inr (.inr (.inr (.inr (.inl h)))))
        · exact .inr (.inr (.inr (.inr (.inr (.inr (.inl h))))))
        · exact .inr (.inr (.inr (.inr (.inr (.inr (.inr (.inl h)))))))
        · exact .inr (.inr (.inr (.inr (.inr (.inr (.inr (.inr (.inl h))))))))
        · exact .inr (.inr (.inr (.inr (.inr (.inr (.inr (.inr (.inr (.inl h)))))))))
        · exact .inl h
        · exact .inr (.inr (.inr (.inr (.inr (.inr (.inr (.inr (.inr (.inr (.inl h))))))))))
      refine ⟨rfl, h', tk', m₁, led T c p1 p2 p3 p4 p5 q1 q2 (vT ++ [.ref D]) n' o₂ ((D, listOf ys.toArray k) :: tl), rfl, F', ?_, ?_, rfl, vT ++ [.ref D], n', o₂, _, (D, listOf ys.toArray k) :: tl, rfl, hd₂, ?_, ?_⟩
      · intro p hp
        rcases List.mem_append.mp hp with h | h
        · by_cases hI : p.1 = s.heap.objs.size
          · refine N' p ?_
            have h9 : p ∈ ow := List.mem_filter.mpr ⟨h, by simpa using hI⟩
            simp only [List.mem_cons, List.mem_append]
            exact .inr (.inr (.inr (.inr (.inr (.inr (.inr (.inr (.inr (.inr (.inr h9))))))))))
          · have h1 : p.1 = l := by
              rcases List.mem_cons.mp (hown p h) with h2 | h2
              · exact absurd h2 hI
              · exact List.mem_singleton.mp h2
            have h2 : s₁.heap.get? p.1 = some p.2 := hget p h
            have h4 : s₁.heap.get? l = some (listOf vs.toArray nn) := (N₂ _ (sub0 _ _ _ _ _ hl)).1
            rw [h1, h4] at h2
            have h3 : p = (l, listOf vs.toArray nn) := Prod.ext h1 (Option.some.inj h2).symm
            rw [h3]
            exact N' _ (hN4 _ hlo)
        · exact N' p (hN4 p h)
      · intro p hp hq
        have hq' := List.mem_singleton.mp hq
        have : p ∈ led T c p1 p2 p3 p4 p5 q1 q2 (vT ++ [.ref D]) n' o₂ ((D, listOf ys.toArray k) :: tl) := hp
        simp only [List.mem_cons] at this
        rcases this with h | h | h | h | h | h | h | h | h | h | h
        · exact hIoff T (by simp) (by rw [← hq', h])
        · exact hIoff p1.1 (by simp) (by rw [← hq', h])
        · exact hIoff p2.1 (by simp) (by rw [← hq', h])
        · exact hIoff p3.1 (by simp) (by rw [← hq', h])
        · exact hIoff p4.1 (by simp) (by rw [← hq', h])
        · exact hIoff p5.1 (by simp) (by rw [← hq', h])
        · exact hIoff c (by simp) (by rw [← hq', h])
        · exact hIoff q1.1 (by simp) (by rw [← hq', h])
        · exact hIoff q2.1 (by simp) (by rw [← hq', h])
        · exact hDI (by rw [← hq', h])
        · exact hoff p (by simp [h]) hq
      · have e : (ns.take (i + 1)).map G = (ns.take i).map G ++ [G ns[i]] := by
          rw [List.take_add_one, List.getElem?_eq_getElem hin, List.map_append]; rfl
        rw [e]
        exact (hR.mono fun p hp => List.mem_cons_of_mem _ hp).snoc List.mem_cons_self hys
      · intro p hp b hb
        rcases List.mem_cons.mp hp with rfl | hp
        · exact Ne.symm (hD b hb)
        · exact hO p hp b hb
  · rintro h' tk m' news' F' N' _ ⟨rfl, vT, nT, o, v, tl, rfl, hod, hR, hO⟩
    rw [List.take_length] at hR
    exact done h' tk vT nT o v tl hod hR hO F' N'
end

def Bnd (ns : List Int) : Prop := ∀ n ∈ ns, 0 ≤ n ∧ n < 14
theorem bnd_map {g : Int → Int} {ks : List Int} : Bnd (ks.map fun k => (g k).fmod 14) := by
  intro n hn
  obtain ⟨k, _, rfl⟩ := List.mem_map.mp hn
  exact ⟨Int.fmod_nonneg_of_pos _ (by decide), Int.fmod_lt_of_pos _ (by decide)⟩

/-- the value of the law's cell: the cost of two signs by their places -/
def subst (a b : Str) : Int := if a = b then 0 else if Txt.lower a = Txt.lower b then 1 else 2
def signs : Str := Str.ofString "aAkKKsSſσΣςb1漢"
def sgCost (a b : Int) : Int := subst (Txt.item signs a) (Txt.item signs b)

section
variable {prog : Program} {w : World} {A : Around} {E : Value → Shared → Prop} {s : Shared} {env : Env} {h₀ : Heap} {x : Str} {body : List Stmt} {Q : Flow → Shared → Prop}

theorem tab_loop2 {px : Pos} {l T c : Addr} {p1 p2 p3 p4 p5 q1 q2 : Addr × Obj} {oc : Obj} {v₀ : Option Value} {vs vs₂ : List Value} {g₁ g₂ : Int → Int} {ks₁ ks₂ : List Int} {nn : Nat} {m₀ : Str → Option Value}
    (hi₂ : IntsAre vs₂ (ks₂.map fun k => (g₂ k).fmod 14))
    (hh : A.handled = none) (hl : (l, listOf vs.toArray nn) ∈ [p1, p2, p3, p4, p5, q1, q2]) (hi : IntsAre vs (ks₁.map fun k => (g₁ k).fmod 14)) (hns : ks₁.length ≤ 5) (F : Fr h₀ env.locals s.heap m₀)
    (N : News h₀ env.locals s.heap (led T c p1 p2 p3 p4 p5 q1 q2 [] 0 oc []))
    (hk : env.scope.kind = .function) (hx : env.kindOf x = some .cell) (hcl : env.cells.lookup x = some c) (hcd : oc.data = .cell v₀) (hne : ∀ b ∈ [T, p1.1, p2.1, p3.1, p4.1, p5.1, q1.1, q2.1], b ≠ c)
    (turn : ∀ n t vT nT o rest s₁, 0 ≤ n → n < 14 → Bnd (ks₂.map fun k => (g₂ k).fmod 14) → o.data = .cell (some (.int n t)) → vT.length ≤ 5 → OwnOff rest [T, p1.1, p2.1, p3.1, p4.1, p5.1, c, q1.1, q2.1] → Fr h₀ env.locals s₁.heap m₀ →
      News h₀ env.locals s₁.heap ((T, listOf vT.toArray nT) :: p1 :: p2 :: p3 :: p4 :: p5 :: (c, o) :: q1 :: q2 :: rest) →
      wpAny (model prog w) A (execs body env) (TabPost T c p1 p2 p3 p4 p5 q1 q2 h₀ env.locals m₀ vT o rest ((ks₂.map fun k => (g₂ k).fmod 14).map (sgCost n)) s₁) E s₁)
    (done : ∀ h' tk vT nT o v tl, Bnd (ks₁.map fun k => (g₁ k).fmod 14) → Bnd (ks₂.map fun k => (g₂ k).fmod 14) → o.data = .cell v → RowsIn tl vT ((ks₁.map fun k => (g₁ k).fmod 14).map fun n => (ks₂.map fun k => (g₂ k).fmod 14).map (sgCost n)) →
      OwnOff tl [T, p1.1, p2.1, p3.1, p4.1, p5.1, c, q1.1, q2.1] → Fr h₀ env.locals h' m₀ → News h₀ env.locals h' ((T, listOf vT.toArray nT) :: p1 :: p2 :: p3 :: p4 :: p5 :: (c, o) :: q1 :: q2 :: tl) →
      Q .next { s with heap := h', toks := tk }) :
    wpAny (model prog w) A (pyIter (.ref l)) (fun it s₂ => LoopAtT prog w A h₀ env (.Name x px) body Q E it s₂) E s := by
  refine tab_loop (G := fun n => (ks₂.map fun k => (g₂ k).fmod 14).map (sgCost n)) ⟨trivial⟩ hh hl hi (by rw [List.length_map]; exact hns) F N hk hx hcl hcd hne ?_ ?_
  · intro n t vT nT o rest s₁ hn
    exact turn n t vT nT o rest s₁ (bnd_map n hn).1 (bnd_map n hn).2 bnd_map
  · intro h' tk vT nT o v tl hd hR hO F' N'
    exact done h' tk vT nT o v tl bnd_map bnd_map hd hR hO F' N'
end
end

section
theorem bnd_lo {ns : List Int} {k : Int} (hB : Bnd ns) (h : k ∈ ns) : 0 ≤ k := (hB k h).1
theorem bnd_hi {ns : List Int} {k : Int} (hB : Bnd ns) (h : k ∈ ns) : k < 14 := (hB k h).2

section
variable {prog : Program} {w : World} {A : Around} {E : Value → Shared → Prop} {s : Shared}
theorem sign_item {value slice : PySem.Expr} {t u : Tok} {i : Int} {Q : Value → Shared → Prop} (h0 : 0 ≤ i) (h1 : i < 14) (h : (Txt.item signs i).length = 1 → Q (.str (Txt.item signs i) s.toks) { s with toks := s.toks + 1 })
    (hs : subscripted slice false (.str signs t) (.int i u) = operate [.str signs t, .int i u] (getItem (.str signs t) (.int i u)) := by with_unfolding_all rfl)
    (ht : ∀ r, letTemporaryGo value (.str signs t) r = pure () := by intro _; with_unfolding_all rfl) :
    wpAny (model prog w) A (subscriptTail value slice (.str signs t) (.int i u)) Q E s :=
  KXi.item (n := 14) (by decide) (by omega) (by omega) (by decide) h hs ht
end

theorem tab_end {T c : Addr} {p1 p2 p3 p4 p5 q1 q2 : Addr × Obj} {h₀ h' : Heap} {L D : Addr} {m₀ : Str → Option Value} {vT ys : List Value} {o : Obj} {rest : List (Addr × Obj)} {ms ms' : List Int} {s₁ : Shared} {k n' tk' : Nat}
    (F : Fr h₀ L h' m₀) (N : News h₀ L h' ((D, listOf ys.toArray k) :: (T, listOf (vT.toArray.push (.ref D)) n') :: p1 :: p2 :: p3 :: p4 :: p5 :: (c, o) :: q1 :: q2 :: rest)) (hi : IntsAre ys ms') (e : ms' = ms)
    (hb : ∀ b ∈ [T, p1.1, p2.1, p3.1, p4.1, p5.1, c, q1.1, q2.1], b ≠ D) : TabPost T c p1 p2 p3 p4 p5 q1 q2 h₀ L m₀ vT o rest ms s₁ .next { s₁ with heap := h', toks := tk' } := by
  subst e
  rw [List.push_toArray] at N
  exact ⟨h', tk', D, ys, k, n', rfl, F, N, hi, hb⟩

section
variable {prog : Program} {w : World} {A : Around} {E : Value → Shared → Prop} {s : Shared} {env : Env} {h₀ : Heap} {x : Str} {body : List Stmt} {Q : Flow → Shared → Prop}

theorem scan_any {l : Addr} {vs : List Value} {nn : Nat} {m₀ : Str → Option Value} {news : List (Addr × Obj)} (z : Str)
    (hh : A.handled = none) (hl : (l, listOf vs.toArray nn) ∈ news) (F : Fr h₀ env.locals s.heap m₀) (N : News h₀ env.locals s.heap news)
    (turn : ∀ v u h tk own, v ∈ vs → Fr h₀ env.locals h (fun q => if q = x then some v else if q = z then u else m₀ q) → News h₀ env.locals h (news ++ own) →
      wpAny (model prog w) A (execs body env) (InvPost h₀ env.locals (fun m' => ∀ q, q ≠ x → q ≠ z → m' q = m₀ q) (news ++ own) { s with heap := h, toks := tk } Q) E { s with heap := h, toks := tk })
    (done : ∀ u₁ u₂ h tk, Fr h₀ env.locals h (fun q => if q = x then u₁ else if q = z then u₂ else m₀ q) → News h₀ env.locals h news → Q .next { s with heap := h, toks := tk }) :
    wpAny (model prog w) A (pyIter (.ref l)) (fun it s₂ => LoopAtV prog w A h₀ env x body Q E it s₂) E s := by
  have fix : ∀ (m : Str → Option Value) (v : Option Value), (∀ q, q ≠ x → q ≠ z → m q = m₀ q) → (fun q => if q = x then v else m q) = fun q => if q = x then v else if q = z then m z else m₀ q := by
    intro m v hm
    funext q
    by_cases h1 : q = x
    · simp [h1]
    · simp only [if_neg h1]
      by_cases h2 : q = z
      · simp [h2]
      · simp only [if_neg h2]; exact hm q h1 h2
  refine kdl_iter (fun i m nx => nx = news ∧ ∀ q, q ≠ x → q ≠ z → m q = m₀ q) hh hl F N ⟨rfl, fun _ _ _ => rfl⟩ ?_ ?_
  · rintro i v m₁ nx h tk own hv hoff _ ⟨rfl, hm⟩ F₁ N₁
    rw [fix m₁ _ hm] at F₁
    refine wpAny_mono (turn v (m₁ z) h tk own (List.mem_of_getElem? hv) F₁ N₁) (fun f s₂ p => ?_) fun _ _ e => e
    have up : InvEnd h₀ env.locals (fun m' => ∀ q, q ≠ x → q ≠ z → m' q = m₀ q) (nx ++ own) { s with heap := h, toks := tk } s₂ →
        InvEndG h₀ env.locals (fun m' nx' => (l, listOf vs.toArray nn) ∈ nx' ∧ nx' = nx ∧ ∀ q, q ≠ x → q ≠ z → m' q = m₀ q) own { s with heap := h, toks := tk } s₂ := by
      rintro ⟨h', tk', m', news', e, F', N', hn, hm'⟩
      exact ⟨h', tk', m', news', nx, e, F', N', fun p hp => hn p (List.mem_append_left _ hp), fun p hp => hn p (List.mem_append_right _ hp), hoff, hl, rfl, hm'⟩
    cases f with
    | ret v => exact p
    | brk => exact p
    | next => exact up p
    | cont => exact up p
  · rintro m₁ nx h tk ⟨rfl, hm⟩ F₁ N₁
    refine done (m₁ x) (m₁ z) h tk ?_ N₁
    rw [← fix m₁ _ hm]
    have e : (fun q => if q = x then m₁ x else m₁ q) = m₁ := by
      funext q
      by_cases h1 : q = x
      · simp [h1]
      · simp [h1]
    rw [e]; exact F₁

theorem scan_rows {l : Addr} {vs : List Value} {nn : Nat} {m₀ : Str → Option Value} {news tl : List (Addr × Obj)} {rows : List (List Int)} (z : Str) (hR : RowsIn tl vs rows)
    (hh : A.handled = none) (hl : (l, listOf vs.toArray nn) ∈ news) (F : Fr h₀ env.locals s.heap m₀) (N : News h₀ env.locals s.heap news)
    (turn : ∀ r ws k row u h tk own, (r, listOf ws.toArray k) ∈ tl → IntsAre ws row → Fr h₀ env.locals h (fun q => if q = x then some (.ref r) else if q = z then u else m₀ q) → News h₀ env.locals h (news ++ own) →
      wpAny (model prog w) A (execs body env) (InvPost h₀ env.locals (fun m' => ∀ q, q ≠ x → q ≠ z → m' q = m₀ q) (news ++ own) { s with heap := h, toks := tk } Q) E { s with heap := h, toks := tk })
    (done : ∀ u₁ u₂ h tk, Fr h₀ env.locals h (fun q => if q = x then u₁ else if q = z then u₂ else m₀ q) → News h₀ env.locals h news → Q .next { s with heap := h, toks := tk }) :
    wpAny (model prog w) A (pyIter (.ref l)) (fun it s₂ => LoopAtV prog w A h₀ env x body Q E it s₂) E s := by
  refine scan_any z hh hl F N ?_ done
  intro v u h tk own hv F' N'
  obtain ⟨k, hk, hk'⟩ := List.getElem_of_mem hv
  obtain ⟨r, ws, n, h1, h2, h3⟩ := hR.get (k := k) (by rw [← hR.length]; exact hk)
  have e : v = .ref r := by
    rw [List.getElem?_eq_getElem hk, hk'] at h1
    exact Option.some.inj h1
  subst e
  exact turn r ws n _ u h tk own h2 h3 F' N'

theorem scan_ints {l : Addr} {vs : List Value} {nn : Nat} {m₀ : Str → Option Value} {news : List (Addr × Obj)} {ns : List Int} (hi : IntsAre vs ns)
    (hh : A.handled = none) (hl : (l, listOf vs.toArray nn) ∈ news) (F : Fr h₀ env.locals s.heap m₀) (N : News h₀ env.locals s.heap news)
    (turn : ∀ i t h tk own, i ∈ ns → Fr h₀ env.locals h (fun q => if q = x then some (.int i t) else m₀ q) → News h₀ env.locals h (news ++ own) →
      wpAny (model prog w) A (execs body env) (InvPost h₀ env.locals (fun m' => ∀ q, q ≠ x → m' q = m₀ q) (news ++ own) { s with heap := h, toks := tk } Q) E { s with heap := h, toks := tk })
    (done : ∀ u h tk, Fr h₀ env.locals h (fun q => if q = x then u else m₀ q) → News h₀ env.locals h news → Q .next { s with heap := h, toks := tk }) :
    wpAny (model prog w) A (pyIter (.ref l)) (fun it s₂ => LoopAtV prog w A h₀ env x body Q E it s₂) E s := by
  have fix : ∀ (v u : Option Value), (fun q => if q = x then v else if q = x then u else m₀ q) = fun q => if q = x then v else m₀ q := by
    intro v u
    funext q
    by_cases h1 : q = x
    · simp [h1]
    · simp [h1]
  refine scan_any x hh hl F N ?_ ?_
  · intro v u h tk own hv F' N'
    obtain ⟨k, hk, hk'⟩ := List.getElem_of_mem hv
    obtain ⟨i, t, e, hi'⟩ := hi.at k v (by rw [List.getElem?_eq_getElem hk, hk'])
    subst e
    rw [fix] at F'
    refine wpAny_mono (turn i t h tk own (List.mem_of_getElem? hi') F' N') (fun f s₂ p => ?_) fun _ _ e => e
    have up : InvEnd h₀ env.locals (fun m' => ∀ q, q ≠ x → m' q = m₀ q) (news ++ own) { s with heap := h, toks := tk } s₂ →
        InvEnd h₀ env.locals (fun m' => ∀ q, q ≠ x → q ≠ x → m' q = m₀ q) (news ++ own) { s with heap := h, toks := tk } s₂ := by
      rintro ⟨h', tk', m', news', e, F', N', hn, hm'⟩
      exact ⟨h', tk', m', news', e, F', N', hn, fun q h _ => hm' q h⟩
    cases f with
    | ret v => exact p
    | brk => exact p
    | next => exact up p
    | cont => exact up p
  · intro u₁ u₂ h tk F' N'
    rw [fix] at F'
    exact done u₁ h tk F' N'
end
end

section
structure SD where
  x : Str
  y : Str

abbrev substT : ToldN SD where
  Rel := fun _ vs d => ∃ t t', vs = [.str d.x t, .str d.y t']
  Ok := fun d => d.x.length ≤ 10 ∧ d.y.length ≤ 10
  size := fun _ => 1
  Tl := fun tl => tl = []
  Out := fun _ r d => ∃ tk, r = .int (subst d.x d.y) tk

theorem str_ne {x y : Str} (h : (x == y) = false) : ¬ x = y := fun e => by rw [e, beq_self_eq_true] at h; cases h
theorem subst_same {x y : Str} {tk : Tok} (h : (x == y) = true) : ∃ tk', Value.int 0 tk = .int (subst x y) tk' := ⟨tk, by rw [subst, if_pos (beq_iff_eq.mp h)]⟩
theorem subst_case {x y : Str} {tk : Tok} (h : (x == y) = false) (k : (Txt.lower x == Txt.lower y) = true) : ∃ tk', Value.int 1 tk = .int (subst x y) tk' := ⟨tk, by rw [subst, if_neg (str_ne h), if_pos (beq_iff_eq.mp k)]⟩
theorem subst_move {x y : Str} {tk : Tok} (h : (x == y) = false) (k : (Txt.lower x == Txt.lower y) = false) : ∃ tk', Value.int 2 tk = .int (subst x y) tk' := ⟨tk, by rw [subst, if_neg (str_ne h), if_neg (str_ne k)]⟩

local macro_rules | `(tactic| walk_at "call builtin:str.lower") => `(tactic| (k_here; (with_reducible show wpAny _ _ (call (Value.builtin "str.lower") _) _ _ _); k_dflt (refine' SCL.lower ?k1 ?_; (case k1 => omega)); intro _))

set_option maxHeartbeats 8000000 in
theorem subst_tells (w : World) (mean : ExcName → Option Value) (mg mb : Str → Option Value) : ∀ d, TellsN PySem.Challenge.rw_gq5009_01.row.prog w (hd.heap_39 w.params) hd.view_39 (looseW hd.view_39 []) mean mg mb 21 substT d := by
  w_top off
  k_fill
  refine tellsN_of fun d IH => ?_
  clear IH
  unfold TellsN
  intro dp un gd cn cs a ccd cl outer A₀ base h₀ L m news s vs Q E B F X N T hk hR hok hdp hu hret
  obtain ⟨t1, t2, rfl⟩ := hR
  obtain ⟨x, y⟩ := d
  obtain ⟨ok1, ok2⟩ := hok
  dsimp only [substT] at *
  refine wpAny_call ?_
  k_dflt ktr_enter
  k_steps
  · exact hret _ [] _ _ (by assumption) (by rw [List.append_nil]; assumption) (fun _ _ _ h => nomatch h) rfl (subst_same (by assumption))
  · exact hret _ [] _ _ (by assumption) (by rw [List.append_nil]; assumption) (fun _ _ _ h => nomatch h) rfl (subst_case (by assumption) (by assumption))
  · exact hret _ [] _ _ (by assumption) (by rw [List.append_nil]; assumption) (fun _ _ _ h => nomatch h) rfl (subst_move (by assumption) (by assumption))

section
variable {prog : Program} {w : World} {K : Frag} {p : Program} {loose : List Str} {mean : ExcName → Option Value} {mg mb : Str → Option Value}
theorem subst_call (C : ∀ d, TellsN prog w K p loose mean mg mb 21 substT d)
    {dp un : Nat} {gd : Option (List Code)} {cn : Str} {cs : Scope} {a : Addr} {ccd : Value} {cl : List (Str × Addr)} {outer : List Env} {A₀ : Around} {base h₀ : Heap} {L : Addr} {m : Str → Option Value} {news : List (Addr × Obj)} {s : Shared}
    {Q E : Value → Shared → Prop} {x y : Str} {t t' : Tok} (B : Below A₀ base outer h₀) (F : Fr h₀ L s.heap m) (X : K.In h₀) (N : News h₀ L s.heap news) (Tp : Top p loose mean mg mb h₀) (hk : cs.kind = .function)
    (hx : x.length = 1) (hy : y.length = 1) (hd : dp + 1 < recursionLimit) (hun : un + 8 * 1 < cLine)
    (ret : ∀ tk h' tk', Fr h₀ L h' m → News h₀ L h' news → Q (.int (subst x y) tk) { s with heap := h', toks := tk' }) :
    wpAny (model prog w) (ktrTop dp un gd cn cs L a ccd cl outer) (call (.ref 21) [.str x t, .str y t']) Q E s := by
  refine tellsN_use (c := substT) (d := ⟨x, y⟩) B F X N Tp hk ⟨t, t', rfl⟩ (C ⟨x, y⟩) ⟨by show x.length ≤ 10; omega, by show y.length ≤ 10; omega⟩ hd hun ?_
  rintro r tl h' tk' F' N' _ rfl ⟨t, rfl⟩
  rw [List.append_nil] at N'
  exact ret t h' tk' F' N'
end
end

section
section
variable {prog : Program} {w : World} {A : Around} {E : Value → Shared → Prop} {s : Shared} {env : Env} {h₀ : Heap} {x : Str} {body : List Stmt} {Q : Flow → Shared → Prop}
structure AccWord (f : Int → Int → Int) : Prop where
  mark : True
theorem acc_loop {f : Int → Int → Int} (hW0 : AccWord f) {l : Addr} {vs : List Value} {ns : List Int} {nn : Nat} {m₀ : Str → Option Value} {news : List (Addr × Obj)} {y : Str} {a₀ : Int} {t₀ : Tok} (hyx : y ≠ x)
    (hh : A.handled = none) (hl : (l, listOf vs.toArray nn) ∈ news) (hi : IntsAre vs ns) (F : Fr h₀ env.locals s.heap m₀) (N : News h₀ env.locals s.heap news) (hy : m₀ y = some (.int a₀ t₀))
    (turn : ∀ n t a ta h tk own, n ∈ ns → Fr h₀ env.locals h (fun q => if q = x then some (.int n t) else if q = y then some (.int a ta) else m₀ q) → News h₀ env.locals h (news ++ own) →
      wpAny (model prog w) A (execs body env) (InvPost h₀ env.locals (fun m' => (∃ t', m' y = some (.int (f a n) t')) ∧ ∀ q, q ≠ x → q ≠ y → m' q = m₀ q) (news ++ own) { s with heap := h, toks := tk } Q) E { s with heap := h, toks := tk })
    (done : ∀ u t h tk, Fr h₀ env.locals h (fun q => if q = x then u else if q = y then some (.int (ns.foldl f a₀) t) else m₀ q) → News h₀ env.locals h news → Q .next { s with heap := h, toks := tk }) :
    wpAny (model prog w) A (pyIter (.ref l)) (fun it s₂ => LoopAtV prog w A h₀ env x body Q E it s₂) E s := by
  have fix : ∀ (m : Str → Option Value) (v : Option Value) (r : Value), m y = some r → (∀ q, q ≠ x → q ≠ y → m q = m₀ q) → (fun q => if q = x then v else m q) = fun q => if q = x then v else if q = y then some r else m₀ q := by
    intro m v r hr hm
    funext q
    by_cases h1 : q = x
    · simp [h1]
    · simp only [if_neg h1]
      by_cases h2 : q = y
      · simp [h2, hr]
      · simp only [if_neg h2]; exact hm q h1 h2
  refine kdl_iter (fun i m nx => nx = news ∧ (∃ t, m y = some (.int ((ns.take i).foldl f a₀) t)) ∧ ∀ q, q ≠ x → q ≠ y → m q = m₀ q) hh hl F N ⟨rfl, ⟨t₀, by simpa using hy⟩, fun _ _ _ => rfl⟩ ?_ ?_
  · rintro i v m₁ nx h tk own hv hoff _ ⟨rfl, ⟨ta, ha⟩, hm⟩ F₁ N₁
    obtain ⟨n, t, rfl, hn⟩ := hi.at i v hv
    rw [fix m₁ _ _ ha hm] at F₁
    have hs : (ns.take (i + 1)).foldl f a₀ = f ((ns.take i).foldl f a₀) n := by
      rw [List.take_add_one, hn]; simp
    rw [hs]
    refine wpAny_mono (turn n t _ ta h tk own (List.mem_of_getElem? hn) F₁ N₁) (fun g s₂ p => ?_) fun _ _ e => e
    have up : InvEnd h₀ env.locals (fun m' => (∃ t', m' y = some (.int (f ((ns.take i).foldl f a₀) n) t')) ∧ ∀ q, q ≠ x → q ≠ y → m' q = m₀ q) (nx ++ own) { s with heap := h, toks := tk } s₂ →
        InvEndG h₀ env.locals (fun m' nx' => (l, listOf vs.toArray nn) ∈ nx' ∧ nx' = nx ∧ (∃ t', m' y = some (.int (f ((ns.take i).foldl f a₀) n) t')) ∧ ∀ q, q ≠ x → q ≠ y → m' q = m₀ q) own { s with heap := h, toks := tk } s₂ := by
      rintro ⟨h', tk', m', news', e, F', N', hn', hm'⟩
      exact ⟨h', tk', m', news', nx, e, F', N', fun p hp => hn' p (List.mem_append_left _ hp), fun p hp => hn' p (List.mem_append_right _ hp), hoff, hl, rfl, hm'⟩
    cases g with
    | ret v => exact p
    | brk => exact p
    | next => exact up p
    | cont => exact up p
  · rintro m₁ nx h tk ⟨rfl, ⟨t, ha⟩, hm⟩ F₁ N₁
    have e1 : (ns.take vs.length).foldl f a₀ = ns.foldl f a₀ := by rw [hi.length, List.take_length]
    rw [e1] at ha
    refine done (m₁ x) t h tk ?_ N₁
    rw [← fix m₁ _ _ ha hm]
    have e : (fun q => if q = x then m₁ x else m₁ q) = m₁ := by
      funext q
      by_cases h1 : q = x
      · simp [h1]
      · simp [h1]
    rw [e]; exact F₁
end

section
variable {prog : Program} {w : World} {A : Around} {E : Value → Shared → Prop} {s : Shared} {h₀ : Heap} {L l : Addr} {news : List (Addr × Obj)}
theorem ints_count {us : List Value} {ns : List Int} {n : Nat} {k : Int} {t : Tok} {Q : Value → Shared → Prop} (N : News h₀ L s.heap news) (hm : (l, listOf us.toArray n) ∈ news) (hi : IntsAre us ns)
    (h : Q (.int (ns.count k : Nat) s.toks) { s with toks := s.toks + 1 }) : wpAny (model prog w) A (call (.builtin "list.count") [.ref l, .int k t]) Q E s := count_list_ints (isL N hm) hi h
end

structure MD where
  as : List Int
  bs : List Int
  ks : List Int

def meetF (as bs : List Int) (a k : Int) : Int := a + (if ((bs.count k : Nat) : Int) < ((as.count k : Nat) : Int) then ((bs.count k : Nat) : Int) else ((as.count k : Nat) : Int))
def meetV (as bs ks : List Int) : Int := ks.foldl (meetF as bs) 0

abbrev meetT : ToldN MD where
  Rel := fun news vs d => ∃ X Y Z vX nX vY nY vZ nZ, vs = [.ref X, .ref Y, .ref Z] ∧ (X, listOf vX.toArray nX) ∈ news ∧ IntsAre vX d.as ∧ (Y, listOf vY.toArray nY) ∈ news ∧ IntsAre vY d.bs ∧ (Z, listOf vZ.toArray nZ) ∈ news ∧ IntsAre vZ d.ks
  Ok := fun _ => True
  size := fun _ => 1
  Tl := fun tl => tl = []
  Out := fun _ r d => ∃ tk, r = .int (meetV d.as d.bs d.ks) tk

local macro_rules | `(tactic| walk_at "exec For Name Name cons nil") => `(tactic| (k_here; (rename Fr _ _ _ _ => lF'); (with_unfolding_all refine' For_invVF lF' ?k1 ?k2 ?_; (case k1 => exact rfl); (case k2 => exact rfl); k_whole)))
local macro_rules | `(tactic| walk_at "pyIter ref") => `(tactic| (
  k_here
  (with_reducible show wpAny _ _ (pyIter (Value.ref _)) (fun it s₂ => LoopAtV _ _ _ _ _ _ _ _ _ it s₂) _ _)
  (rename Fr _ _ _ _ => lF')
  (rename News _ _ _ _ => lN')
  (rename AccWord _ => wX)
  (rename IntsAre _ _ => hI9)
  (with_unfolding_all refine' acc_loop wX (y := Str.ofString "met") ?d1 ?hh ?hl hI9 lF' lN' (by rfl) (fun n' t' a' ta' h' tk' own' hn' F' N' => ?_) (fun u' t' h' tk' F' N' => ?_))
  (case d1 => k_dflt decide)
  (case hh => k_dflt (exact rfl))
  (case hl => kcf_m)
  (all_goals (try clear lF' lN'))
  (all_goals (try k_fold))))
local macro_rules | `(tactic| walk_at "getMethod ref") => `(tactic| (k_here; (with_reducible show wpAny _ _ (getMethod (Value.ref _) (PySem.Str.ofString "count") _) _ _ _); k_dflt (refine' listMethod_K ?N ?m PySem.F.slot_list_count PySem.F.type_list_count ?_; (case N => k_asm); (case m => kcf_m))))
local macro_rules | `(tactic| walk_at "call builtin:list.count") => `(tactic| (k_here; (with_reducible show wpAny _ _ (call (Value.builtin _) [Value.ref _, Value.int _ _]) _ _ _); k_dflt (refine' ints_count ?k1 ?k2 ?k3 ?_; (case k1 => k_asm); (case k2 => kcf_m); (case k3 => assumption))))

set_option maxHeartbeats 8000000 in
theorem meet_tells (w : World) (mean : ExcName → Option Value) (mg mb : Str → Option Value) : ∀ d, TellsN PySem.Challenge.rw_gq5009_01.row.prog w (hd.heap_39 w.params) hd.view_39 (looseW hd.view_39 []) mean mg mb 36 meetT d := by
  w_top off
  k_fill
  refine tellsN_of fun d IH => ?_
  clear IH
  unfold TellsN
  intro dp un gd cn cs a ccd cl outer A₀ base h₀ L m news s vs Q E B F X N T hk hR hok hdp hu hret
  obtain ⟨X1, Y1, Z1, vX, nX, vY, nY, vZ, nZ, rfl, hX, hiX, hY, hiY, hZ, hiZ⟩ := hR
  obtain ⟨as, bs, ks⟩ := d
  clear hok
  dsimp only [meetT] at *
  have hW : AccWord (meetF as bs) := ⟨trivial⟩
  refine wpAny_call ?_
  k_dflt ktr_enter
  k_steps
  all_goals first
    | exact hret _ [] _ _ (by assumption) (by rw [List.append_nil]; assumption) (fun _ _ _ h => nomatch h) rfl ⟨_, rfl⟩
    | (refine InvEnd.intro (by assumption) (by assumption) ?_ ?_
       · exact fun p hp => hp
       refine ⟨⟨_, by with_unfolding_all rfl⟩, ?_⟩
       intro q h1 h2
       simp only [h1, h2, if_false])

section
variable {prog : Program} {w : World} {K : Frag} {p : Program} {loose : List Str} {mean : ExcName → Option Value} {mg mb : Str → Option Value}
theorem meet_call (C : ∀ d, TellsN prog w K p loose mean mg mb 36 meetT d)
    {dp un : Nat} {gd : Option (List Code)} {cn : Str} {cs : Scope} {a : Addr} {ccd : Value} {cl : List (Str × Addr)} {outer : List Env} {A₀ : Around} {base h₀ : Heap} {L : Addr} {m : Str → Option Value} {news : List (Addr × Obj)} {s : Shared}
    {Q E : Value → Shared → Prop} {X Y Z : Addr} {vX vY vZ : List Value} {nX nY nZ : Nat} {as bs ks : List Int} (B : Below A₀ base outer h₀) (F : Fr h₀ L s.heap m) (Kx : K.In h₀) (N : News h₀ L s.heap news) (Tp : Top p loose mean mg mb h₀) (hk : cs.kind = .function)
    (hX : (X, listOf vX.toArray nX) ∈ news) (iX : IntsAre vX as) (hY : (Y, listOf vY.toArray nY) ∈ news) (iY : IntsAre vY bs) (hZ : (Z, listOf vZ.toArray nZ) ∈ news) (iZ : IntsAre vZ ks)
    (hd : dp + 1 < recursionLimit) (hun : un + 8 * 1 < cLine)
    (ret : ∀ tk h' tk', Fr h₀ L h' m → News h₀ L h' news → Q (.int (meetV as bs ks) tk) { s with heap := h', toks := tk' }) :
    wpAny (model prog w) (ktrTop dp un gd cn cs L a ccd cl outer) (call (.ref 36) [.ref X, .ref Y, .ref Z]) Q E s := by
  refine tellsN_use (c := meetT) (d := ⟨as, bs, ks⟩) B F Kx N Tp hk ⟨X, Y, Z, vX, nX, vY, nY, vZ, nZ, rfl, hX, iX, hY, iY, hZ, iZ⟩ (C ⟨as, bs, ks⟩) trivial hd hun ?_
  rintro r tl h' tk' F' N' _ rfl ⟨t, rfl⟩
  rw [List.append_nil] at N'
  exact ret t h' tk' F' N'
end
end

section
def clsL : List Int := [0, 0, 1, 1, 1, 2, 2, 3, 4, 4, 5, 6, 7, 8]
def clsZ (i : Int) : Int := clsL.getD i.toNat 0

section
variable {prog : Program} {w : World} {A : Around} {E : Value → Shared → Prop} {s : Shared} {h₀ : Heap} {L : Addr} {m : Str → Option Value}
set_option maxHeartbeats 4000000 in
theorem class_item {value slice : PySem.Expr} {i : Int} {u : Tok} {Q : Value → Shared → Prop} (F : Fr h₀ L s.heap m) (X : (hd.heap_39 w.params).In h₀) (h0 : 0 ≤ i) (h1 : i < 14) (h : ∀ t, Q (.int (clsZ i) t) s)
    (hs : subscripted slice false (.ref 22) (.int i u) = operate [.ref 22, .int i u] (getItem (.ref 22) (.int i u)) := by with_unfolding_all rfl) :
    wpAny (model prog w) A (subscriptTail value slice (.ref 22) (.int i u)) Q E s := by
  have hx : ∃ (l : List Value) (n : Nat) (dd : Option Addr) (sl : Array (Option Value)), (hd.heap_39 w.params).lookup 22 = some ⟨.type "tuple", dd, .seq l.toArray n, sl⟩ ∧ l.length = 14 ∧ ∀ j, j < 14 → ∃ t, l[j]? = some (.int (clsL.getD j 0) t) := by
    refine ⟨_, _, _, _, rfl, rfl, ?_⟩
    intro j hj
    have : j = 0 ∨ j = 1 ∨ j = 2 ∨ j = 3 ∨ j = 4 ∨ j = 5 ∨ j = 6 ∨ j = 7 ∨ j = 8 ∨ j = 9 ∨ j = 10 ∨ j = 11 ∨ j = 12 ∨ j = 13 := by omega
    rcases this with rfl | rfl | rfl | rfl | rfl | rfl | rfl | rfl | rfl | rfl | rfl | rfl | rfl | rfl <;> exact ⟨_, rfl⟩
  obtain ⟨l, n, dd, sl, hl, hlen, hall⟩ := hx
  obtain ⟨t, ht⟩ := hall i.toNat (by omega)
  refine topTup_K (j := i.toNat) F X hl (by omega) (by omega) ?_ ht (h t) hs
  rw [hlen]
  have : i = 0 ∨ i = 1 ∨ i = 2 ∨ i = 3 ∨ i = 4 ∨ i = 5 ∨ i = 6 ∨ i = 7 ∨ i = 8 ∨ i = 9 ∨ i = 10 ∨ i = 11 ∨ i = 12 ∨ i = 13 := by omega
  rcases this with rfl | rfl | rfl | rfl | rfl | rfl | rfl | rfl | rfl | rfl | rfl | rfl | rfl | rfl <;> rfl
end

section
variable {prog : Program} {w : World} {K : Frag} {p : Program} {loose : List Str} {mean : ExcName → Option Value} {mg mb : Str → Option Value}
theorem least_top (C : ∀ d, TellsN prog w K p loose mean mg mb 29 leastT d) {rows : List (List Int)}
    {dp un : Nat} {gd : Option (List Code)} {cn : Str} {cs : Scope} {a : Addr} {ccd : Value} {cl : List (Str × Addr)} {outer : List Env} {A₀ : Around} {base h₀ : Heap} {L : Addr} {m : Str → Option Value} {news news₀ : List (Addr × Obj)} {s : Shared}
    {Q E : Value → Shared → Prop} {T U : Addr} {vT : List Value} {nT nU : Nat} {tk : Tok} (B : Below A₀ base outer h₀) (F : Fr h₀ L s.heap m) (X : K.In h₀) (N : News h₀ L s.heap news) (Tp : Top p loose mean mg mb h₀) (hk : cs.kind = .function)
    (hT : (T, listOf vT.toArray nT) ∈ news) (hr : RowsIn news₀ vT rows) (hs : ∀ q ∈ news₀, q ∈ news) (hU : (U, listOf #[] nU) ∈ news)
    (ok1 : rows.length ≤ 5) (ok4 : ∀ r ∈ rows, r.length = rows.length)
    (hd : dp + 6 < recursionLimit) (hun : un + 8 * 6 < cLine)
    (ret : ∀ tk h' tk', Fr h₀ L h' m → News h₀ L h' news → Q (.int (least rows rows.length []) tk) { s with heap := h', toks := tk' }) :
    wpAny (model prog w) (ktrTop dp un gd cn cs L a ccd cl outer) (call (.ref 29) [.ref T, .int 0 tk, .ref U]) Q E s := by
  refine tellsN_use (c := leastT) (d := ⟨rows, 0, []⟩) B F X N Tp hk ?_ (C ⟨rows, 0, []⟩) ?_ ?_ ?_ ?_
  · exact ⟨T, U, vT, nT, [], nU, tk, rfl, hT, hr.mono hs, hU, .nil⟩
  · exact ⟨ok1, Nat.zero_le _, rfl, ok4⟩
  · show dp + (rows.length - 0 + 1) < recursionLimit; omega
  · show un + 8 * (rows.length - 0 + 1) < cLine; omega
  · rintro r tl h' tk' F' N' _ rfl ⟨t, rfl⟩
    rw [List.append_nil] at N'
    exact ret t h' tk' F' N'

theorem rect {f : Int → Int → Int} {as bs : List Int} (h : as.length = bs.length) : ∀ r ∈ as.map fun n => bs.map (f n), r.length = (as.map fun n => bs.map (f n)).length := by
  intro r hr
  obtain ⟨n, _, rfl⟩ := List.mem_map.mp hr
  rw [List.length_map, List.length_map, h]
end
end

section
def mn (f g : Nat) : Int := if (g : Int) < (f : Int) then (g : Int) else (f : Int)
def meet (K A B : List Int) : Int := (K.map fun k => mn (A.count k) (B.count k)).sum

theorem meetV_eq (A B K : List Int) : meetV A B K = meet K A B := by
  unfold meetV meet
  have e : meetF A B = fun a k => a + mn (A.count k) (B.count k) := rfl
  rw [e, foldl_add_mapK, Int.zero_add]

theorem meet_perm {K A B B' : List Int} (h : B.Perm B') : meet K A B = meet K A B' := by
  unfold meet
  congr 1
  refine List.map_congr_left fun k _ => ?_
  rw [h.count_eq]

theorem sum_le {K : List Int} {f g : Int → Int} (h : ∀ k ∈ K, f k ≤ g k) : (K.map f).sum ≤ (K.map g).sum := by
  induction K with
  | nil => simp
  | cons k r ih =>
    simp only [List.map_cons, List.sum_cons]
    have h1 := h k List.mem_cons_self
    have h2 := ih fun x hx => h x (List.mem_cons_of_mem _ hx)
    omega
theorem sum_eq {K : List Int} {f g : Int → Int} (h : ∀ k ∈ K, f k = g k) : (K.map f).sum = (K.map g).sum := by
  congr 1
  exact List.map_congr_left h
theorem sum_add {K : List Int} {f g : Int → Int} : (K.map fun k => f k + g k).sum = (K.map f).sum + (K.map g).sum := by
  induction K with
  | nil => simp
  | cons k r ih => simp only [List.map_cons, List.sum_cons, ih]; omega
theorem sum_ind {K : List Int} (a : Int) : (K.map fun k => if a = k then (1 : Int) else 0).sum = (K.count a : Nat) := by
  induction K with
  | nil => simp
  | cons k r ih =>
    simp only [List.map_cons, List.sum_cons, ih, List.count_cons]
    by_cases h : a = k
    · subst h; simp; omega
    · have : (k == a) = false := by simpa using fun e => h e.symm
      simp [h, this]

theorem cnt_cons (a k : Int) (A : List Int) : (a :: A).count k = A.count k + (if a = k then 1 else 0) := by
  rw [List.count_cons]
  by_cases h : a = k
  · simp [h]
  · simp [h]

theorem mn_mono {f g f' g' : Nat} (h1 : f ≤ f') (h2 : g ≤ g') : mn f g ≤ mn f' g' := by
  unfold mn; split <;> split <;> omega
theorem mn_succ {f g : Nat} : mn (f + 1) (g + 1) = mn f g + 1 := by
  unfold mn; split <;> split <;> omega

theorem meet_low (K A B : List Int) (a b : Int) (hK : K.count a = 1) : meet K A B + (if a = b then 1 else 0) ≤ meet K (a :: A) (b :: B) := by
  by_cases h : a = b
  · subst h
    rw [if_pos rfl]
    have e : meet K (a :: A) (a :: B) = meet K A B + 1 := by
      have h1 : meet K (a :: A) (a :: B) = (K.map fun k => mn (A.count k) (B.count k) + (if a = k then (1 : Int) else 0)).sum := by
        refine sum_eq fun k _ => ?_
        rw [cnt_cons, cnt_cons]
        by_cases hk : a = k
        · simp only [hk, if_true]; exact mn_succ
        · simp only [hk, if_false]; simp
      rw [h1, sum_add, sum_ind, hK]
      rfl
    omega
  · rw [if_neg h, Int.add_zero]
    refine sum_le fun k _ => ?_
    refine mn_mono ?_ ?_
    · rw [cnt_cons]; omega
    · rw [cnt_cons]; omega
theorem meet_same (K A B : List Int) (a : Int) (hK : K.count a = 1) : meet K (a :: A) (a :: B) = meet K A B + 1 := by
  have h1 : meet K (a :: A) (a :: B) = (K.map fun k => mn (A.count k) (B.count k) + (if a = k then (1 : Int) else 0)).sum := by
    refine sum_eq fun k _ => ?_
    rw [cnt_cons, cnt_cons]
    by_cases hk : a = k
    · simp only [hk, if_true]; exact mn_succ
    · simp only [hk, if_false]; simp
  rw [h1, sum_add, sum_ind, hK]
  rfl
theorem meet_other (K A B : List Int) (a b : Int) (h : a ≠ b) (h1 : B.count a ≤ A.count a) (h2 : A.count b ≤ B.count b) : meet K (a :: A) (b :: B) = meet K A B := by
  refine sum_eq fun k _ => ?_
  rw [cnt_cons, cnt_cons]
  by_cases hk : a = k
  · subst hk
    have hb : ¬ b = a := fun e => h e.symm
    simp only [if_true, if_neg hb]
    unfold mn; split <;> split <;> omega
  · by_cases hk2 : b = k
    · subst hk2
      simp only [if_true, if_neg hk]
      unfold mn; split <;> split <;> omega
    · simp only [if_neg hk, if_neg hk2]; simp

/-- a longer list has a sign in excess -/
theorem len_of_counts : ∀ (X Y : List Int), (∀ b ∈ X, X.count b ≤ Y.count b) → X.length ≤ Y.length
  | [], _, _ => Nat.zero_le _
  | b :: X, Y, h => by
    have hb : 1 ≤ Y.count b := by
      have h1 := h b List.mem_cons_self
      rw [List.count_cons_self] at h1; omega
    have hm : b ∈ Y := List.count_pos_iff.mp hb
    have ih := len_of_counts X (Y.erase b) fun c hc => by
      have h1 := h c (List.mem_cons_of_mem _ hc)
      rw [List.count_cons] at h1
      rw [List.count_erase]
      by_cases e : b = c
      · subst e; simp at h1 ⊢; omega
      · have : (b == c) = false := by simpa using e
        simp [this] at h1 ⊢; exact h1
    rw [List.length_erase_of_mem hm] at ih
    have : 0 < Y.length := List.length_pos_of_mem hm
    simp only [List.length_cons]; omega
theorem excess {X Y : List Int} (h : Y.length < X.length) : ∃ b ∈ X, Y.count b < X.count b := by
  refine Classical.byContradiction fun hn => ?_
  have := len_of_counts X Y fun b hb => by
    refine Nat.le_of_not_lt fun hl => hn ⟨b, hb, hl⟩
  omega

def K14 : List Int := rangeKs 0 14
def K9 : List Int := rangeKs 0 9
theorem k14_one {a : Int} (h0 : 0 ≤ a) (h1 : a < 14) : K14.count a = 1 := by
  have : a = 0 ∨ a = 1 ∨ a = 2 ∨ a = 3 ∨ a = 4 ∨ a = 5 ∨ a = 6 ∨ a = 7 ∨ a = 8 ∨ a = 9 ∨ a = 10 ∨ a = 11 ∨ a = 12 ∨ a = 13 := by omega
  rcases this with rfl | rfl | rfl | rfl | rfl | rfl | rfl | rfl | rfl | rfl | rfl | rfl | rfl | rfl <;> decide
theorem k9_one {a : Int} (h0 : 0 ≤ a) (h1 : a < 14) : K9.count (clsZ a) = 1 := by
  have : a = 0 ∨ a = 1 ∨ a = 2 ∨ a = 3 ∨ a = 4 ∨ a = 5 ∨ a = 6 ∨ a = 7 ∨ a = 8 ∨ a = 9 ∨ a = 10 ∨ a = 11 ∨ a = 12 ∨ a = 13 := by omega
  rcases this with rfl | rfl | rfl | rfl | rfl | rfl | rfl | rfl | rfl | rfl | rfl | rfl | rfl | rfl <;> decide

theorem cost_all : ∀ i j : Fin 14, sgCost (i.val : Int) (j.val : Int) = 2 - (if (i.val : Int) = (j.val : Int) then 1 else 0) - (if clsZ (i.val : Int) = clsZ (j.val : Int) then 1 else 0) := by decide +kernel
theorem cost_is {a b : Int} (h0 : 0 ≤ a) (h1 : a < 14) (k0 : 0 ≤ b) (k1 : b < 14) : sgCost a b = 2 - (if a = b then 1 else 0) - (if clsZ a = clsZ b then 1 else 0) := by
  have h := cost_all ⟨a.toNat, by omega⟩ ⟨b.toNat, by omega⟩
  simp only [Int.toNat_of_nonneg h0, Int.toNat_of_nonneg k0] at h
  exact h

/-- what the two meetings make together -/
def S (A B : List Int) : Int := meet K14 A B + meet K9 (A.map clsZ) (B.map clsZ)
def hit (a b : Int) : Int := (if a = b then 1 else 0) + (if clsZ a = clsZ b then 1 else 0)

theorem S_perm {A B B' : List Int} (h : B.Perm B') : S A B = S A B' := by
  unfold S; rw [meet_perm h, meet_perm (h.map clsZ)]
theorem S_low {A B : List Int} {a b : Int} (h0 : 0 ≤ a) (h1 : a < 14) : S A B + hit a b ≤ S (a :: A) (b :: B) := by
  have e1 := meet_low K14 A B a b (k14_one h0 h1)
  have e2 := meet_low K9 (A.map clsZ) (B.map clsZ) (clsZ a) (clsZ b) (k9_one h0 h1)
  unfold S hit
  simp only [List.map_cons]
  omega
theorem cls_len (B : List Int) (c : Int) : (B.map clsZ).count c = (B.filter fun b => clsZ b == c).length := by
  rw [List.count_eq_countP, List.countP_map, List.countP_eq_length_filter]
  rfl
theorem count_filt (B : List Int) (c b : Int) (h : clsZ b = c) : (B.filter fun b => clsZ b == c).count b = B.count b := by
  rw [List.count_filter]; simpa using h

theorem S_best {A B : List Int} {a : Int} (h0 : 0 ≤ a) (h1 : a < 14) (hl : B.length = A.length + 1) : ∃ b ∈ B, ∀ B', B.Perm (b :: B') → S (a :: A) B = S A B' + hit a b := by
  by_cases ha : a ∈ B
  · refine ⟨a, ha, fun B' hp => ?_⟩
    rw [S_perm hp]
    unfold S hit
    simp only [List.map_cons, if_true]
    rw [meet_same K14 A B' a (k14_one h0 h1), meet_same K9 _ _ (clsZ a) (k9_one h0 h1)]
    omega
  · have hga : B.count a = 0 := List.count_eq_zero.mpr ha
    -- what a choice of b gives
    have like : ∀ b B', b ∈ B → A.count b < B.count b → B.Perm (b :: B') → a ≠ b ∧ meet K14 (a :: A) (b :: B') = meet K14 A B' := by
      intro b B' hb hx hp
      have hne : a ≠ b := fun e => ha (e ▸ hb)
      have c1 := hp.count_eq a
      have c2 := hp.count_eq b
      rw [cnt_cons] at c1 c2
      rw [if_neg (fun e => hne e.symm)] at c1
      rw [if_pos rfl] at c2
      exact ⟨hne, meet_other K14 A B' a b hne (by omega) (by omega)⟩
    by_cases hc : ∃ b ∈ B, clsZ b = clsZ a ∧ A.count b < B.count b
    · obtain ⟨b, hb, hcb, hx⟩ := hc
      refine ⟨b, hb, fun B' hp => ?_⟩
      obtain ⟨hne, hm⟩ := like b B' hb hx hp
      rw [S_perm hp]
      unfold S hit
      simp only [List.map_cons]
      rw [hm, hcb, meet_same K9 _ _ (clsZ a) (k9_one h0 h1), if_neg hne, if_pos rfl]
      omega
    · have hG : (B.map clsZ).count (clsZ a) ≤ (A.map clsZ).count (clsZ a) := by
        rw [cls_len, cls_len]
        refine len_of_counts _ _ fun b hb => ?_
        have hb' := List.mem_filter.mp hb
        have hcb : clsZ b = clsZ a := by simpa using hb'.2
        rw [count_filt _ _ _ hcb, count_filt _ _ _ hcb]
        exact Nat.le_of_not_lt fun hl => hc ⟨b, hb'.1, hcb, hl⟩
      obtain ⟨c, hcm, hcx⟩ := excess (X := B.map clsZ) (Y := A.map clsZ) (by rw [List.length_map, List.length_map]; omega)
      have hca : clsZ a ≠ c := fun e => by subst e; omega
      have hlen : (A.filter fun b => clsZ b == c).length < (B.filter fun b => clsZ b == c).length := by
        rw [← cls_len, ← cls_len]; exact hcx
      obtain ⟨b, hb, hx⟩ := excess hlen
      have hb' := List.mem_filter.mp hb
      have hcb : clsZ b = c := by simpa using hb'.2
      rw [count_filt _ _ _ hcb, count_filt _ _ _ hcb] at hx
      refine ⟨b, hb'.1, fun B' hp => ?_⟩
      obtain ⟨hne, hm⟩ := like b B' hb'.1 hx hp
      have p2 := hp.map clsZ
      rw [S_perm hp]
      unfold S hit
      simp only [List.map_cons] at p2 ⊢
      have c1 := p2.count_eq (clsZ a)
      have c2 := p2.count_eq (clsZ b)
      rw [cnt_cons] at c1 c2
      have hcab : clsZ a ≠ clsZ b := by rw [hcb]; exact hca
      rw [if_neg (fun e => hcab e.symm)] at c1
      rw [if_pos rfl, hcb] at c2
      rw [hm, meet_other K9 (A.map clsZ) (B'.map clsZ) (clsZ a) (clsZ b) hcab (by omega) (by rw [hcb]; omega), if_neg hne, if_neg hcab]
      omega

/-- the signs of the second row whose places are free -/
def free (n : Nat) (bs used : List Int) : List Int := ((List.range n).filter fun k : Nat => !decide ((k : Int) ∈ used)).map fun k => bs.getD k 0

theorem free_perm {n : Nat} {bs used : List Int} {k : Nat} (hk : k < n) (hu : ¬ (k : Int) ∈ used) : (free n bs used).Perm (bs.getD k 0 :: free n bs (used ++ [(k : Int)])) := by
  unfold free
  have hm : k ∈ (List.range n).filter fun k : Nat => !decide ((k : Int) ∈ used) := by
    rw [List.mem_filter]; exact ⟨List.mem_range.mpr hk, by simpa using hu⟩
  have hnd : ((List.range n).filter fun k : Nat => !decide ((k : Int) ∈ used)).Nodup := List.nodup_range.filter _
  have hp := List.perm_cons_erase hm
  have e : ((List.range n).filter fun k : Nat => !decide ((k : Int) ∈ used)).erase k = (List.range n).filter fun j : Nat => !decide ((j : Int) ∈ used ++ [(k : Int)]) := by
    rw [hnd.erase_eq_filter, List.filter_filter]
    refine List.filter_congr fun j _ => ?_
    simp only [List.mem_append, List.mem_singleton]
    by_cases h1 : (j : Int) ∈ used
    · simp [h1]
    · by_cases h2 : j = k
      · subst h2; simp
      · have : ¬ (j : Int) = (k : Int) := by omega
        simp [h1, h2, this]
  rw [e] at hp
  exact hp.map _
theorem free_mem {n : Nat} {bs used : List Int} {b : Int} (h : b ∈ free n bs used) : ∃ k, k < n ∧ ¬ (k : Int) ∈ used ∧ bs.getD k 0 = b := by
  unfold free at h
  obtain ⟨k, hk, rfl⟩ := List.mem_map.mp h
  obtain ⟨h1, h2⟩ := List.mem_filter.mp hk
  exact ⟨k, List.mem_range.mp h1, by simpa using h2, rfl⟩

section
variable {rows : List (List Int)} {row : Nat} {next : List Int → Int} {used : List Int}
/-- the worth of a place -/
def worth (rows : List (List Int)) (row : Nat) (next : List Int → Int) (used : List Int) (k : Nat) : Int := (rows.getD row []).getD k 0 + next (used ++ [(k : Int)])
theorem best_low {v : Int} : ∀ {n : Nat}, (∀ k, k < n → ¬ (k : Int) ∈ used → v ≤ worth rows row next used k) → ∀ b, bestUpTo rows row next used n = some b → v ≤ b
  | 0, _, b, h => by rw [bestUpTo] at h; cases h
  | n + 1, hv, b, h => by
    have ih := best_low (n := n) fun k hk hu => hv k (Nat.lt_succ_of_lt hk) hu
    rw [bestUpTo, stepB] at h
    by_cases hu : (n : Int) ∈ used
    · rw [if_pos hu] at h; exact ih b h
    · rw [if_neg hu] at h
      have h9 := hv n (Nat.lt_succ_self n) hu
      unfold worth at h9
      cases hb : bestUpTo rows row next used n with
      | none => rw [hb, pick] at h; cases h; exact h9
      | some b' =>
        rw [hb, pick] at h
        split at h
        · cases h; exact h9
        · cases h; exact ih _ hb
theorem best_high {v : Int} : ∀ {n k : Nat}, k < n → ¬ (k : Int) ∈ used → worth rows row next used k = v → ∃ b, bestUpTo rows row next used n = some b ∧ b ≤ v
  | n + 1, k, hk, hu, hv => by
    rw [bestUpTo, stepB]
    by_cases hn : (n : Int) ∈ used
    · rw [if_pos hn]
      refine best_high (k := k) ?_ hu hv
      rcases Nat.lt_or_eq_of_le (Nat.le_of_lt_succ hk) with h1 | h1
      · exact h1
      · subst h1; exact absurd hn hu
    · rw [if_neg hn]
      rcases Nat.lt_or_eq_of_le (Nat.le_of_lt_succ hk) with h1 | h1
      · obtain ⟨b, hb, hle⟩ := best_high (n := n) h1 hu hv
        rw [hb, pick]
        split
        · exact ⟨_, rfl, by omega⟩
        · exact ⟨_, rfl, hle⟩
      · subst h1
        unfold worth at hv
        cases bestUpTo rows row next used k with
        | none => rw [pick]; exact ⟨_, rfl, by omega⟩
        | some b => rw [pick]; split; exact ⟨_, rfl, by omega⟩; exact ⟨_, rfl, by omega⟩
end

theorem getD_map (f : Int → Int) (bs : List Int) (k : Nat) (hk : k < bs.length) : (bs.map f).getD k 0 = f (bs.getD k 0) := by
  rw [List.getD_eq_getElem?_getD, List.getD_eq_getElem?_getD, List.getElem?_map, List.getElem?_eq_getElem hk]; rfl
theorem getD_mapL (f : Int → List Int) (as : List Int) (k : Nat) (hk : k < as.length) : (as.map f).getD k [] = f (as.getD k 0) := by
  rw [List.getD_eq_getElem?_getD, List.getD_eq_getElem?_getD, List.getElem?_map, List.getElem?_eq_getElem hk]; rfl

theorem least_is {as bs : List Int} (hA : Bnd as) (hB : Bnd bs) (hl : as.length = bs.length) : ∀ (j : Nat) (used : List Int), j ≤ as.length → (free as.length bs used).length = j →
    least (as.map fun n => bs.map (sgCost n)) j used = 2 * (j : Int) - S (as.drop (as.length - j)) (free as.length bs used)
  | 0, used, _, hj => by
    have e : as.drop (as.length - 0) = [] := by simp
    rw [e, List.eq_nil_of_length_eq_zero hj]
    show (0 : Int) = 2 * ((0 : Nat) : Int) - S [] []
    decide
  | j + 1, used, hjn, hj => by
    have ih := least_is hA hB hl j
    let rows := as.map fun n => bs.map (sgCost n)
    have hrl : rows.length = as.length := List.length_map _
    have hrow : as.length - (j + 1) < as.length := by omega
    have hdrop : as.drop (as.length - (j + 1)) = as.getD (as.length - (j + 1)) 0 :: as.drop (as.length - j) := by
      rw [List.drop_eq_getElem_cons hrow, List.getD_eq_getElem?_getD, List.getElem?_eq_getElem hrow]
      have e : as.length - (j + 1) + 1 = as.length - j := by omega
      rw [e]; rfl
    generalize ha : as.getD (as.length - (j + 1)) 0 = a at hdrop
    have ham : a ∈ as := by
      rw [← ha, List.getD_eq_getElem?_getD, List.getElem?_eq_getElem hrow]; exact List.getElem_mem hrow
    obtain ⟨a0, a1⟩ := hA a ham
    have hworth : ∀ k, k < as.length → ¬ (k : Int) ∈ used → worth rows (as.length - (j + 1)) (least rows j) used k = 2 * ((j : Int) + 1) - (S (as.drop (as.length - j)) (free as.length bs (used ++ [(k : Int)])) + hit a (bs.getD k 0)) := by
      intro k hk hu
      have hp := (free_perm (bs := bs) hk hu).length_eq
      rw [List.length_cons] at hp
      have e1 : (rows.getD (as.length - (j + 1)) []).getD k 0 = sgCost a (bs.getD k 0) := by
        rw [getD_mapL _ _ _ hrow, ha, getD_map _ _ _ (by omega)]
      have hbm : bs.getD k 0 ∈ bs := by
        rw [List.getD_eq_getElem?_getD, List.getElem?_eq_getElem (by omega : k < bs.length)]; exact List.getElem_mem _
      obtain ⟨b0, b1⟩ := hB _ hbm
      unfold worth
      rw [e1, ih (used ++ [(k : Int)]) (by omega) (by omega), cost_is a0 a1 b0 b1]
      unfold hit
      omega
    have hlen : (free as.length bs used).length = (as.drop (as.length - j)).length + 1 := by
      rw [hj, List.length_drop]; omega
    have hlow : ∀ k, k < as.length → ¬ (k : Int) ∈ used → 2 * ((j : Int) + 1) - S (a :: as.drop (as.length - j)) (free as.length bs used) ≤ worth rows (as.length - (j + 1)) (least rows j) used k := by
      intro k hk hu
      rw [hworth k hk hu, S_perm (free_perm (bs := bs) hk hu)]
      have := S_low (A := as.drop (as.length - j)) (B := free as.length bs (used ++ [(k : Int)])) (b := bs.getD k 0) a0 a1
      omega
    obtain ⟨b, hb, hbest⟩ := S_best (A := as.drop (as.length - j)) (B := free as.length bs used) a0 a1 hlen
    obtain ⟨k, hk, hu, hbk⟩ := free_mem hb
    have hval : worth rows (as.length - (j + 1)) (least rows j) used k = 2 * ((j : Int) + 1) - S (a :: as.drop (as.length - j)) (free as.length bs used) := by
      rw [hworth k hk hu, hbest (free as.length bs (used ++ [(k : Int)])) (by rw [← hbk]; exact free_perm hk hu), hbk]
    obtain ⟨c, hc, hle⟩ := best_high (rows := rows) (row := as.length - (j + 1)) (next := least rows j) hk hu hval
    have hge := best_low (rows := rows) (row := as.length - (j + 1)) (next := least rows j) hlow c hc
    show least rows (j + 1) used = _
    rw [least, hrl, hc, hdrop]
    show c = _
    have : ((j + 1 : Nat) : Int) = (j : Int) + 1 := by omega
    rw [this]
    omega

theorem free_nil {bs : List Int} {n : Nat} (h : n = bs.length) : free n bs [] = bs := by
  subst h
  unfold free
  have e : ((List.range bs.length).filter fun k : Nat => !decide ((k : Int) ∈ ([] : List Int))) = List.range bs.length := by
    rw [List.filter_eq_self]; intro k _; simp
  rw [e]
  refine List.ext_getElem (by simp) fun i h1 h2 => ?_
  simp only [List.getElem_map, List.getElem_range]
  rw [List.getD_eq_getElem?_getD, List.getElem?_eq_getElem h2]; rfl

/-- THE PLAIN LAW -/
theorem plain_law {as bs : List Int} (hA : Bnd as) (hB : Bnd bs) (hl : as.length = bs.length) :
    least (as.map fun n => bs.map (sgCost n)) (as.map fun n => bs.map (sgCost n)).length [] = 2 * (as.length : Int) - meetV as bs K14 - meetV (as.map clsZ) (bs.map clsZ) K9 := by
  rw [List.length_map, least_is hA hB hl as.length [] (Nat.le_refl _) (by rw [free_nil hl]; exact hl.symm), free_nil hl, Nat.sub_self, List.drop_zero, meetV_eq, meetV_eq]
  unfold S
  omega
end

section
theorem bnd_lo' {ns : List Int} {k : Int} (h : k ∈ ns) (hB : Bnd ns) : 0 ≤ k := (hB k h).1
theorem bnd_hi' {ns : List Int} {k : Int} (h : k ∈ ns) (hB : Bnd ns) : k < 14 := (hB k h).2
section
variable {prog : Program} {w : World} {A : Around} {E : Value → Shared → Prop} {s : Shared}
theorem law_eq {as bs ks₁ ks₂ : List Int} {n : Int} {t u : Tok} {Q : Value → Shared → Prop} (hA : Bnd as) (hB : Bnd bs) (hl : as.length = bs.length) (hn : (as.length : Int) = n) (h₁ : ks₁ = K14) (h₂ : ks₂ = K9) (h : Q (.bool true) s) :
    wpAny (model prog w) A (compareOp .Eq (.int (least (as.map fun n => bs.map (sgCost n)) (as.map fun n => bs.map (sgCost n)).length []) t) (.int (2 * n - meetV as bs ks₁ - meetV (as.map fun k => clsZ k) (bs.map fun k => clsZ k) ks₂) u)) Q E s := by
  subst h₁ h₂ hn
  refine eq_int ?_
  have e : least (as.map fun n => bs.map (sgCost n)) (as.map fun n => bs.map (sgCost n)).length [] = 2 * (as.length : Int) - meetV as bs K14 - meetV (as.map fun k => clsZ k) (bs.map fun k => clsZ k) K9 := plain_law hA hB hl
  rw [e]
  simpa using h
end
end

section
def lawAt : List Stmt × Scope := match PySem.Challenge.pw_gq5009_01.main.body.getLast? with
  | some (.FunctionDef _ _ b _ _ _ sc _ _ _) => (b.drop 6, sc)
  | _ => ([], { kind := .function, names := [], isGenerator := false, isCoroutine := false })
def lawRest : List Stmt := lawAt.1
def lawScope : Scope := lawAt.2

theorem fr_names {h₀ h : Heap} {L : Addr} {m : Str → Option Value} {a b c d : Value} (F : Fr h₀ L h m) (m1 : m (Str.ofString "table") = some a) (m2 : m (Str.ofString "first") = some b) (m3 : m (Str.ofString "second") = some c) (m4 : m (Str.ofString "n") = some d) :
    Fr h₀ L h (fun y => if y = Str.ofString "table" then some a else if y = Str.ofString "first" then some b else if y = Str.ofString "second" then some c else if y = Str.ofString "n" then some d else m y) := by
  have e : (fun y => if y = Str.ofString "table" then some a else if y = Str.ofString "first" then some b else if y = Str.ofString "second" then some c else if y = Str.ofString "n" then some d else m y) = m := by
    funext y
    by_cases h1 : y = Str.ofString "table"
    · simp only [h1, if_true, m1]
    · rw [if_neg h1]
      by_cases h2 : y = Str.ofString "first"
      · simp only [h2, if_true, m2]
      · rw [if_neg h2]
        by_cases h3 : y = Str.ofString "second"
        · simp only [h3, if_true, m3]
        · rw [if_neg h3]
          by_cases h4 : y = Str.ofString "n"
          · simp only [h4, if_true, m4]
          · rw [if_neg h4]
  rw [e]; exact F

local macro_rules | `(tactic| walk_at "exec For Name Name cons nil") => `(tactic| (k_here; (rename Fr _ _ _ _ => lF'); (with_unfolding_all refine' For_invVF lF' ?k1 ?k2 ?_ ?k4 ?k5; (case k1 => exact rfl); (case k2 => exact rfl); (case k4 => (intro _; rfl)); (case k5 => first | assumption | (with_unfolding_all assumption) | passes_own); k_whole)))
local macro_rules | `(tactic| walk_at "pyIter ref") => `(tactic| (
  k_here
  (with_reducible show wpAny _ _ (pyIter (Value.ref _)) (fun it s₂ => LoopAtV _ _ _ _ _ (Str.ofString "row") _ _ _ it s₂) _ _)
  (rename Fr _ _ _ _ => lF')
  (rename News _ _ _ _ => lN')
  (rename RowsIn _ _ _ => rX)
  (with_unfolding_all refine' scan_rows (Str.ofString "cost") rX ?hh ?hl lF' lN' (fun r' ws' k' row' u' h' tk' own' hr' hi' F' N' => ?_) (fun u1' u2' h' tk' F' N' => ?_))
  (case hh => k_dflt (exact rfl))
  (case hl => kcf_m)
  (all_goals (try clear lF' lN'))
  (all_goals (try k_fold))))
local macro_rules | `(tactic| walk_at "pyIter ref") => `(tactic| (
  k_here
  (with_reducible show wpAny _ _ (pyIter (Value.ref _)) (fun it s₂ => LoopAtV _ _ _ _ _ (Str.ofString "cost") _ _ _ it s₂) _ _)
  (rename Fr _ _ _ _ => lF')
  (rename News _ _ _ _ => lN')
  (rename IntsAre _ _ => hi9)
  (with_unfolding_all refine' scan_ints hi9 ?hh ?hl lF' lN' (fun i' t' h' tk' own' hi' F' N' => ?_) (fun u1' h' tk' F' N' => ?_))
  (case hh => k_dflt (exact rfl))
  (case hl => kcf_m)
  (all_goals (try clear lF' lN'))
  (all_goals (try k_fold))))
local macro_rules | `(tactic| walk_at "call ref") => `(tactic| (
  k_here
  (with_reducible show wpAny _ _ (call (Value.ref _) [Value.ref _, Value.ref _, Value.ref _]) _ _ _)
  k_dflt (refine' meet_call (meet_tells _ _ _ _) ?k1 ?k2 ?k3 ?k4 ?k5 ?k6 ?k7 ?k8 ?k9 ?k10 ?k11 ?k12 ?k13 ?k14 ?_)
  (case k1 => k_dflt (k_asm))
  (case k2 => k_dflt (k_asm))
  (case k3 => k_dflt (k_asm))
  (case k4 => k_dflt (k_asm))
  (case k5 => k_dflt (k_asm))
  (case k6 => k_dflt (exact rfl))
  (case k7 => k_dflt (kcf_m))
  (case k8 => k_dflt (assumption))
  (case k9 => k_dflt (kcf_m))
  (case k10 => k_dflt (assumption))
  (case k11 => k_dflt (kcf_m))
  (case k12 => k_dflt (assumption))
  (case k13 => k_dflt (ktr_room))
  (case k14 => k_dflt (ktr_units))
  (intro tk' h' tk'' F' N')))
local macro_rules | `(tactic| walk_at "eval ListComp") => `(tactic| (k_here; k_dflt (refine LCg.ListComp_U (F₀ := by k_asm) (by with_unfolding_all rfl) (by decide) (by rfl) (by decide) (by rfl) ?_)))
local macro_rules | `(tactic| walk_at "CompSrc") => `(tactic| (k_here; k_dflt (refine LCg.CompSrc.ledger (by rfl) (by k_asm) (by k_asm) (by kcf_m) (by kcf_size) ?_; intro g'; (refine' kcf_list clsZ (by assumption) (fun k' t' I' oI' C' oC' D' m' ys' h' tk' E' hk' hC' hx' F' N' off' ne' hMark' => ?_) ?_); (all_goals (try (simp only [LCg.Off3, and_true] at off'))); kcf_last)))
local macro_rules | `(tactic| walk_at "subscriptTail Name Name ref int") => `(tactic| (k_here; (with_reducible show wpAny _ _ (subscriptTail (Expr.Name (Str.ofString "_law_CLASSES") _) _ (Value.ref _) (Value.int _ _)) _ _ _); k_dflt (refine' class_item ?k1 ?k2 ?k3 ?k4 ?_; (case k1 => k_asm); (case k2 => k_asm); (case k3 => exact bnd_lo' (by assumption) (by assumption)); (case k4 => exact bnd_hi' (by assumption) (by assumption))); intro t'))
local macro_rules | `(tactic| walk_at "call ref") => `(tactic| (
  k_here
  (with_reducible show wpAny _ _ (call (Value.ref _) [Value.ref _, Value.int _ _, Value.ref _]) _ _ _)
  (rename RowsIn _ _ _ => rX)
  k_dflt (refine' least_top (least_tells _ _ _ _) ?k1 ?k2 ?k3 ?k4 ?k5 ?k6 ?k7 rX ?k9 ?k10 ?k11 ?k12 ?k13 ?k14 ?_)
  (case k1 => k_dflt (k_asm))
  (case k2 => k_dflt (k_asm))
  (case k3 => k_dflt (k_asm))
  (case k4 => k_dflt (k_asm))
  (case k5 => k_dflt (k_asm))
  (case k6 => k_dflt (exact rfl))
  (case k7 => k_dflt (kcf_m))
  (case k9 => k_dflt (intro q9 hq9; kcf_m))
  (case k10 => k_dflt (kcf_m))
  (case k11 => k_dflt (simp only [List.length_map]; assumption))
  (case k12 => k_dflt (exact rect (by assumption)))
  (case k13 => k_dflt (ktr_room))
  (case k14 => k_dflt (ktr_units))
  (intro tk' h' tk'' F' N')))
local macro_rules | `(tactic| walk_at "InvEnd") => `(tactic| (k_dflt (refine InvEnd.intro (by assumption) (by assumption) ?_ ?_); (focus (intro p hp; simpa only [List.cons_append, List.nil_append, List.append_assoc] using hp)); (focus (first | (intro q h1 h2; simp only [h1, h2, if_false]; done) | (intro q h1; simp only [h1, if_false]; done)))))
local macro_rules | `(tactic| walk_at "compareOp Eq int int") => `(tactic| (
  k_here
  (with_reducible show wpAny _ _ (compareOp CmpOp.Eq (Value.int (least _ _ _) _) (Value.int (_ - meetV _ _ _ - meetV (List.map _ _) (List.map _ _) _) _)) _ _ _)
  k_dflt (refine' law_eq ?k1 ?k2 ?k3 ?k4 ?k5 ?k6 ?_)
  (case k1 => k_dflt (assumption))
  (case k2 => k_dflt (assumption))
  (case k3 => k_dflt (assumption))
  (case k4 => k_dflt (assumption))
  (case k5 => k_dflt (exact rfl))
  (case k6 => k_dflt (exact rfl))))
def Marked (P : Prop) : Prop := P
theorem Marked.out {P : Prop} (h : Marked P) : P := h
local macro_rules | `(tactic| walk_at "compareOp Eq int int") => `(tactic| (refine Marked.out ?_))
set_option maxHeartbeats 8000000 in
theorem rest_ok {w : World} {mean : ExcName → Option Value} {mg mb : Str → Option Value} {A₀ : Around} {base h₀ : Heap} {L fa : Addr} {cd : Value} {m : Str → Option Value} {s : Shared} {tl : List (Addr × Obj)} {T D1 D2 : Addr} {vT v1 v2 : List Value} {nT : Nat} {n : Int} {tn : Tok} {as bs : List Int}
    {Q : Flow → Shared → Prop} {E : Value → Shared → Prop} (hE : PassesOwn (model PySem.Challenge.rw_gq5009_01.row.prog w) (callerA.deeper (envOfC (Str.ofString "law") lawScope L fa cd)) (envOfC (Str.ofString "law") lawScope L fa cd) E)
    (X : (hd.heap_39 w.params).In h₀) (Tp : Top hd.view_39 (looseW hd.view_39 []) mean mg mb h₀) (B : Below A₀ base [] h₀) (F : Fr h₀ L s.heap m) (N : News h₀ L s.heap ((T, listOf vT.toArray nT) :: (D1, LCg.lst v1) :: (D2, LCg.lst v2) :: tl))
    (m1 : m (Str.ofString "table") = some (.ref T)) (m2 : m (Str.ofString "first") = some (.ref D1)) (m3 : m (Str.ofString "second") = some (.ref D2)) (m4 : m (Str.ofString "n") = some (.int n tn))
    (i1 : IntsAre v1 as) (i2 : IntsAre v2 bs) (hA : Bnd as) (hB : Bnd bs) (hl : as.length = bs.length) (hl5 : as.length ≤ 5) (hn : (as.length : Int) = n)
    (hR : RowsIn tl vT (as.map fun a => bs.map (sgCost a)))
    (ret : ∀ h' tk m' news', Fr h₀ L h' m' → News h₀ L h' news' → Q (.ret (.bool true)) { s with heap := h', toks := tk }) :
    wpAny (model PySem.Challenge.rw_gq5009_01.row.prog w) (callerA.deeper (envOfC (Str.ofString "law") lawScope L fa cd)) (execs lawRest (envOfC (Str.ofString "law") lawScope L fa cd)) Q E s := by
  revert X
  w_top off
  k_fill
  intro X
  have F1 := fr_names F m1 m2 m3 m4
  clear F m1 m2 m3 m4
  with_unfolding_all show wpAny _ (callerA.deeper (envOfC _ { kind := _, names := _, isGenerator := _, isCoroutine := _, more := _ } _ _ _)) (execs (_ :: _ :: _ :: _ :: [_]) (envOfC _ { kind := _, names := _, isGenerator := _, isCoroutine := _, more := _ } _ _ _)) _ _ _
  k_steps
  unfold Marked
  refine law_eq hA hB hl hn (by first | rfl | decide) (by first | rfl | decide) ?_
  exact ret _ _ _ _ (by assumption) (by assumption)
end

end Mine
open Mine

local macro_rules | `(tactic| walk_at "exec For Name Name cons nil") => `(tactic| (k_here; (with_reducible show wpAny _ _ (exec (Stmt.For (Expr.Name (Str.ofString "a") _) (Expr.Name _ _) _ [] _) _) _ _ _); (rename Fr _ _ _ _ => lF'); k_dflt (refine' For_invTF lF' ?_ ?hs; (case hs => (intro _; rfl)))))
local macro_rules | `(tactic| walk_at "pyIter ref") => `(tactic| (
  k_here
  (with_reducible show wpAny _ _ (pyIter (Value.ref _)) (fun it s₂ => LoopAtT _ _ _ _ _ _ _ _ _ it s₂) _ _)
  (rename Fr _ _ _ _ => lF')
  (rename News _ _ _ _ => lN')
  (rename IntsAre _ _ => hI2)
  (with_unfolding_all refine' tab_loop2 hI2 ?hh ?hl ?hi ?hns lF' lN' ?hk ?hx ?hcl ?hcd ?hne (fun n' t' vT' nT' o' rest' s' hlo' hhi' hB2' hd' hv' hO' F' N' => ?_) (fun h' tk' vT' nT' o' v' tl' hB1' hB2' hd' hR' hO' F' N' => ?_))
  (case hh => k_dflt (exact rfl))
  (case hl => k_memK)
  (case hi => assumption)
  (case hns => ((simp only [rangeKs_length]); omega))
  (case hk => k_dflt (exact rfl))
  (case hx => k_dflt (exact rfl))
  (case hcl => k_dflt (exact rfl))
  (case hcd => assumption)
  (case hne => (repeat' (first | exact List.forall_mem_nil _ | refine List.forall_mem_cons.mpr ⟨?_, ?_⟩)) <;> k_ne)
  (all_goals (try clear lF' lN'))
  (all_goals (try k_fold))))

local macro_rules | `(tactic| walk_at "subscriptTail Name Name str int") => `(tactic| (k_here; (with_reducible show wpAny _ _ (subscriptTail _ _ (Value.str _ _) (Value.int _ _)) _ _ _); k_dflt (refine' sign_item ?k1 ?k2 ?_; (case k1 => first | assumption | exact bnd_lo' (by assumption) (by assumption)); (case k2 => first | assumption | exact bnd_hi' (by assumption) (by assumption))); intro hSg'))
local macro_rules | `(tactic| walk_at "TabPost") => `(tactic| (refine tab_end (by assumption) (by assumption) (by assumption) ?_ ?_; (focus (exact rfl)); ((repeat' (first | exact List.forall_mem_nil _ | refine List.forall_mem_cons.mpr ⟨?_, ?_⟩)) <;> k_ne)))
local macro_rules | `(tactic| walk_at "call ref") => `(tactic| (
  k_here
  (with_reducible show wpAny _ _ (call (Value.ref _) [Value.str _ _, Value.str _ _]) _ _ _)
  k_dflt (refine' subst_call (subst_tells _ _ _ _) ?k1 ?k2 ?k3 ?k4 ?k5 ?k6 ?k7 ?k8 ?k9 ?k10 ?_)
  (case k1 => k_dflt (k_asm))
  (case k2 => k_dflt (k_asm))
  (case k3 => k_dflt (k_asm))
  (case k4 => k_dflt (k_asm))
  (case k5 => k_dflt (k_asm))
  (case k6 => k_dflt (exact rfl))
  (case k7 => k_dflt (assumption))
  (case k8 => k_dflt (assumption))
  (case k9 => k_dflt (ktr_room))
  (case k10 => k_dflt (ktr_units))
  (intro tk' h' tk'' F' N')))
local macro_rules | `(tactic| walk_at "execs cons") => `(tactic| (
  k_here
  (with_reducible show wpAny _ _ (execs (Stmt.For (Expr.Name (Str.ofString "row") _) _ _ _ _ :: _) _) _ _ _)
  (rename Fr _ _ _ _ => lF')
  (rename News _ _ _ _ => lN')
  (rename RowsIn _ _ _ => rX)
  k_dflt (refine' rest_ok ?kE ?k1 ?k2 ?k3 lF' ?kN ?m1 ?m2 ?m3 ?m4 ?i1 ?i2 ?hA ?hB ?hl ?hl5 ?hn rX ?_)
  (case kE => k_dflt (passes_own))
  (case k1 => k_dflt (k_asm))
  (case k2 => k_dflt (k_asm))
  (case k3 => k_dflt (k_asm))
  (case m1 => k_dflt (exact rfl))
  (case m2 => k_dflt (exact rfl))
  (case m3 => k_dflt (exact rfl))
  (case m4 => k_dflt (exact rfl))
  (case i1 => k_dflt (assumption))
  (case i2 => k_dflt (assumption))
  (case kN => k_dflt (refine cb_drop lN' ?_; kcf_all))
  (case hA => k_dflt (assumption))
  (case hB => k_dflt (assumption))
  (case hl => k_dflt (simp only [List.length_map]))
  (case hl5 => k_dflt (simp only [List.length_map, rangeKs_length]; omega))
  (case hn => k_dflt (simp only [List.length_map, rangeKs_length]; omega))
  (intro h' tk' m' news' F' N')))
set_option maxHeartbeats 8000000 in
theorem PySem.Challenge.cw_gq5009_01_holds : PySem.Challenge.rw_gq5009_01.Holds := by
  refine Mine.hd ?_
  k_go0; (all_goals try k_fold); k_steps
