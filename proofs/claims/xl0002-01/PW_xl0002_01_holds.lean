import PyProof.Rows.All
import Wide.All
import OpenK.AllK
import Wide.FinOn
import Lean
import PySem.Challenge.RW_xl0002_01
open PySem PySem.W PyProof.Rows
set_option Elab.async false
namespace Mine
set_option maxRecDepth 100000 in
set_option maxHeartbeats 8000000 in
open_top hd for PySem.Challenge.rw_xl0002_01
end Mine
set_option pp.deepTerms false
namespace Mine
/-- the turns and the measure of Euclid's divisions -/
def eu (a b : Nat) : Nat × Nat :=
  if h : b = 0 then (0, a) else
    have : a % b < b := Nat.mod_lt _ (Nat.pos_of_ne_zero h)
    (a / b + (eu b (a % b)).1, (eu b (a % b)).2)
termination_by b
theorem eu_zero (a : Nat) : eu a 0 = (0, a) := by rw [eu]; simp
theorem eu_pos {a b : Nat} (h : 0 < b) : eu a b = (a / b + (eu b (a % b)).1, (eu b (a % b)).2) := by
  rw [eu]; simp [Nat.ne_of_gt h]
def EuInv (x y a b t : Int) : Prop :=
  (0 ≤ a ∧ a ≤ 100) ∧ (0 ≤ b ∧ b ≤ 100) ∧ 0 ≤ t ∧ t + ((eu a.toNat b.toNat).1 : Int) = ((eu x.toNat y.toNat).1 : Int) ∧ (eu a.toNat b.toNat).2 = (eu x.toNat y.toNat).2
theorem eu_start {x y : Int} (hx : 0 ≤ x ∧ x ≤ 100) (hy : 0 ≤ y ∧ y ≤ 100) : EuInv x y x y 0 := ⟨hx, hy, by decide, by omega, rfl⟩
theorem eu_next {x y a b t : Int} (h : EuInv x y a b t) (hb : 0 < b) : EuInv x y b (Int.fmod a b) (t + Int.fdiv a b) := by
  obtain ⟨⟨h1, h1'⟩, ⟨h2, h2'⟩, h3, h4, h5⟩ := h
  obtain ⟨A, rfl⟩ := Int.eq_ofNat_of_zero_le h1
  obtain ⟨B, rfl⟩ := Int.eq_ofNat_of_zero_le h2
  have hB : 0 < B := by omega
  have e1 : Int.fmod (A : Int) (B : Int) = ((A % B : Nat) : Int) := by
    rw [Int.fmod_eq_emod_of_nonneg _ (by omega)]; rfl
  have e2 : Int.fdiv (A : Int) (B : Int) = ((A / B : Nat) : Int) := by
    rw [Int.fdiv_eq_ediv_of_nonneg _ (by omega)]; rfl
  simp only [Int.toNat_natCast] at h4 h5
  rw [eu_pos hB] at h4 h5
  have hm : A % B < B := Nat.mod_lt _ hB
  refine ⟨by omega, by rw [e1]; omega, by rw [e2]; generalize A / B = q at *; omega, ?_, ?_⟩
  · have h4' : t + ((A / B + (eu B (A % B)).1 : Nat) : Int) = ((eu x.toNat y.toNat).1 : Int) := h4
    rw [e1, e2]; simp only [Int.toNat_natCast]; rw [Int.natCast_add] at h4'; generalize ((A / B : Nat) : Int) = q at *; omega
  · rw [e1]; simp only [Int.toNat_natCast]; exact h5
theorem eu_less {a b : Int} (hb : 0 < b) : (Int.fmod a b).toNat < b.toNat := by
  have := Int.fmod_nonneg_of_pos a hb
  have := Int.fmod_lt_of_pos a hb
  omega
theorem eu_done {x y a b t : Int} (h : EuInv x y a b t) (hb : ¬ 0 < b) : t = ((eu x.toNat y.toNat).1 : Int) ∧ a = ((eu x.toNat y.toNat).2 : Int) := by
  obtain ⟨h1, h2, h3, h4, h5⟩ := h
  have e : b = 0 := by omega
  subst e
  rw [← h5, ← h4]
  simp only [Int.toNat_zero, eu_zero]
  omega
theorem eu_ne {x y a b t : Int} (_ : EuInv x y a b t) (hb : 0 < b) : b ≠ 0 := by omega
theorem eu_small {x y a b t : Int} (h : EuInv x y a b t) : 0 ≤ a ∧ a ≤ 100 ∧ 0 ≤ b ∧ b ≤ 100 := ⟨h.1.1, h.1.2, h.2.1.1, h.2.1.2⟩
end Mine
namespace Mine
def lo (x y z : Int) : Int := min x (min y z)
def hi (x y z : Int) : Int := max x (max y z)
def mid (x y z : Int) : Int := x + y + z - min x (min y z) - max x (max y z)
theorem lmh {x y z : Int} : lo x y z ≤ mid x y z ∧ mid x y z ≤ hi x y z ∧ lo x y z + mid x y z + hi x y z = x + y + z := by
  unfold lo mid hi; omega
theorem lmh_in {x y z B : Int} (hx : 0 ≤ x ∧ x ≤ B) (hy : 0 ≤ y ∧ y ≤ B) (hz : 0 ≤ z ∧ z ≤ B) : 0 ≤ lo x y z ∧ hi x y z ≤ B := by
  unfold lo hi; omega
theorem perm_sum {l k : List Int} (h : l.Perm k) : l.sum = k.sum := by
  induction h with
  | nil => rfl
  | cons x _ ih => simp only [List.sum_cons, ih]
  | swap x y l => simp only [List.sum_cons]; omega
  | trans _ _ ih1 ih2 => rw [ih1, ih2]
theorem lo_le (x y z : Int) : lo x y z ≤ x ∧ lo x y z ≤ y ∧ lo x y z ≤ z := ⟨Int.min_le_left _ _, Int.le_trans (Int.min_le_right _ _) (Int.min_le_left _ _), Int.le_trans (Int.min_le_right _ _) (Int.min_le_right _ _)⟩
theorem le_lo {a x y z : Int} (h1 : a ≤ x) (h2 : a ≤ y) (h3 : a ≤ z) : a ≤ lo x y z := Int.le_min.mpr ⟨h1, Int.le_min.mpr ⟨h2, h3⟩⟩
theorem le_hi (x y z : Int) : x ≤ hi x y z ∧ y ≤ hi x y z ∧ z ≤ hi x y z := ⟨Int.le_max_left _ _, Int.le_trans (Int.le_max_left _ _) (Int.le_max_right _ _), Int.le_trans (Int.le_max_right _ _) (Int.le_max_right _ _)⟩
theorem hi_le {a x y z : Int} (h1 : x ≤ a) (h2 : y ≤ a) (h3 : z ≤ a) : hi x y z ≤ a := Int.max_le.mpr ⟨h1, Int.max_le.mpr ⟨h2, h3⟩⟩
theorem sort3 {n : List Int} {x y z : Int} (p : n.Perm [x, y, z]) (o : n.Pairwise (· ≤ ·)) : n = [lo x y z, mid x y z, hi x y z] := by
  have hl := p.length_eq
  match n, hl, p, o with
  | [a, b, c], _, p, o =>
    have hab : a ≤ b := by simp at o; omega
    have hbc : b ≤ c := by simp at o; omega
    have hac : a ≤ c := Int.le_trans hab hbc
    have hs : a + b + c = x + y + z := by
      have := perm_sum p; simp only [List.sum_cons, List.sum_nil] at this; omega
    have ha : a ∈ [x, y, z] := p.subset (by simp)
    have hc : c ∈ [x, y, z] := p.subset (by simp)
    have all : ∀ v ∈ [x, y, z], a ≤ v ∧ v ≤ c := by
      intro v hv
      have hv' := p.symm.subset hv
      simp only [List.mem_cons, List.not_mem_nil, or_false] at hv'
      rcases hv' with h | h | h
      · rw [h]; exact ⟨Int.le_refl _, hac⟩
      · rw [h]; exact ⟨hab, hbc⟩
      · rw [h]; exact ⟨hac, Int.le_refl _⟩
    have hx := all x (by simp)
    have hy := all y (by simp)
    have hz := all z (by simp)
    have l := lo_le x y z
    have g := le_hi x y z
    simp only [List.mem_cons, List.not_mem_nil, or_false] at ha hc
    have e1 : a = lo x y z := Int.le_antisymm (le_lo hx.1 hy.1 hz.1) (by
      rcases ha with h | h | h
      · rw [h]; exact l.1
      · rw [h]; exact l.2.1
      · rw [h]; exact l.2.2)
    have e3 : c = hi x y z := Int.le_antisymm (by
      rcases hc with h | h | h
      · rw [h]; exact g.1
      · rw [h]; exact g.2.1
      · rw [h]; exact g.2.2) (hi_le hx.2 hy.2 hz.2)
    have e2 : b = mid x y z := by
      show b = x + y + z - lo x y z - hi x y z
      omega
    rw [← e1, ← e2, ← e3]
def endOf (x y z : Int) : Int × Int :=
  if lo x y z + mid x y z = hi x y z then ((eu (mid x y z).toNat (lo x y z).toNat).1, (eu (mid x y z).toNat (lo x y z).toNat).2)
  else ((eu (mid x y z - lo x y z).toNat (hi x y z - mid x y z).toNat).1 + 1, (eu (mid x y z - lo x y z).toNat (hi x y z - mid x y z).toNat).2)
end Mine
namespace Mine
section
variable {prog : Program} {w : World} {A : Around} {E : Value → Shared → Prop} {s : Shared} {h₀ : Heap} {L l : Addr} {m : Str → Option Value} {news : List (Addr × Obj)} {Q : Value → Shared → Prop}
theorem ints3 {x y z : Int} {tx ty tz : Tok} : IntsAre [.int x tx, .int y ty, .int z tz] [x, y, z] := by
  repeat' (first | exact .nil | refine .cons ?_ | constructor)
theorem ints3_of {v : List Value} {a b c : Int} (h : IntsAre v [a, b, c]) : ∃ ta tb tc, v = [.int a ta, .int b tb, .int c tc] := by
  obtain ⟨ta, v1, rfl, h1⟩ := h.cons_inv
  obtain ⟨tb, v2, rfl, h2⟩ := h1.cons_inv
  obtain ⟨tc, v3, rfl, h3⟩ := h2.cons_inv
  have e := h3.nil_inv
  subst e
  exact ⟨ta, tb, tc, rfl⟩
theorem sorted3 {x y z : Int} {tx ty tz : Tok} {n : Nat} (F : Fr h₀ L s.heap m) (N : News h₀ L s.heap news) (hm : (l, listOf #[.int x tx, .int y ty, .int z tz] n) ∈ news)
    (h : ∀ (D c : Nat) (ta tb tc : Tok) h', Fr h₀ L h' m → News h₀ L h' ((D, listOf #[.int (lo x y z) ta, .int (mid x y z) tb, .int (hi x y z) tc] c) :: news) → (∀ q ∈ news, q.1 < D) → Q (.ref D) { s with heap := h' }) :
    wpAny (model prog w) A (call (.builtin "sorted") [.ref l]) Q E s := by
  refine kso_sorted (vs := [.int x tx, .int y ty, .int z tz]) F N ⟨_, (N _ hm).1, rfl, n, rfl⟩ ints3 (by show 3 < 64; omega) ?_
  intro D vs' ns' c h' F' N' hlt hi' _ hp ho _
  have e := sort3 hp ho
  subst e
  obtain ⟨ta, tb, tc, rfl⟩ := ints3_of hi'
  exact h D c ta tb tc h' F' N' hlt
end
end Mine
namespace Mine
/-- two figures -/
def two (x : Int) : Str := ⟨#[48 + x.toNat / 10, 48 + x.toNat % 10]⟩
theorem two_cps (x : Int) : (two x).cps.toList = [48 + x.toNat / 10, 48 + x.toNat % 10] := rfl
theorem two_len (x : Int) : (two x).length = 2 := rfl
structure Tx (a : Str) (x : Int) : Prop where
  eq : a = two x
  lo : 0 ≤ x
  hi : x ≤ 99
theorem Tx.len {a : Str} {x : Int} (h : Tx a x) : a.length = 2 := by rw [h.eq]; rfl
theorem Tx.len640 {a : Str} {x : Int} (h : Tx a x) : a.length ≤ 640 := by rw [h.len]; decide
theorem Tx.num {a : Str} {x : Int} (h : Tx a x) : PySem.intText? a = some x := by
  have h0 := h.lo
  have h1 := h.hi
  rw [h.eq]
  have hd : NumText.AllDigits (two x).cps.toList := by
    rw [two_cps]
    intro c hc
    simp only [List.mem_cons, List.not_mem_nil, or_false] at hc
    omega
  have e := PySem.intText_digits (x := two x) hd (by rw [two_cps]; simp) (by rw [two_len]; decide)
  rw [e, two_cps]
  show some ((((0 * 10 + (48 + x.toNat / 10 - 48)) * 10 + (48 + x.toNat % 10 - 48) : Nat) : Int)) = some x
  congr 1
  omega
theorem cons_lt_cons {a b c d : Nat} : ([a, b] : List Nat) < [c, d] ↔ (a < c ∨ (a = c ∧ b < d)) := by
  simp [List.cons_lt_cons_iff]
theorem Tx.lt {a b : Str} {x y : Int} (h : Tx a x) (k : Tx b y) : a.cps.toList < b.cps.toList ↔ x < y := by
  have h0 := h.lo
  have h1 := h.hi
  have k0 := k.lo
  have k1 := k.hi
  rw [h.eq, k.eq, two_cps, two_cps, cons_lt_cons]
  omega
def absd (x y : Int) : Int := if x < y then y - x else x - y
theorem absd_lt {a b : Str} {x y : Int} (h : Tx a x) (k : Tx b y) (c : a.cps.toList < b.cps.toList) : y - x = absd x y := by
  unfold absd; rw [if_pos ((h.lt k).mp c)]
theorem absd_ge {a b : Str} {x y : Int} (h : Tx a x) (k : Tx b y) (c : ¬ a.cps.toList < b.cps.toList) : x - y = absd x y := by
  unfold absd; rw [if_neg (fun q => c ((h.lt k).mpr q))]
theorem absd_in {x y B : Int} (hx : 0 ≤ x ∧ x ≤ B) (hy : 0 ≤ y ∧ y ≤ B) : 0 ≤ absd x y ∧ absd x y ≤ B := by
  unfold absd; split <;> omega
end Mine
namespace Mine
section
variable {prog : Program} {w : World} {A : Around} {E : Value → Shared → Prop} {s : Shared} {env : Env} {h₀ : Heap} {x : Str} {body : List Stmt} {Q : Flow → Shared → Prop}
/-- a loop over a range by what holds between its turns -/
theorem rangeJ {r : Addr} {a₀ b₀ : Int} {t₀ u₀ v₀ : Tok} {n : Nat} {m₀ : Str → Option Value} {news : List (Addr × Obj)} (J : Nat → (Str → Option Value) → List (Addr × Obj) → Prop)
    (hh : A.handled = none) (hr : IsRange s.heap r a₀ b₀ 1 t₀ u₀ v₀) (hsmall : Builtin.Range.small a₀ b₀ 1 = true) (hsz : Builtin.Range.rangeSize a₀ b₀ 1 = (n : Int)) (F : Fr h₀ env.locals s.heap m₀) (N : News h₀ env.locals s.heap news) (hj : J 0 m₀ news)
    (turn : ∀ i t m₁ nx h tk own, i < n → OwnOff own (nx.map (·.1)) → J i m₁ nx → Fr h₀ env.locals h (fun y => if y = x then some (.int (a₀ + (i : Int)) t) else m₁ y) → News h₀ env.locals h (nx ++ own) →
      wpAny (model prog w) A (execs body env) (InvPostG h₀ env.locals (J (i + 1)) own { s with heap := h, toks := tk } Q) E { s with heap := h, toks := tk })
    (done : ∀ m₁ nx h tk, J n m₁ nx → Fr h₀ env.locals h m₁ → News h₀ env.locals h nx → Q .next { s with heap := h, toks := tk }) :
    wpAny (model prog w) A (pyIter (.ref r)) (fun it s₂ => LoopAtV prog w A h₀ env x body Q E it s₂) E s := by
  refine wpAny_pyIter_range hr hsmall ?_
  have W : Walks prog w A s.heap.objs.size [s.heap.objs.size] [s.heap.objs.size] n (fun i v => i < n ∧ ∃ t, v = .int (a₀ + i * 1) t)
      (fun i h => IsRangeIter h s.heap.objs.size (a₀ + (i : Nat) * 1) ((n : Int) - (i : Nat)) 1) := (Walks.range hh _ a₀ 1 n).bound
  refine kdr_loop J W (fun _ h => h) (fun _ h => h) ?_ ?_ ?_ ?_ (by show IsRangeIter _ _ _ _ _; rw [hsz]; simpa using Heap.get?_push_size _ rfl) (F.push _) (fun p hp => ⟨Heap.get?_push_of_some _ (N p hp).1, (N p hp).2⟩) hj ?_ done
  · intro i h hi b hb
    rw [List.mem_singleton.mp hb]
    exact ⟨_, hi⟩
  · intro hm
    exact absurd F.ns.lt ((List.mem_singleton.mp hm) ▸ Nat.lt_irrefl _)
  · intro b hb
    rw [List.mem_singleton.mp hb]
    exact next_is_new F
  · intro p hp hI
    exact absurd (Heap.lt_size (N p hp).1) ((List.mem_singleton.mp hI) ▸ Nat.lt_irrefl _)
  · rintro i v m₁ nx h tk own hi ⟨_, t, rfl⟩ hoff hJ F₁ N₁
    have e1 : a₀ + (i : Int) * 1 = a₀ + (i : Int) := by omega
    rw [e1] at F₁
    exact turn i t m₁ nx h tk own hi hoff hJ F₁ N₁
end
def HandsAre (ys : List Value) (xs : List Int) : Prop := ys.length = xs.length ∧ ∀ i, i < xs.length → ∃ a t, ys[i]? = some (.str a t) ∧ Tx a (xs.getD i 0)
def TxAll (line : Str) (ss xs : List Int) : Prop := ss.length = xs.length ∧ ∀ i, i < ss.length → Tx (Txt.slice line (some (ss.getD i 0)) (some (ss.getD i 0 + 2))) (xs.getD i 0)
theorem carried_str {g : Int → Str} : ∀ {ys : List Value} {ss : List Int}, CarriedAll ys (ss.map fun k => PyData.str (g k)) → ys.length = ss.length ∧ ∀ i, i < ss.length → ∃ t, ys[i]? = some (.str (g (ss.getD i 0)) t)
  | [], [], _ => ⟨rfl, fun i h => absurd h (Nat.not_lt_zero _)⟩
  | _ :: _, [], h => by cases h
  | [], _ :: _, h => by cases h
  | y :: ys, s :: ss, h => by
    cases h with
    | cons h1 h2 =>
      obtain ⟨e, k⟩ := carried_str (g := g) h2
      refine ⟨by simp [e], fun i hi => ?_⟩
      cases i with
      | zero =>
        cases h1
        exact ⟨_, rfl⟩
      | succ i =>
        have := k i (by simpa using hi)
        simpa using this
theorem hands_of {line : Str} {ys : List Value} {ss xs : List Int} (h : CarriedAll ys (ss.map fun k => PyData.str (Txt.slice line (some k) (some (k + 2))))) (t : TxAll line ss xs) : HandsAre ys xs := by
  obtain ⟨e, k⟩ := carried_str (g := fun k => Txt.slice line (some k) (some (k + 2))) h
  refine ⟨e.trans t.1, fun i hi => ?_⟩
  obtain ⟨tk, hk⟩ := k i (by rw [t.1]; exact hi)
  exact ⟨_, tk, hk, t.2 i (by rw [t.1]; exact hi)⟩
section
variable {prog : Program} {w : World} {A : Around} {E : Value → Shared → Prop} {s : Shared} {h₀ : Heap} {L l : Addr} {m : Str → Option Value} {news : List (Addr × Obj)} {Q : Value → Shared → Prop}
theorem hand_item {value slice : PySem.Expr} {ys : List Value} {xs : List Int} {k : Int} {u : Tok} {n : Nat} (N : News h₀ L s.heap news) (hm : (l, listOf ys.toArray n) ∈ news) (hH : HandsAre ys xs) (h0 : 0 ≤ k) (h1 : k < (xs.length : Int)) (h60 : xs.length ≤ 60)
    (h : ∀ a t, Tx a (xs.getD k.toNat 0) → Q (.str a t) s)
    (hs : subscripted slice false (.ref l) (.int k u) = operate [.ref l, .int k u] (getItem (.ref l) (.int k u)) := by with_unfolding_all rfl) :
    wpAny (model prog w) A (subscriptTail value slice (.ref l) (.int k u)) Q E s := by
  have hl : s.heap.IsList l ys.toArray := ⟨_, (N _ hm).1, rfl, n, rfl⟩
  obtain ⟨a, t, e, hT⟩ := hH.2 k.toNat (by omega)
  exact tail_any hl.typeIs slot_list_getitem.lookup (wpAny_getItem_list hl h0 (by omega) (by simpa using e) (h a t hT)) hs
end
section
variable {prog : Program} {w : World} {A : Around} {h₀ : Heap} {L : Addr} {m : Str → Option Value} {env : Env} {elt : Expr} {x : Str} {scope : Scope} {cl : List (Str × Addr)} {s : Shared} {S : List (Addr × Obj) → Prop} {Fin : List Value → List (Addr × Obj) → Prop} {news : List (Addr × Obj)}
theorem hands_comp {vs : List Value} {ss xs : List Int} {line : Str} (hT : TxAll line ss xs) (hi : IntsAre vs ss)
    (turn : ∀ k t I oI C oC D m₂ ys h tk (E' : Value → Shared → Prop), k ∈ ss → LCg.NsObj oC m₂ → m₂ x = some (.int k t) → Fr h₀ L h m → News h₀ L h ((I, oI) :: (C, oC) :: (D, LCg.lst ys) :: news) → LCg.Off3 I C D news → ((@Ne Nat I C) ∧ (@Ne Nat I D) ∧ (@Ne Nat C D)) → KPfMark →
      wpAny (model prog w) A (eval elt (compEnvC scope cl C env)) (LCg.CompEnd h₀ L m { s with heap := h, toks := tk } I oI C oC D (LCg.lst ys) S (fun y news' => KCtEl news (Txt.slice line (some k) (some (k + 2))) y news')) E' { s with heap := h, toks := tk })
    (fin : ∀ ys, HandsAre ys xs → Fin ys news) : LCg.CompRest prog w A h₀ L m env elt x scope cl s S (fun i v => vs.toArray[i]? = some v) Fin vs.toArray.size 0 [] news :=
  kct_list (fun k => Txt.slice line (some k) (some (k + 2))) hi turn (fun ys hC _ => fin ys (hands_of hC hT))
end
def dists (xs : List Int) : List Int := (List.range xs.length).map fun i => absd (xs.getD i 0) (xs.getD ((i + 1) % xs.length) 0)
theorem dists_len (xs : List Int) : (dists xs).length = xs.length := by simp [dists]
theorem dists_get {xs : List Int} {i : Nat} (h : i < xs.length) : (dists xs)[i]? = some (absd (xs.getD i 0) (xs.getD ((i + 1) % xs.length) 0)) := by
  simp [dists, h]
theorem fmod_next {i n : Nat} (hn : 0 < n) : (((i : Int) + 1).fmod (n : Int)) = (((i + 1) % n : Nat) : Int) := by
  rw [Int.fmod_eq_emod_of_nonneg _ (by omega)]; rfl
/-- what stands behind a turn -/
def TurnQ (g : Heap) (L : Addr) (m₀ : Str → Option Value) (l : Addr) (all : List (Addr × Obj)) (vs : List Value) (c : Nat) (d : Int) (s : Shared) (fl : Flow) (s' : Shared) : Prop :=
  ∃ (h' : Heap) (tk t : Nat) (m' : Str → Option Value), fl = .next ∧ s' = { s with heap := h', toks := tk } ∧ Fr g L h' m' ∧ (∀ y : Str, y ≠ "k" → y ≠ "one" → y ≠ "other" → m' y = m₀ y) ∧ News g L h' ((l, listOf (vs.toArray.push (.int d t)) (c + 1)) :: all)
theorem turn_end {g : Heap} {L : Addr} {m₀ m' : Str → Option Value} {l : Addr} {all al : List (Addr × Obj)} {vs : List Value} {c : Nat} {d d' : Int} {s : Shared} {h' : Heap} {tk t : Nat}
    (F : Fr g L h' m') (N : News g L h' al) (hs : ∀ p ∈ (l, listOf (vs.toArray.push (.int d' t)) (c + 1)) :: all, p ∈ al) (e : d' = d) (hm : ∀ y : Str, y ≠ "k" → y ≠ "one" → y ≠ "other" → m' y = m₀ y) :
    TurnQ g L m₀ l all vs c d s .next { s with heap := h', toks := tk } := by
  subst e
  exact ⟨h', tk, t, m', rfl, rfl, F, hm, cb_drop N hs⟩
section
variable {prog : Program} {w : World} {A : Around} {E : Value → Shared → Prop} {s : Shared} {env : Env} {h₀ : Heap} {body : List Stmt} {Q : Flow → Shared → Prop}
theorem apart_loop {r : Addr} {b₀ : Int} {t₀ u₀ v₀ : Tok} {m₀ : Str → Option Value} {l : Addr} {c₀ : Nat} {rest : List (Addr × Obj)} (xs : List Int)
    (hh : A.handled = none) (hr : IsRange s.heap r 0 b₀ 1 t₀ u₀ v₀) (hb : b₀ = (xs.length : Int)) (h60 : xs.length ≤ 60) (F : Fr h₀ env.locals s.heap m₀) (N : News h₀ env.locals s.heap ((l, listOf #[] c₀) :: rest)) (hoff : ∀ p ∈ rest, p.1 ≠ l)
    (turn : ∀ (i : Nat) t (u1 u2 : Option Value) (vs : List Value) (c : Nat) (all : List (Addr × Obj)) h tk, i < xs.length → vs.length = i → (∀ p ∈ rest, p ∈ all) → (∀ p ∈ all, p.1 ≠ l) →
      Fr h₀ env.locals h (fun y => if y = "k" then some (.int (i : Int) t) else if y = "one" then u1 else if y = "other" then u2 else m₀ y) → News h₀ env.locals h ((l, listOf vs.toArray c) :: all) →
      wpAny (model prog w) A (execs body env) (TurnQ h₀ env.locals m₀ l all vs c (absd (xs.getD i 0) (xs.getD ((i + 1) % xs.length) 0)) { s with heap := h, toks := tk }) E { s with heap := h, toks := tk })
    (done : ∀ (u0 u1 u2 : Option Value) vs c h tk, IntsAre vs (dists xs) → Fr h₀ env.locals h (fun y => if y = "k" then u0 else if y = "one" then u1 else if y = "other" then u2 else m₀ y) → News h₀ env.locals h ((l, listOf vs.toArray c) :: rest) → Q .next { s with heap := h, toks := tk }) :
    wpAny (model prog w) A (pyIter (.ref r)) (fun it s₂ => LoopAtV prog w A h₀ env "k" body Q E it s₂) E s := by
  subst hb
  refine rangeJ (n := xs.length) (fun i m nx => ∃ vs c, nx = (l, listOf (List.toArray vs) c) :: rest ∧ IntsAre vs ((dists xs).take i) ∧ ∀ y : Str, y ≠ "k" → y ≠ "one" → y ≠ "other" → m y = m₀ y) hh hr (small_one (by decide) (by decide) (by omega) (by omega)) (by first | exact rangeSize_nat _ _ | (rw [show ((xs.length : Int)) = 0 + (xs.length : Int) by omega]; exact rangeSize_nat _ _)) F N ⟨[], c₀, rfl, .nil, fun _ _ _ _ => rfl⟩ ?_ ?_
  · rintro i t m₁ nx h tk own hi hoff' ⟨vs, c, rfl, hv, hm⟩ F₁ N₁
    have hlen : vs.length = i := by
      rw [hv.length, List.length_take, dists_len]; omega
    have eF : (fun y => if y = ("k" : Str) then some (Value.int (0 + (i : Int)) t) else m₁ y) = fun y => if y = ("k" : Str) then some (.int (i : Int) t) else if y = "one" then m₁ "one" else if y = "other" then m₁ "other" else m₀ y := by
      funext y
      by_cases h1 : y = "k"
      · rw [if_pos h1, if_pos h1, Int.zero_add]
      · rw [if_neg h1, if_neg h1]
        by_cases h2 : y = "one"
        · rw [if_pos h2, h2]
        · rw [if_neg h2]
          by_cases h3 : y = "other"
          · rw [if_pos h3, h3]
          · rw [if_neg h3, hm y h1 h2 h3]
    rw [eF] at F₁
    refine wpAny_mono (turn i t _ _ vs c (rest ++ own) h tk hi hlen (fun p hp => List.mem_append.mpr (.inl hp)) (fun p hp => ?_) F₁ N₁) (fun fl s' hq => ?_) fun _ _ e => e
    · rcases List.mem_append.mp hp with hp | hp
      · exact hoff p hp
      · exact hoff' p hp _ (by simp)
    · obtain ⟨h', tk', t', m', rfl, rfl, F', hm', N'⟩ := hq
      refine ⟨h', tk', m', _, (l, listOf (vs ++ [Value.int (absd (xs.getD i 0) (xs.getD ((i + 1) % xs.length) 0)) t']).toArray (c + 1)) :: rest, rfl, F', N', ?_, ?_, ?_, _, _, rfl, ?_, hm'⟩
      · intro p hp
        rcases List.mem_cons.mp hp with rfl | hp
        · rw [← List.push_toArray]; exact List.mem_cons_self
        · exact List.mem_cons_of_mem _ (List.mem_append.mpr (.inl hp))
      · intro p hp
        exact List.mem_cons_of_mem _ (List.mem_append.mpr (.inr hp))
      · exact hoff'
      · rw [List.take_add_one, dists_get hi]
        exact hv.append (.cons _ _ .nil)
  · rintro m₁ nx h tk ⟨vs, c, rfl, hv, hm⟩ F₁ N₁
    rw [List.take_of_length_le (by rw [dists_len]; exact Nat.le_refl _)] at hv
    have eF : m₁ = fun y => if y = ("k" : Str) then m₁ "k" else if y = "one" then m₁ "one" else if y = "other" then m₁ "other" else m₀ y := by
      funext y
      by_cases h1 : y = "k"
      · rw [if_pos h1, h1]
      · rw [if_neg h1]
        by_cases h2 : y = "one"
        · rw [if_pos h2, h2]
        · rw [if_neg h2]
          by_cases h3 : y = "other"
          · rw [if_pos h3, h3]
          · rw [if_neg h3, hm y h1 h2 h3]
    rw [eF] at F₁
    exact done _ _ _ vs c h tk hv F₁ N₁
end
end Mine
namespace Mine
local macro_rules | `(tactic| walk_at $s:str) => `(tactic| k_extra $s)
local macro_rules | `(tactic| k_room) => `(tactic| ktr_room)
local macro_rules | `(tactic| k_units) => `(tactic| ktr_units)
set_option maxRecDepth 100000 in
set_option maxHeartbeats 1500000 in
theorem isub_spec {prog : Program} {w : World} {p : Program} {loose : List Str} {mean : ExcName → Option Value} {mg mb : Str → Option Value}
    (dp un : Nat) (gd : Option (List Code)) (cn : Str) (cs : Scope) (a : Addr) (ccd : Value) (cl : List (Str × Addr)) (outer : List Env) (A₀ : Around) (base h₀ : Heap) (L : Addr) (m : Str → Option Value) (news : List (Addr × Obj)) (s : Shared) (Q E : Value → Shared → Prop)
    (x y : Int) (tx ty : Tok)
    (B : Below A₀ base outer h₀) (F : Fr h₀ L s.heap m) (X : (hd.heap_39 w.params).In h₀) (N : News h₀ L s.heap news) (T : Top p loose mean mg mb h₀) (hk : cs.kind = .function)
    (hdp : dp + 5 < recursionLimit) (hun : un + 40 < cLine)
    (ret : ∀ (t : Tok) (h' : Heap) (tk' : Nat), Fr h₀ L h' m → News h₀ L h' news → Q (.int (x - y) t) { s with heap := h', toks := tk' }) :
    wpAny (model prog w) (ktrTop dp un gd cn cs L a ccd cl outer) (call (.ref 56) [.int x tx, .int y ty]) Q E s := by
  w_top off
  have kf9 : PySem.Challenge.rw_xl0002_01 = PySem.Challenge.rw_xl0002_01 ∧ Mine.hd.heap_39 = Mine.hd.heap_39 := (by k_fill; exact ⟨rfl, rfl⟩)
  have kMark : KstMark := kstMark
  k_with_none
  refine wpAny_call ?_
  k_dflt cell_enter
  k_steps
  all_goals (exact ret _ _ _ (by assumption) (cb_drop (by assumption) (fun p hp => by repeat' (first | exact hp | apply List.Mem.tail))))
set_option maxRecDepth 100000 in
set_option maxHeartbeats 1500000 in
theorem mod_spec {prog : Program} {w : World} {p : Program} {loose : List Str} {mean : ExcName → Option Value} {mg mb : Str → Option Value}
    (dp un : Nat) (gd : Option (List Code)) (cn : Str) (cs : Scope) (a : Addr) (ccd : Value) (cl : List (Str × Addr)) (outer : List Env) (A₀ : Around) (base h₀ : Heap) (L : Addr) (m : Str → Option Value) (news : List (Addr × Obj)) (s : Shared) (Q E : Value → Shared → Prop)
    (x y : Int) (tx ty : Tok) (hy : y ≠ 0)
    (B : Below A₀ base outer h₀) (F : Fr h₀ L s.heap m) (X : (hd.heap_39 w.params).In h₀) (N : News h₀ L s.heap news) (T : Top p loose mean mg mb h₀) (hk : cs.kind = .function)
    (hdp : dp + 5 < recursionLimit) (hun : un + 40 < cLine)
    (ret : ∀ (t : Tok) (h' : Heap) (tk' : Nat), Fr h₀ L h' m → News h₀ L h' news → Q (.int (x.fmod y) t) { s with heap := h', toks := tk' }) :
    wpAny (model prog w) (ktrTop dp un gd cn cs L a ccd cl outer) (call (.ref 35) [.int x tx, .int y ty]) Q E s := by
  w_top off
  have kf9 : PySem.Challenge.rw_xl0002_01 = PySem.Challenge.rw_xl0002_01 ∧ Mine.hd.heap_39 = Mine.hd.heap_39 := (by k_fill; exact ⟨rfl, rfl⟩)
  have kMark : KstMark := kstMark
  k_with_none
  refine wpAny_call ?_
  k_dflt cell_enter
  k_steps
  all_goals (exact ret _ _ _ (by assumption) (cb_drop (by assumption) (fun p hp => by repeat' (first | exact hp | apply List.Mem.tail))))
end Mine
namespace Mine
def nthV : List Value → Nat → Option Value
  | [], _ => none
  | x :: _, 0 => some x
  | _ :: r, n + 1 => nthV r n
theorem nthV_eq : ∀ (vs : List Value) (n : Nat), vs[n]? = nthV vs n
  | [], _ => rfl
  | _ :: _, 0 => rfl
  | _ :: r, n + 1 => by simpa [nthV] using nthV_eq r n
section
variable {prog : Program} {w : World} {A : Around} {E : Value → Shared → Prop} {s : Shared} {h₀ : Heap} {L l : Addr} {m : Str → Option Value} {news : List (Addr × Obj)} {Q : Value → Shared → Prop}
theorem lit_item {value slice : PySem.Expr} {vs : List Value} {k : Int} {u : Tok} {n : Nat} {v : Value} (N : News h₀ L s.heap news) (hm : (l, listOf vs.toArray n) ∈ news) (h0 : 0 ≤ k) (h1 : k < 2 ^ 63) (hx : nthV vs k.toNat = some v)
    (h : Q v s)
    (hs : subscripted slice false (.ref l) (.int k u) = operate [.ref l, .int k u] (getItem (.ref l) (.int k u)) := by with_unfolding_all rfl) :
    wpAny (model prog w) A (subscriptTail value slice (.ref l) (.int k u)) Q E s := by
  have hl : s.heap.IsList l vs.toArray := ⟨_, (N _ hm).1, rfl, n, rfl⟩
  exact tail_any hl.typeIs slot_list_getitem.lookup (wpAny_getItem_list hl h0 h1 (by rw [← nthV_eq] at hx; simpa using hx) h) hs
theorem strs_get : ∀ {vs : List Value} {xs : List Str}, StrsAre vs xs → ∀ i, i < xs.length → ∃ t, vs[i]? = some (.str (xs.getD i Str.empty) t)
  | _, _, .nil, i, h => absurd h (Nat.not_lt_zero _)
  | _, _, .cons y t r, 0, _ => ⟨t, rfl⟩
  | _, _, .cons y t r, i + 1, h => by
    obtain ⟨t', e⟩ := strs_get r i (by simpa using h)
    exact ⟨t', by simpa using e⟩
theorem menu_item {value slice : PySem.Expr} {vs : List Value} {xs : List Str} {k : Int} {u : Tok} {n : Nat} (N : News h₀ L s.heap news) (hm : (l, listOf vs.toArray n) ∈ news) (hv : StrsAre vs xs) (h0 : 0 ≤ k) (h1 : k < (xs.length : Int)) (h60 : xs.length ≤ 60)
    (h : ∀ t, Q (.str (xs.getD k.toNat Str.empty) t) s)
    (hs : subscripted slice false (.ref l) (.int k u) = operate [.ref l, .int k u] (getItem (.ref l) (.int k u)) := by with_unfolding_all rfl) :
    wpAny (model prog w) A (subscriptTail value slice (.ref l) (.int k u)) Q E s := by
  have hl : s.heap.IsList l vs.toArray := ⟨_, (N _ hm).1, rfl, n, rfl⟩
  obtain ⟨t, e⟩ := strs_get hv k.toNat (by omega)
  exact tail_any hl.typeIs slot_list_getitem.lookup (wpAny_getItem_list hl h0 (by omega) (by simpa using e) (h t)) hs
end
def daysL : List Str := ["Mon", "Tue", "Wed", "Thu", "Fri", "Sat", "Sun"]
def monsL : List Str := ["Jan", "Feb", "Mar", "Apr", "May", "Jun", "Jul", "Aug", "Sep", "Oct", "Nov", "Dec"]
def dayS (k : Int) : Str := daysL.getD k.toNat Str.empty
def monS (k : Int) : Str := monsL.getD (k - 1).toNat Str.empty
section
variable {prog : Program} {w : World} {A : Around} {E : Value → Shared → Prop} {s : Shared} {h₀ : Heap} {L l : Addr} {news : List (Addr × Obj)} {Q : Value → Shared → Prop}
theorem day_item {value slice : PySem.Expr} {k : Int} {u a0 a1 a2 a3 a4 a5 a6 : Tok} {n : Nat} (N : News h₀ L s.heap news) (hm : (l, listOf #[.str "Mon" a0, .str "Tue" a1, .str "Wed" a2, .str "Thu" a3, .str "Fri" a4, .str "Sat" a5, .str "Sun" a6] n) ∈ news) (h0 : 0 ≤ k) (h1 : k ≤ 6)
    (h : ∀ t, Q (.str (dayS k) t) s)
    (hs : subscripted slice false (.ref l) (.int k u) = operate [.ref l, .int k u] (getItem (.ref l) (.int k u)) := by with_unfolding_all rfl) :
    wpAny (model prog w) A (subscriptTail value slice (.ref l) (.int k u)) Q E s :=
  menu_item (xs := daysL) N hm (.cons _ _ (.cons _ _ (.cons _ _ (.cons _ _ (.cons _ _ (.cons _ _ (.cons _ _ .nil))))))) h0 (by show k < 7; omega) (by show 7 ≤ 60; omega) h hs
theorem mon_item {value slice : PySem.Expr} {k : Int} {u a0 a1 a2 a3 a4 a5 a6 a7 a8 a9 a10 a11 : Tok} {n : Nat} (N : News h₀ L s.heap news) (hm : (l, listOf #[.str "Jan" a0, .str "Feb" a1, .str "Mar" a2, .str "Apr" a3, .str "May" a4, .str "Jun" a5, .str "Jul" a6, .str "Aug" a7, .str "Sep" a8, .str "Oct" a9, .str "Nov" a10, .str "Dec" a11] n) ∈ news) (h0 : 1 ≤ k) (h1 : k ≤ 12)
    (h : ∀ t, Q (.str (monS k) t) s)
    (hs : subscripted slice false (.ref l) (.int (k - 1) u) = operate [.ref l, .int (k - 1) u] (getItem (.ref l) (.int (k - 1) u)) := by with_unfolding_all rfl) :
    wpAny (model prog w) A (subscriptTail value slice (.ref l) (.int (k - 1) u)) Q E s :=
  menu_item (xs := monsL) N hm (.cons _ _ (.cons _ _ (.cons _ _ (.cons _ _ (.cons _ _ (.cons _ _ (.cons _ _ (.cons _ _ (.cons _ _ (.cons _ _ (.cons _ _ (.cons _ _ .nil)))))))))))) (by omega) (by show k - 1 < 12; omega) (by show 12 ≤ 60; omega) h hs
end
end Mine
namespace Mine
set_option maxRecDepth 100000
theorem fmt_text : Str.ofString "%s, %02d %s %04d %02d:%02d:%02d %s" = Str.mk #[37, 115, 44, 32, 37, 48, 50, 100, 32, 37, 115, 32, 37, 48, 52, 100, 32, 37, 48, 50, 100, 58, 37, 48, 50, 100, 58, 37, 48, 50, 100, 32, 37, 115] := by decide +kernel
theorem digits_small : ∀ n : Nat, n < 100 → (Str.ofString (toString ((n : Nat) : Int))).cps.toList = if n < 10 then [48 + n] else [48 + n / 10, 48 + n % 10] := by decide +kernel
section
open Builtin Builtin.Str
theorem field_two {f : Percent} {n : Int} {d : List Nat} (hf : f = ⟨false, false, false, false, true, some 2, none, 100⟩) (h : 0 ≤ n ∧ n ≤ 99) (hd : d = (Str.ofString (toString ((n.natAbs : Nat) : Int))).cps.toList) :
    (percentField f true (percentInt f (decide (n < 0)) d) = none ∧ percentInt f (decide (n < 0)) d = (two n).cps.toList) ∨ percentField f true (percentInt f (decide (n < 0)) d) = some (two n).cps.toList := by
  obtain ⟨h0, h1⟩ := h
  obtain ⟨k, rfl⟩ := Int.eq_ofNat_of_zero_le h0
  have hk : k < 100 := by omega
  have e : ((k : Int)).natAbs = k := rfl
  rw [e, digits_small k hk] at hd
  subst hf
  subst hd
  rw [KPc.int_text _ rfl (Or.inl rfl) rfl h0, two_cps]
  by_cases hk10 : k < 10
  · right
    rw [if_pos hk10]
    have e1 : k / 10 = 0 := by omega
    have e2 : k % 10 = k := by omega
    simp only [Int.toNat_natCast, e1, e2]
    have n45 : 48 + k ≠ 45 := by omega
    have n43 : 48 + k ≠ 43 := by omega
    simp [percentField, n45, n43]
  · left
    rw [if_neg hk10]
    simp [percentField]
/-- four figures of a number below a hundred -/
def four (x : Int) : Str := ⟨#[48, 48, 48 + x.toNat / 10, 48 + x.toNat % 10]⟩
theorem field_four {f : Percent} {n : Int} {d : List Nat} (hf : f = ⟨false, false, false, false, true, some 4, none, 100⟩) (h : 0 ≤ n ∧ n ≤ 99) (hd : d = (Str.ofString (toString ((n.natAbs : Nat) : Int))).cps.toList) :
    (percentField f true (percentInt f (decide (n < 0)) d) = none ∧ percentInt f (decide (n < 0)) d = (four n).cps.toList) ∨ percentField f true (percentInt f (decide (n < 0)) d) = some (four n).cps.toList := by
  obtain ⟨h0, h1⟩ := h
  obtain ⟨k, rfl⟩ := Int.eq_ofNat_of_zero_le h0
  have hk : k < 100 := by omega
  have e : ((k : Int)).natAbs = k := rfl
  rw [e, digits_small k hk] at hd
  subst hf
  subst hd
  rw [KPc.int_text _ rfl (Or.inl rfl) rfl h0]
  right
  show _ = some [48, 48, 48 + k / 10, 48 + k % 10]
  by_cases hk10 : k < 10
  · rw [if_pos hk10]
    have e1 : k / 10 = 0 := by omega
    have e2 : k % 10 = k := by omega
    simp only [e1, e2]
    have n45 : 48 + k ≠ 45 := by omega
    have n43 : 48 + k ≠ 43 := by omega
    simp [percentField, n45, n43, List.replicate]
  · rw [if_neg hk10]
    have n45 : 48 + k / 10 ≠ 45 := by omega
    have n43 : 48 + k / 10 ≠ 43 := by omega
    simp [percentField, n45, n43, List.replicate]
def lineOf (dS : Str) (da : Int) (mS : Str) (ye ho mi se : Int) (zone : Str) : Str :=
  dS ++ Str.ofString ", " ++ two da ++ Str.ofString " " ++ mS ++ Str.ofString " " ++ four ye ++ Str.ofString " " ++ two ho ++ Str.ofString ":" ++ two mi ++ Str.ofString ":" ++ two se ++ Str.ofString " " ++ zone
theorem cut_yield {M : Model} {A : Around} {E : Value → Shared → Prop} {s : Shared} {t : Sem (ForInStep (List Value × Writer × List Nat))} {R : ForInStep (List Value × Writer × List Nat) → Shared → Prop} (T : Str) (N : Nat) (p : List Value) (rr : List Nat)
    (h1 : wpAny M A t (fun x s' => s' = s ∧ ∃ w', x = ForInStep.yield (p, w', rr) ∧ KPc.Good w' T N) E s) (h2 : ∀ w', KPc.Good w' T N → R (ForInStep.yield (p, w', rr)) s) : wpAny M A t R E s := by
  refine wpAny_mono h1 (fun x s' h => ?_) fun _ _ e => e
  obtain ⟨rfl, w', rfl, hG⟩ := h
  exact h2 w' hG
theorem good_none {w : Writer} {T y : PySem.Str} {N : Nat} {r : Option (List Nat)} {P : List Nat} {o : Option Value} (g : KPc.Good w T N) (hr : (r = none ∧ P = y.cps.toList) ∨ r = some y.cps.toList) (h : r = none) (hK : y.length ≤ 10) (ho : o = none) : KPc.Good (w.add ⟨P.toArray⟩ o) (T ++ y) (N + 10) := by
  rcases hr with ⟨_, rfl⟩ | e
  · have eb : (⟨y.cps.toList.toArray⟩ : PySem.Str) = y := congrArg PySem.Str.mk (Array.toArray_toList ..)
    rw [eb]
    exact KPc.good_mono (KPc.good_add g (KPc.obj_none ho)) (Nat.add_le_add_left hK _)
  · rw [h] at e; cases e
theorem good_some {w : Writer} {T y : PySem.Str} {N : Nat} {r : Option (List Nat)} {P L : List Nat} (g : KPc.Good w T N) (hr : (r = none ∧ P = y.cps.toList) ∨ r = some y.cps.toList) (h : r = some L) (hK : y.length ≤ 10) : KPc.Good (w.add ⟨L.toArray⟩ none) (T ++ y) (N + 10) := by
  rcases hr with ⟨e, _⟩ | e
  · rw [h] at e; cases e
  · rw [h] at e
    cases e
    have eb : (⟨y.cps.toList.toArray⟩ : PySem.Str) = y := congrArg PySem.Str.mk (Array.toArray_toList ..)
    rw [eb]
    exact KPc.good_mono (KPc.good_add g (KPc.obj_none rfl)) (Nat.add_le_add_left hK _)
end
open Builtin Builtin.Str in
set_option maxHeartbeats 8000000 in
theorem fmt_meets {t b : Nat} {dS mS zone : Str} {da ye ho mi se : Int} {t1 t2 t3 t4 t5 t6 t7 t8 : Tok}
    (hdS : dS.length ≤ 10) (hmS : mS.length ≤ 10) (hz : zone.length ≤ 10) (hda : 0 ≤ da ∧ da ≤ 99) (hye : 0 ≤ ye ∧ ye ≤ 99) (hho : 0 ≤ ho ∧ ho ≤ 99) (hmi : 0 ≤ mi ∧ mi ≤ 99) (hse : 0 ≤ se ∧ se ≤ 99) :
    Meets («str.__mod__» ⟨[.str (Str.mk #[37, 115, 44, 32, 37, 48, 50, 100, 32, 37, 115, 32, 37, 48, 52, 100, 32, 37, 48, 50, 100, 58, 37, 48, 50, 100, 58, 37, 48, 50, 100, 32, 37, 115]) t, .ref b], []⟩)
      (fun _ R s => IsTup s.heap b #[.str dS t1, .int da t2, .str mS t3, .int ye t4, .int ho t5, .int mi t6, .int se t7, .str zone t8] ∧ ∀ t' k, R (.ok (.ret (.str (lineOf dS da mS ye ho mi se zone) t'))) { s with toks := k }) := by
  apply KPt.meets_tup
  intro _ _ _ _ _ _ kptH _
  obtain ⟨kptO, kptG, kptC, kptN, kptD⟩ := kptH
  rw [KPt.entry_is_r]
  unfold Builtin.Str.percentFormat
  refine wpAny_bind (wpAny_isInstance (T := "tuple") ⟨kptO, kptG, kptC⟩ KPt.sub_tt ?_)
  refine wpAny_bind (KPt.asStr_ref kptG kptD ?_)
  refine wpAny_bind (KPt.fills_ref ⟨kptO, kptG, kptC⟩ ?_)
  intro _
  kpc_if
  refine wpAny_bind (wpAny_seqItems kptG kptD ?_)
  refine wpAny_bind (wpAny_pure ?_)
  refine wpAny_bind ?_
  rw [KPc.range_list]
  refine KPc.start ?_
  intro _ _
  (refine KPc.turn ?_; kpc_check; (repeat kpc_if); (refine wpAny_bind ?_; refine wpAny_holding ?_; (repeat kpc_if); kpt_conv; refine wpAny_pure ?_; refine wpAny_pure ?_; kpt_piece))
  (refine KPc.turn ?_; kpc_check; (repeat kpc_if); (refine wpAny_pure ?_; kpt_piece))
  (refine KPc.turn ?_; kpc_check; (repeat kpc_if); refine wpAny_bind ?_; refine wpAny_holding ?_; (repeat kpc_if); kpt_conv; refine wpAny_pure ?_; apply cut_yield; (case h1 => (dsimp only; split; (focus (rename_i h9; exact wpAny_pure ⟨rfl, _, rfl, good_none (by kpc_g) (field_two rfl (by assumption) rfl) h9 (by show 2 ≤ 10; decide) (ite_self _)⟩)); (focus (rename_i h9; exact wpAny_pure ⟨rfl, _, rfl, good_some (by kpc_g) (field_two rfl (by assumption) rfl) h9 (by show 2 ≤ 10; decide)⟩)))); intro _ _)
  (refine KPc.turn ?_; kpc_check; (repeat kpc_if); (refine wpAny_pure ?_; kpt_piece))
  (refine KPc.turn ?_; kpc_check; (repeat kpc_if); (refine wpAny_bind ?_; refine wpAny_holding ?_; (repeat kpc_if); kpt_conv; refine wpAny_pure ?_; refine wpAny_pure ?_; kpt_piece))
  (refine KPc.turn ?_; kpc_check; (repeat kpc_if); (refine wpAny_pure ?_; kpt_piece))
  (refine KPc.turn ?_; kpc_check; (repeat kpc_if); refine wpAny_bind ?_; refine wpAny_holding ?_; (repeat kpc_if); kpt_conv; refine wpAny_pure ?_; apply cut_yield; (case h1 => (dsimp only; split; (focus (rename_i h9; exact wpAny_pure ⟨rfl, _, rfl, good_none (by kpc_g) (field_four rfl (by assumption) rfl) h9 (by show 4 ≤ 10; decide) (ite_self _)⟩)); (focus (rename_i h9; exact wpAny_pure ⟨rfl, _, rfl, good_some (by kpc_g) (field_four rfl (by assumption) rfl) h9 (by show 4 ≤ 10; decide)⟩)))); intro _ _)
  (refine KPc.turn ?_; kpc_check; (repeat kpc_if); (refine wpAny_pure ?_; kpt_piece))
  (refine KPc.turn ?_; kpc_check; (repeat kpc_if); refine wpAny_bind ?_; refine wpAny_holding ?_; (repeat kpc_if); kpt_conv; refine wpAny_pure ?_; apply cut_yield; (case h1 => (dsimp only; split; (focus (rename_i h9; exact wpAny_pure ⟨rfl, _, rfl, good_none (by kpc_g) (field_two rfl (by assumption) rfl) h9 (by show 2 ≤ 10; decide) (ite_self _)⟩)); (focus (rename_i h9; exact wpAny_pure ⟨rfl, _, rfl, good_some (by kpc_g) (field_two rfl (by assumption) rfl) h9 (by show 2 ≤ 10; decide)⟩)))); intro _ _)
  (refine KPc.turn ?_; kpc_check; (repeat kpc_if); (refine wpAny_pure ?_; kpt_piece))
  (refine KPc.turn ?_; kpc_check; (repeat kpc_if); refine wpAny_bind ?_; refine wpAny_holding ?_; (repeat kpc_if); kpt_conv; refine wpAny_pure ?_; apply cut_yield; (case h1 => (dsimp only; split; (focus (rename_i h9; exact wpAny_pure ⟨rfl, _, rfl, good_none (by kpc_g) (field_two rfl (by assumption) rfl) h9 (by show 2 ≤ 10; decide) (ite_self _)⟩)); (focus (rename_i h9; exact wpAny_pure ⟨rfl, _, rfl, good_some (by kpc_g) (field_two rfl (by assumption) rfl) h9 (by show 2 ≤ 10; decide)⟩)))); intro _ _)
  (refine KPc.turn ?_; kpc_check; (repeat kpc_if); (refine wpAny_pure ?_; kpt_piece))
  (refine KPc.turn ?_; kpc_check; (repeat kpc_if); refine wpAny_bind ?_; refine wpAny_holding ?_; (repeat kpc_if); kpt_conv; refine wpAny_pure ?_; apply cut_yield; (case h1 => (dsimp only; split; (focus (rename_i h9; exact wpAny_pure ⟨rfl, _, rfl, good_none (by kpc_g) (field_two rfl (by assumption) rfl) h9 (by show 2 ≤ 10; decide) (ite_self _)⟩)); (focus (rename_i h9; exact wpAny_pure ⟨rfl, _, rfl, good_some (by kpc_g) (field_two rfl (by assumption) rfl) h9 (by show 2 ≤ 10; decide)⟩)))); intro _ _)
  (refine KPc.turn ?_; kpc_check; (repeat kpc_if); (refine wpAny_pure ?_; kpt_piece))
  (refine KPc.turn ?_; kpc_check; (repeat kpc_if); (refine wpAny_bind ?_; refine wpAny_holding ?_; (repeat kpc_if); kpt_conv; refine wpAny_pure ?_; refine wpAny_pure ?_; kpt_piece))
  (refine KPc.turn ?_; kpc_check; (repeat kpc_if); kpc_close)
section
variable {prog : Program} {w : World} {A : Around} {E : Value → Shared → Prop} {s : Shared} {h₀ : Heap} {L b : Addr} {news : List (Addr × Obj)} {Q : Value → Shared → Prop}
theorem fmt_mod {n : Nat} {t : Tok} {dS mS zone : Str} {da ye ho mi se : Int} {t1 t2 t3 t4 t5 t6 t7 t8 : Tok} (N : News h₀ L s.heap news)
    (hb : (b, ({ cls := .type "tuple", data := .seq #[.str dS t1, .int da t2, .str mS t3, .int ye t4, .int ho t5, .int mi t6, .int se t7, .str zone t8] n } : Obj)) ∈ news)
    (hdS : dS.length ≤ 10) (hmS : mS.length ≤ 10) (hz : zone.length ≤ 10) (hda : 0 ≤ da ∧ da ≤ 99) (hye : 0 ≤ ye ∧ ye ≤ 99) (hho : 0 ≤ ho ∧ ho ≤ 99) (hmi : 0 ≤ mi ∧ mi ≤ 99) (hse : 0 ≤ se ∧ se ≤ 99)
    (h : ∀ t' k, Q (.str (lineOf dS da mS ye ho mi se zone) t') { s with toks := k }) :
    wpAny (model prog w) A (binaryOp .Mod (.str (Str.ofString "%s, %02d %s %04d %02d:%02d:%02d %s") t) (.ref b)) Q E s :=
  KPt.mod_tuple N hb fmt_text (fmt_meets hdS hmS hz hda hye hho hmi hse) h
end
end Mine
namespace Mine
theorem len_getD {n : Nat} : ∀ {xs : List Str}, (∀ x ∈ xs, x.length = n) → ∀ i, i < xs.length → (xs.getD i Str.empty).length = n
  | [], _, i, h => absurd h (Nat.not_lt_zero _)
  | x :: r, hx, 0, _ => hx x (.head _)
  | x :: r, hx, i + 1, h => by
    have := len_getD (xs := r) (fun y hy => hx y (.tail _ hy)) i (by simpa using h)
    simpa using this
theorem days3 : ∀ x ∈ daysL, x.length = 3 := by decide +kernel
theorem mons3 : ∀ x ∈ monsL, x.length = 3 := by decide +kernel
theorem day_len {k : Int} (h : 0 ≤ k ∧ k ≤ 6) : (dayS k).length = 3 := len_getD days3 _ (by show k.toNat < 7; omega)
theorem mon_len {k : Int} (h : 1 ≤ k ∧ k ≤ 12) : (monS k).length = 3 := len_getD mons3 _ (by show (k - 1).toNat < 12; omega)
theorem day_le {k : Int} (h : 0 ≤ k ∧ k ≤ 6) : (dayS k).length ≤ 10 := by rw [day_len h]; decide
theorem mon_le {k : Int} (h : 1 ≤ k ∧ k ≤ 12) : (monS k).length ≤ 10 := by rw [mon_len h]; decide
end Mine
namespace Mine
theorem two_eq {x : Int} (h : 0 ≤ x ∧ x ≤ 99) : Str.ofString (toString (x.fdiv 10)) ++ Str.ofString (toString (x.fmod 10)) = two x := by
  obtain ⟨h0, h1⟩ := h
  obtain ⟨k, rfl⟩ := Int.eq_ofNat_of_zero_le h0
  have e1 : Int.fdiv (k : Int) 10 = ((k / 10 : Nat) : Int) := by rw [Int.fdiv_eq_ediv_of_nonneg _ (by omega)]; rfl
  have e2 : Int.fmod (k : Int) 10 = ((k % 10 : Nat) : Int) := by rw [Int.fmod_eq_emod_of_nonneg _ (by omega)]; rfl
  rw [e1, e2]
  have hc : (Str.ofString (toString ((k / 10 : Nat) : Int)) ++ Str.ofString (toString ((k % 10 : Nat) : Int))).cps.toList = (two (k : Int)).cps.toList := by
    rw [Str.cps_append, Array.toList_append, digits_small _ (by omega), digits_small _ (by omega), if_pos (by omega), if_pos (by omega), two_cps]
    rfl
  exact congrArg Str.mk (Array.toList_inj.mp hc)
section
variable {prog : Program} {w : World} {A : Around} {E : Value → Shared → Prop} {s : Shared} {Q : Value → Shared → Prop} {t u : Tok}
theorem add_two {x : Int} (hx : 0 ≤ x ∧ x ≤ 99) (h : ∀ t' k, Q (.str (two x) t') { s with toks := k }) :
    wpAny (model prog w) A (binaryOp .Add (.str (Str.ofString (toString (x.fdiv 10))) t) (.str (Str.ofString (toString (x.fmod 10))) u)) Q E s := by
  have e := congrArg Str.length (two_eq hx)
  rw [PySem.Str.length_append, two_len] at e
  refine KOpn.add (by rw [e]; decide) ?_
  intro t' k _
  rw [two_eq hx]
  exact h t' k
end
end Mine
namespace Mine
def allMons : Str := Str.ofString "JanFebMarAprMayJunJulAugSepOctNovDec"
theorem mon_slices : ∀ i : Nat, i < 12 → Txt.slice (Str.ofString "JanFebMarAprMayJunJulAugSepOctNovDec") (some (3 * ((i : Int) + 1) - 3)) (some (3 * ((i : Int) + 1))) = monS ((i : Int) + 1) := by decide +kernel
theorem mon_slice {mo : Int} (h : 1 ≤ mo ∧ mo ≤ 12) : Txt.slice (Str.ofString "JanFebMarAprMayJunJulAugSepOctNovDec") (some (3 * mo - 3)) (some (3 * mo)) = monS mo := by
  have e := mon_slices (mo - 1).toNat (by omega)
  have e2 : (((mo - 1).toNat : Nat) : Int) + 1 = mo := by omega
  rw [e2] at e
  exact e
end Mine
namespace Mine
theorem years : ∀ n : Nat, n < 100 → Txt.mul (Str.ofString "0") (4 - ((Str.length (Str.ofString (toString ((n : Nat) : Int))) : Nat) : Int)) ++ Str.ofString (toString ((n : Nat) : Int)) = four ((n : Nat) : Int) := by decide +kernel
theorem year_eq {y : Int} (h : 0 ≤ y ∧ y ≤ 99) : Txt.mul (Str.ofString "0") (4 - ((Str.length (Str.ofString (toString y)) : Nat) : Int)) ++ Str.ofString (toString y) = four y := by
  obtain ⟨h0, h1⟩ := h
  obtain ⟨k, rfl⟩ := Int.eq_ofNat_of_zero_le h0
  exact years k (by omega)
theorem told_line {dS mS zone : Str} {da turn ho mi se : Int} (h : 0 ≤ turn ∧ turn ≤ 98) :
    dS ++ Str.ofString ", " ++ two da ++ Str.ofString " " ++ mS ++ Str.ofString " " ++ Txt.mul (Str.ofString "0") (4 - ((Str.length (Str.ofString (toString (turn + 1))) : Nat) : Int)) ++ Str.ofString (toString (turn + 1)) ++ Str.ofString " " ++ two ho ++ Str.ofString ":" ++ two mi ++ Str.ofString ":" ++ two se ++ Str.ofString " " ++ zone
      = lineOf dS da mS (turn + 1) ho mi se zone := by
  rw [PySem.Str.append_assoc _ (Txt.mul _ _) (Str.ofString (toString (turn + 1))), year_eq (by omega)]
  rfl
end Mine
namespace Mine
section
variable {prog : Program} {w : World} {A : Around} {h₀ : Heap} {L : Addr} {m : Str → Option Value} {env : Env} {elt : Expr} {x : Str} {scope : Scope} {cl : List (Str × Addr)} {s : Shared} {S : List (Addr × Obj) → Prop} {Fin : List Value → List (Addr × Obj) → Prop} {news : List (Addr × Obj)}
theorem two_comp {t0 t1 t2 t3 : Tok} {a b c d : Int} (ha : 0 ≤ a ∧ a ≤ 99) (hb : 0 ≤ b ∧ b ≤ 99) (hc : 0 ≤ c ∧ c ≤ 99) (hd : 0 ≤ d ∧ d ≤ 99)
    (turn : ∀ k t I oI C oC D m₂ ys h tk (E' : Value → Shared → Prop), (0 ≤ k ∧ k ≤ 99) → LCg.NsObj oC m₂ → m₂ x = some (.int k t) → Fr h₀ L h m → News h₀ L h ((I, oI) :: (C, oC) :: (D, LCg.lst ys) :: news) → LCg.Off3 I C D news → ((@Ne Nat I C) ∧ (@Ne Nat I D) ∧ (@Ne Nat C D)) →
      wpAny (model prog w) A (eval elt (compEnvC scope cl C env)) (LCg.CompEnd h₀ L m { s with heap := h, toks := tk } I oI C oC D (LCg.lst ys) S (fun y news' => KCtEl news (two k) y news')) E' { s with heap := h, toks := tk })
    (fin : ∀ ta tb tc td, Fin [.str (two a) ta, .str (two b) tb, .str (two c) tc, .str (two d) td] news) :
    LCg.CompRest prog w A h₀ L m env elt x scope cl s S (fun i v => #[Value.int a t0, .int b t1, .int c t2, .int d t3][i]? = some v) Fin #[Value.int a t0, .int b t1, .int c t2, .int d t3].size 0 [] news := by
  refine kct_list (vs := [.int a t0, .int b t1, .int c t2, .int d t3]) (ns := [a, b, c, d]) two (.cons _ _ ints3) (fun k t I oI C oC D m₂ ys h tk E' hk hC hx F N off ne _ => turn k t I oI C oC D m₂ ys h tk E' ?_ hC hx F N off ne) (fun ys hC _ => ?_)
  · simp only [List.mem_cons, List.not_mem_nil, or_false] at hk
    rcases hk with rfl | rfl | rfl | rfl
    · exact ha
    · exact hb
    · exact hc
    · exact hd
  · obtain ⟨hl, hg⟩ := carried_str (g := two) hC
    match ys, hl, hg with
    | [y0, y1, y2, y3], _, hg =>
      obtain ⟨ta, e0⟩ := hg 0 (by simp)
      obtain ⟨tb, e1⟩ := hg 1 (by simp)
      obtain ⟨tc, e2⟩ := hg 2 (by simp)
      obtain ⟨td, e3⟩ := hg 3 (by simp)
      simp only [List.getElem?_cons_zero, List.getElem?_cons_succ, Option.some.injEq, List.getD_cons_zero, List.getD_cons_succ] at e0 e1 e2 e3
      rw [e0, e1, e2, e3]
      exact fin ta tb tc td
end
end Mine
namespace Mine
theorem year_lens : ∀ n : Nat, n < 100 → (Txt.mul (Str.ofString "0") (4 - ((Str.length (Str.ofString (toString ((n : Nat) : Int))) : Nat) : Int))).length ≤ 4 ∧ (Str.ofString (toString ((n : Nat) : Int))).length ≤ 4 := by decide +kernel
theorem year_len {y : Int} (h : 0 ≤ y ∧ y ≤ 98) : (Txt.mul (Str.ofString "0") (4 - ((Str.length (Str.ofString (toString (y + 1))) : Nat) : Int))).length ≤ 4 ∧ (Str.ofString (toString (y + 1))).length ≤ 4 := by
  obtain ⟨k, hk⟩ := Int.eq_ofNat_of_zero_le (show 0 ≤ y + 1 by omega)
  rw [hk]
  exact year_lens k (by omega)
end Mine
namespace Mine
/-- the hands at a turn -/
def it : Nat → List Int → List Int
  | 0, xs => xs
  | n + 1, xs => dists (it n xs)
def rowsOf (n : Nat) (xs : List Int) : List (List Int) := (List.range n).map fun i => it i xs
theorem rowsOf_len (n : Nat) (xs : List Int) : (rowsOf n xs).length = n := by simp [rowsOf]
theorem rowsOf_get {n i : Nat} (xs : List Int) (h : i < n) : (rowsOf n xs).getD i [] = it i xs := by simp [rowsOf, h]
theorem it_len (xs : List Int) : ∀ n, (it n xs).length = xs.length
  | 0 => rfl
  | n + 1 => by rw [it, dists_len, it_len xs n]
def InB (xs : List Int) : Prop := ∀ x ∈ xs, 0 ≤ x ∧ x ≤ 59
theorem getD_in {xs : List Int} (h : InB xs) (i : Nat) : 0 ≤ xs.getD i 0 ∧ xs.getD i 0 ≤ 59 := by
  by_cases hi : i < xs.length
  · have e : xs.getD i 0 = xs[i] := by simp [hi]
    rw [e]
    exact h _ (List.getElem_mem hi)
  · have e : xs.getD i 0 = 0 := by simp [Nat.le_of_not_lt hi]
    rw [e]; decide
theorem dists_in {xs : List Int} (h : InB xs) : InB (dists xs) := by
  intro x hx
  simp only [dists, List.mem_map] at hx
  obtain ⟨i, _, rfl⟩ := hx
  exact absd_in (getD_in h _) (getD_in h _)
theorem it_in {xs : List Int} (h : InB xs) : ∀ n, InB (it n xs)
  | 0 => h
  | n + 1 => dists_in (it_in h n)
/-- the rows, as the ledger bears them -/
def RowsAre (led : List (Addr × Obj)) (vs : List Value) (rows : List (List Int)) : Prop :=
  vs.length = rows.length ∧ ∀ i, i < rows.length → ∃ a ws n, vs[i]? = some (.ref a) ∧ (a, listOf (List.toArray ws) n) ∈ led ∧ IntsAre ws (rows.getD i [])
theorem RowsAre.mono {led led' : List (Addr × Obj)} {vs : List Value} {rows : List (List Int)} (h : RowsAre led vs rows) (hs : ∀ p ∈ led, p ∈ led') : RowsAre led' vs rows := by
  refine ⟨h.1, fun i hi => ?_⟩
  obtain ⟨a, ws, n, h1, h2, h3⟩ := h.2 i hi
  exact ⟨a, ws, n, h1, hs _ h2, h3⟩
theorem RowsAre.snoc {led : List (Addr × Obj)} {vs : List Value} {xs : List Int} {i : Nat} {a : Addr} {ws : List Value} {n : Nat} (h : RowsAre led vs (rowsOf i xs)) (hm : (a, listOf ws.toArray n) ∈ led) (hi : IntsAre ws (it i xs)) :
    RowsAre led (vs ++ [.ref a]) (rowsOf (i + 1) xs) := by
  have hl := h.1
  rw [rowsOf_len] at hl
  refine ⟨by rw [List.length_append, rowsOf_len, hl]; rfl, fun j hj => ?_⟩
  rw [rowsOf_len] at hj
  rw [rowsOf_get xs hj]
  by_cases hji : j < i
  · obtain ⟨b, us, k, h1, h2, h3⟩ := h.2 j (by rw [rowsOf_len]; exact hji)
    rw [rowsOf_get xs hji] at h3
    exact ⟨b, us, k, by rw [List.getElem?_append_left (by omega)]; exact h1, h2, h3⟩
  · have e : j = i := by omega
    subst e
    exact ⟨a, ws, n, by rw [List.getElem?_append_right (by omega)]; simp [hl], hm, hi⟩
/-- what stands behind a turn of the run -/
def RunQ (g : Heap) (L : Addr) (m₀ : Str → Option Value) (R H : Addr) (all : List (Addr × Obj)) (vs ws : List Value) (c cH : Nat) (xs : List Int) (s : Shared) (fl : Flow) (s' : Shared) : Prop :=
  (∃ (h' : Heap) (tk : Nat) (m' : Str → Option Value) (H' c' : Nat) (ws' : List Value), fl = .next ∧ s' = { s with heap := h', toks := tk } ∧ Fr g L h' m' ∧ m' "hands" = some (.ref H') ∧ (∀ y : Str, y ≠ "turn" → y ≠ "hands" → y ≠ "row" → y ≠ "line" → m' y = m₀ y) ∧ IntsAre ws' (dists xs) ∧
    R < H' ∧ (∀ p ∈ all, p.1 < H') ∧ News g L h' ((R, listOf (vs.toArray.push (.ref H)) (c + 1)) :: (H', listOf ws'.toArray c') :: (H, listOf ws.toArray cH) :: all)) ∨
  (∃ (h' : Heap) (tk : Nat) (m' : Str → Option Value), fl = .ret (.ref R) ∧ s' = { s with heap := h', toks := tk } ∧ Fr g L h' m' ∧ xs = [0, 0, 0, 0] ∧ News g L h' ((R, listOf (vs.toArray.push (.ref H)) (c + 1)) :: (H, listOf ws.toArray cH) :: all))
theorem run_next {g : Heap} {L : Addr} {m₀ m' : Str → Option Value} {R H H' : Addr} {all al : List (Addr × Obj)} {vs ws ws' : List Value} {c cH c' : Nat} {xs : List Int} {s : Shared} {h' : Heap} {tk : Nat}
    (F : Fr g L h' m') (N : News g L h' al) (hH : m' "hands" = some (.ref H')) (hm : ∀ y : Str, y ≠ "turn" → y ≠ "hands" → y ≠ "row" → y ≠ "line" → m' y = m₀ y) (hi : IntsAre ws' (dists xs)) (hR : R < H') (ha : ∀ p ∈ all, p.1 < H')
    (h1 : (R, listOf (vs.toArray.push (.ref H)) (c + 1)) ∈ al) (h2 : (H', listOf ws'.toArray c') ∈ al) (h3 : (H, listOf ws.toArray cH) ∈ al) (h4 : ∀ p ∈ all, p ∈ al) :
    RunQ g L m₀ R H all vs ws c cH xs s .next { s with heap := h', toks := tk } := by
  refine .inl ⟨h', tk, m', H', c', ws', rfl, rfl, F, hH, hm, hi, hR, ha, cb_drop N ?_⟩
  intro p hp
  rcases List.mem_cons.mp hp with rfl | hp
  · exact h1
  rcases List.mem_cons.mp hp with rfl | hp
  · exact h2
  rcases List.mem_cons.mp hp with rfl | hp
  · exact h3
  exact h4 p hp
theorem run_ret {g : Heap} {L : Addr} {m₀ m' : Str → Option Value} {R H : Addr} {all al : List (Addr × Obj)} {vs ws : List Value} {c cH : Nat} {xs : List Int} {s : Shared} {h' : Heap} {tk : Nat}
    (F : Fr g L h' m') (N : News g L h' al) (hx : xs = [0, 0, 0, 0])
    (h1 : (R, listOf (vs.toArray.push (.ref H)) (c + 1)) ∈ al) (h3 : (H, listOf ws.toArray cH) ∈ al) (h4 : ∀ p ∈ all, p ∈ al) :
    RunQ g L m₀ R H all vs ws c cH xs s (.ret (.ref R)) { s with heap := h', toks := tk } := by
  refine .inr ⟨h', tk, m', rfl, rfl, F, hx, cb_drop N ?_⟩
  intro p hp
  rcases List.mem_cons.mp hp with rfl | hp
  · exact h1
  rcases List.mem_cons.mp hp with rfl | hp
  · exact h3
  exact h4 p hp
theorem kf_eq {m m₀ : Str → Option Value} {v : Option Value} {H : Addr} (hH : m "hands" = some (.ref H)) (hm : ∀ y : Str, y ≠ "turn" → y ≠ "hands" → y ≠ "row" → y ≠ "line" → m y = m₀ y) :
    (fun y => if y = ("turn" : Str) then v else m y) = fun y => if y = ("turn" : Str) then v else if y = "hands" then some (.ref H) else if y = "row" then m "row" else if y = "line" then m "line" else m₀ y := by
  funext y
  by_cases h1 : y = "turn"
  · rw [if_pos h1, if_pos h1]
  · rw [if_neg h1, if_neg h1]
    by_cases h2 : y = "hands"
    · rw [if_pos h2, h2, hH]
    · rw [if_neg h2]
      by_cases h3 : y = "row"
      · rw [if_pos h3, h3]
      · rw [if_neg h3]
        by_cases h4 : y = "line"
        · rw [if_pos h4, h4]
        · rw [if_neg h4, hm y h1 h2 h3 h4]
section
variable {prog : Program} {w : World} {A : Around} {E : Value → Shared → Prop} {s : Shared} {env : Env} {h₀ : Heap} {body : List Stmt} {Q : Flow → Shared → Prop}
theorem run_loop {r : Addr} {b₀ : Int} {t₀ u₀ v₀ : Tok} {m₀ : Str → Option Value} {R H₀ : Addr} {c₀ cH₀ n : Nat} {ws₀ : List Value} {rest : List (Addr × Obj)} (xs : List Int)
    (hh : A.handled = none) (hr : IsRange s.heap r 0 b₀ 1 t₀ u₀ v₀) (hb : b₀ = (n : Int)) (hn : n ≤ 90) (F : Fr h₀ env.locals s.heap m₀) (N : News h₀ env.locals s.heap ((R, listOf #[] c₀) :: (H₀, listOf ws₀.toArray cH₀) :: rest))
    (hi₀ : IntsAre ws₀ xs) (hH₀ : m₀ "hands" = some (.ref H₀)) (hlt : AllLt R ((H₀, listOf ws₀.toArray cH₀) :: rest))
    (turn : ∀ (i : Nat) t (u1 u2 : Option Value) (vs ws : List Value) (H c cH : Nat) (all : List (Addr × Obj)) h tk, i < n → vs.length = i → IntsAre ws (it i xs) → (∀ p ∈ rest, p ∈ all) → H ≠ R → (∀ p ∈ all, p.1 ≠ R) →
      Fr h₀ env.locals h (fun y => if y = "turn" then some (.int (i : Int) t) else if y = "hands" then some (.ref H) else if y = "row" then u1 else if y = "line" then u2 else m₀ y) → News h₀ env.locals h ((R, listOf vs.toArray c) :: (H, listOf ws.toArray cH) :: all) →
      wpAny (model prog w) A (execs body env) (RunQ h₀ env.locals m₀ R H all vs ws c cH (it i xs) { s with heap := h, toks := tk }) E { s with heap := h, toks := tk })
    (stop : ∀ (i : Nat) m' vs c led h tk, i < n → it i xs = [0, 0, 0, 0] → RowsAre led vs (rowsOf (i + 1) xs) → (∀ p ∈ rest, p ∈ led) → Fr h₀ env.locals h m' → News h₀ env.locals h ((R, listOf (List.toArray vs) c) :: led) → Q (.ret (.ref R)) { s with heap := h, toks := tk })
    (done : ∀ (u0 u1 u2 u3 : Option Value) vs c led h tk, RowsAre led vs (rowsOf n xs) → (∀ p ∈ rest, p ∈ led) → Fr h₀ env.locals h (fun y => if y = "turn" then u0 else if y = "hands" then u1 else if y = "row" then u2 else if y = "line" then u3 else m₀ y) →
      News h₀ env.locals h ((R, listOf (List.toArray vs) c) :: led) → Q .next { s with heap := h, toks := tk }) :
    wpAny (model prog w) A (pyIter (.ref r)) (fun it s₂ => LoopAtV prog w A h₀ env "turn" body Q E it s₂) E s := by
  subst hb
  have hHR : H₀ < R := hlt.1
  have hoff := kst_ltOf hlt.2
  refine rangeJ (n := n) (fun i m nx => ∃ (H c cH : Nat) (vs ws : List Value) (all : List (Addr × Obj)), nx = (R, listOf (List.toArray vs) c) :: (H, listOf (List.toArray ws) cH) :: all ∧ IntsAre ws (it i xs) ∧ RowsAre all vs (rowsOf i xs) ∧ (∀ p ∈ rest, p ∈ all) ∧ H ≠ R ∧ (∀ p ∈ all, p.1 ≠ R) ∧
      m "hands" = some (.ref H) ∧ ∀ y : Str, y ≠ "turn" → y ≠ "hands" → y ≠ "row" → y ≠ "line" → m y = m₀ y) hh hr (small_one (by decide) (by decide) (by omega) (by omega)) (by first | exact rangeSize_nat _ _ | (rw [show ((n : Int)) = 0 + (n : Int) by omega]; exact rangeSize_nat _ _)) F N
    ⟨H₀, c₀, cH₀, [], ws₀, rest, rfl, hi₀, ⟨rfl, fun i hi => absurd hi (by simp [rowsOf])⟩, fun _ h => h, Nat.ne_of_lt hHR, fun p hp => Nat.ne_of_lt (hoff p hp), hH₀, fun _ _ _ _ _ => rfl⟩ ?_ ?_
  · rintro i t m₁ nx h tk own hi hoff' ⟨H, c, cH, vs, ws, all, rfl, hiw, hR, hs, hHR', hall, hH, hm⟩ F₁ N₁
    rw [kf_eq hH hm, Int.zero_add] at F₁
    have hlen : vs.length = i := hR.1.trans (rowsOf_len _ _)
    refine wpAny_mono (turn i t _ _ vs ws H c cH (all ++ own) h tk hi hlen hiw (fun p hp => List.mem_append.mpr (.inl (hs p hp))) hHR' (fun p hp => ?_) F₁ N₁) (fun fl s' hq => ?_) fun _ _ e => e
    · rcases List.mem_append.mp hp with hp | hp
      · exact hall p hp
      · exact hoff' p hp _ (by simp)
    · rcases hq with ⟨h', tk', m', H', c', ws', rfl, rfl, F', hH', hm', hi', hR', ha', N'⟩ | ⟨h', tk', m', rfl, rfl, F', hx, N'⟩
      · refine ⟨h', tk', m', _, (R, listOf (List.toArray (vs ++ [Value.ref H])) (c + 1)) :: (H', listOf ws'.toArray c') :: (H, listOf ws.toArray cH) :: all, rfl, F', N', ?_, ?_, ?_, H', c + 1, c', vs ++ [Value.ref H], ws', (H, listOf ws.toArray cH) :: all, rfl, hi', ?_, ?_, ?_, ?_, hH', hm'⟩
        · intro p hp
          rcases List.mem_cons.mp hp with rfl | hp
          · rw [← List.push_toArray]; exact List.mem_cons_self
          rcases List.mem_cons.mp hp with rfl | hp
          · exact List.mem_cons_of_mem _ List.mem_cons_self
          rcases List.mem_cons.mp hp with rfl | hp
          · exact List.mem_cons_of_mem _ (List.mem_cons_of_mem _ List.mem_cons_self)
          · exact List.mem_cons_of_mem _ (List.mem_cons_of_mem _ (List.mem_cons_of_mem _ (List.mem_append.mpr (.inl hp))))
        · intro p hp
          exact List.mem_cons_of_mem _ (List.mem_cons_of_mem _ (List.mem_cons_of_mem _ (List.mem_append.mpr (.inr hp))))
        · intro p hp b hb
          simp only [List.map_cons, List.mem_cons] at hb
          rcases hb with rfl | rfl | rfl | hb
          · exact hoff' p hp _ (by simp)
          · exact Nat.ne_of_lt (ha' p (List.mem_append.mpr (.inr hp)))
          · exact hoff' p hp _ (by simp)
          · exact hoff' p hp _ (by simp only [List.map_cons, List.mem_cons]; exact .inr (.inr hb))
        · exact (hR.mono (fun p hp => List.mem_cons_of_mem _ hp)).snoc List.mem_cons_self hiw
        · exact fun p hp => List.mem_cons_of_mem _ (hs p hp)
        · exact Nat.ne_of_gt hR'
        · intro p hp
          rcases List.mem_cons.mp hp with rfl | hp
          · exact hHR'
          · exact hall p hp
      · refine stop i m' (vs ++ [Value.ref H]) (c + 1) ((H, listOf ws.toArray cH) :: all) h' tk' hi hx ?_ (fun p hp => List.mem_cons_of_mem _ (hs p hp)) F' ?_
        · exact (hR.mono (fun p hp => List.mem_cons_of_mem _ hp)).snoc List.mem_cons_self hiw
        · refine cb_drop N' ?_
          intro p hp
          rcases List.mem_cons.mp hp with rfl | hp
          · rw [← List.push_toArray]; exact List.mem_cons_self
          rcases List.mem_cons.mp hp with rfl | hp
          · exact List.mem_cons_of_mem _ List.mem_cons_self
          · exact List.mem_cons_of_mem _ (List.mem_cons_of_mem _ (List.mem_append.mpr (.inl hp)))
  · rintro m₁ nx h tk ⟨H, c, cH, vs, ws, all, rfl, hiw, hR, hs, hHR', hall, hH, hm⟩ F₁ N₁
    have eF := kf_eq (v := m₁ "turn") hH hm
    have e0 : m₁ = fun y => if y = ("turn" : Str) then m₁ "turn" else m₁ y := by
      funext y
      by_cases h1 : y = "turn"
      · rw [if_pos h1, h1]
      · rw [if_neg h1]
    rw [e0, eF] at F₁
    exact done _ _ _ _ vs c ((H, listOf ws.toArray cH) :: all) h tk (hR.mono (fun p hp => List.mem_cons_of_mem _ hp)) (fun p hp => List.mem_cons_of_mem _ (hs p hp)) F₁ N₁
end
theorem it3 {ws : List Value} {xs : List Int} {i : Nat} (h : IntsAre ws (it i xs)) (hl : xs.length = 3) (hB : InB xs) : ∃ x y z tx ty tz, it i xs = [x, y, z] ∧ ws = [.int x tx, .int y ty, .int z tz] ∧ (0 ≤ x ∧ x ≤ 59) ∧ (0 ≤ y ∧ y ≤ 59) ∧ (0 ≤ z ∧ z ≤ 59) := by
  have e := it_len xs i
  have hb := it_in hB i
  rw [hl] at e
  match hx : it i xs, e with
  | [x, y, z], _ =>
    rw [hx] at h hb
    obtain ⟨tx, ty, tz, e2⟩ := ints3_of h
    exact ⟨x, y, z, tx, ty, tz, rfl, e2, hb x (by simp), hb y (by simp), hb z (by simp)⟩
theorem ints4_of {v : List Value} {a b c d : Int} (h : IntsAre v [a, b, c, d]) : ∃ ta tb tc td, v = [.int a ta, .int b tb, .int c tc, .int d td] := by
  obtain ⟨ta, v1, rfl, h1⟩ := h.cons_inv
  obtain ⟨tb, tc, td, rfl⟩ := ints3_of h1
  exact ⟨ta, tb, tc, td, rfl⟩
theorem it4 {ws : List Value} {xs : List Int} {i : Nat} (h : IntsAre ws (it i xs)) (hl : xs.length = 4) (hB : InB xs) : ∃ x y z u tx ty tz tu, it i xs = [x, y, z, u] ∧ ws = [.int x tx, .int y ty, .int z tz, .int u tu] ∧ (0 ≤ x ∧ x ≤ 59) ∧ (0 ≤ y ∧ y ≤ 59) ∧ (0 ≤ z ∧ z ≤ 59) ∧ (0 ≤ u ∧ u ≤ 59) := by
  have e := it_len xs i
  have hb := it_in hB i
  rw [hl] at e
  match hx : it i xs, e with
  | [x, y, z, u], _ =>
    rw [hx] at h hb
    obtain ⟨tx, ty, tz, tu, e2⟩ := ints4_of h
    exact ⟨x, y, z, u, tx, ty, tz, tu, rfl, e2, hb x (by simp), hb y (by simp), hb z (by simp), hb u (by simp)⟩
end Mine
namespace Mine
theorem three_of {x : Str} (h : x.length = 3) : ∃ a b c, x.cps.toList = [a, b, c] := by
  have e : x.cps.toList.length = 3 := by rw [Array.length_toList]; exact h
  match hx : x.cps.toList, e with
  | [a, b, c], _ => exact ⟨a, b, c, rfl⟩
theorem lit1 : (Str.ofString ", ").cps.toList = [44, 32] := by decide +kernel
theorem lit2 : (Str.ofString " ").cps.toList = [32] := by decide +kernel
theorem lit3 : (Str.ofString ":").cps.toList = [58] := by decide +kernel
theorem app_list (x y : Str) : (x ++ y).cps.toList = x.cps.toList ++ y.cps.toList := by rw [Str.cps_append, Array.toList_append]
theorem four_cps (x : Int) : (four x).cps.toList = [48, 48, 48 + x.toNat / 10, 48 + x.toNat % 10] := rfl
theorem line_list {dS mS zone : Str} {da ye ho mi se : Int} {a b c p q r : Nat} (hd : dS.cps.toList = [a, b, c]) (hm : mS.cps.toList = [p, q, r]) :
    (lineOf dS da mS ye ho mi se zone).cps.toList = a :: b :: c :: 44 :: 32 :: (48 + da.toNat / 10) :: (48 + da.toNat % 10) :: 32 :: p :: q :: r :: 32 :: 48 :: 48 :: (48 + ye.toNat / 10) :: (48 + ye.toNat % 10) :: 32 :: (48 + ho.toNat / 10) :: (48 + ho.toNat % 10) :: 58 ::
      (48 + mi.toNat / 10) :: (48 + mi.toNat % 10) :: 58 :: (48 + se.toNat / 10) :: (48 + se.toNat % 10) :: 32 :: zone.cps.toList := by
  unfold lineOf
  simp only [app_list, hd, hm, lit1, lit2, lit3, two_cps, four_cps, List.append_assoc, List.cons_append, List.nil_append]
theorem line_len {dS mS zone : Str} {da ye ho mi se : Int} (hd : dS.length = 3) (hm : mS.length = 3) : (lineOf dS da mS ye ho mi se zone).length = 26 + zone.length := by
  obtain ⟨a, b, c, e1⟩ := three_of hd
  obtain ⟨p, q, r, e2⟩ := three_of hm
  have e := congrArg List.length (line_list (zone := zone) (da := da) (ye := ye) (ho := ho) (mi := mi) (se := se) e1 e2)
  simp only [List.length_cons] at e
  rw [Array.length_toList, Array.length_toList] at e
  show (lineOf dS da mS ye ho mi se zone).cps.size = 26 + zone.cps.size
  omega
theorem line_26 {dS mS zone : Str} {da ye ho mi se : Int} (hd : dS.length = 3) (hm : mS.length = 3) : (26 : Int) ≤ ((lineOf dS da mS ye ho mi se zone).cps.toList.length : Int) := by
  have h : (lineOf dS da mS ye ho mi se zone).cps.toList.length = 26 + zone.length := (Array.length_toList ..).trans (line_len hd hm)
  rw [h]
  omega
theorem tx_at {x : Str} {k : Int} {v : Int} (hk : 0 ≤ k) (hl : k + 2 ≤ (x.cps.toList.length : Int)) (e : (x.cps.toList.drop k.toNat).take 2 = [48 + v.toNat / 10, 48 + v.toNat % 10]) (hv : 0 ≤ v ∧ v ≤ 99) : Tx (Txt.slice x (some k) (some (k + 2))) v := by
  refine ⟨?_, hv.1, hv.2⟩
  show StrLaws.sliceText x (some k) (some (k + 2)) = two v
  rw [StrLaws.sliceText_plain ⟨hk, by omega, hl⟩, show (k + 2 - k).toNat = 2 by omega, e]
  rfl
theorem line_tx3 {dS mS zone : Str} {da ye ho mi se : Int} (hd : dS.length = 3) (hm : mS.length = 3) (hho : 0 ≤ ho ∧ ho ≤ 59) (hmi : 0 ≤ mi ∧ mi ≤ 59) (hse : 0 ≤ se ∧ se ≤ 59) :
    TxAll (lineOf dS da mS ye ho mi se zone) [17, 20, 23] [ho, mi, se] := by
  obtain ⟨a, b, c, e1⟩ := three_of hd
  obtain ⟨p, q, r, e2⟩ := three_of hm
  have e := line_list (zone := zone) (da := da) (ye := ye) (ho := ho) (mi := mi) (se := se) e1 e2
  have h26 := line_26 (da := da) (ye := ye) (ho := ho) (mi := mi) (se := se) (zone := zone) hd hm
  refine ⟨rfl, fun i hi => ?_⟩
  have hi' : i < 3 := hi
  match i, hi' with
  | 0, _ => exact tx_at (k := 17) (by decide) (Int.le_trans (by decide) h26) (by rw [e]; rfl) ⟨hho.1, by show ho ≤ 99; omega⟩
  | 1, _ => exact tx_at (k := 20) (by decide) (Int.le_trans (by decide) h26) (by rw [e]; rfl) ⟨hmi.1, by show mi ≤ 99; omega⟩
  | 2, _ => exact tx_at (k := 23) (by decide) (Int.le_trans (by decide) h26) (by rw [e]; rfl) ⟨hse.1, by show se ≤ 99; omega⟩
theorem line_tx4 {dS mS zone : Str} {da ye ho mi se : Int} (hd : dS.length = 3) (hm : mS.length = 3) (hda : 0 ≤ da ∧ da ≤ 59) (hho : 0 ≤ ho ∧ ho ≤ 59) (hmi : 0 ≤ mi ∧ mi ≤ 59) (hse : 0 ≤ se ∧ se ≤ 59) :
    TxAll (lineOf dS da mS ye ho mi se zone) [5, 17, 20, 23] [da, ho, mi, se] := by
  obtain ⟨a, b, c, e1⟩ := three_of hd
  obtain ⟨p, q, r, e2⟩ := three_of hm
  have e := line_list (zone := zone) (da := da) (ye := ye) (ho := ho) (mi := mi) (se := se) e1 e2
  have h26 := line_26 (da := da) (ye := ye) (ho := ho) (mi := mi) (se := se) (zone := zone) hd hm
  refine ⟨rfl, fun i hi => ?_⟩
  have hi' : i < 4 := hi
  match i, hi' with
  | 0, _ => exact tx_at (k := 5) (by decide) (Int.le_trans (by decide) h26) (by rw [e]; rfl) ⟨hda.1, by show da ≤ 99; omega⟩
  | 1, _ => exact tx_at (k := 17) (by decide) (Int.le_trans (by decide) h26) (by rw [e]; rfl) ⟨hho.1, by show ho ≤ 99; omega⟩
  | 2, _ => exact tx_at (k := 20) (by decide) (Int.le_trans (by decide) h26) (by rw [e]; rfl) ⟨hmi.1, by show mi ≤ 99; omega⟩
  | 3, _ => exact tx_at (k := 23) (by decide) (Int.le_trans (by decide) h26) (by rw [e]; rfl) ⟨hse.1, by show se ≤ 99; omega⟩
theorem line_hands3 {k mo da ye x y z : Int} {zone : Str} (hw : 0 ≤ k ∧ k ≤ 6) (hmo : 1 ≤ mo ∧ mo ≤ 12) (hx : 0 ≤ x ∧ x ≤ 59) (hy : 0 ≤ y ∧ y ≤ 59) (hz : 0 ≤ z ∧ z ≤ 59) :
    TxAll (lineOf (dayS k) da (monS mo) ye x y z zone) [17, 20, 23] [x, y, z] := line_tx3 (day_len hw) (mon_len hmo) hx hy hz
theorem line_hands4 {k mo ye u x y z : Int} {zone : Str} (hw : 0 ≤ k ∧ k ≤ 6) (hmo : 1 ≤ mo ∧ mo ≤ 12) (hu : 0 ≤ u ∧ u ≤ 59) (hx : 0 ≤ x ∧ x ≤ 59) (hy : 0 ≤ y ∧ y ≤ 59) (hz : 0 ≤ z ∧ z ≤ 59) :
    TxAll (lineOf (dayS k) u (monS mo) ye x y z zone) [5, 17, 20, 23] [u, x, y, z] := line_tx4 (day_len hw) (mon_len hmo) hu hx hy hz
theorem line_le {k mo da ye x y z : Int} {zone : Str} (hw : 0 ≤ k ∧ k ≤ 6) (hmo : 1 ≤ mo ∧ mo ≤ 12) (hz : zone.length ≤ 10) : (lineOf (dayS k) da (monS mo) ye x y z zone).length ≤ 100 := by
  rw [line_len (day_len hw) (mon_len hmo)]; omega
theorem lt_of_mem {led : List (Addr × Obj)} {R H : Addr} {o : Obj} (h : ∀ q ∈ led, q.1 < H) (hm : (R, o) ∈ led) : R < H := h _ hm
section
variable {prog : Program} {w : World} {A : Around} {E : Value → Shared → Prop} {s : Shared} {Q : Value → Shared → Prop} {t u : Tok}
theorem ne_same {x : Str} (h : Q (.bool false) s) : wpAny (model prog w) A (compareOp .NotEq (.str x t) (.str x u)) Q E s := by
  refine ne_str ?_
  have e : (x != x) = false := by simp
  first | (rw [e]; exact h) | (simpa using h)
end
end Mine
namespace Mine
local macro_rules | `(tactic| walk_at $s:str) => `(tactic| k_extra $s)
set_option maxRecDepth 100000 in
set_option maxHeartbeats 8000000 in
theorem euclid_spec {prog : Program} {w : World} {p : Program} {loose : List Str} {mean : ExcName → Option Value} {mg mb : Str → Option Value} (dp un : Nat) (gd : Option (List Code)) (cn : Str) (cs : Scope) (a : Addr) (ccd : Value) (cl : List (Str × Addr)) (outer : List Env) (A₀ : Around) (base h₀ : Heap) (L : Addr) (m : Str → Option Value) (news : List (Addr × Obj)) (s : Shared) (Q E : Value → Shared → Prop) (x y : Int) (tx ty : Tok)
    (B : Below A₀ base outer h₀) (F : Fr h₀ L s.heap m) (X : (hd.heap_39 w.params).In h₀) (N : News h₀ L s.heap news) (T : Top p loose mean mg mb h₀) (hk : cs.kind = .function) (hdp : dp + 1 < recursionLimit) (hun : un + 8 < cLine)
    (hx : 0 ≤ x ∧ x ≤ 100) (hy : 0 ≤ y ∧ y ≤ 100)
    (ret : ∀ (D : Addr) (t t' : Tok) (h' : Heap) (tk' : Nat), Fr h₀ L h' m → News h₀ L h' ((D, listOf #[.int ((eu x.toNat y.toNat).1 : Int) t, .int ((eu x.toNat y.toNat).2 : Int) t'] 0) :: news) → (∀ q ∈ news, q.1 < D) → Q (.ref D) { s with heap := h', toks := tk' }) :
    wpAny (model prog w) (ktrTop dp un gd cn cs L a ccd cl outer) (call (.ref 158) [.int x tx, .int y ty]) Q E s := by
  w_top off
  have kf9 : PySem.Challenge.rw_xl0002_01 = PySem.Challenge.rw_xl0002_01 ∧ Mine.hd.heap_39 = Mine.hd.heap_39 := (by k_fill; exact ⟨rfl, rfl⟩)
  have kMark : KstMark := kstMark
  k_with_none
  (k_with "binaryOp FloorDiv int int" => ((have hs9 := eu_small (by assumption)); refine floordiv_int (by omega) ?_ (Or.inl (PyProof.noPylong_small (by omega)))))
  (k_with "binaryOp Mod int int" => ((have hs9 := eu_small (by assumption)); refine mod_int' (by omega) ?_))
  refine wpAny_call ?_
  k_dflt cell_enter
  (k_with "exec While Compare cons nil" => k_while (fun _ a b t => EuInv x y a b t) (fun _ _ b _ => b.toNat) "a" "b" "turns")
  (k_with "state" => first | exact eu_start hx hy | exact eu_next (by assumption) (by assumption))
  (k_with "measure" => exact eu_less (by assumption))
  k_steps
  all_goals (
    obtain ⟨e1, e2⟩ := eu_done (by assumption) (by assumption)
    subst e1
    subst e2
    exact ret _ _ _ _ _ (by assumption) (by assumption) (by assumption))
end Mine
namespace Mine
local macro_rules | `(tactic| walk_at $s:str) => `(tactic| k_extra $s)
set_option maxRecDepth 100000 in
set_option maxHeartbeats 8000000 in
theorem end_spec {prog : Program} {w : World} {p : Program} {loose : List Str} {mean : ExcName → Option Value} {mg mb : Str → Option Value}
    (dp un : Nat) (gd : Option (List Code)) (cn : Str) (cs : Scope) (a : Addr) (ccd : Value) (cl : List (Str × Addr)) (outer : List Env) (A₀ : Around) (base h₀ : Heap) (L : Addr) (m : Str → Option Value) (news : List (Addr × Obj)) (s : Shared) (Q E : Value → Shared → Prop)
    (l : Addr) (n : Nat) (x y z : Int) (tx ty tz : Tok) (hx : 0 ≤ x ∧ x ≤ 59) (hy : 0 ≤ y ∧ y ≤ 59) (hz : 0 ≤ z ∧ z ≤ 59)
    (B : Below A₀ base outer h₀) (F : Fr h₀ L s.heap m) (X : (hd.heap_39 w.params).In h₀) (N : News h₀ L s.heap ((l, listOf #[.int x tx, .int y ty, .int z tz] n) :: news)) (T : Top p loose mean mg mb h₀) (hk : cs.kind = .function)
    (hdp : dp + 2 < recursionLimit) (hun : un + 16 < cLine)
    (ret : ∀ (D : Addr) (t t' : Tok) (h' : Heap) (tk' : Nat), Fr h₀ L h' m → News h₀ L h' ((D, listOf #[.int (endOf x y z).1 t, .int (endOf x y z).2 t'] 0) :: news) → (∀ q ∈ news, q.1 < D) → Q (.ref D) { s with heap := h', toks := tk' }) :
    wpAny (model prog w) (ktrTop dp un gd cn cs L a ccd cl outer) (call (.ref 165) [.ref l]) Q E s := by
  w_top off
  have kf9 : PySem.Challenge.rw_xl0002_01 = PySem.Challenge.rw_xl0002_01 ∧ Mine.hd.heap_39 = Mine.hd.heap_39 := (by k_fill; exact ⟨rfl, rfl⟩)
  have kMark : KstMark := kstMark
  k_with_none
  (k_with "call ref" => (k_here; (with_reducible show wpAny _ _ (call (Value.ref 158) [Value.int _ _, Value.int _ _]) _ _ _); (k_dflt refine euclid_spec _ _ _ _ _ _ _ _ _ _ _ _ _ _ _ _ _ _ _ _ _ _ (by k_asm) (by k_asm) (by k_asm) (by k_asm) (by k_asm) (by first | exact rfl | assumption) (by ktr_room) (by ktr_units) (by omega) (by omega) ?_); intro D' t1' t2' h' tk' F' N' l1; (try k_lt l1)))
  (k_with "call builtin:sorted" => (k_here; (with_reducible show wpAny _ _ (call (Value.builtin "sorted") [Value.ref _]) _ _ _); k_dflt (refine sorted3 (by k_asm) (by k_asm) (by k_mem) ?_; k_whole); intro D' c' t1' t2' t3' h' F' N' l1; (try k_lt l1); (try k_sweep)))
  refine wpAny_call ?_
  k_dflt cell_enter
  have hl1 := lmh_in hx hy hz
  have hl2 := lmh (x := x) (y := y) (z := z)
  k_steps
  all_goals (
    first
    | simp only [endOf, if_pos ‹lo x y z + mid x y z = hi x y z›] at ret
    | simp only [endOf, if_neg ‹lo x y z + mid x y z ≠ hi x y z›] at ret
    exact ret _ _ _ _ _ (by assumption) (cb_drop (by assumption) (by
      intro p hp
      rcases List.mem_cons.mp hp with h9 | h9
      · rw [h9]; exact List.Mem.head _
      · repeat' (first | exact h9 | apply List.Mem.tail))) (kst_ltOf (by
      first
      | assumption
      | exact (‹_ ∧ AllLt _ news›).2
      | exact (‹_ ∧ _ ∧ AllLt _ news›).2.2
      | exact (‹_ ∧ _ ∧ _ ∧ AllLt _ news›).2.2.2)))
end Mine
namespace Mine
local macro_rules | `(tactic| walk_at $s:str) => `(tactic| k_extra $s)
local macro_rules | `(tactic| k_room) => `(tactic| ktr_room)
local macro_rules | `(tactic| k_units) => `(tactic| ktr_units)
local macro_rules | `(tactic| k_all) => `(tactic| assumption)
local macro_rules | `(tactic| k_mem) => `(tactic| assumption)
set_option maxRecDepth 100000 in
set_option maxHeartbeats 8000000 in
theorem apart_spec {prog : Program} {w : World} {p : Program} {loose : List Str} {mean : ExcName → Option Value} {mg mb : Str → Option Value}
    (dp un : Nat) (gd : Option (List Code)) (cn : Str) (cs : Scope) (a : Addr) (ccd : Value) (cl : List (Str × Addr)) (outer : List Env) (A₀ : Around) (base h₀ : Heap) (L : Addr) (m : Str → Option Value) (news : List (Addr × Obj)) (s : Shared) (Q E : Value → Shared → Prop)
    (l : Addr) (n : Nat) (line : Str) (tl : Tok) (vss : List Value) (ss xs : List Int) (his : IntsAre vss ss) (hT : TxAll line ss xs)
    (hll : line.length ≤ 100) (h60 : xs.length ≤ 60) (hvz : vss.toArray.size ≤ sizeLine)
    (B : Below A₀ base outer h₀) (F : Fr h₀ L s.heap m) (X : (hd.heap_39 w.params).In h₀) (N : News h₀ L s.heap ((l, listOf vss.toArray n) :: news)) (T : Top p loose mean mg mb h₀) (hk : cs.kind = .function)
    (hdp : dp + 10 < recursionLimit) (hun : un + 80 < cLine)
    (ret : ∀ (D : Addr) (c : Nat) (vs : List Value) (h' : Heap) (tk' : Nat), IntsAre vs (dists xs) → Fr h₀ L h' m → News h₀ L h' ((D, listOf vs.toArray c) :: news) → (∀ q ∈ news, q.1 < D) → Q (.ref D) { s with heap := h', toks := tk' }) :
    wpAny (model prog w) (ktrTop dp un gd cn cs L a ccd cl outer) (call (.ref 144) [.str line tl, .ref l]) Q E s := by
  w_top off
  have kf9 : PySem.Challenge.rw_xl0002_01 = PySem.Challenge.rw_xl0002_01 ∧ Mine.hd.heap_39 = Mine.hd.heap_39 := (by k_fill; exact ⟨rfl, rfl⟩)
  have kMark : KstMark := kstMark
  k_with_none
  (k_with "call ref" => (k_here; (with_reducible show wpAny _ _ (call (Value.ref 56) _) _ _ _); k_dflt (refine isub_spec _ _ _ _ _ _ _ _ _ _ _ _ _ _ _ _ _ _ _ _ _ _ (by k_asm) (by k_asm) (by k_asm) (by k_asm) (by k_asm) (by first | exact rfl | assumption) (by ktr_room) (by ktr_units) ?_); intro t9 h9 tk9 F9 N9; (try k_sweep)))
  (k_with "exec Assign cons ListComp" => (k_here; k_dflt (refine LCg.Assign_ListComp_U (F₀ := by k_asm) (by rfl) (by with_unfolding_all rfl) (by with_unfolding_all rfl) (by decide) (by rfl) (by decide) (by rfl) (by rfl) (by rfl) ?_)))
  (k_with "CompSrc" => (k_here; k_dflt (refine LCg.CompSrc.ledger (by rfl) (by k_asm) (by k_asm) (by k_mem) (by assumption) ?_; intro g'; (refine hands_comp (by assumption) (by assumption) (fun k' t' I' oI' C' oC' D' m' ys' h' tk' E' hk' hC' hx' F' N' off' ne' hMark' => ?_) (fun ys9 hH9 => ?_)); (all_goals (try (simp only [LCg.Off3, and_true] at off'))))))
  (k_with "CompEnd" => ((rename News _ _ _ _ => nC9); refine LCg.CompEnd.intro (by assumption) nC9 _ (fun _ h9 => h9) (by assumption) (by lcg_src) ?_))
  (k_with "KCtEl" => (exact kct_el rfl rfl rfl))
  (k_with "exec For Name Call cons nil" => (k_here; (rename Fr _ _ _ _ => lF'); (with_unfolding_all refine For_invVF lF' (by exact rfl) (by exact rfl) ?_; k_whole)))
  (k_with "call builtin:len" => (k_here; (with_reducible show wpAny _ _ (call (Value.builtin "len") [Value.ref _]) _ _ _); k_dflt (refine kst_len (by k_asm) (by k_mem) (by exact And.left (by assumption : HandsAre _ _)) (by omega) ?_; k_whole)))
  (k_with "pyIter ref" => (k_here; (with_reducible show wpAny _ _ (pyIter (Value.ref _)) (fun it s₂ => LoopAtV _ _ _ _ _ _ _ _ _ it s₂) _ _); (rename Fr _ _ _ _ => lF'); (rename News _ _ _ _ => lN'); (rename HandsAre _ _ => lH'); (with_unfolding_all refine apart_loop _ (by rfl) (by assumption) rfl (by assumption) lF' lN' (by k_all) ?_ ?_); (rotate_left; (intro u09 u19 u29 vs9 c9 h9 tk9 hv9 F9 N9; clear lF' lN'; (try k_fold)); rotate_left; (intro i9 t9 u19 u29 vs9 c9 all9 h9 tk9 hi9 hl9 hs9 ho9 F9 N9; have hm9 := hs9 (_, _) List.mem_cons_self; clear hs9 lF' lN'; (try k_fold)))))
  (k_with "subscriptTail Name Name ref int" => (k_here; (refine hand_item (by k_asm) (by k_mem) (by assumption) (by omega) (by omega) (by assumption) ?_); intro a9 t9 hT9; (try simp only [Int.toNat_natCast] at hT9)))
  (k_with "subscriptTail Name BinOp ref int" => (k_here; (rw [fmod_next (Nat.lt_of_le_of_lt (Nat.zero_le _) (by assumption))]); (refine hand_item (by k_asm) (by k_mem) (by assumption) (by omega) (Int.ofNat_lt.mpr (Nat.mod_lt _ (by omega))) (by assumption) ?_); intro a9 t9 hT9; (try simp only [Int.toNat_natCast] at hT9)))
  (k_with "call type:int" => (k_here; (with_reducible show wpAny _ _ (call (Value.type "int") [Value.str _ _]) _ _ _); (refine KIN.call_text (Tx.num (by assumption)) (Tx.len640 (by assumption)) ?_)))
  (k_with "TurnQ" => ((rename News _ _ _ _ => nC9); refine turn_end (by assumption) nC9 (by (refine List.forall_mem_cons.mpr ⟨?_, ?_⟩; (focus k_mem); (intro p9 h9; repeat' (first | exact h9 | apply List.Mem.tail)))) (by first | exact absd_lt (by assumption) (by assumption) (by assumption) | exact absd_ge (by assumption) (by assumption) (by assumption)) (by (intro y9 h1 h2 h3; simp [h1, h2, h3]))))
  refine wpAny_call ?_
  k_dflt (refine' code_defC ?k1 ?k2 ?k3 ?k4 ?k5 ?kA ?kF ?kK ?k6 ?k7 ?k8 ?k9 ?kB ?kD ?_ ?c2 ?c3 ?c4; (case kA => exact rfl); (case kF => exact rfl); (case kK => assumption); (case k1 => k_asm); (case k2 => k_asm); (case k3 => k_asm); (case k4 => k_asm); (case k5 => k_asm); (case k6 => k_is); (case k7 => k_is); (case k8 => ktr_room); (case k9 => exact BindsTo.of_eq rfl); (case kB => exact rfl); (case kD => decide +kernel); (case c2 => exact rfl); (case c3 => exact rfl); (case c4 => exact rfl); k_whole; intro g' L' h' tk' cells' FG' F' N' Y' B' X' T' l1; (try k_lt l1); k_cells Y'; (try simp only [List.cons_append, List.nil_append] at N'); (try dsimp only); (try k_lift B'); (try k_fold))
  k_steps
  all_goals (
    refine ret _ _ _ _ _ (by assumption) (by assumption) (cb_drop (by assumption) (by
      intro p hp
      rcases List.mem_cons.mp hp with h9 | h9
      · rw [h9]; exact List.Mem.head _
      · repeat' (first | exact h9 | apply List.Mem.tail))) (kst_ltOf (by
      first
      | assumption
      | exact (‹_ ∧ AllLt _ news›).2
      | exact (‹_ ∧ _ ∧ AllLt _ news›).2.2
      | exact (‹_ ∧ _ ∧ _ ∧ AllLt _ news›).2.2.2)))
end Mine
namespace Mine
theorem ints4 {x y z u : Int} {tx ty tz tu : Tok} : IntsAre [.int x tx, .int y ty, .int z tz, .int u tu] [x, y, z, u] := .cons _ _ ints3
theorem apart3 {prog : Program} {w : World} {p : Program} {loose : List Str} {mean : ExcName → Option Value} {mg mb : Str → Option Value} (dp un : Nat) (gd : Option (List Code)) (cn : Str) (cs : Scope) (a : Addr) (ccd : Value) (cl : List (Str × Addr)) (outer : List Env) (A₀ : Around) (base h₀ : Heap) (L : Addr) (m : Str → Option Value) (news : List (Addr × Obj)) (s : Shared) (Q E : Value → Shared → Prop) (l : Addr) (n : Nat) (zone : Str) (tl t1 t2 t3 : Tok) (k mo da ye x y z : Int)
    (B : Below A₀ base outer h₀) (F : Fr h₀ L s.heap m) (X : (hd.heap_39 w.params).In h₀) (N : News h₀ L s.heap ((l, listOf #[.int 17 t1, .int 20 t2, .int 23 t3] n) :: news)) (T : Top p loose mean mg mb h₀) (hk : cs.kind = .function) (hdp : dp + 10 < recursionLimit) (hun : un + 80 < cLine)
    (hw : 0 ≤ k ∧ k ≤ 6) (hmo : 1 ≤ mo ∧ mo ≤ 12) (hx : 0 ≤ x ∧ x ≤ 59) (hy : 0 ≤ y ∧ y ≤ 59) (hz : 0 ≤ z ∧ z ≤ 59) (hzo : zone.length ≤ 10)
    (ret : ∀ (D : Addr) (c : Nat) (vs : List Value) (h' : Heap) (tk' : Nat), IntsAre vs (dists [x, y, z]) → Fr h₀ L h' m → News h₀ L h' ((D, listOf vs.toArray c) :: news) → (∀ q ∈ news, q.1 < D) → Q (.ref D) { s with heap := h', toks := tk' }) :
    wpAny (model prog w) (ktrTop dp un gd cn cs L a ccd cl outer) (call (.ref 144) [.str (lineOf (dayS k) da (monS mo) ye x y z zone) tl, .ref l]) Q E s :=
  apart_spec dp un gd cn cs a ccd cl outer A₀ base h₀ L m news s Q E l n _ tl [.int 17 t1, .int 20 t2, .int 23 t3] [17, 20, 23] [x, y, z] ints3 (line_hands3 hw hmo hx hy hz) (line_le hw hmo hzo) (by show 3 ≤ 60; omega) (Nat.le_of_ble_eq_true rfl) B F X N T hk hdp hun ret
theorem apart4 {prog : Program} {w : World} {p : Program} {loose : List Str} {mean : ExcName → Option Value} {mg mb : Str → Option Value} (dp un : Nat) (gd : Option (List Code)) (cn : Str) (cs : Scope) (a : Addr) (ccd : Value) (cl : List (Str × Addr)) (outer : List Env) (A₀ : Around) (base h₀ : Heap) (L : Addr) (m : Str → Option Value) (news : List (Addr × Obj)) (s : Shared) (Q E : Value → Shared → Prop) (l : Addr) (n : Nat) (zone : Str) (tl t0 t1 t2 t3 : Tok) (k mo ye u x y z : Int)
    (B : Below A₀ base outer h₀) (F : Fr h₀ L s.heap m) (X : (hd.heap_39 w.params).In h₀) (N : News h₀ L s.heap ((l, listOf #[.int 5 t0, .int 17 t1, .int 20 t2, .int 23 t3] n) :: news)) (T : Top p loose mean mg mb h₀) (hk : cs.kind = .function) (hdp : dp + 10 < recursionLimit) (hun : un + 80 < cLine)
    (hw : 0 ≤ k ∧ k ≤ 6) (hmo : 1 ≤ mo ∧ mo ≤ 12) (hu : 0 ≤ u ∧ u ≤ 59) (hx : 0 ≤ x ∧ x ≤ 59) (hy : 0 ≤ y ∧ y ≤ 59) (hz : 0 ≤ z ∧ z ≤ 59) (hzo : zone.length ≤ 10)
    (ret : ∀ (D : Addr) (c : Nat) (vs : List Value) (h' : Heap) (tk' : Nat), IntsAre vs (dists [u, x, y, z]) → Fr h₀ L h' m → News h₀ L h' ((D, listOf vs.toArray c) :: news) → (∀ q ∈ news, q.1 < D) → Q (.ref D) { s with heap := h', toks := tk' }) :
    wpAny (model prog w) (ktrTop dp un gd cn cs L a ccd cl outer) (call (.ref 144) [.str (lineOf (dayS k) u (monS mo) ye x y z zone) tl, .ref l]) Q E s :=
  apart_spec dp un gd cn cs a ccd cl outer A₀ base h₀ L m news s Q E l n _ tl [.int 5 t0, .int 17 t1, .int 20 t2, .int 23 t3] [5, 17, 20, 23] [u, x, y, z] ints4 (line_hands4 hw hmo hu hx hy hz) (line_le hw hmo hzo) (by show 4 ≤ 60; omega) (Nat.le_of_ble_eq_true rfl) B F X N T hk hdp hun ret
end Mine
namespace Mine
local macro_rules | `(tactic| walk_at $s:str) => `(tactic| k_extra $s)
local macro_rules | `(tactic| k_room) => `(tactic| ktr_room)
local macro_rules | `(tactic| k_units) => `(tactic| ktr_units)
set_option maxRecDepth 100000 in
set_option maxHeartbeats 1500000 in
theorem fmt_spec {prog : Program} {w : World} {p : Program} {loose : List Str} {mean : ExcName → Option Value} {mg mb : Str → Option Value} (dp un : Nat) (gd : Option (List Code)) (cn : Str) (cs : Scope) (a : Addr) (ccd : Value) (cl : List (Str × Addr)) (outer : List Env) (A₀ : Around) (base h₀ : Heap) (L : Addr) (m : Str → Option Value) (news : List (Addr × Obj)) (s : Shared) (Q E : Value → Shared → Prop) (l : Addr) (n : Nat) (zone : Str) (tz : Tok) (ye mo da ho mi se wd : Int) (t0 t1 t2 t3 t4 t5 t6 : Tok)
    (B : Below A₀ base outer h₀) (F : Fr h₀ L s.heap m) (X : (hd.heap_39 w.params).In h₀) (N : News h₀ L s.heap ((l, listOf #[.int ye t0, .int mo t1, .int da t2, .int ho t3, .int mi t4, .int se t5, .int wd t6] n) :: news)) (T : Top p loose mean mg mb h₀) (hk : cs.kind = .function) (hdp : dp + 10 < recursionLimit) (hun : un + 80 < cLine)
    (hye : 1 ≤ ye ∧ ye ≤ 99) (hmo : 1 ≤ mo ∧ mo ≤ 12) (hda : 0 ≤ da ∧ da ≤ 59) (hho : 0 ≤ ho ∧ ho ≤ 59) (hmi : 0 ≤ mi ∧ mi ≤ 59) (hse : 0 ≤ se ∧ se ≤ 59) (hwd : 0 ≤ wd ∧ wd ≤ 6) (hz : zone.length ≤ 10)
    (ret : ∀ (t : Tok) (h' : Heap) (tk' : Nat), Fr h₀ L h' m → News h₀ L h' news → Q (.str (lineOf (dayS wd) da (monS mo) ye ho mi se zone) t) { s with heap := h', toks := tk' }) :
    wpAny (model prog w) (ktrTop dp un gd cn cs L a ccd cl outer) (call (.ref 21) [.ref l, .str zone tz]) Q E s := by
  w_top off
  have kf9 : PySem.Challenge.rw_xl0002_01 = PySem.Challenge.rw_xl0002_01 ∧ Mine.hd.heap_39 = Mine.hd.heap_39 := (by k_fill; exact ⟨rfl, rfl⟩)
  have kMark : KstMark := kstMark
  k_with_none
  (k_with "subscriptTail Name Constant ref int" => (k_here; k_dflt (refine lit_item (by k_asm) (by with_reducible (repeat (first | exact List.mem_cons_self | refine List.mem_cons_of_mem _ ?_))) (by decide) (by decide) (by rfl) ?_)))
  (k_with "subscriptTail List" => (k_here; k_dflt (first | (refine day_item (by k_asm) (by with_reducible (repeat (first | exact List.mem_cons_self | refine List.mem_cons_of_mem _ ?_))) (by omega) (by omega) ?_; intro t9) | (refine mon_item (by k_asm) (by with_reducible (repeat (first | exact List.mem_cons_self | refine List.mem_cons_of_mem _ ?_))) (by omega) (by omega) ?_; intro t9))))
  (k_with "binaryOp Mod str ref" => (k_here; k_dflt (refine fmt_mod (by k_asm) (by with_reducible (repeat (first | exact List.mem_cons_self | refine List.mem_cons_of_mem _ ?_))) (by exact day_le (by assumption)) (by exact mon_le (by assumption)) (by assumption) (by omega) (by omega) (by omega) (by omega) (by omega) ?_; intro t9 k9)))
  refine wpAny_call ?_
  k_dflt cell_enter
  k_steps
  all_goals (exact ret _ _ _ (by assumption) (cb_drop (by assumption) (fun p hp => by repeat' (first | exact hp | apply List.Mem.tail))))
end Mine
namespace Mine
local macro_rules | `(tactic| walk_at $s:str) => `(tactic| k_extra $s)
local macro_rules | `(tactic| k_room) => `(tactic| ktr_room)
local macro_rules | `(tactic| k_units) => `(tactic| ktr_units)
section
variable {prog : Program} {w : World} {A : Around} {E : Value → Shared → Prop} {s : Shared} {Q : Value → Shared → Prop} {t u : Tok}
theorem add_len {x y : Str} {a b : Nat} (hx : x.length ≤ a) (hy : y.length ≤ b) (hab : Nat.ble (a + b) 16777216 = true) (h : ∀ t' k, (x ++ y).length ≤ a + b → Q (.str (x ++ y) t') { s with toks := k }) : wpAny (model prog w) A (binaryOp .Add (.str x t) (.str y u)) Q E s := by
  have hl := Nat.add_le_add hx hy
  exact KOpn.add (Nat.le_trans hl (Nat.le_of_ble_eq_true hab)) fun t' k b9 => h t' k (Nat.le_trans b9.2 hl)
theorem two_le (x : Int) : (two x).length ≤ 2 := Nat.le_of_eq (two_len x)
end
set_option maxRecDepth 100000 in
set_option maxHeartbeats 1500000 in
theorem told_spec {prog : Program} {w : World} {p : Program} {loose : List Str} {mean : ExcName → Option Value} {mg mb : Str → Option Value} (dp un : Nat) (gd : Option (List Code)) (cn : Str) (cs : Scope) (a : Addr) (ccd : Value) (cl : List (Str × Addr)) (outer : List Env) (A₀ : Around) (base h₀ : Heap) (L : Addr) (m : Str → Option Value) (news : List (Addr × Obj)) (s : Shared) (Q E : Value → Shared → Prop) (l : Addr) (n : Nat) (zone : Str) (tz tt tm : Tok) (da ho mi se turn mo : Int) (t2 t3 t4 t5 : Tok)
    (B : Below A₀ base outer h₀) (F : Fr h₀ L s.heap m) (X : (hd.heap_39 w.params).In h₀) (N : News h₀ L s.heap ((l, listOf #[.int da t2, .int ho t3, .int mi t4, .int se t5] n) :: news)) (T : Top p loose mean mg mb h₀) (hk : cs.kind = .function) (hdp : dp + 10 < recursionLimit) (hun : un + 80 < cLine)
    (hye : 0 ≤ turn ∧ turn ≤ 98) (hmo : 1 ≤ mo ∧ mo ≤ 12) (hda : 0 ≤ da ∧ da ≤ 99) (hho : 0 ≤ ho ∧ ho ≤ 99) (hmi : 0 ≤ mi ∧ mi ≤ 99) (hse : 0 ≤ se ∧ se ≤ 99) (hz : zone.length ≤ 10)
    (ret : ∀ (t : Tok) (h' : Heap) (tk' : Nat), Fr h₀ L h' m → News h₀ L h' news → Q (.str (lineOf (dayS (turn.fmod 7)) da (monS mo) (turn + 1) ho mi se zone) t) { s with heap := h', toks := tk' }) :
    wpAny (model prog w) (ktrTop dp un gd cn cs L a ccd cl outer) (call (.ref 139) [.ref l, .int turn tt, .int mo tm, .str zone tz]) Q E s := by
  w_top off
  have kf9 : PySem.Challenge.rw_xl0002_01 = PySem.Challenge.rw_xl0002_01 ∧ Mine.hd.heap_39 = Mine.hd.heap_39 := (by k_fill; exact ⟨rfl, rfl⟩)
  have kMark : KstMark := kstMark
  k_with_none
  (k_with "exec Assign cons ListComp" => (k_here; k_dflt (refine LCg.Assign_ListComp_U (F₀ := by k_asm) (by rfl) (by with_unfolding_all rfl) (by with_unfolding_all rfl) (by decide) (by rfl) (by decide) (by rfl) (by rfl) (by rfl) ?_)))
  (k_with "CompSrc" => (k_here; k_dflt (refine LCg.CompSrc.ledger (by rfl) (by k_asm) (by k_asm) (by k_mem) (by exact Nat.le_of_ble_eq_true rfl) ?_; intro g'; (refine two_comp (by assumption) (by assumption) (by assumption) (by assumption) (fun k' t' I' oI' C' oC' D' m' ys' h' tk' E' hk' hC' hx' F' N' off' ne' => ?_) (fun ta9 tb9 tc9 td9 => ?_)); (focus (have off9 := off'; (try simp only [LCg.Off3, and_true] at off'))))))
  (k_with "CompEnd" => ((rename News _ _ _ _ => nC9); (rename LCg.Off3 _ _ _ _ => oF9); refine LCg.CompEnd.intro (by assumption) nC9 _ (by intro p9 hp9; repeat' (first | exact hp9 | apply List.Mem.tail)) oF9 (by lcg_src) ?_))
  (k_with "binaryOp Add str str" => (k_here; k_dflt (first
    | (with_reducible refine add_two (by assumption) ?_; intro t9 k9)
    | ((try ((with_reducible show wpAny _ _ (binaryOp _ (Value.str _ _) (Value.str (Txt.slice _ _ _) _)) _ _ _); rw [(by with_reducible assumption : Txt.slice _ _ _ = _)])); refine add_len (by with_reducible assumption) (by first | (with_reducible assumption) | (with_reducible exact two_le _)) (by rfl) ?_; intro t9 k9 b9))))
  (k_with "KCtEl" => (exact kct_el rfl rfl rfl))
  (k_with "subscriptTail Name Constant ref int" => (k_here; k_dflt (refine lit_item (by k_asm) (by with_reducible (repeat (first | exact List.mem_cons_self | refine List.mem_cons_of_mem _ ?_))) (by decide) (by decide) (by rfl) ?_)))
  (k_with "subscriptTail Name BinOp ref int" => (k_here; k_dflt (refine day_item (by k_asm) (by with_reducible (repeat (first | exact List.mem_cons_self | refine List.mem_cons_of_mem _ ?_))) (by exact And.left (by assumption : 0 ≤ Int.fmod _ 7 ∧ Int.fmod _ 7 ≤ 6)) (by exact And.right (by assumption : 0 ≤ Int.fmod _ 7 ∧ Int.fmod _ 7 ≤ 6)) ?_; intro t9)))
  have hw7 : 0 ≤ Int.fmod turn 7 ∧ Int.fmod turn 7 ≤ 6 := ⟨Int.fmod_nonneg_of_pos _ (by decide), Int.le_of_lt_add_one (Int.fmod_lt_of_pos _ (by decide))⟩
  have hdl := day_le hw7
  have hml := mon_le hmo
  have hsl := mon_slice hmo
  have hyl := (year_len hye).1
  have hys := (year_len hye).2
  have e1 : (Str.ofString ", ").length ≤ 2 := by decide +kernel
  have e2 : (Str.ofString " ").length ≤ 1 := by decide +kernel
  have e3 : (Str.ofString ":").length ≤ 1 := by decide +kernel
  refine wpAny_call ?_
  k_dflt cell_enter
  k_steps
  all_goals (
    rw [told_line hye]
    exact ret _ _ _ (by assumption) (cb_drop (by assumption) (fun p hp => by repeat' (first | exact hp | apply List.Mem.tail))))
end Mine
namespace Mine
local macro_rules | `(tactic| walk_at $s:str) => `(tactic| k_extra $s)
local macro_rules | `(tactic| k_room) => `(tactic| ktr_room)
local macro_rules | `(tactic| k_units) => `(tactic| ktr_units)
local macro_rules | `(tactic| k_all) => `(tactic| assumption)
local macro_rules | `(tactic| k_mem) => `(tactic| assumption)
set_option maxRecDepth 100000 in
set_option maxHeartbeats 3000000 in
theorem run_spec3 {prog : Program} {w : World} {p : Program} {loose : List Str} {mean : ExcName → Option Value} {mg mb : Str → Option Value}
    (dp un : Nat) (gd : Option (List Code)) (cn : Str) (cs : Scope) (a : Addr) (ccd : Value) (cl : List (Str × Addr)) (outer : List Env) (A₀ : Around) (base h₀ : Heap) (L : Addr) (m : Str → Option Value) (news : List (Addr × Obj)) (s : Shared) (Q E : Value → Shared → Prop)
    (l : Addr) (n nt : Nat) (zone : Str) (tz tt tm tmo : Tok) (da ho mi se mo : Int) (t2 t3 t4 t5 : Tok)
    (hnt : nt ≤ 90) (hmo : 1 ≤ mo ∧ mo ≤ 12) (hda : 0 ≤ da ∧ da ≤ 59) (hB : InB [ho, mi, se]) (hz : zone.length ≤ 10)
    (B : Below A₀ base outer h₀) (F : Fr h₀ L s.heap m) (X : (hd.heap_39 w.params).In h₀) (N : News h₀ L s.heap ((l, listOf #[.int da t2, .int ho t3, .int mi t4, .int se t5] n) :: news)) (T : Top p loose mean mg mb h₀) (hk : cs.kind = .function)
    (hdp : dp + 20 < recursionLimit) (hun : un + 160 < cLine)
    (ret : ∀ (R c : Nat) (vs : List Value) (led : List (Addr × Obj)) (h' : Heap) (tk' : Nat), RowsAre led vs (rowsOf nt [ho, mi, se]) → (∀ p ∈ news, p ∈ led) → Fr h₀ L h' m → News h₀ L h' ((R, listOf (List.toArray vs) c) :: led) → Q (.ref R) { s with heap := h', toks := tk' }) :
    wpAny (model prog w) (ktrTop dp un gd cn cs L a ccd cl outer) (call (.ref 151) [.ref l, .int 3 tm, .int (nt : Int) tt, .int mo tmo, .str zone tz]) Q E s := by
  w_top off
  have kf9 : PySem.Challenge.rw_xl0002_01 = PySem.Challenge.rw_xl0002_01 ∧ Mine.hd.heap_39 = Mine.hd.heap_39 := (by k_fill; exact ⟨rfl, rfl⟩)
  have kMark : KstMark := kstMark
  k_with_none
  (k_with "call ref" => (k_here; (with_reducible show wpAny _ _ (call (Value.ref 35) _) _ _ _); k_dflt (refine mod_spec _ _ _ _ _ _ _ _ _ _ _ _ _ _ _ _ _ _ _ _ _ _ (by decide) (by k_asm) (by k_asm) (by k_asm) (by k_asm) (by k_asm) (by first | exact rfl | assumption) (by ktr_room) (by ktr_units) ?_); intro t9 h9 tk9 F9 N9; (try k_sweep)))
  (k_with "exec For Name Call cons nil" => (k_here; (rename Fr _ _ _ _ => lF'); (with_unfolding_all refine For_invVF lF' (by exact rfl) (by exact rfl) ?_; k_whole)))
  (k_with "call ref" => (k_here; (with_reducible show wpAny _ _ (call (Value.ref 21) _ _) _ _ _); k_dflt (refine fmt_spec _ _ _ _ _ _ _ _ _ _ _ _ _ _ _ _ _ _ _ _ _ _ _ _ _ _ _ _ _ _ _ _ _ _ _ _ (by k_asm) (by k_asm) (by k_asm) (by exact cb_drop (by assumption) (List.forall_mem_cons.mpr ⟨by k_mem, fun _ h9 => h9⟩)) (by k_asm) (by first | exact rfl | assumption) (by ktr_room) (by ktr_units) (by omega) (by omega) (by omega) (by omega) (by omega) (by omega) (by (first | assumption | omega)) (by assumption) ?_); intro t9 h9 tk9 F9 N9; (try k_sweep)))
  (k_with "call ref" => (k_here; (with_reducible show wpAny _ _ (call (Value.ref 139) _ _) _ _ _); k_dflt (refine told_spec _ _ _ _ _ _ _ _ _ _ _ _ _ _ _ _ _ _ _ _ _ _ _ _ _ _ _ _ _ _ _ _ _ _ (by k_asm) (by k_asm) (by k_asm) (by exact cb_drop (by assumption) (List.forall_mem_cons.mpr ⟨by k_mem, fun _ h9 => h9⟩)) (by k_asm) (by first | exact rfl | assumption) (by ktr_room) (by ktr_units) (by omega) (by omega) (by omega) (by omega) (by omega) (by omega) (by assumption) ?_); intro t9 h9 tk9 F9 N9; (try k_sweep)))
  (k_with "call ref" => (k_here; (with_reducible show wpAny _ _ (call (Value.ref 144) _ _) _ _ _); k_dflt (refine apart3 _ _ _ _ _ _ _ _ _ _ _ _ _ _ _ _ _ _ _ _ _ _ _ _ _ _ _ _ _ _ _ _ (by k_asm) (by k_asm) (by k_asm) (by exact cb_drop (by assumption) (List.forall_mem_cons.mpr ⟨by k_mem, fun _ h9 => h9⟩)) (by k_asm) (by first | exact rfl | assumption) (by ktr_room) (by ktr_units) (by assumption) (by assumption) (by assumption) (by assumption) (by assumption) (by assumption) ?_); intro D9 c9 vs9 h9 tk9 hi9 F9 N9 l9; (try k_sweep)))
  (k_with "call builtin:list.append" => (k_here; (with_reducible show wpAny _ _ (call (Value.builtin _) [Value.ref _, _]) _ _ _); k_dflt (refine append_K (by k_asm) (by k_asm) (by k_upd) ?_ (by (rw [List.size_toArray, sizeLine_eq]; omega)); k_whole); intro h' F' N'; (try k_sweep)))
  (k_with "compareOp NotEq str str" => (with_reducible refine ne_same ?_))
  (k_with "pyIter ref" => (k_here; (with_reducible show wpAny _ _ (pyIter (Value.ref _)) (fun it s₂ => LoopAtV _ _ _ _ _ _ _ _ _ it s₂) _ _); (rename Fr _ _ _ _ => lF'); (rename News _ _ _ _ => lN'); (with_unfolding_all refine run_loop _ (by rfl) (by assumption) rfl (by assumption) lF' lN' ints3 (by rfl) (by assumption) ?turn9 ?stop9 ?done9); (rotate_left; (intro i9 m9 vs9 c9 led9 h9 tk9 hi9 hx9; exfalso; have hl9 := congrArg List.length hx9; rw [it_len] at hl9; exact absurd hl9 (by simp)); (intro u0 u1 u2 u3 vs9 c9 led9 h9 tk9 hR9 hs9 F9 N9; clear lF' lN'; (try k_fold)); rotate_left; (intro i9 t9 u19 u29 vs9 ws9 H9 c9 cH9 all9 h9 tk9 hi9 hl9 hw9 hs9 hHR9 ho9 F9 N9; obtain ⟨x9, y9, z9, tx9, ty9, tz9, e9, ew9, hx9, hy9, hz9⟩ := it3 hw9 rfl (by assumption); subst ew9; rw [e9]; clear hw9 e9; have hm1 := hs9 (_, _) List.mem_cons_self; have hm2 := hs9 (_, _) (List.mem_cons_of_mem _ List.mem_cons_self); have hn1 := ho9 _ hm1; have hn2 := ho9 _ hm2; replace N9 := cb_drop N9 (List.forall_mem_cons.mpr ⟨List.mem_cons_self, List.forall_mem_cons.mpr ⟨List.mem_cons_of_mem _ List.mem_cons_self, List.forall_mem_cons.mpr ⟨List.mem_cons_of_mem _ (List.mem_cons_of_mem _ hm1), List.forall_mem_cons.mpr ⟨List.mem_cons_of_mem _ (List.mem_cons_of_mem _ hm2), fun _ h9 => List.mem_cons_of_mem _ (List.mem_cons_of_mem _ h9)⟩⟩⟩⟩); (try dsimp only at hn1 hn2); clear hs9 hm1 hm2 lF' lN'; have hw7 : 0 ≤ Int.fmod (i9 : Int) 7 ∧ Int.fmod (i9 : Int) 7 ≤ 6 := ⟨Int.fmod_nonneg_of_pos _ (by decide), Int.le_of_lt_add_one (Int.fmod_lt_of_pos _ (by decide))⟩; (try k_fold)); rotate_left)))
  refine wpAny_call ?_
  k_dflt cell_enter
  k_steps
  · exact ret _ _ _ _ _ _ (by assumption) (fun p hp => (by assumption : ∀ p ∈ _, p ∈ _) p (by repeat' (first | exact hp | apply List.Mem.tail))) (by assumption) (by assumption)
  · rename News _ _ _ _ => nC9
    refine' run_next ?F nC9 ?hH ?hm ?hi ?hR ?ha ?h1 ?h2 ?h3 ?h4
    case F => assumption
    case hH => rfl
    case hm => (intro y9 h1 h2 h3 h4; simp [h1, h2, h3, h4])
    case hi => assumption
    case h1 => k_mem
    case h2 => k_mem
    case h3 => k_mem
    case h4 => (intro p9 h9; repeat' (first | exact h9 | apply List.Mem.tail))
    case hR => exact lt_of_mem (by assumption) (by k_mem)
    case ha => (intro p9 h9; refine (by assumption : ∀ q ∈ _, q.1 < _) p9 ?_; repeat' (first | exact h9 | apply List.Mem.tail))
end Mine
namespace Mine
local macro_rules | `(tactic| walk_at $s:str) => `(tactic| k_extra $s)
local macro_rules | `(tactic| k_room) => `(tactic| ktr_room)
local macro_rules | `(tactic| k_units) => `(tactic| ktr_units)
local macro_rules | `(tactic| k_all) => `(tactic| assumption)
local macro_rules | `(tactic| k_mem) => `(tactic| assumption)
set_option maxRecDepth 100000 in
set_option maxHeartbeats 3000000 in
theorem run_spec4 {prog : Program} {w : World} {p : Program} {loose : List Str} {mean : ExcName → Option Value} {mg mb : Str → Option Value}
    (dp un : Nat) (gd : Option (List Code)) (cn : Str) (cs : Scope) (a : Addr) (ccd : Value) (cl : List (Str × Addr)) (outer : List Env) (A₀ : Around) (base h₀ : Heap) (L : Addr) (m : Str → Option Value) (news : List (Addr × Obj)) (s : Shared) (Q E : Value → Shared → Prop)
    (l : Addr) (n : Nat) (zone : Str) (tz tt tm tmo : Tok) (da ho mi se mo : Int) (t2 t3 t4 t5 : Tok)
    (hmo : 1 ≤ mo ∧ mo ≤ 12) (hB : InB [da, ho, mi, se]) (hz : zone.length ≤ 10)
    (B : Below A₀ base outer h₀) (F : Fr h₀ L s.heap m) (X : (hd.heap_39 w.params).In h₀) (N : News h₀ L s.heap ((l, listOf #[.int da t2, .int ho t3, .int mi t4, .int se t5] n) :: news)) (T : Top p loose mean mg mb h₀) (hk : cs.kind = .function)
    (hdp : dp + 20 < recursionLimit) (hun : un + 160 < cLine)
    (ret : ∀ (r R c : Nat) (vs : List Value) (led : List (Addr × Obj)) (h' : Heap) (tk' : Nat), 1 ≤ r → r ≤ 25 → (r < 25 → it (r - 1) [da, ho, mi, se] = [0, 0, 0, 0]) → RowsAre led vs (rowsOf r [da, ho, mi, se]) → (∀ p ∈ news, p ∈ led) → Fr h₀ L h' m → News h₀ L h' ((R, listOf (List.toArray vs) c) :: led) → Q (.ref R) { s with heap := h', toks := tk' }) :
    wpAny (model prog w) (ktrTop dp un gd cn cs L a ccd cl outer) (call (.ref 151) [.ref l, .int 4 tm, .int 25 tt, .int mo tmo, .str zone tz]) Q E s := by
  w_top off
  have kf9 : PySem.Challenge.rw_xl0002_01 = PySem.Challenge.rw_xl0002_01 ∧ Mine.hd.heap_39 = Mine.hd.heap_39 := (by k_fill; exact ⟨rfl, rfl⟩)
  have kMark : KstMark := kstMark
  k_with_none
  (k_with "call ref" => (k_here; (with_reducible show wpAny _ _ (call (Value.ref 35) _) _ _ _); k_dflt (refine mod_spec _ _ _ _ _ _ _ _ _ _ _ _ _ _ _ _ _ _ _ _ _ _ (by decide) (by k_asm) (by k_asm) (by k_asm) (by k_asm) (by k_asm) (by first | exact rfl | assumption) (by ktr_room) (by ktr_units) ?_); intro t9 h9 tk9 F9 N9; (try k_sweep)))
  (k_with "exec For Name Call cons nil" => (k_here; (rename Fr _ _ _ _ => lF'); (with_unfolding_all refine For_invVF lF' (by exact rfl) (by exact rfl) ?_; k_whole)))
  (k_with "call ref" => (k_here; (with_reducible show wpAny _ _ (call (Value.ref 21) _ _) _ _ _); k_dflt (refine fmt_spec _ _ _ _ _ _ _ _ _ _ _ _ _ _ _ _ _ _ _ _ _ _ _ _ _ _ _ _ _ _ _ _ _ _ _ _ (by k_asm) (by k_asm) (by k_asm) (by exact cb_drop (by assumption) (List.forall_mem_cons.mpr ⟨by k_mem, fun _ h9 => h9⟩)) (by k_asm) (by first | exact rfl | assumption) (by ktr_room) (by ktr_units) (by omega) (by omega) (by omega) (by omega) (by omega) (by omega) (by (first | assumption | omega)) (by assumption) ?_); intro t9 h9 tk9 F9 N9; (try k_sweep)))
  (k_with "call ref" => (k_here; (with_reducible show wpAny _ _ (call (Value.ref 139) _ _) _ _ _); k_dflt (refine told_spec _ _ _ _ _ _ _ _ _ _ _ _ _ _ _ _ _ _ _ _ _ _ _ _ _ _ _ _ _ _ _ _ _ _ (by k_asm) (by k_asm) (by k_asm) (by exact cb_drop (by assumption) (List.forall_mem_cons.mpr ⟨by k_mem, fun _ h9 => h9⟩)) (by k_asm) (by first | exact rfl | assumption) (by ktr_room) (by ktr_units) (by omega) (by omega) (by omega) (by omega) (by omega) (by omega) (by assumption) ?_); intro t9 h9 tk9 F9 N9; (try k_sweep)))
  (k_with "call ref" => (k_here; (with_reducible show wpAny _ _ (call (Value.ref 144) _ _) _ _ _); k_dflt (refine apart4 _ _ _ _ _ _ _ _ _ _ _ _ _ _ _ _ _ _ _ _ _ _ _ _ _ _ _ _ _ _ _ _ _ (by k_asm) (by k_asm) (by k_asm) (by exact cb_drop (by assumption) (List.forall_mem_cons.mpr ⟨by k_mem, fun _ h9 => h9⟩)) (by k_asm) (by first | exact rfl | assumption) (by ktr_room) (by ktr_units) (by assumption) (by assumption) (by assumption) (by assumption) (by assumption) (by assumption) (by assumption) ?_); intro D9 c9 vs9 h9 tk9 hi9 F9 N9 l9; (try k_sweep)))
  (k_with "call builtin:list.append" => (k_here; (with_reducible show wpAny _ _ (call (Value.builtin _) [Value.ref _, _]) _ _ _); k_dflt (refine append_K (by k_asm) (by k_asm) (by k_upd) ?_ (by (rw [List.size_toArray, sizeLine_eq]; omega)); k_whole); intro h' F' N'; (try k_sweep)))
  (k_with "compareOp NotEq str str" => (with_reducible refine ne_same ?_))
  (k_with "pyIter ref" => (k_here; (with_reducible show wpAny _ _ (pyIter (Value.ref _)) (fun it s₂ => LoopAtV _ _ _ _ _ _ _ _ _ it s₂) _ _); (rename Fr _ _ _ _ => lF'); (rename News _ _ _ _ => lN'); (with_unfolding_all refine run_loop (n := 25) _ (by rfl) (by assumption) rfl (by decide) lF' lN' ints4 (by rfl) (by assumption) ?turn9 ?stop9 ?done9); (rotate_left; (intro i9 m9 vs9 c9 led9 h9 tk9 hi9 hx9 hR9 hs9 F9 N9; clear lF' lN'; (try dsimp only); (try k_fold)); rotate_left; (intro u0 u1 u2 u3 vs9 c9 led9 h9 tk9 hR9 hs9 F9 N9; clear lF' lN'; (try k_fold)); rotate_left; (intro i9 t9 u19 u29 vs9 ws9 H9 c9 cH9 all9 h9 tk9 hi9 hl9 hw9 hs9 hHR9 ho9 F9 N9; obtain ⟨x9, y9, z9, u9, tx9, ty9, tz9, tu9, e9, ew9, hx9, hy9, hz9, hu9⟩ := it4 hw9 rfl (by assumption); subst ew9; rw [e9]; clear hw9 e9; have hm1 := hs9 (_, _) List.mem_cons_self; have hm2 := hs9 (_, _) (List.mem_cons_of_mem _ List.mem_cons_self); have hn1 := ho9 _ hm1; have hn2 := ho9 _ hm2; replace N9 := cb_drop N9 (List.forall_mem_cons.mpr ⟨List.mem_cons_self, List.forall_mem_cons.mpr ⟨List.mem_cons_of_mem _ List.mem_cons_self, List.forall_mem_cons.mpr ⟨List.mem_cons_of_mem _ (List.mem_cons_of_mem _ hm1), List.forall_mem_cons.mpr ⟨List.mem_cons_of_mem _ (List.mem_cons_of_mem _ hm2), fun _ h9 => List.mem_cons_of_mem _ (List.mem_cons_of_mem _ h9)⟩⟩⟩⟩); (try dsimp only at hn1 hn2); clear hs9 hm1 hm2 lF' lN'; have hw7 : 0 ≤ Int.fmod (i9 : Int) 7 ∧ Int.fmod (i9 : Int) 7 ≤ 6 := ⟨Int.fmod_nonneg_of_pos _ (by decide), Int.le_of_lt_add_one (Int.fmod_lt_of_pos _ (by decide))⟩; (try k_fold)); rotate_left)))
  refine wpAny_call ?_
  k_dflt cell_enter
  k_steps
  · exact ret (_ + 1) _ _ _ _ _ _ (Nat.le_add_left 1 _) (by assumption) (fun _ => by assumption) (by assumption) (fun p hp => (by assumption : ∀ p ∈ _, p ∈ _) p (by repeat' (first | exact hp | apply List.Mem.tail))) (by assumption) (by assumption)
  · exact ret 25 _ _ _ _ _ _ (by decide) (by decide) (fun h => absurd h (by decide)) (by assumption) (fun p hp => (by assumption : ∀ p ∈ _, p ∈ _) p (by repeat' (first | exact hp | apply List.Mem.tail))) (by assumption) (by assumption)
  · dsimp only
    rename News _ _ _ _ => nC9
    refine' run_ret ?F nC9 ?hx ?h1 ?h3 ?h4
    case F => assumption
    case hx => assumption
    case h1 => k_mem
    case h3 => k_mem
    case h4 => (intro p9 h9; repeat' (first | exact h9 | apply List.Mem.tail))
  · rename News _ _ _ _ => nC9
    refine' run_next ?F nC9 ?hH ?hm ?hi ?hR ?ha ?h1 ?h2 ?h3 ?h4
    case F => assumption
    case hH => rfl
    case hm => (intro y9 h1 h2 h3 h4; simp [h1, h2, h3, h4])
    case hi => assumption
    case h1 => k_mem
    case h2 => k_mem
    case h3 => k_mem
    case h4 => (intro p9 h9; repeat' (first | exact h9 | apply List.Mem.tail))
    case hR => exact lt_of_mem (by assumption) (by k_mem)
    case ha => (intro p9 h9; refine (by assumption : ∀ q ∈ _, q.1 < _) p9 ?_; repeat' (first | exact h9 | apply List.Mem.tail))
end Mine
namespace Mine
/-- what stands behind a turn that keeps nothing -/
def PureQ (g : Heap) (L : Addr) (m₀ : Str → Option Value) (x : Str) (stored : List Str) (all : List (Addr × Obj)) (Q : Flow → Shared → Prop) (s : Shared) (fl : Flow) (s' : Shared) : Prop :=
  match fl with
  | .ret v => Q (.ret v) s'
  | .brk => False
  | _ => ∃ (h' : Heap) (tk : Nat) (m' : Str → Option Value), s' = { s with heap := h', toks := tk } ∧ Fr g L h' m' ∧ News g L h' all ∧ ∀ y, y ≠ x → stored.contains y = false → m' y = m₀ y
theorem pure_end {g : Heap} {L : Addr} {m₀ m' : Str → Option Value} {x : Str} {stored : List Str} {all al : List (Addr × Obj)} {Q : Flow → Shared → Prop} {s : Shared} {h' : Heap} {tk : Nat}
    (F : Fr g L h' m') (N : News g L h' al) (hs : ∀ p ∈ all, p ∈ al) (hm : ∀ y, y ≠ x → stored.contains y = false → m' y = m₀ y) : PureQ g L m₀ x stored all Q s .next { s with heap := h', toks := tk } :=
  ⟨h', tk, m', rfl, F, cb_drop N hs, hm⟩
theorem pure_fr {m m₀ : Str → Option Value} {x : Str} {stored : List Str} (hm : ∀ y, y ≠ x → stored.contains y = false → m y = m₀ y) (v : Option Value) :
    (fun y => if y = x then v else m y) = fun y => if y = x then v else if stored.contains y then m y else m₀ y := by
  funext y
  by_cases h1 : y = x
  · rw [if_pos h1, if_pos h1]
  · rw [if_neg h1, if_neg h1]
    cases h2 : stored.contains y with
    | true => simp
    | false => simp only [Bool.false_eq_true, if_false]; exact hm y h1 h2
section
variable {prog : Program} {w : World} {A : Around} {E : Value → Shared → Prop} {s : Shared} {env : Env} {h₀ : Heap} {x : Str} {body : List Stmt} {Q : Flow → Shared → Prop}
theorem pure_loop {r : Addr} {a₀ b₀ : Int} {t₀ u₀ v₀ : Tok} {m₀ : Str → Option Value} {news : List (Addr × Obj)} (stored : List Str)
    (hh : A.handled = none) (hr : IsRange s.heap r a₀ b₀ 1 t₀ u₀ v₀) (ha : 0 ≤ a₀ ∧ a₀ ≤ b₀ ∧ b₀ ≤ 200) (F : Fr h₀ env.locals s.heap m₀) (N : News h₀ env.locals s.heap news)
    (turn : ∀ (k : Int) t (u : Str → Option Value) own h tk, a₀ ≤ k → k < b₀ → Fr h₀ env.locals h (fun y => if y = x then some (.int k t) else if stored.contains y then u y else m₀ y) → News h₀ env.locals h (news ++ own) →
      wpAny (model prog w) A (execs body env) (PureQ h₀ env.locals m₀ x stored (news ++ own) Q { s with heap := h, toks := tk }) E { s with heap := h, toks := tk })
    (done : ∀ (u : Str → Option Value) h tk, Fr h₀ env.locals h (fun y => if y = x then u x else if stored.contains y then u y else m₀ y) → News h₀ env.locals h news → Q .next { s with heap := h, toks := tk }) :
    wpAny (model prog w) A (pyIter (.ref r)) (fun it s₂ => LoopAtV prog w A h₀ env x body Q E it s₂) E s := by
  refine rangeJ (n := (b₀ - a₀).toNat) (fun _ m nx => nx = news ∧ ∀ y, y ≠ x → stored.contains y = false → m y = m₀ y) hh hr (small_one (by omega) (by omega) (by omega) (by omega)) ((rangeSize_nat _ _).trans (by omega)) F N ⟨rfl, fun _ _ _ => rfl⟩ ?_ ?_
  · rintro i t m₁ nx h tk own hi hoff ⟨rfl, hm⟩ F₁ N₁
    rw [pure_fr hm] at F₁
    refine wpAny_mono (turn (a₀ + (i : Int)) t m₁ own h tk (by omega) (by omega) F₁ N₁) (fun fl s' hq => ?_) fun _ _ e => e
    have fin : (∃ (h' : Heap) (tk' : Nat) (m' : Str → Option Value), s' = { s with heap := h', toks := tk' } ∧ Fr h₀ env.locals h' m' ∧ News h₀ env.locals h' (nx ++ own) ∧ ∀ y, y ≠ x → stored.contains y = false → m' y = m₀ y) →
        InvEndG h₀ env.locals (fun m nx' => nx' = nx ∧ ∀ y, y ≠ x → stored.contains y = false → m y = m₀ y) own { s with heap := h, toks := tk } s' := by
      rintro ⟨h', tk', m', rfl, F', N', hm'⟩
      exact ⟨h', tk', m', _, nx, rfl, F', N', fun p hp => List.mem_append.mpr (.inl hp), fun p hp => List.mem_append.mpr (.inr hp), hoff, rfl, hm'⟩
    cases fl with
    | ret v => exact hq
    | brk => exact hq.elim
    | next => exact fin hq
    | cont => exact fin hq
  · rintro m₁ nx h tk ⟨rfl, hm⟩ F₁ N₁
    have e0 : m₁ = fun y => if y = x then m₁ x else m₁ y := by
      funext y
      by_cases h1 : y = x
      · rw [if_pos h1, h1]
      · rw [if_neg h1]
    rw [e0, pure_fr hm] at F₁
    exact done m₁ h tk F₁ N₁
end
section
variable {prog : Program} {w : World} {A : Around} {E : Value → Shared → Prop} {s : Shared} {h₀ : Heap} {L R : Addr} {m : Str → Option Value} {led all : List (Addr × Obj)} {Q : Value → Shared → Prop}
theorem row_item3 {value slice : PySem.Expr} {vs : List Value} {rows : List (List Int)} {k : Int} {u : Tok} {n : Nat} (N : News h₀ L s.heap all) (hm : (R, listOf vs.toArray n) ∈ all) (hR : RowsAre led vs rows) (hs : ∀ p ∈ led, p ∈ all) (h0 : 0 ≤ k) (h1 : k < (rows.length : Int)) (h60 : rows.length ≤ 100) (h3 : ∀ i, i < rows.length → (rows.getD i []).length = 3)
    (h : ∀ a x y z tx ty tz n', rows.getD k.toNat [] = [x, y, z] → (a, listOf #[.int x tx, .int y ty, .int z tz] n') ∈ all → Q (.ref a) s)
    (hsu : subscripted slice false (.ref R) (.int k u) = operate [.ref R, .int k u] (getItem (.ref R) (.int k u)) := by with_unfolding_all rfl) :
    wpAny (model prog w) A (subscriptTail value slice (.ref R) (.int k u)) Q E s := by
  have hl : s.heap.IsList R vs.toArray := ⟨_, (N _ hm).1, rfl, n, rfl⟩
  have hk : k.toNat < rows.length := by omega
  obtain ⟨a, ws, n', e1, e2, e3⟩ := hR.2 k.toNat hk
  have e4 := h3 k.toNat hk
  match hx : rows.getD k.toNat [], e4 with
  | [x, y, z], _ =>
    rw [hx] at e3
    obtain ⟨tx, ty, tz, rfl⟩ := ints3_of e3
    exact tail_any hl.typeIs slot_list_getitem.lookup (wpAny_getItem_list hl h0 (by omega) (by simpa using e1) (h a x y z tx ty tz n' hx (hs _ e2))) hsu
end
theorem closeC {rows : List (List Int)} {T : Nat} (hC : ∀ i x y z u v w, T ≤ i → i < T + 3 → rows.getD i [] = [x, y, z] → rows.getD (i + 1) [] = [u, v, w] → u = z ∧ v = x ∧ w = y) {k x y z u v w : Int}
    (hn : ¬ [u, v, w] = [z, x, y]) (h1 : rows.getD k.toNat [] = [x, y, z]) (h2 : rows.getD (k + 1).toNat [] = [u, v, w]) (hlo : (T : Int) ≤ k) (hhi : k < (T : Int) + 3) : False := by
  have e : (k + 1).toNat = k.toNat + 1 := by omega
  rw [e] at h2
  obtain ⟨rfl, rfl, rfl⟩ := hC k.toNat x y z u v w (by omega) (by omega) h1 h2
  exact hn rfl
theorem closeB {rows : List (List Int)} {T M : Nat} (hB : ∀ x y z, rows.getD T [] = [x, y, z] → lo x y z = 0 ∧ mid x y z = (M : Int) ∧ hi x y z = (M : Int)) {x y z : Int}
    (hn : ¬ [lo x y z, mid x y z, hi x y z] = [0, (M : Int), (M : Int)]) (h1 : rows.getD ((T : Int)).toNat [] = [x, y, z]) : False := by
  obtain ⟨e1, e2, e3⟩ := hB x y z h1
  exact hn (by rw [e1, e2, e3])
section
variable {prog : Program} {w : World} {A : Around} {E : Value → Shared → Prop} {s : Shared} {h₀ : Heap} {L R : Addr} {m : Str → Option Value} {led all : List (Addr × Obj)} {Q : Value → Shared → Prop}
theorem row_item4 {value slice : PySem.Expr} {vs : List Value} {rows : List (List Int)} {k : Int} {u : Tok} {n : Nat} (N : News h₀ L s.heap all) (hm : (R, listOf vs.toArray n) ∈ all) (hR : RowsAre led vs rows) (hs : ∀ p ∈ led, p ∈ all) (h0 : 0 ≤ k) (h1 : k < (rows.length : Int)) (h60 : rows.length ≤ 100) (h3 : ∀ i, i < rows.length → (rows.getD i []).length = 4)
    (h : ∀ a x y z v tx ty tz tv n', rows.getD k.toNat [] = [x, y, z, v] → (a, listOf #[.int x tx, .int y ty, .int z tz, .int v tv] n') ∈ all → Q (.ref a) s)
    (hsu : subscripted slice false (.ref R) (.int k u) = operate [.ref R, .int k u] (getItem (.ref R) (.int k u)) := by with_unfolding_all rfl) :
    wpAny (model prog w) A (subscriptTail value slice (.ref R) (.int k u)) Q E s := by
  have hl : s.heap.IsList R vs.toArray := ⟨_, (N _ hm).1, rfl, n, rfl⟩
  have hk : k.toNat < rows.length := by omega
  obtain ⟨a, ws, n', e1, e2, e3⟩ := hR.2 k.toNat hk
  have e4 := h3 k.toNat hk
  match hx : rows.getD k.toNat [], e4 with
  | [x, y, z, v], _ =>
    rw [hx] at e3
    obtain ⟨tx, ty, tz, tv, rfl⟩ := ints4_of e3
    exact tail_any hl.typeIs slot_list_getitem.lookup (wpAny_getItem_list hl h0 (by omega) (by simpa using e1) (h a x y z v tx ty tz tv n' hx (hs _ e2))) hsu
theorem row_last4 {value slice : PySem.Expr} {vs : List Value} {rows : List (List Int)} {u : Tok} {n : Nat} (N : News h₀ L s.heap all) (hm : (R, listOf vs.toArray n) ∈ all) (hR : RowsAre led vs rows) (hs : ∀ p ∈ led, p ∈ all) (h1 : 1 ≤ rows.length) (h60 : rows.length ≤ 100) (h3 : rows.getD (rows.length - 1) [] = [0, 0, 0, 0])
    (h : ∀ a tx ty tz tv n', (a, listOf #[.int 0 tx, .int 0 ty, .int 0 tz, .int 0 tv] n') ∈ all → Q (.ref a) s)
    (hsu : subscripted slice false (.ref R) (.int (-1) u) = operate [.ref R, .int (-1) u] (getItem (.ref R) (.int (-1) u)) := by with_unfolding_all rfl) :
    wpAny (model prog w) A (subscriptTail value slice (.ref R) (.int (-1) u)) Q E s := by
  have hl : s.heap.IsList R vs.toArray := ⟨_, (N _ hm).1, rfl, n, rfl⟩
  obtain ⟨a, ws, n', e1, e2, e3⟩ := hR.2 (rows.length - 1) (by omega)
  rw [h3] at e3
  obtain ⟨tx, ty, tz, tv, rfl⟩ := ints4_of e3
  have hv := hR.1
  have hsz : vs.toArray.size = vs.length := by simp
  refine tail_any hl.typeIs slot_list_getitem.lookup (wpAny_getItem_list_neg hl (by decide) (by omega) (by decide) (x := .ref a) ?_ (h a tx ty tz tv n' (hs _ e2))) hsu
  have e : ((-1 : Int) + (vs.toArray.size : Int)).toNat = rows.length - 1 := by omega
  rw [e]
  simpa using e1
end
section
variable {prog : Program} {w : World} {A : Around} {E : Value → Shared → Prop} {s : Shared} {env : Env} {h₀ : Heap} {x : Str} {body : List Stmt} {Q : Flow → Shared → Prop}
theorem pure_list {l : Addr} {vs : List Value} {ns : List Int} {nn : Nat} {m₀ : Str → Option Value} {news : List (Addr × Obj)} (stored : List Str)
    (hh : A.handled = none) (hl : (l, listOf vs.toArray nn) ∈ news) (hi : IntsAre vs ns) (F : Fr h₀ env.locals s.heap m₀) (N : News h₀ env.locals s.heap news)
    (turn : ∀ (k : Int) t (u : Str → Option Value) own h tk, k ∈ ns → Fr h₀ env.locals h (fun y => if y = x then some (.int k t) else if stored.contains y then u y else m₀ y) → News h₀ env.locals h (news ++ own) →
      wpAny (model prog w) A (execs body env) (PureQ h₀ env.locals m₀ x stored (news ++ own) Q { s with heap := h, toks := tk }) E { s with heap := h, toks := tk })
    (done : ∀ (u : Str → Option Value) h tk, Fr h₀ env.locals h (fun y => if y = x then u x else if stored.contains y then u y else m₀ y) → News h₀ env.locals h news → Q .next { s with heap := h, toks := tk }) :
    wpAny (model prog w) A (pyIter (.ref l)) (fun it s₂ => LoopAtV prog w A h₀ env x body Q E it s₂) E s := by
  refine kdl_iter (fun _ m nx => nx = news ∧ ∀ y, y ≠ x → stored.contains y = false → m y = m₀ y) hh hl F N ⟨rfl, fun _ _ _ => rfl⟩ ?_ ?_
  · rintro i v m₁ nx h tk own hv hoff hmem ⟨rfl, hm⟩ F₁ N₁
    obtain ⟨k, t, rfl, hk⟩ := IntsAre.at hi i v hv
    rw [pure_fr hm] at F₁
    refine wpAny_mono (turn k t m₁ own h tk (List.mem_of_getElem? hk) F₁ N₁) (fun fl s' hq => ?_) fun _ _ e => e
    have fin : (∃ (h' : Heap) (tk' : Nat) (m' : Str → Option Value), s' = { s with heap := h', toks := tk' } ∧ Fr h₀ env.locals h' m' ∧ News h₀ env.locals h' (nx ++ own) ∧ ∀ y, y ≠ x → stored.contains y = false → m' y = m₀ y) →
        InvEndG h₀ env.locals (fun m nx' => (l, listOf vs.toArray nn) ∈ nx' ∧ nx' = nx ∧ ∀ y, y ≠ x → stored.contains y = false → m y = m₀ y) own { s with heap := h, toks := tk } s' := by
      rintro ⟨h', tk', m', rfl, F', N', hm'⟩
      exact ⟨h', tk', m', _, nx, rfl, F', N', fun p hp => List.mem_append.mpr (.inl hp), fun p hp => List.mem_append.mpr (.inr hp), hoff, hmem, rfl, hm'⟩
    cases fl with
    | ret v => exact hq
    | brk => exact hq.elim
    | next => exact fin hq
    | cont => exact fin hq
  · rintro m₁ nx h tk ⟨rfl, hm⟩ F₁ N₁
    have e0 : m₁ = fun y => if y = x then m₁ x else m₁ y := by
      funext y
      by_cases h1 : y = x
      · rw [if_pos h1, h1]
      · rw [if_neg h1]
    rw [e0, pure_fr hm] at F₁
    exact done m₁ h tk F₁ N₁
end
theorem ints4' {x y z u : Int} {tx ty tz tu : Tok} : IntsAre [.int x tx, .int y ty, .int z tz, .int u tu] [x, y, z, u] := .cons _ _ ints3
theorem masks : ∀ q : Nat, q < 7 → ∀ x : Nat, x < 60 → x % 2 ^ q = 0 → Builtin.bitAnd (x : Int) (1 * 2 ^ q - 1) = 0 := by decide +kernel
theorem fdiv4 {k : Int} (h0 : 0 ≤ k) (h1 : k < 28) : 0 ≤ k.fdiv 4 ∧ k.fdiv 4 ≤ 6 := by
  rw [Int.fdiv_eq_ediv_of_nonneg _ (by decide)]; omega
theorem closeM {rows : List (List Int)} (hP : ∀ i, i < rows.length → ∀ x ∈ rows.getD i [], 0 ≤ x ∧ x ≤ 59 ∧ x % 2 ^ (i / 4) = 0) {k x : Int} {r : List Int} (hr : rows.getD k.toNat [] = r) (hx : x ∈ r) (h0 : 0 ≤ k) (h1 : k < (rows.length : Int)) (hl : rows.length ≤ 25) :
    Builtin.bitAnd x (1 * 2 ^ (k.fdiv 4).toNat - 1) = 0 := by
  rw [← hr] at hx
  obtain ⟨a, b, c⟩ := hP k.toNat (by omega) x hx
  obtain ⟨n, rfl⟩ := Int.eq_ofNat_of_zero_le a
  have e : (k.fdiv 4).toNat = k.toNat / 4 := by
    rw [Int.fdiv_eq_ediv_of_nonneg _ (by decide)]; omega
  rw [e]
  have c' : n % 2 ^ (k.toNat / 4) = 0 := by
    have : ((n % 2 ^ (k.toNat / 4) : Nat) : Int) = 0 := by rw [← c]; simp
    omega
  exact masks (k.toNat / 4) (by omega) n (by omega) c'
end Mine
namespace Mine
local macro_rules | `(tactic| walk_at $s:str) => `(tactic| k_extra $s)
local macro_rules | `(tactic| k_room) => `(tactic| ktr_room)
local macro_rules | `(tactic| k_units) => `(tactic| ktr_units)
local macro_rules | `(tactic| k_mem) => `(tactic| assumption)
set_option maxRecDepth 100000 in
set_option maxHeartbeats 3000000 in
theorem round_spec {prog : Program} {w : World} {p : Program} {loose : List Str} {mean : ExcName → Option Value} {mg mb : Str → Option Value}
    (dp un : Nat) (gd : Option (List Code)) (cn : Str) (cs : Scope) (a : Addr) (ccd : Value) (cl : List (Str × Addr)) (outer : List Env) (A₀ : Around) (base h₀ : Heap) (L : Addr) (m : Str → Option Value) (news : List (Addr × Obj)) (s : Shared) (Q E : Value → Shared → Prop)
    (R n : Nat) (vs : List Value) (rows : List (List Int)) (T M : Nat) (tt tm : Tok)
    (hR : RowsAre news vs rows) (hlen : rows.length = T + 4) (hT : T ≤ 80) (h3 : ∀ i, i < rows.length → (rows.getD i []).length = 3)
    (hA : ∀ i x y z, i < T → rows.getD i [] = [x, y, z] → lo x y z = 0 → mid x y z = hi x y z → False)
    (hBm : ∀ x y z, rows.getD T [] = [x, y, z] → lo x y z = 0 ∧ mid x y z = (M : Int) ∧ hi x y z = (M : Int))
    (hC : ∀ i x y z u v w, T ≤ i → i < T + 3 → rows.getD i [] = [x, y, z] → rows.getD (i + 1) [] = [u, v, w] → u = z ∧ v = x ∧ w = y)
    (B : Below A₀ base outer h₀) (F : Fr h₀ L s.heap m) (X : (hd.heap_39 w.params).In h₀) (N : News h₀ L s.heap ((R, listOf vs.toArray n) :: news)) (T9 : Top p loose mean mg mb h₀) (hk : cs.kind = .function)
    (hdp : dp + 10 < recursionLimit) (hun : un + 80 < cLine)
    (ret : ∀ (h' : Heap) (tk' : Nat), Fr h₀ L h' m → News h₀ L h' news → Q (.bool true) { s with heap := h', toks := tk' }) :
    wpAny (model prog w) (ktrTop dp un gd cn cs L a ccd cl outer) (call (.ref 172) [.ref R, .int (T : Int) tt, .int (M : Int) tm]) Q E s := by
  w_top off
  have kf9 : PySem.Challenge.rw_xl0002_01 = PySem.Challenge.rw_xl0002_01 ∧ Mine.hd.heap_39 = Mine.hd.heap_39 := (by k_fill; exact ⟨rfl, rfl⟩)
  have kMark : KstMark := kstMark
  k_with_none
  (k_with "call builtin:sorted" => (k_here; (with_reducible show wpAny _ _ (call (Value.builtin "sorted") [Value.ref _]) _ _ _); k_dflt (refine sorted3 (by k_asm) (by k_asm) (by k_mem) ?_; k_whole); intro D' c' t1' t2' t3' h' F' N' l1; (try k_lt l1); (try k_sweep)))
  (k_with "exec For Name Call cons nil" => (k_here; (rename Fr _ _ _ _ => lF'); (with_unfolding_all refine For_invVF lF' (by exact rfl) (by exact rfl) ?_; k_whole)))
  (k_with "PureQ" => (first | k_dflt ((rename News _ _ _ _ => nC9); refine pure_end (by assumption) nC9 (by (intro p9 hp9; repeat' (first | exact hp9 | apply List.Mem.tail))) (by (intro y9 h1 h2; simp only [List.contains_cons, List.contains_nil, Bool.or_false, Bool.or_eq_false_iff, beq_eq_false_iff_ne, ne_eq] at h2; simp [h1, h2]))) | (dsimp only [PureQ])))
  (k_with "subscriptTail Name Name ref int" => (k_here; k_dflt (refine row_item3 (by k_asm) (by repeat (first | exact List.mem_cons_self | apply List.Mem.tail)) (by assumption) (by (intro p9 hp9; repeat' (first | exact hp9 | exact List.mem_append.mpr (Or.inl hp9) | apply List.Mem.tail))) (by omega) (by omega) (by assumption) (by assumption) ?_); intro a9 x9 y9 z9 tx9 ty9 tz9 n9 hr9 hm9; (rename News _ _ _ _ => nC9); replace nC9 := cb_drop nC9 (List.forall_mem_cons.mpr ⟨hm9, fun _ h9 => h9⟩)))
  (k_with "subscriptTail Name BinOp ref int" => (k_here; k_dflt (refine row_item3 (by k_asm) (by repeat (first | exact List.mem_cons_self | apply List.Mem.tail)) (by assumption) (by (intro p9 hp9; repeat' (first | exact hp9 | exact List.mem_append.mpr (Or.inl hp9) | apply List.Mem.tail))) (by omega) (by omega) (by assumption) (by assumption) ?_); intro a9 x9 y9 z9 tx9 ty9 tz9 n9 hr9 hm9; (rename News _ _ _ _ => nC9); replace nC9 := cb_drop nC9 (List.forall_mem_cons.mpr ⟨hm9, fun _ h9 => h9⟩)))
  (k_with "pyIter ref" => (k_here; k_dflt ((with_reducible show wpAny _ _ (pyIter (Value.ref _)) (fun it s₂ => LoopAtV _ _ _ _ _ _ _ _ _ it s₂) _ _); (rename Fr _ _ _ _ => lF'); (rename News _ _ _ _ => lN'); (with_unfolding_all refine pure_loop [Str.ofString "low", Str.ofString "middle", Str.ofString "high", Str.ofString "first", Str.ofString "second", Str.ofString "third"] (by rfl) (by assumption) ⟨by omega, by omega, by omega⟩ lF' lN' ?_ ?_); (rotate_left; (intro u9 h9 tk9 F9 N9; clear lF' lN'; (try dsimp only); (try k_fold)); rotate_left; (intro k9 t9 u9 own9 h9 tk9 hlo9 hhi9 F9 N9; (try simp only [List.cons_append, List.nil_append] at N9); clear lF' lN'; (try k_fold))))))
  have hl100 : rows.length ≤ 100 := by omega
  have hs0 : ∀ p ∈ news, p ∈ (R, listOf vs.toArray n) :: news := fun p hp => List.mem_cons_of_mem _ hp
  have hmR : (R, listOf vs.toArray n) ∈ (R, listOf vs.toArray n) :: news := List.mem_cons_self
  refine wpAny_call ?_
  k_dflt cell_enter
  k_steps
  all_goals (try (exfalso; refine hA _ _ _ _ ?_ (by assumption) (by assumption) (by assumption); omega))
  · exact (closeC hC (by assumption) (by assumption) (by assumption) (by assumption) (by assumption)).elim
  · exact ret _ _ (by assumption) (cb_drop (by assumption) (fun p hp => by repeat' (first | exact hp | apply List.Mem.tail)))
  · exact (closeB hBm (by assumption) (by assumption)).elim
end Mine
namespace Mine
local macro_rules | `(tactic| walk_at $s:str) => `(tactic| k_extra $s)
local macro_rules | `(tactic| k_room) => `(tactic| ktr_room)
local macro_rules | `(tactic| k_units) => `(tactic| ktr_units)
local macro_rules | `(tactic| k_mem) => `(tactic| assumption)
set_option maxRecDepth 100000 in
set_option maxHeartbeats 3000000 in
theorem dies_spec {prog : Program} {w : World} {p : Program} {loose : List Str} {mean : ExcName → Option Value} {mg mb : Str → Option Value}
    (dp un : Nat) (gd : Option (List Code)) (cn : Str) (cs : Scope) (a : Addr) (ccd : Value) (cl : List (Str × Addr)) (outer : List Env) (A₀ : Around) (base h₀ : Heap) (L : Addr) (m : Str → Option Value) (news : List (Addr × Obj)) (s : Shared) (Q E : Value → Shared → Prop)
    (R n : Nat) (vs : List Value) (rows : List (List Int))
    (hR : RowsAre news vs rows) (hlen : 1 ≤ rows.length ∧ rows.length ≤ 25) (h3 : ∀ i, i < rows.length → (rows.getD i []).length = 4)
    (hP : ∀ i, i < rows.length → ∀ x ∈ rows.getD i [], 0 ≤ x ∧ x ≤ 59 ∧ x % 2 ^ (i / 4) = 0) (hlast : rows.getD (rows.length - 1) [] = [0, 0, 0, 0])
    (B : Below A₀ base outer h₀) (F : Fr h₀ L s.heap m) (X : (hd.heap_39 w.params).In h₀) (N : News h₀ L s.heap ((R, listOf vs.toArray n) :: news)) (T9 : Top p loose mean mg mb h₀) (hk : cs.kind = .function)
    (hdp : dp + 10 < recursionLimit) (hun : un + 80 < cLine)
    (ret : ∀ (h' : Heap) (tk' : Nat), Fr h₀ L h' m → News h₀ L h' news → Q (.bool true) { s with heap := h', toks := tk' }) :
    wpAny (model prog w) (ktrTop dp un gd cn cs L a ccd cl outer) (call (.ref 179) [.ref R]) Q E s := by
  w_top off
  have kf9 : PySem.Challenge.rw_xl0002_01 = PySem.Challenge.rw_xl0002_01 ∧ Mine.hd.heap_39 = Mine.hd.heap_39 := (by k_fill; exact ⟨rfl, rfl⟩)
  have kMark : KstMark := kstMark
  k_with_none
  (k_with "call ref" => (k_here; (with_reducible show wpAny _ _ (call (Value.ref 56) _) _ _ _); k_dflt (refine isub_spec _ _ _ _ _ _ _ _ _ _ _ _ _ _ _ _ _ _ _ _ _ _ (by k_asm) (by k_asm) (by k_asm) (by k_asm) (by k_asm) (by first | exact rfl | assumption) (by ktr_room) (by ktr_units) ?_); intro t9 h9 tk9 F9 N9; (try k_sweep)))
  (k_with "call builtin:sorted" => (k_here; (with_reducible show wpAny _ _ (call (Value.builtin "sorted") [Value.ref _]) _ _ _); k_dflt (refine sorted3 (by k_asm) (by k_asm) (by k_mem) ?_; k_whole); intro D' c' t1' t2' t3' h' F' N' l1; (try k_lt l1); (try k_sweep)))
  (k_with "exec For Name Call cons nil" => (k_here; (rename Fr _ _ _ _ => lF'); (with_unfolding_all refine For_invVF lF' (by exact rfl) (by exact rfl) ?_; k_whole)))
  (k_with "exec For Name Subscript cons nil" => (k_here; (rename Fr _ _ _ _ => lF'); (with_unfolding_all refine For_invVF lF' (by exact rfl) (by exact rfl) ?_; k_whole)))
  (k_with "PureQ" => (first | k_dflt ((rename News _ _ _ _ => nC9); refine pure_end (by assumption) nC9 (by (intro p9 hp9; repeat' (first | exact hp9 | apply List.Mem.tail))) (by (intro y9 h1 h2; simp only [List.contains_cons, List.contains_nil, Bool.or_false, Bool.or_eq_false_iff, beq_eq_false_iff_ne, ne_eq] at h2; simp [h1, h2]))) | (dsimp only [PureQ])))
  (k_with "subscriptTail Name Name ref int" => (k_here; k_dflt (refine row_item4 (by k_asm) (by repeat (first | exact List.mem_cons_self | apply List.Mem.tail)) (by assumption) (by (intro p9 hp9; repeat' (first | exact hp9 | exact List.mem_append.mpr (Or.inl hp9) | apply List.Mem.tail))) (by omega) (by omega) (by assumption) (by assumption) ?_); intro a9 x9 y9 z9 v9 tx9 ty9 tz9 tv9 n9 hr9 hm9; (rename News _ _ _ _ => nC9); replace nC9 := cb_drop nC9 (List.forall_mem_cons.mpr ⟨hm9, fun _ h9 => h9⟩)))
  (k_with "subscriptTail Name BinOp ref int" => (k_here; k_dflt (refine row_item4 (by k_asm) (by repeat (first | exact List.mem_cons_self | apply List.Mem.tail)) (by assumption) (by (intro p9 hp9; repeat' (first | exact hp9 | exact List.mem_append.mpr (Or.inl hp9) | apply List.Mem.tail))) (by omega) (by omega) (by assumption) (by assumption) ?_); intro a9 x9 y9 z9 v9 tx9 ty9 tz9 tv9 n9 hr9 hm9; (rename News _ _ _ _ => nC9); replace nC9 := cb_drop nC9 (List.forall_mem_cons.mpr ⟨hm9, fun _ h9 => h9⟩)))
  (k_with "pyIter ref" => (k_here; k_dflt ((with_reducible show wpAny _ _ (pyIter (Value.ref _)) (fun it s₂ => LoopAtV _ _ _ _ _ _ _ _ _ it s₂) _ _); (rename Fr _ _ _ _ => lF'); (rename News _ _ _ _ => lN'); (with_unfolding_all refine pure_loop [Str.ofString "hand"] (by rfl) (by assumption) ⟨by omega, by omega, by omega⟩ lF' lN' ?_ ?_); (rotate_left; (intro u9 h9 tk9 F9 N9; clear lF' lN'; (try dsimp only); (try k_fold)); rotate_left; (intro k9 t9 u9 own9 h9 tk9 hlo9 hhi9 F9 N9; (try simp only [List.cons_append, List.nil_append] at N9); clear lF' lN'; (try k_fold))))))
  (k_with "pyIter ref" => (k_here; k_dflt ((with_reducible show wpAny _ _ (pyIter (Value.ref _)) (fun it s₂ => LoopAtV _ _ _ _ _ _ _ _ _ it s₂) _ _); (rename Fr _ _ _ _ => lF'); (rename News _ _ _ _ => lN'); (with_unfolding_all refine pure_list [] (by rfl) List.mem_cons_self ints4' lF' lN' ?_ ?_); (rotate_left; (intro u9 h9 tk9 F9 N9; clear lF' lN'; (try dsimp only); (try k_fold)); rotate_left; (intro k9 t9 u9 own9 h9 tk9 hin9 F9 N9; (try simp only [List.cons_append, List.nil_append] at N9); clear lF' lN'; (try k_fold))))))
  (k_with "call builtin:len" => (k_here; (with_reducible show wpAny _ _ (call (Value.builtin "len") [Value.ref _]) _ _ _); k_dflt (refine kst_len (by k_asm) (by exact List.mem_cons_self) (by exact And.left (by assumption : RowsAre _ _ _)) (by omega) ?_; k_whole)))
  (k_with "subscriptTail Name UnaryOp ref int" => (k_here; k_dflt (refine row_last4 (by k_asm) (by repeat (first | exact List.mem_cons_self | apply List.Mem.tail)) (by assumption) (by (intro p9 hp9; repeat' (first | exact hp9 | apply List.Mem.tail))) (by omega) (by assumption) (by assumption) ?_); intro a9 tx9 ty9 tz9 tv9 n9 hm9; (rename News _ _ _ _ => nC9); replace nC9 := cb_drop nC9 (List.forall_mem_cons.mpr ⟨hm9, fun _ h9 => h9⟩)))
  (k_with "inplaceOp LShift int int" => (k_here; k_dflt (refine ilshift_int_small (by exact (fdiv4 (by omega) (by omega)).1) (by exact Int.le_trans (fdiv4 (by omega) (by omega)).2 (by decide)) (by decide) ?_)))
  have hl100 : rows.length ≤ 100 := by omega
  refine wpAny_call ?_
  k_dflt cell_enter
  k_steps
  · exact (‹Builtin.bitAnd _ _ ≠ 0› (closeM hP (by assumption) (by assumption) (by assumption) (by assumption) hlen.2)).elim
  · exact ret _ _ (by assumption) (cb_drop (by assumption) (fun p hp => by repeat' (first | exact hp | apply List.Mem.tail)))
end Mine
namespace Mine
theorem dists3 (x y z : Int) : dists [x, y, z] = [absd x y, absd y z, absd z x] := by
  simp [dists, List.range_succ]
theorem it_succ' (xs : List Int) : ∀ n, it (n + 1) xs = it n (dists xs)
  | 0 => rfl
  | n + 1 => by rw [it, it_succ' xs n, it]
theorem absd_cases (x y : Int) : (x ≤ y ∧ absd x y = y - x) ∨ (y ≤ x ∧ absd x y = x - y) := by
  unfold absd; split <;> omega
theorem lmh_perm {a b c x y z : Int} (h1 : a ≤ b) (h2 : b ≤ c) (p : [a, b, c].Perm [x, y, z]) : lo x y z = a ∧ mid x y z = b ∧ hi x y z = c := by
  have e := sort3 p (by
    refine List.Pairwise.cons ?_ (List.Pairwise.cons ?_ (List.Pairwise.cons (fun _ h => by cases h) List.Pairwise.nil))
    · intro v hv
      rcases List.mem_cons.mp hv with h | hv
      · rw [h]; exact h1
      · rw [List.mem_singleton.mp hv]; exact Int.le_trans h1 h2
    · intro v hv
      rw [List.mem_singleton.mp hv]; exact h2)
  simp only [List.cons.injEq, and_true] at e
  exact ⟨e.1.symm, e.2.1.symm, e.2.2.symm⟩
theorem perms (a b c : Int) : [a, b, c].Perm [a, b, c] ∧ [a, b, c].Perm [a, c, b] ∧ [a, b, c].Perm [b, a, c] ∧ [a, b, c].Perm [b, c, a] ∧ [a, b, c].Perm [c, a, b] ∧ [a, b, c].Perm [c, b, a] :=
  have p2 : [a, b, c].Perm [a, c, b] := .cons a (.swap c b [])
  have p3 : [a, b, c].Perm [b, a, c] := .swap b a [c]
  have p4 : [a, b, c].Perm [b, c, a] := p3.trans (.cons b (.swap c a []))
  ⟨.refl _, p2, p3, p4, p2.trans (.swap c a [b]), p4.trans (.swap c b [a])⟩
theorem lo_of {a b c : Int} (h1 : a ≤ b) (h2 : b ≤ c) : (lo a b c = a ∧ mid a b c = b ∧ hi a b c = c) ∧ (lo a c b = a ∧ mid a c b = b ∧ hi a c b = c) ∧ (lo b a c = a ∧ mid b a c = b ∧ hi b a c = c) ∧ (lo b c a = a ∧ mid b c a = b ∧ hi b c a = c) ∧ (lo c a b = a ∧ mid c a b = b ∧ hi c a b = c) ∧ (lo c b a = a ∧ mid c b a = b ∧ hi c b a = c) :=
  have p := perms a b c
  ⟨lmh_perm h1 h2 p.1, lmh_perm h1 h2 p.2.1, lmh_perm h1 h2 p.2.2.1, lmh_perm h1 h2 p.2.2.2.1, lmh_perm h1 h2 p.2.2.2.2.1, lmh_perm h1 h2 p.2.2.2.2.2⟩
theorem absd_le {x y : Int} (h : x ≤ y) : absd x y = y - x ∧ absd y x = y - x := by
  unfold absd; constructor <;> split <;> omega
/-- three numbers that are p, q and p + q in some order -/
theorem sum_of {p q : Int} (hp : 0 ≤ p) (hq : 0 ≤ q) {u v w : Int} (h : (u = p ∧ v = q ∧ w = p + q) ∨ (u = p ∧ v = p + q ∧ w = q) ∨ (u = q ∧ v = p ∧ w = p + q) ∨ (u = q ∧ v = p + q ∧ w = p) ∨ (u = p + q ∧ v = p ∧ w = q) ∨ (u = p + q ∧ v = q ∧ w = p)) :
    lo u v w = min p q ∧ mid u v w = max p q ∧ hi u v w = p + q := by
  rcases Int.le_total p q with hpq | hpq
  · have k := lo_of hpq (show q ≤ p + q by omega)
    rw [Int.min_eq_left hpq, Int.max_eq_right hpq]
    rcases h with ⟨rfl, rfl, rfl⟩ | ⟨rfl, rfl, rfl⟩ | ⟨rfl, rfl, rfl⟩ | ⟨rfl, rfl, rfl⟩ | ⟨rfl, rfl, rfl⟩ | ⟨rfl, rfl, rfl⟩
    · exact k.1
    · exact k.2.1
    · exact k.2.2.1
    · exact k.2.2.2.1
    · exact k.2.2.2.2.1
    · exact k.2.2.2.2.2
  · have k := lo_of hpq (show p ≤ p + q by omega)
    rw [Int.min_eq_right hpq, Int.max_eq_left hpq]
    rcases h with ⟨rfl, rfl, rfl⟩ | ⟨rfl, rfl, rfl⟩ | ⟨rfl, rfl, rfl⟩ | ⟨rfl, rfl, rfl⟩ | ⟨rfl, rfl, rfl⟩ | ⟨rfl, rfl, rfl⟩
    · exact k.2.2.1
    · exact k.2.2.2.1
    · exact k.1
    · exact k.2.1
    · exact k.2.2.2.2.2
    · exact k.2.2.2.2.1
theorem step_lmh (x y z : Int) :
    lo (absd x y) (absd y z) (absd z x) = min (mid x y z - lo x y z) (hi x y z - mid x y z) ∧ mid (absd x y) (absd y z) (absd z x) = max (mid x y z - lo x y z) (hi x y z - mid x y z) ∧
    hi (absd x y) (absd y z) (absd z x) = hi x y z - lo x y z := by
  have fin : ∀ {a b c : Int}, a ≤ b → b ≤ c → lo x y z = a ∧ mid x y z = b ∧ hi x y z = c →
      (((absd x y = b - a ∧ absd y z = c - b ∧ absd z x = c - a) ∨ (absd x y = b - a ∧ absd y z = c - a ∧ absd z x = c - b) ∨ (absd x y = c - b ∧ absd y z = b - a ∧ absd z x = c - a) ∨ (absd x y = c - b ∧ absd y z = c - a ∧ absd z x = b - a) ∨ (absd x y = c - a ∧ absd y z = b - a ∧ absd z x = c - b) ∨ (absd x y = c - a ∧ absd y z = c - b ∧ absd z x = b - a))) →
      lo (absd x y) (absd y z) (absd z x) = min (mid x y z - lo x y z) (hi x y z - mid x y z) ∧ mid (absd x y) (absd y z) (absd z x) = max (mid x y z - lo x y z) (hi x y z - mid x y z) ∧ hi (absd x y) (absd y z) (absd z x) = hi x y z - lo x y z := by
    rintro a b c hab hbc ⟨e1, e2, e3⟩ h
    have e : c - a = (b - a) + (c - b) := by omega
    rw [e1, e2, e3]
    rw [e] at h ⊢
    exact sum_of (by omega) (by omega) h
  rcases Int.le_total x y with h1 | h1 <;> rcases Int.le_total y z with h2 | h2 <;> rcases Int.le_total x z with h3 | h3
  · exact fin h1 h2 (lo_of h1 h2).1 (.inl ⟨(absd_le h1).1, (absd_le h2).1, (absd_le h3).2⟩)
  · have e1 : x = y := by omega
    have e2 : y = z := by omega
    subst e1; subst e2
    exact fin h1 h2 (lo_of h1 h2).1 (.inl ⟨(absd_le h1).1, (absd_le h2).1, (absd_le h1).2⟩)
  · exact fin h3 h2 (lo_of h3 h2).2.1 (.inr (.inr (.inr (.inr (.inr ⟨(absd_le h1).1, (absd_le h2).2, (absd_le h3).2⟩)))))
  · exact fin h3 h1 (lo_of h3 h1).2.2.2.1 (.inr (.inr (.inr (.inl ⟨(absd_le h1).1, (absd_le h2).2, (absd_le h3).1⟩))))
  · exact fin h1 h3 (lo_of h1 h3).2.2.1 (.inr (.inl ⟨(absd_le h1).2, (absd_le h2).1, (absd_le h3).2⟩))
  · exact fin h2 h3 (lo_of h2 h3).2.2.2.2.1 (.inr (.inr (.inr (.inr (.inl ⟨(absd_le h1).2, (absd_le h2).1, (absd_le h3).1⟩)))))
  · have e1 : x = z := by omega
    have e2 : y = z := by omega
    subst e1; subst e2
    exact fin h3 h3 (lo_of h3 h3).1 (.inl ⟨(absd_le h1).2, (absd_le h2).2, (absd_le h3).1⟩)
  · exact fin h2 h1 (lo_of h2 h1).2.2.2.2.2 (.inr (.inr (.inl ⟨(absd_le h1).2, (absd_le h2).2, (absd_le h3).1⟩)))
/-- two hands make the third -/
def SF (x y z : Int) (p q : Nat) : Prop := lo x y z = (q : Int) ∧ mid x y z = (p : Int) ∧ hi x y z = (p : Int) + (q : Int) ∧ q ≤ p
theorem sf_two {x y z : Int} {p q : Nat} (s1 : lo x y z = min (p : Int) (q : Int)) (s2 : mid x y z = max (p : Int) (q : Int)) (s3 : hi x y z = (p : Int) + (q : Int)) : SF x y z (max p q) (min p q) := by
  have key : ∀ {a b : Nat}, a ≤ b → ((a : Int) ≤ b) := fun h => Int.ofNat_le.mpr h
  rcases Nat.le_total p q with h | h
  · rw [Int.min_eq_left (key h)] at s1
    rw [Int.max_eq_right (key h)] at s2
    rw [Nat.max_eq_right h, Nat.min_eq_left h]
    exact ⟨s1, s2, s3.trans (Int.add_comm _ _), h⟩
  · rw [Int.min_eq_right (key h)] at s1
    rw [Int.max_eq_left (key h)] at s2
    rw [Nat.max_eq_left h, Nat.min_eq_right h]
    exact ⟨s1, s2, s3, h⟩
theorem sf_step {x y z : Int} {p q : Nat} (h : SF x y z p q) : SF (absd x y) (absd y z) (absd z x) (max (p - q) q) (min (p - q) q) := by
  obtain ⟨h1, h2, h3, h4⟩ := h
  obtain ⟨s1, s2, s3⟩ := step_lmh x y z
  have e1 : (p : Int) - (q : Int) = ((p - q : Nat) : Int) := (Int.ofNat_sub h4).symm
  have e2 : (p : Int) + (q : Int) - (p : Int) = (q : Int) := by omega
  rw [h1, h2, h3, e1, e2] at s1 s2
  rw [h1, h3] at s3
  exact sf_two s1 s2 (s3.trans (by rw [← e1]; omega))
theorem eu_sub {p q : Nat} (hq : 0 < q) (hp : q ≤ p) : (eu p q).1 = (eu (max (p - q) q) (min (p - q) q)).1 + 1 ∧ (eu p q).2 = (eu (max (p - q) q) (min (p - q) q)).2 := by
  by_cases h : q ≤ p - q
  · have e1 : max (p - q) q = p - q := by omega
    have e2 : min (p - q) q = q := by omega
    rw [e1, e2, eu_pos hq, eu_pos (a := p - q) hq]
    have hd : p / q = (p - q) / q + 1 := by
      have := Nat.sub_mul_div_of_le p q 1 (by omega)
      rw [Nat.mul_one] at this
      have hpos : 1 ≤ p / q := (Nat.le_div_iff_mul_le hq).mpr (by omega)
      omega
    have hm : (p - q) % q = p % q := by
      have := Nat.add_mod_right (p - q) q
      rw [Nat.sub_add_cancel hp] at this
      exact this.symm
    rw [hm, hd]
    refine ⟨?_, rfl⟩
    show (p - q) / q + 1 + _ = (p - q) / q + _ + 1
    omega
  · have e1 : max (p - q) q = q := by omega
    have e2 : min (p - q) q = p - q := by omega
    rw [e1, e2, eu_pos hq]
    have hd : p / q = 1 := Nat.div_eq_of_lt_le (by omega) (by omega)
    have hm : p % q = p - q := by
      have := Nat.mod_eq_sub_mod hp
      rw [this, Nat.mod_eq_of_lt (by omega)]
    rw [hd, hm]
    exact ⟨Nat.add_comm _ _, rfl⟩
def Fin3 (xs : List Int) (M : Int) : Prop := ∃ x y z, xs = [x, y, z] ∧ lo x y z = 0 ∧ mid x y z = M ∧ hi x y z = M
theorem sf_run : ∀ (n p q : Nat) (x y z : Int), (eu p q).1 = n → SF x y z p q → (∀ i, i < n → ∀ M, ¬ Fin3 (it i [x, y, z]) M) ∧ Fin3 (it n [x, y, z]) ((eu p q).2 : Int)
  | 0, p, q, x, y, z, hn, h => by
    have hq : q = 0 := by
      by_cases hq : q = 0
      · exact hq
      · have := eu_sub (Nat.pos_of_ne_zero hq) h.2.2.2
        omega
    subst hq
    refine ⟨fun i hi => absurd hi (Nat.not_lt_zero _), x, y, z, rfl, h.1, ?_, ?_⟩
    · rw [eu_zero]; exact h.2.1
    · rw [eu_zero]; exact h.2.2.1.trans (by simp)
  | n + 1, p, q, x, y, z, hn, h => by
    have hq : 0 < q := by
      by_cases hq : q = 0
      · subst hq
        rw [eu_zero] at hn
        exact absurd hn (by simp)
      · exact Nat.pos_of_ne_zero hq
    obtain ⟨s1, s2⟩ := eu_sub hq h.2.2.2
    obtain ⟨r1, r2⟩ := sf_run n _ _ _ _ _ (by omega) (sf_step h)
    refine ⟨fun i hi M => ?_, ?_⟩
    · cases i with
      | zero =>
        rintro ⟨x', y', z', e, e1, _, _⟩
        simp only [it, List.cons.injEq, and_true] at e
        obtain ⟨rfl, rfl, rfl⟩ := e
        rw [h.1] at e1
        omega
      | succ i =>
        rw [it_succ', dists3]
        exact r1 i (by omega) M
    · rw [it_succ', dists3, s2]
      exact r2
theorem eu_swap (a b : Nat) : eu a b = eu (max a b) (min a b) := by
  by_cases h : b ≤ a
  · rw [Nat.max_eq_left h, Nat.min_eq_right h]
  · rw [Nat.max_eq_right (by omega), Nat.min_eq_left (by omega), eu_pos (a := a) (b := b) (by omega), Nat.div_eq_of_lt (by omega), Nat.mod_eq_of_lt (by omega), Nat.zero_add]
theorem end_run {x y z : Int} (h0 : 0 ≤ lo x y z) : ∃ T M : Nat, endOf x y z = ((T : Int), (M : Int)) ∧ (∀ i, i < T → ∀ M', ¬ Fin3 (it i [x, y, z]) M') ∧ Fin3 (it T [x, y, z]) (M : Int) := by
  obtain ⟨l1, l2, _⟩ := lmh (x := x) (y := y) (z := z)
  unfold endOf
  by_cases hs : lo x y z + mid x y z = hi x y z
  · rw [if_pos hs]
    have hSF : SF x y z (mid x y z).toNat (lo x y z).toNat := ⟨by omega, by omega, by omega, by omega⟩
    obtain ⟨r1, r2⟩ := sf_run _ _ _ _ _ _ rfl hSF
    exact ⟨_, _, rfl, r1, r2⟩
  · rw [if_neg hs]
    obtain ⟨s1, s2, s3⟩ := step_lmh x y z
    have e3 : hi x y z - lo x y z = (mid x y z - lo x y z) + (hi x y z - mid x y z) := by omega
    rw [e3] at s3
    have hSF : SF (absd x y) (absd y z) (absd z x) (max (mid x y z - lo x y z).toNat (hi x y z - mid x y z).toNat) (min (mid x y z - lo x y z).toNat (hi x y z - mid x y z).toNat) := by
      refine sf_two ?_ ?_ ?_
      · rw [Int.toNat_of_nonneg (Int.sub_nonneg_of_le l1), Int.toNat_of_nonneg (Int.sub_nonneg_of_le l2)]; exact s1
      · rw [Int.toNat_of_nonneg (Int.sub_nonneg_of_le l1), Int.toNat_of_nonneg (Int.sub_nonneg_of_le l2)]; exact s2
      · rw [Int.toNat_of_nonneg (Int.sub_nonneg_of_le l1), Int.toNat_of_nonneg (Int.sub_nonneg_of_le l2)]; exact s3
    obtain ⟨r1, r2⟩ := sf_run _ _ _ _ _ _ rfl hSF
    rw [← eu_swap] at r1 r2
    refine ⟨(eu (mid x y z - lo x y z).toNat (hi x y z - mid x y z).toNat).1 + 1, (eu (mid x y z - lo x y z).toNat (hi x y z - mid x y z).toNat).2, by simp, fun i hi M' => ?_, ?_⟩
    · cases i with
      | zero =>
        rintro ⟨x', y', z', e, e1, e2, e3⟩
        simp only [it, List.cons.injEq, and_true] at e
        obtain ⟨rfl, rfl, rfl⟩ := e
        omega
      | succ i =>
        rw [it_succ', dists3]
        exact r1 i (by omega) M'
    · rw [it_succ', dists3]
      exact r2
theorem fin_vals {x y z M : Int} (h1 : lo x y z = 0) (h2 : mid x y z = M) (h3 : hi x y z = M) : 0 ≤ M ∧ ((x = 0 ∧ y = M ∧ z = M) ∨ (x = M ∧ y = 0 ∧ z = M) ∨ (x = M ∧ y = M ∧ z = 0)) := by
  have key : ∀ {a b c : Int}, a ≤ b → b ≤ c → [a, b, c].Perm [x, y, z] → a = 0 ∧ b = M ∧ c = M := fun hab hbc p => by
    obtain ⟨e1, e2, e3⟩ := lmh_perm hab hbc p
    exact ⟨e1.symm.trans h1, e2.symm.trans h2, e3.symm.trans h3⟩
  refine ⟨h1 ▸ h2 ▸ (lmh (x := x) (y := y) (z := z)).1, ?_⟩
  rcases Int.le_total x y with g1 | g1 <;> rcases Int.le_total y z with g2 | g2 <;> rcases Int.le_total x z with g3 | g3
  · exact .inl (key g1 g2 (perms x y z).1)
  · exact .inl (key g1 g2 (perms x y z).1)
  · have k := key g3 g2 (perms x z y).2.1
    exact .inl ⟨k.1, k.2.2, k.2.1⟩
  · have k := key g3 g1 (perms z x y).2.2.2.1
    exact .inr (.inr ⟨k.2.1, k.2.2, k.1⟩)
  · have k := key g1 g3 (perms y x z).2.2.1
    exact .inr (.inl ⟨k.2.1, k.1, k.2.2⟩)
  · have k := key g2 g3 (perms y z x).2.2.2.2.1
    exact .inr (.inl ⟨k.2.2, k.1, k.2.1⟩)
  · have k := key g2 g1 (perms z y x).2.2.2.2.2
    exact .inr (.inr ⟨k.2.2, k.2.1, k.1⟩)
  · have k := key g2 g1 (perms z y x).2.2.2.2.2
    exact .inr (.inr ⟨k.2.2, k.2.1, k.1⟩)
theorem fin_step {x y z M : Int} (h1 : lo x y z = 0) (h2 : mid x y z = M) (h3 : hi x y z = M) : absd x y = z ∧ absd y z = x ∧ absd z x = y := by
  obtain ⟨hM, hv⟩ := fin_vals h1 h2 h3
  have a1 : absd 0 M = M := (absd_le hM).1.trans (Int.sub_zero M)
  have a2 : absd M 0 = M := (absd_le hM).2.trans (Int.sub_zero M)
  have a3 : absd M M = 0 := (absd_le (Int.le_refl M)).1.trans (Int.sub_self M)
  rcases hv with ⟨e1, e2, e3⟩ | ⟨e1, e2, e3⟩ | ⟨e1, e2, e3⟩ <;> rw [e1, e2, e3]
  · exact ⟨a1, a3, a2⟩
  · exact ⟨a2, a1, a3⟩
  · exact ⟨a3, a2, a1⟩
theorem lmh_rot (x y z : Int) : lo z x y = lo x y z ∧ mid z x y = mid x y z ∧ hi z x y = hi x y z := by
  have e1 : lo z x y = lo x y z := by
    show min z (min x y) = min x (min y z)
    rw [Int.min_comm z (min x y), Int.min_assoc]
  have e3 : hi z x y = hi x y z := by
    show max z (max x y) = max x (max y z)
    rw [Int.max_comm z (max x y), Int.max_assoc]
  refine ⟨e1, ?_, e3⟩
  show z + x + y - lo z x y - hi z x y = x + y + z - lo x y z - hi x y z
  rw [e1, e3]
  omega
theorem fin_next {xs : List Int} {M : Int} (h : Fin3 xs M) : Fin3 (dists xs) M := by
  obtain ⟨x, y, z, rfl, h1, h2, h3⟩ := h
  obtain ⟨e1, e2, e3⟩ := fin_step h1 h2 h3
  obtain ⟨r1, r2, r3⟩ := lmh_rot x y z
  exact ⟨z, x, y, by rw [dists3, e1, e2, e3], by rw [r1, h1], by rw [r2, h2], by rw [r3, h3]⟩
theorem fin_after {xs : List Int} {M : Int} {T : Nat} (h : Fin3 (it T xs) M) : ∀ k, Fin3 (it (T + k) xs) M
  | 0 => h
  | k + 1 => fin_next (fin_after h k)
/-- the bound on the turns -/
theorem eu_le (p q : Nat) : (eu p q).1 ≤ p + q := by
  induction q using Nat.strongRecOn generalizing p with
  | _ q ih =>
    by_cases hq : q = 0
    · subst hq; rw [eu_zero]; omega
    · have hp : 0 < q := Nat.pos_of_ne_zero hq
      rw [eu_pos hp]
      have hlt : p % q < q := Nat.mod_lt _ hp
      have i1 := ih (p % q) hlt q
      have hdm := Nat.div_add_mod p q
      have hle : p / q ≤ q * (p / q) := Nat.le_mul_of_pos_left _ hp
      show p / q + (eu q (p % q)).1 ≤ p + q
      omega
theorem end_le {x y z : Int} (h0 : 0 ≤ lo x y z) (h1 : hi x y z ≤ 59) : (endOf x y z).1 ≤ 60 := by
  obtain ⟨l1, l2, _⟩ := lmh (x := x) (y := y) (z := z)
  unfold endOf
  by_cases hs : lo x y z + mid x y z = hi x y z
  · rw [if_pos hs]
    have := eu_le (mid x y z).toNat (lo x y z).toNat
    show (((eu (mid x y z).toNat (lo x y z).toNat).1 : Nat) : Int) ≤ 60
    omega
  · rw [if_neg hs]
    have := eu_le (mid x y z - lo x y z).toNat (hi x y z - mid x y z).toNat
    show (((eu (mid x y z - lo x y z).toNat (hi x y z - mid x y z).toNat).1 : Nat) : Int) + 1 ≤ 60
    omega
end Mine
namespace Mine
theorem dists4 (a b c d : Int) : dists [a, b, c, d] = [absd a b, absd b c, absd c d, absd d a] := by
  simp [dists, List.range_succ]
theorem it_add (xs : List Int) (m : Nat) : ∀ n, it (m + n) xs = it n (it m xs)
  | 0 => rfl
  | n + 1 => by
    show dists (it (m + n) xs) = dists (it n (it m xs))
    rw [it_add xs m n]
theorem absd_dvd {k x y : Int} (hx : k ∣ x) (hy : k ∣ y) : k ∣ absd x y := by
  unfold absd
  split
  · exact Int.dvd_sub hy hx
  · exact Int.dvd_sub hx hy
theorem getD_dvd {k : Int} {xs : List Int} (h : ∀ x ∈ xs, k ∣ x) (i : Nat) : k ∣ xs.getD i 0 := by
  by_cases hi : i < xs.length
  · have e : xs.getD i 0 = xs[i] := by simp [hi]
    rw [e]
    exact h _ (List.getElem_mem hi)
  · have e : xs.getD i 0 = 0 := by simp [Nat.le_of_not_lt hi]
    rw [e]; exact Int.dvd_zero k
theorem dists_dvd {k : Int} {xs : List Int} (h : ∀ x ∈ xs, k ∣ x) : ∀ x ∈ dists xs, k ∣ x := by
  intro x hx
  simp only [dists, List.mem_map] at hx
  obtain ⟨i, _, rfl⟩ := hx
  exact absd_dvd (getD_dvd h _) (getD_dvd h _)
theorem it_dvd {k : Int} {xs : List Int} (h : ∀ x ∈ xs, k ∣ x) : ∀ n, ∀ x ∈ it n xs, k ∣ x
  | 0 => h
  | n + 1 => dists_dvd (it_dvd h n)
theorem absd_mul (k a b : Int) (hk : 0 ≤ k) : absd (k * a) (k * b) = k * absd a b := by
  rcases Int.le_total a b with h | h
  · rw [(absd_le h).1, (absd_le (Int.mul_le_mul_of_nonneg_left h hk)).1, Int.mul_sub]
  · rw [(absd_le h).2, (absd_le (Int.mul_le_mul_of_nonneg_left h hk)).2, Int.mul_sub]
theorem absd_par (x y : Int) : absd x y % 2 = (x + y) % 2 := by
  rcases absd_cases x y with ⟨_, e⟩ | ⟨_, e⟩ <;> rw [e] <;> omega
theorem two_par (x y z : Int) : absd (absd x y) (absd y z) % 2 = (x + z) % 2 := by
  have h1 := absd_par (absd x y) (absd y z)
  have h2 := absd_par x y
  have h3 := absd_par y z
  omega
theorem four_par (a b c d : Int) : absd (absd (absd (absd a b) (absd b c)) (absd (absd b c) (absd c d))) (absd (absd (absd b c) (absd c d)) (absd (absd c d) (absd d a))) % 2 = 0 := by
  have h1 := two_par (absd (absd a b) (absd b c)) (absd (absd b c) (absd c d)) (absd (absd c d) (absd d a))
  have h2 := two_par a b c
  have h3 := two_par c d a
  omega
theorem four_even (a b c d : Int) : ∀ x ∈ it 4 [a, b, c, d], x % 2 = 0 := by
  have e : it 4 [a, b, c, d] = dists (dists (dists (dists [a, b, c, d]))) := rfl
  rw [e, dists4, dists4, dists4, dists4]
  intro x hx
  simp only [List.mem_cons, List.not_mem_nil, or_false] at hx
  rcases hx with h | h | h | h
  · rw [h]; exact four_par a b c d
  · rw [h]; exact four_par b c d a
  · rw [h]; exact four_par c d a b
  · rw [h]; exact four_par d a b c
theorem dists_mul {k : Int} (hk : 0 ≤ k) (a b c d : Int) : dists [k * a, k * b, k * c, k * d] = (dists [a, b, c, d]).map (k * ·) := by
  rw [dists4, dists4, absd_mul k _ _ hk, absd_mul k _ _ hk, absd_mul k _ _ hk, absd_mul k _ _ hk]; rfl
theorem it_mul {k : Int} (hk : 0 ≤ k) : ∀ (n : Nat) (a b c d : Int), it n [k * a, k * b, k * c, k * d] = (it n [a, b, c, d]).map (k * ·)
  | 0, _, _, _, _ => rfl
  | n + 1, a, b, c, d => by
    rw [it_succ', it_succ', dists_mul hk, dists4]
    exact it_mul hk n _ _ _ _
theorem four_block {k : Int} (hk : 0 ≤ k) {xs : List Int} (hl : xs.length = 4) (h : ∀ x ∈ xs, k ∣ x) : ∀ x ∈ it 4 xs, 2 * k ∣ x := by
  match xs, hl, h with
  | [a, b, c, d], _, h =>
    obtain ⟨a', rfl⟩ := h a (by simp)
    obtain ⟨b', rfl⟩ := h b (by simp)
    obtain ⟨c', rfl⟩ := h c (by simp)
    obtain ⟨d', rfl⟩ := h d (by simp)
    rw [it_mul hk]
    intro x hx
    obtain ⟨y, hy, rfl⟩ := List.mem_map.mp hx
    have e := four_even a' b' c' d' y hy
    obtain ⟨z, hz⟩ := Int.dvd_of_emod_eq_zero e
    exact ⟨z, by show k * y = 2 * k * z; rw [hz, Int.mul_assoc, Int.mul_left_comm]⟩
theorem blocks {xs : List Int} (hl : xs.length = 4) : ∀ n : Nat, ∀ x ∈ it (4 * n) xs, (2 : Int) ^ n ∣ x
  | 0 => fun x _ => ⟨x, by simp⟩
  | n + 1 => by
    have e : 4 * (n + 1) = 4 * n + 4 := by omega
    rw [e, it_add]
    have b := four_block (k := 2 ^ n) (Int.pow_nonneg (by decide)) (by rw [it_len, hl]) (blocks hl n)
    intro x hx
    have := b x hx
    rw [Int.pow_succ, Int.mul_comm]
    exact this
theorem dies_dvd {xs : List Int} (hl : xs.length = 4) (i : Nat) : ∀ x ∈ it i xs, x % 2 ^ (i / 4) = 0 := by
  intro x hx
  have e : i = 4 * (i / 4) + i % 4 := by omega
  rw [e, it_add] at hx
  exact Int.emod_eq_zero_of_dvd (it_dvd (blocks hl (i / 4)) _ x hx)
theorem dies_end {a b c d : Int} (hB : InB [a, b, c, d]) : it 24 [a, b, c, d] = [0, 0, 0, 0] := by
  have hl := it_len [a, b, c, d] 24
  have hd := dies_dvd (xs := [a, b, c, d]) rfl 24
  have hb := it_in hB 24
  match hx : it 24 [a, b, c, d], hl with
  | [x, y, z, u], _ =>
    rw [hx] at hd hb
    have key : ∀ v ∈ [x, y, z, u], v = 0 := by
      intro v hv
      have h1 : v % 64 = 0 := hd v hv
      have h2 := hb v hv
      omega
    rw [key x (by simp), key y (by simp), key z (by simp), key u (by simp)]
end Mine
namespace Mine
section
variable {prog : Program} {w : World} {A : Around} {E : Value → Shared → Prop} {s : Shared} {h₀ : Heap} {L l : Addr} {m : Str → Option Value} {news : List (Addr × Obj)} {value slice : PySem.Expr} {vs : List Value} {ns : List Int} {vl vu vk : Value} {lo hi st : Option Int} {ops : List Value} {Q : Value → Shared → Prop}
theorem picks {vs : List Value} {ns : List Int} (hi : IntsAre vs ns) : ∀ (r : List Nat), ∃ ms, IntsAre (r.filterMap (vs.toArray[·]?)) ms
  | [] => ⟨[], .nil⟩
  | i :: r => by
    obtain ⟨ms, h⟩ := picks hi r
    cases e : vs.toArray[i]? with
    | none => exact ⟨ms, by rw [List.filterMap_cons_none e]; exact h⟩
    | some v =>
      obtain ⟨k, t, rfl, hk⟩ := IntsAre.at hi i v (by simpa using e)
      exact ⟨k :: ms, by rw [List.filterMap_cons_some e]; exact .cons _ _ h⟩
theorem step_slice (F : Fr h₀ L s.heap m) (N : News h₀ L s.heap news) (hl : s.heap.IsList l vs.toArray) (pl : IsPart vl lo) (pu : IsPart vu hi) (pk : IsPart vk st) (h0 : st ≠ some 0) (hi' : IntsAre vs ns)
    (h : ∀ D ws ms h', Fr h₀ L h' m → News h₀ L h' ((D, listOf (List.toArray ws) 0) :: news) → (∀ p ∈ news, p.1 < D) → IntsAre ws ms → Q (.ref D) { s with heap := h' })
    (hs : subscripted slice false (.ref l) (.ref s.heap.objs.size) = operate ops (getItem (.ref l) (.ref s.heap.objs.size))) (ht : ∀ r, letTemporaryGo value (.ref l) r = pure ()) (hz : vs.toArray.size ≤ sizeLine) :
    wpAny (model prog w) A (subscriptTail value slice (.ref l) (.ref s.heap.objs.size)) Q E { s with heap := s.heap.push { cls := .type "slice", data := .fields #[vl, vu, vk] } } := by
  obtain ⟨ms, hm⟩ := picks hi' (sliceRange (sliceBounds lo hi st vs.toArray.size).1 (sliceBounds lo hi st vs.toArray.size).2.1 (sliceBounds lo hi st vs.toArray.size).2.2)
  exact kmk_slice3_lit (zs := _) F N hl pl pu pk h0 rfl (fun D h' F' N' l1 => h D _ ms h' F' N' l1 hm) hs ht hz
end
end Mine
namespace Mine
def EndAt (T M : Nat) (xs : List Int) : Prop := (∀ i, i < T → ∀ M', ¬ Fin3 (it i xs) M') ∧ Fin3 (it T xs) (M : Int)
theorem end_at {x y z : Int} (hx : 0 ≤ x ∧ x ≤ 59) (hy : 0 ≤ y ∧ y ≤ 59) (hz : 0 ≤ z ∧ z ≤ 59) : ∃ T M : Nat, (endOf x y z).1 = (T : Int) ∧ (endOf x y z).2 = (M : Int) ∧ T ≤ 60 ∧ EndAt T M [x, y, z] := by
  obtain ⟨h0, h1⟩ := lmh_in hx hy hz
  obtain ⟨T, M, e, r1, r2⟩ := end_run h0
  have hle := end_le h0 h1
  rw [e] at hle
  refine ⟨T, M, by rw [e], by rw [e], ?_, r1, r2⟩
  have : (T : Int) ≤ 60 := hle
  omega
theorem rows_getD {n i : Nat} {xs l : List Int} (hi : i < n) (h : (rowsOf n xs).getD i [] = l) : it i xs = l := by rw [← h, rowsOf_get xs hi]
theorem rows_at {n : Nat} {xs : List Int} {i : Nat} (hi : i < (rowsOf n xs).length) : (rowsOf n xs).getD i [] = it i xs := rowsOf_get xs (by rw [rowsOf_len] at hi; exact hi)
section
variable {prog : Program} {w : World} {p : Program} {loose : List Str} {mean : ExcName → Option Value} {mg mb : Str → Option Value}
theorem end_spec' (dp un : Nat) (gd : Option (List Code)) (cn : Str) (cs : Scope) (a : Addr) (ccd : Value) (cl : List (Str × Addr)) (outer : List Env) (A₀ : Around) (base h₀ : Heap) (L : Addr) (m : Str → Option Value) (news : List (Addr × Obj)) (s : Shared) (Q E : Value → Shared → Prop) (l : Addr) (n : Nat) (x y z : Int) (tx ty tz : Tok)
    (B : Below A₀ base outer h₀) (F : Fr h₀ L s.heap m) (X : (hd.heap_39 w.params).In h₀) (N : News h₀ L s.heap ((l, listOf #[.int x tx, .int y ty, .int z tz] n) :: news)) (T : Top p loose mean mg mb h₀) (hk : cs.kind = .function) (hdp : dp + 2 < recursionLimit) (hun : un + 16 < cLine)
    (hx : 0 ≤ x ∧ x ≤ 59) (hy : 0 ≤ y ∧ y ≤ 59) (hz : 0 ≤ z ∧ z ≤ 59)
    (ret : ∀ (D : Addr) (t t' : Tok) (h' : Heap) (tk' : Nat) (T M : Nat), T ≤ 60 → EndAt T M [x, y, z] → Fr h₀ L h' m → News h₀ L h' ((D, listOf #[.int (T : Int) t, .int (M : Int) t'] 0) :: news) → (∀ q ∈ news, q.1 < D) → Q (.ref D) { s with heap := h', toks := tk' }) :
    wpAny (model prog w) (ktrTop dp un gd cn cs L a ccd cl outer) (call (.ref 165) [.ref l]) Q E s := by
  obtain ⟨T', M', e1, e2, hT, hE⟩ := end_at hx hy hz
  refine end_spec dp un gd cn cs a ccd cl outer A₀ base h₀ L m news s Q E l n x y z tx ty tz hx hy hz B F X N T hk hdp hun ?_
  rw [e1, e2]
  exact fun D t t' h' tk' F' N' l1 => ret D t t' h' tk' T' M' hT hE F' N' l1
theorem three_spec (dp un : Nat) (gd : Option (List Code)) (cn : Str) (cs : Scope) (a : Addr) (ccd : Value) (cl : List (Str × Addr)) (outer : List Env) (A₀ : Around) (base h₀ : Heap) (L : Addr) (m : Str → Option Value) (news : List (Addr × Obj)) (s : Shared) (Q E : Value → Shared → Prop)
    (l : Addr) (n T : Nat) (zone : Str) (tz tt tm tmo : Tok) (da ho mi se mo : Int) (t2 t3 t4 t5 : Tok)
    (hT : T ≤ 60) (hmo : 1 ≤ mo ∧ mo ≤ 12) (hda : 0 ≤ da ∧ da ≤ 59) (hho : 0 ≤ ho ∧ ho ≤ 59) (hmi : 0 ≤ mi ∧ mi ≤ 59) (hse : 0 ≤ se ∧ se ≤ 59) (hz : zone.length ≤ 10)
    (B : Below A₀ base outer h₀) (F : Fr h₀ L s.heap m) (X : (hd.heap_39 w.params).In h₀) (N : News h₀ L s.heap ((l, listOf #[.int da t2, .int ho t3, .int mi t4, .int se t5] n) :: news)) (T9 : Top p loose mean mg mb h₀) (hk : cs.kind = .function)
    (hdp : dp + 20 < recursionLimit) (hun : un + 160 < cLine)
    (ret : ∀ (R c : Nat) (vs : List Value) (led : List (Addr × Obj)) (h' : Heap) (tk' : Nat), RowsAre led vs (rowsOf (T + 4) [ho, mi, se]) → (∀ p ∈ news, p ∈ led) → Fr h₀ L h' m → News h₀ L h' ((R, listOf (List.toArray vs) c) :: led) → Q (.ref R) { s with heap := h', toks := tk' }) :
    wpAny (model prog w) (ktrTop dp un gd cn cs L a ccd cl outer) (call (.ref 151) [.ref l, .int 3 tm, .int ((T : Int) + 4) tt, .int mo tmo, .str zone tz]) Q E s := by
  have e : (T : Int) + 4 = ((T + 4 : Nat) : Int) := by omega
  rw [e]
  refine run_spec3 dp un gd cn cs a ccd cl outer A₀ base h₀ L m news s Q E l n (T + 4) zone tz tt tm tmo da ho mi se mo t2 t3 t4 t5 (by omega) hmo hda ?_ hz B F X N T9 hk hdp hun ret
  intro x hx
  simp only [List.mem_cons, List.not_mem_nil, or_false] at hx
  rcases hx with rfl | rfl | rfl
  · exact hho
  · exact hmi
  · exact hse
theorem four_in {da ho mi se : Int} (hda : 0 ≤ da ∧ da ≤ 59) (hho : 0 ≤ ho ∧ ho ≤ 59) (hmi : 0 ≤ mi ∧ mi ≤ 59) (hse : 0 ≤ se ∧ se ≤ 59) : InB [da, ho, mi, se] := by
  intro x hx
  simp only [List.mem_cons, List.not_mem_nil, or_false] at hx
  rcases hx with rfl | rfl | rfl | rfl
  · exact hda
  · exact hho
  · exact hmi
  · exact hse
theorem four_spec (dp un : Nat) (gd : Option (List Code)) (cn : Str) (cs : Scope) (a : Addr) (ccd : Value) (cl : List (Str × Addr)) (outer : List Env) (A₀ : Around) (base h₀ : Heap) (L : Addr) (m : Str → Option Value) (news : List (Addr × Obj)) (s : Shared) (Q E : Value → Shared → Prop)
    (l : Addr) (n : Nat) (zone : Str) (tz tt tm tmo : Tok) (da ho mi se mo : Int) (t2 t3 t4 t5 : Tok)
    (hmo : 1 ≤ mo ∧ mo ≤ 12) (hda : 0 ≤ da ∧ da ≤ 59) (hho : 0 ≤ ho ∧ ho ≤ 59) (hmi : 0 ≤ mi ∧ mi ≤ 59) (hse : 0 ≤ se ∧ se ≤ 59) (hz : zone.length ≤ 10)
    (B : Below A₀ base outer h₀) (F : Fr h₀ L s.heap m) (X : (hd.heap_39 w.params).In h₀) (N : News h₀ L s.heap ((l, listOf #[.int da t2, .int ho t3, .int mi t4, .int se t5] n) :: news)) (T : Top p loose mean mg mb h₀) (hk : cs.kind = .function)
    (hdp : dp + 20 < recursionLimit) (hun : un + 160 < cLine)
    (ret : ∀ (r R c : Nat) (vs : List Value) (led : List (Addr × Obj)) (h' : Heap) (tk' : Nat), 1 ≤ r → r ≤ 25 → (r < 25 → it (r - 1) [da, ho, mi, se] = [0, 0, 0, 0]) → RowsAre led vs (rowsOf r [da, ho, mi, se]) → (∀ p ∈ news, p ∈ led) → Fr h₀ L h' m → News h₀ L h' ((R, listOf (List.toArray vs) c) :: led) → Q (.ref R) { s with heap := h', toks := tk' }) :
    wpAny (model prog w) (ktrTop dp un gd cn cs L a ccd cl outer) (call (.ref 151) [.ref l, .int 4 tm, .int 25 tt, .int mo tmo, .str zone tz]) Q E s :=
  run_spec4 dp un gd cn cs a ccd cl outer A₀ base h₀ L m news s Q E l n zone tz tt tm tmo da ho mi se mo t2 t3 t4 t5 hmo (four_in hda hho hmi hse) hz B F X N T hk hdp hun ret
theorem round_spec' (dp un : Nat) (gd : Option (List Code)) (cn : Str) (cs : Scope) (a : Addr) (ccd : Value) (cl : List (Str × Addr)) (outer : List Env) (A₀ : Around) (base h₀ : Heap) (L : Addr) (m : Str → Option Value) (news : List (Addr × Obj)) (s : Shared) (Q E : Value → Shared → Prop)
    (R n : Nat) (vs : List Value) (x y z : Int) (T M : Nat) (tt tm : Tok)
    (hR : RowsAre news vs (rowsOf (T + 4) [x, y, z])) (hT : T ≤ 60) (hE : EndAt T M [x, y, z])
    (B : Below A₀ base outer h₀) (F : Fr h₀ L s.heap m) (X : (hd.heap_39 w.params).In h₀) (N : News h₀ L s.heap ((R, listOf vs.toArray n) :: news)) (T9 : Top p loose mean mg mb h₀) (hk : cs.kind = .function)
    (hdp : dp + 10 < recursionLimit) (hun : un + 80 < cLine)
    (ret : ∀ (h' : Heap) (tk' : Nat), Fr h₀ L h' m → News h₀ L h' news → Q (.bool true) { s with heap := h', toks := tk' }) :
    wpAny (model prog w) (ktrTop dp un gd cn cs L a ccd cl outer) (call (.ref 172) [.ref R, .int (T : Int) tt, .int (M : Int) tm]) Q E s := by
  refine round_spec dp un gd cn cs a ccd cl outer A₀ base h₀ L m news s Q E R n vs (rowsOf (T + 4) [x, y, z]) T M tt tm hR (rowsOf_len _ _) (by omega) ?_ ?_ ?_ ?_ B F X N T9 hk hdp hun ret
  · intro i hi
    rw [rows_at hi, it_len]; rfl
  · intro i a b c hi he h0 h1
    refine hE.1 i hi (mid a b c) ⟨a, b, c, rows_getD (by omega) he, h0, rfl, h1.symm⟩
  · intro a b c he
    obtain ⟨a', b', c', e, h0, h1, h2⟩ := hE.2
    rw [rows_getD (by omega) he] at e
    simp only [List.cons.injEq, and_true] at e
    obtain ⟨rfl, rfl, rfl⟩ := e
    exact ⟨h0, h1, h2⟩
  · intro i a b c u v w hlo hhi h1 h2
    obtain ⟨k, rfl⟩ := Nat.exists_eq_add_of_le hlo
    obtain ⟨a', b', c', e, g0, g1, g2⟩ := fin_after hE.2 k
    have e1 := rows_getD (by omega) h1
    have e2 := rows_getD (by omega) h2
    rw [e1] at e
    simp only [List.cons.injEq, and_true] at e
    obtain ⟨rfl, rfl, rfl⟩ := e
    obtain ⟨f1, f2, f3⟩ := fin_step g0 g1 g2
    have e3 : it (T + k + 1) [x, y, z] = dists (it (T + k) [x, y, z]) := rfl
    rw [e1, dists3, f1, f2, f3, e2] at e3
    simp only [List.cons.injEq, and_true] at e3
    exact e3
theorem dies_spec' (dp un : Nat) (gd : Option (List Code)) (cn : Str) (cs : Scope) (a : Addr) (ccd : Value) (cl : List (Str × Addr)) (outer : List Env) (A₀ : Around) (base h₀ : Heap) (L : Addr) (m : Str → Option Value) (news : List (Addr × Obj)) (s : Shared) (Q E : Value → Shared → Prop) (R n r : Nat) (vs : List Value) (da ho mi se : Int)
    (hR : RowsAre news vs (rowsOf r [da, ho, mi, se])) (B : Below A₀ base outer h₀) (F : Fr h₀ L s.heap m) (X : (hd.heap_39 w.params).In h₀) (N : News h₀ L s.heap ((R, listOf vs.toArray n) :: news)) (T9 : Top p loose mean mg mb h₀) (hk : cs.kind = .function) (hdp : dp + 10 < recursionLimit) (hun : un + 80 < cLine)
    (hda : 0 ≤ da ∧ da ≤ 59) (hho : 0 ≤ ho ∧ ho ≤ 59) (hmi : 0 ≤ mi ∧ mi ≤ 59) (hse : 0 ≤ se ∧ se ≤ 59) (h1 : 1 ≤ r) (h2 : r ≤ 25) (h0 : r < 25 → it (r - 1) [da, ho, mi, se] = [0, 0, 0, 0])
    (ret : ∀ (h' : Heap) (tk' : Nat), Fr h₀ L h' m → News h₀ L h' news → Q (.bool true) { s with heap := h', toks := tk' }) :
    wpAny (model prog w) (ktrTop dp un gd cn cs L a ccd cl outer) (call (.ref 179) [.ref R]) Q E s := by
  have hB := four_in hda hho hmi hse
  have hl : (rowsOf r [da, ho, mi, se]).length = r := rowsOf_len _ _
  refine dies_spec dp un gd cn cs a ccd cl outer A₀ base h₀ L m news s Q E R n vs (rowsOf r [da, ho, mi, se]) hR (by omega) ?_ ?_ ?_ B F X N T9 hk hdp hun ret
  · intro i hi
    rw [rows_at hi, it_len]; rfl
  · intro i hi x hx
    rw [rows_at hi] at hx
    have hb := it_in hB i x hx
    exact ⟨hb.1, hb.2, dies_dvd rfl i x hx⟩
  · rw [hl, rows_at (by omega)]
    by_cases h : r < 25
    · exact h0 h
    · have e : r - 1 = 24 := by omega
      rw [e]
      exact dies_end hB
end
section
variable {prog : Program} {w : World} {A : Around} {E : Value → Shared → Prop} {s : Shared} {h₀ : Heap} {L l : Addr} {news : List (Addr × Obj)} {Q : Value → Shared → Prop}
def zonesL : List Str := ["-0000", "GMT", "+0130", "5:07"]
theorem zones10 : ∀ x ∈ zonesL, x.length ≤ 10 := by decide +kernel
theorem zone_item {value slice : PySem.Expr} {k : Int} {u a0 a1 a2 a3 : Tok} {n : Nat} (N : News h₀ L s.heap news) (hm : (l, listOf #[.str "-0000" a0, .str "GMT" a1, .str "+0130" a2, .str "5:07" a3] n) ∈ news) (h0 : 0 ≤ k) (h1 : k ≤ 3)
    (h : ∀ z t, z.length ≤ 10 → Q (.str z t) s)
    (hs : subscripted slice false (.ref l) (.int k u) = operate [.ref l, .int k u] (getItem (.ref l) (.int k u)) := by with_unfolding_all rfl) :
    wpAny (model prog w) A (subscriptTail value slice (.ref l) (.int k u)) Q E s :=
  menu_item (xs := zonesL) N hm (.cons _ _ (.cons _ _ (.cons _ _ (.cons _ _ .nil)))) h0 (by show k < 4; omega) (by show 4 ≤ 60; omega) (fun t => h _ t (by
    have hk : k.toNat < zonesL.length := by show k.toNat < 4; omega
    have e : zonesL.getD k.toNat Str.empty = zonesL[k.toNat] := by simp [hk]
    rw [e]
    exact zones10 _ (List.getElem_mem hk))) hs
theorem mod_opq {a b : Int} {t u : Tok} (hb : 0 < b) (h : ∀ r, 0 ≤ r ∧ r ≤ b - 1 → Q (.int r s.toks) { s with toks := s.toks + 1 }) : wpAny (model prog w) A (binaryOp .Mod (.int a t) (.int b u)) Q E s :=
  mod_int' (by omega) (h _ ⟨Int.fmod_nonneg_of_pos _ hb, by have := Int.fmod_lt_of_pos a hb; omega⟩)
end
end Mine
namespace Mine
theorem cons_sub {α : Type} {x : α} {l k : List α} (hx : x ∈ k) (h : ∀ p ∈ l, p ∈ k) : ∀ p ∈ x :: l, p ∈ k := by
  intro p hp
  rcases List.mem_cons.mp hp with rfl | hp
  · exact hx
  · exact h p hp
theorem tail_sub {α : Type} {x : α} {l : List α} : ∀ p ∈ l, p ∈ x :: l := fun _ h => List.mem_cons_of_mem _ h
section
variable {prog : Program} {w : World} {p : Program} {loose : List Str} {mean : ExcName → Option Value} {mg mb : Str → Option Value}
theorem law_three (dp un : Nat) (gd : Option (List Code)) (cn : Str) (cs : Scope) (a : Addr) (ccd : Value) (cl : List (Str × Addr)) (outer : List Env) (A₀ : Around) (base h₀ : Heap) (L : Addr) (m : Str → Option Value) (news : List (Addr × Obj)) (s : Shared) (Q E : Value → Shared → Prop) (l De : Addr) (n T M : Nat) (zone : Str) (tz tt tm tmo : Tok) (da ho mi se mo : Int) (t2 t3 t4 t5 te te' : Tok)
    (B : Below A₀ base outer h₀) (F : Fr h₀ L s.heap m) (X : (hd.heap_39 w.params).In h₀) (N : News h₀ L s.heap ((l, listOf #[.int da t2, .int ho t3, .int mi t4, .int se t5] n) :: (De, listOf #[.int (T : Int) te, .int (M : Int) te'] 0) :: news)) (T9 : Top p loose mean mg mb h₀) (hk : cs.kind = .function) (hdp : dp + 20 < recursionLimit) (hun : un + 160 < cLine)
    (hT : T ≤ 60) (hmo : 1 ≤ mo ∧ mo ≤ 12) (hda : 0 ≤ da ∧ da ≤ 59) (hho : 0 ≤ ho ∧ ho ≤ 59) (hmi : 0 ≤ mi ∧ mi ≤ 59) (hse : 0 ≤ se ∧ se ≤ 59) (hz : zone.length ≤ 10)
    (ret : ∀ (R c : Nat) (vs : List Value) (led : List (Addr × Obj)) (h' : Heap) (tk' : Nat), RowsAre led vs (rowsOf (T + 4) [ho, mi, se]) → Fr h₀ L h' m →
      News h₀ L h' ((R, listOf (List.toArray vs) c) :: (l, listOf #[.int da t2, .int ho t3, .int mi t4, .int se t5] n) :: (De, listOf #[.int (T : Int) te, .int (M : Int) te'] 0) :: led) → Q (.ref R) { s with heap := h', toks := tk' }) :
    wpAny (model prog w) (ktrTop dp un gd cn cs L a ccd cl outer) (call (.ref 151) [.ref l, .int 3 tm, .int ((T : Int) + 4) tt, .int mo tmo, .str zone tz]) Q E s := by
  refine three_spec dp un gd cn cs a ccd cl outer A₀ base h₀ L m ((l, listOf #[.int da t2, .int ho t3, .int mi t4, .int se t5] n) :: (De, listOf #[.int (T : Int) te, .int (M : Int) te'] 0) :: news) s Q E l n T zone tz tt tm tmo da ho mi se mo t2 t3 t4 t5 hT hmo hda hho hmi hse hz B F X
    (cb_drop N (cons_sub List.mem_cons_self fun _ h => h)) T9 hk hdp hun ?_
  intro R c vs led h' tk' hR hs F' N'
  refine ret R c vs led h' tk' hR F' (cb_drop N' (cons_sub List.mem_cons_self (cons_sub ?_ (cons_sub ?_ tail_sub))))
  · exact List.mem_cons_of_mem _ (hs _ List.mem_cons_self)
  · exact List.mem_cons_of_mem _ (hs _ (List.mem_cons_of_mem _ List.mem_cons_self))
theorem law_four (dp un : Nat) (gd : Option (List Code)) (cn : Str) (cs : Scope) (a : Addr) (ccd : Value) (cl : List (Str × Addr)) (outer : List Env) (A₀ : Around) (base h₀ : Heap) (L : Addr) (m : Str → Option Value) (news : List (Addr × Obj)) (s : Shared) (Q E : Value → Shared → Prop) (l De R₃ : Addr) (n c₃ T M : Nat) (vs₃ : List Value) (zone : Str) (tz tt tm tmo : Tok) (da ho mi se mo : Int) (t2 t3 t4 t5 te te' : Tok)
    (hR₃ : RowsAre news vs₃ (rowsOf (T + 4) [ho, mi, se])) (B : Below A₀ base outer h₀) (F : Fr h₀ L s.heap m) (X : (hd.heap_39 w.params).In h₀) (N : News h₀ L s.heap ((l, listOf #[.int da t2, .int ho t3, .int mi t4, .int se t5] n) :: (R₃, listOf (List.toArray vs₃) c₃) :: (De, listOf #[.int (T : Int) te, .int (M : Int) te'] 0) :: news)) (T9 : Top p loose mean mg mb h₀) (hk : cs.kind = .function) (hdp : dp + 20 < recursionLimit) (hun : un + 160 < cLine)
    (hmo : 1 ≤ mo ∧ mo ≤ 12) (hda : 0 ≤ da ∧ da ≤ 59) (hho : 0 ≤ ho ∧ ho ≤ 59) (hmi : 0 ≤ mi ∧ mi ≤ 59) (hse : 0 ≤ se ∧ se ≤ 59) (hz : zone.length ≤ 10)
    (ret : ∀ (r R c : Nat) (vs : List Value) (led : List (Addr × Obj)) (h' : Heap) (tk' : Nat), 1 ≤ r → r ≤ 25 → (r < 25 → it (r - 1) [da, ho, mi, se] = [0, 0, 0, 0]) → RowsAre led vs (rowsOf r [da, ho, mi, se]) → RowsAre led vs₃ (rowsOf (T + 4) [ho, mi, se]) → Fr h₀ L h' m →
      News h₀ L h' ((R, listOf (List.toArray vs) c) :: (R₃, listOf (List.toArray vs₃) c₃) :: (De, listOf #[.int (T : Int) te, .int (M : Int) te'] 0) :: led) → Q (.ref R) { s with heap := h', toks := tk' }) :
    wpAny (model prog w) (ktrTop dp un gd cn cs L a ccd cl outer) (call (.ref 151) [.ref l, .int 4 tm, .int 25 tt, .int mo tmo, .str zone tz]) Q E s := by
  refine four_spec dp un gd cn cs a ccd cl outer A₀ base h₀ L m ((R₃, listOf (List.toArray vs₃) c₃) :: (De, listOf #[.int (T : Int) te, .int (M : Int) te'] 0) :: news) s Q E l n zone tz tt tm tmo da ho mi se mo t2 t3 t4 t5 hmo hda hho hmi hse hz B F X N T9 hk hdp hun ?_
  intro r R c vs led h' tk' h1 h2 h0 hR hs F' N'
  refine ret r R c vs led h' tk' h1 h2 h0 hR (hR₃.mono fun p hp => hs p (List.mem_cons_of_mem _ (List.mem_cons_of_mem _ hp))) F' (cb_drop N' (cons_sub List.mem_cons_self (cons_sub ?_ (cons_sub ?_ tail_sub))))
  · exact List.mem_cons_of_mem _ (hs _ List.mem_cons_self)
  · exact List.mem_cons_of_mem _ (hs _ (List.mem_cons_of_mem _ List.mem_cons_self))
theorem law_round (dp un : Nat) (gd : Option (List Code)) (cn : Str) (cs : Scope) (a : Addr) (ccd : Value) (cl : List (Str × Addr)) (outer : List Env) (A₀ : Around) (base h₀ : Heap) (L : Addr) (m : Str → Option Value) (news : List (Addr × Obj)) (s : Shared) (Q E : Value → Shared → Prop) (R n : Nat) (vs : List Value) (q : Addr × Obj) (x y z : Int) (T M : Nat) (tt tm : Tok)
    (hE : EndAt T M [x, y, z]) (hR : RowsAre news vs (rowsOf (T + 4) [x, y, z])) (B : Below A₀ base outer h₀) (F : Fr h₀ L s.heap m) (X : (hd.heap_39 w.params).In h₀) (N : News h₀ L s.heap ((R, listOf vs.toArray n) :: q :: news)) (T9 : Top p loose mean mg mb h₀) (hk : cs.kind = .function) (hdp : dp + 10 < recursionLimit) (hun : un + 80 < cLine)
    (hT : T ≤ 60)
    (ret : ∀ (h' : Heap) (tk' : Nat), Fr h₀ L h' m → News h₀ L h' (q :: news) → Q (.bool true) { s with heap := h', toks := tk' }) :
    wpAny (model prog w) (ktrTop dp un gd cn cs L a ccd cl outer) (call (.ref 172) [.ref R, .int (T : Int) tt, .int (M : Int) tm]) Q E s :=
  round_spec' dp un gd cn cs a ccd cl outer A₀ base h₀ L m (q :: news) s Q E R n vs x y z T M tt tm (hR.mono fun _ h => List.mem_cons_of_mem _ h) hT hE B F X N T9 hk hdp hun ret
end
end Mine
namespace Mine
section
variable {prog : Program} {w : World} {A : Around} {E : Value → Shared → Prop} {s : Shared} {h₀ : Heap} {L l : Addr} {news : List (Addr × Obj)} {Q : Value → Shared → Prop}
theorem ints_get {vs : List Value} {xs : List Int} (h : IntsAre vs xs) : ∀ i, i < xs.length → ∃ c t, c ∈ xs ∧ vs[i]? = some (.int c t) := by
  induction h with
  | nil => exact fun i hi => absurd hi (Nat.not_lt_zero _)
  | @cons y t vs ys _ ih =>
    intro i hi
    cases i with
    | zero => exact ⟨_, _, List.mem_cons_self, rfl⟩
    | succ i =>
      obtain ⟨c, t, hm, e⟩ := ih i (by simpa using hi)
      exact ⟨c, t, List.mem_cons_of_mem _ hm, by simpa using e⟩
theorem num_item {value slice : PySem.Expr} {vs : List Value} {xs : List Int} {P : Int → Prop} {k : Int} {u : Tok} {n : Nat} (N : News h₀ L s.heap news) (hm : (l, listOf vs.toArray n) ∈ news) (hv : IntsAre vs xs) (hP : ∀ x ∈ xs, P x) (h0 : 0 ≤ k) (h1 : k < (xs.length : Int)) (h60 : xs.length ≤ 60)
    (h : ∀ c t, P c → Q (.int c t) s)
    (hs : subscripted slice false (.ref l) (.int k u) = operate [.ref l, .int k u] (getItem (.ref l) (.int k u)) := by with_unfolding_all rfl) :
    wpAny (model prog w) A (subscriptTail value slice (.ref l) (.int k u)) Q E s := by
  have hl : s.heap.IsList l vs.toArray := ⟨_, (N _ hm).1, rfl, n, rfl⟩
  obtain ⟨c, t, hc, e⟩ := ints_get hv k.toNat (by omega)
  exact tail_any hl.typeIs slot_list_getitem.lookup (wpAny_getItem_list hl h0 (by omega) (by simpa using e) (h c t (hP c hc))) hs
theorem cell_item {value slice : PySem.Expr} {k : Int} {u a0 a1 a2 a3 a4 : Tok} {n : Nat} (N : News h₀ L s.heap news) (hm : (l, listOf #[.int 5 a0, .int 21 a1, .int 12 a2, .int 3 a3, .int 25 a4] n) ∈ news) (h0 : 0 ≤ k) (h1 : k ≤ 4)
    (h : ∀ c t, Q (.int c t) s)
    (hs : subscripted slice false (.ref l) (.int k u) = operate [.ref l, .int k u] (getItem (.ref l) (.int k u)) := by with_unfolding_all rfl) :
    wpAny (model prog w) A (subscriptTail value slice (.ref l) (.int k u)) Q E s :=
  num_item (xs := [5, 21, 12, 3, 25]) (P := fun _ => True) N hm (.cons _ _ (.cons _ _ (.cons _ _ (.cons _ _ (.cons _ _ .nil))))) (fun _ _ => True.intro) h0 (by show k < 5; omega) (by show 5 ≤ 60; omega) (fun c t _ => h c t) hs
theorem mod_item {value slice : PySem.Expr} {k : Int} {u a0 a1 a2 a3 : Tok} {n : Nat} (N : News h₀ L s.heap news) (hm : (l, listOf #[.int 24 a0, .int 60 a1, .int 60 a2, .int 60 a3] n) ∈ news) (h0 : 0 ≤ k) (h1 : k ≤ 3)
    (h : ∀ c t, 1 ≤ c ∧ c ≤ 60 → Q (.int c t) s)
    (hs : subscripted slice false (.ref l) (.int k u) = operate [.ref l, .int k u] (getItem (.ref l) (.int k u)) := by with_unfolding_all rfl) :
    wpAny (model prog w) A (subscriptTail value slice (.ref l) (.int k u)) Q E s :=
  num_item (xs := [24, 60, 60, 60]) (P := fun c => 1 ≤ c ∧ c ≤ 60) N hm (.cons _ _ (.cons _ _ (.cons _ _ (.cons _ _ .nil)))) (by decide) h0 (by show k < 4; omega) (by show 4 ≤ 60; omega) h hs
end
theorem at_0123 {k : Int} (h : k ∈ [3, 0, 1, 2]) : 0 ≤ k ∧ k ≤ 3 := by
  simp only [List.mem_cons, List.not_mem_nil, or_false] at h
  omega
/-- an element of a comprehension: some number between nought and 59, and nothing kept -/
def NumEl (news : List (Addr × Obj)) (y : Value) (news' : List (Addr × Obj)) : Prop := news' = news ∧ ∃ r t, y = .int r t ∧ 0 ≤ r ∧ r ≤ 59
theorem num_el {news : List (Addr × Obj)} {r b : Int} {t : Tok} (h : 0 ≤ r ∧ r ≤ b - 1) (hb : 1 ≤ b ∧ b ≤ 60) : NumEl news (.int r t) news := ⟨rfl, r, t, rfl, by omega, by omega⟩
def NumVs (ys : List Value) : Prop := ∀ y ∈ ys, ∃ r t, y = .int r t ∧ 0 ≤ r ∧ r ≤ 59
section
variable {prog : Program} {w : World} {A : Around} {h₀ : Heap} {L : Addr} {m : Str → Option Value} {env : Env} {elt : Expr} {x : Str} {scope : Scope} {cl : List (Str × Addr)} {s : Shared} {S : List (Addr × Obj) → Prop} {Fin : List Value → List (Addr × Obj) → Prop} {news : List (Addr × Obj)}
theorem num_rest {vs : List Value} {ks : List Int} (hi : IntsAre vs ks)
    (turn : ∀ k t I oI C oC D m₂ ys h tk (E' : Value → Shared → Prop), k ∈ ks → LCg.NsObj oC m₂ → m₂ x = some (.int k t) → Fr h₀ L h m → News h₀ L h ((I, oI) :: (C, oC) :: (D, LCg.lst ys) :: news) → LCg.Off3 I C D news → ((@Ne Nat I C) ∧ (@Ne Nat I D) ∧ (@Ne Nat C D)) →
      wpAny (model prog w) A (eval elt (compEnvC scope cl C env)) (LCg.CompEnd h₀ L m { s with heap := h, toks := tk } I oI C oC D (LCg.lst ys) S (fun y news' => NumEl news y news')) E' { s with heap := h, toks := tk })
    (fin : ∀ ys, ys.length = ks.length → NumVs ys → Fin ys news) : LCg.CompRest prog w A h₀ L m env elt x scope cl s S (fun i v => vs.toArray[i]? = some v) Fin vs.toArray.size 0 [] news := by
  have hl : vs.toArray.size = ks.length := by rw [List.size_toArray, hi.length]
  have key : ∀ (j i : Nat) (ys : List Value), i + j = vs.toArray.size → ys.length = i → NumVs ys → LCg.CompRest prog w A h₀ L m env elt x scope cl s S (fun i v => vs.toArray[i]? = some v) Fin j i ys news := by
    intro j
    induction j with
    | zero =>
      intro i ys hij hy hn
      exact LCg.CompRest.zero (fin ys (by omega) hn)
    | succ j ih =>
      intro i ys hij hy hn
      refine LCg.CompRest.succ ?_
      intro v I oI C oC D m₂ h tk E' hv hC hx F N off ne
      obtain ⟨k, t, hv', hk⟩ := IntsAre.at hi i v (by simpa using hv)
      rw [hv'] at hx
      refine wpAny_mono (turn k t I oI C oC D m₂ ys h tk E' (List.mem_of_getElem? hk) hC hx F N off ne) (fun y s₂ hq => ?_) fun _ _ e => e
      obtain ⟨h', tk', nw, e, F', N', off', hS, hnw, r, t', hy', h0, h1⟩ := hq
      subst hnw
      refine ⟨h', tk', nw, e, F', N', off', hS, ih (i + 1) _ (by omega) (by simp [hy]) ?_⟩
      intro z hz
      rcases List.mem_append.mp hz with hz | hz
      · exact hn z hz
      · rw [List.mem_singleton.mp hz, hy']
        exact ⟨r, t', rfl, h0, h1⟩
  exact key _ 0 [] (by omega) rfl (fun _ h => by cases h)
theorem num_comp {t0 t1 t2 t3 : Tok} {k0 k1 k2 k3 : Int}
    (turn : ∀ k t I oI C oC D m₂ ys h tk (E' : Value → Shared → Prop), k ∈ [k0, k1, k2, k3] → LCg.NsObj oC m₂ → m₂ x = some (.int k t) → Fr h₀ L h m → News h₀ L h ((I, oI) :: (C, oC) :: (D, LCg.lst ys) :: news) → LCg.Off3 I C D news → ((@Ne Nat I C) ∧ (@Ne Nat I D) ∧ (@Ne Nat C D)) →
      wpAny (model prog w) A (eval elt (compEnvC scope cl C env)) (LCg.CompEnd h₀ L m { s with heap := h, toks := tk } I oI C oC D (LCg.lst ys) S (fun y news' => NumEl news y news')) E' { s with heap := h, toks := tk })
    (fin : ∀ a b c d ta tb tc td, (0 ≤ a ∧ a ≤ 59) → (0 ≤ b ∧ b ≤ 59) → (0 ≤ c ∧ c ≤ 59) → (0 ≤ d ∧ d ≤ 59) → Fin [.int a ta, .int b tb, .int c tc, .int d td] news) :
    LCg.CompRest prog w A h₀ L m env elt x scope cl s S (fun i v => #[Value.int k0 t0, .int k1 t1, .int k2 t2, .int k3 t3][i]? = some v) Fin #[Value.int k0 t0, .int k1 t1, .int k2 t2, .int k3 t3].size 0 [] news := by
  refine num_rest (vs := [.int k0 t0, .int k1 t1, .int k2 t2, .int k3 t3]) ints4' turn (fun ys hl hn => ?_)
  match ys, hl, hn with
  | [y0, y1, y2, y3], _, hn =>
    obtain ⟨a, ta, rfl, a0, a1⟩ := hn y0 (by simp)
    obtain ⟨b, tb, rfl, b0, b1⟩ := hn y1 (by simp)
    obtain ⟨c, tc, rfl, c0, c1⟩ := hn y2 (by simp)
    obtain ⟨d, td, rfl, d0, d1⟩ := hn y3 (by simp)
    exact fin a b c d ta tb tc td ⟨a0, a1⟩ ⟨b0, b1⟩ ⟨c0, c1⟩ ⟨d0, d1⟩
end
end Mine
namespace Mine
local macro_rules | `(tactic| walk_at $s:str) => `(tactic| k_extra $s)
set_option maxRecDepth 100000 in
set_option maxHeartbeats 8000000 in
theorem law_walk : PySem.Challenge.rw_xl0002_01.Holds := hd (by
  k_with_none
  (k_with "exec Assign cons ListComp" => (k_here; k_dflt (refine LCg.Assign_ListComp_U (F₀ := by k_asm) (by rfl) (by with_unfolding_all rfl) (by with_unfolding_all rfl) (by decide) (by rfl) (by decide) (by rfl) (by rfl) (by rfl) ?_)))
  (k_with "CompSrc" => (k_here; k_dflt (refine LCg.CompSrc.ledger (by rfl) (by k_asm) (by k_asm) (by k_mem) (by exact Nat.le_of_ble_eq_true rfl) ?_; intro g'; (refine num_comp (fun k' t' I' oI' C' oC' D' m' ys' h' tk' E' hk' hC' hx' F' N' off' ne' => ?_) (fun a9 b9 c9 d9 ta9 tb9 tc9 td9 ha9 hb9 hc9 hd9 => ?_)); (focus (have off9 := off'; (try simp only [LCg.Off3, and_true] at off'); have hk9 := at_0123 hk')))))
  (k_with "CompEnd" => ((rename News _ _ _ _ => nC9); (rename LCg.Off3 _ _ _ _ => oF9); refine LCg.CompEnd.intro (by assumption) nC9 _ (by intro p9 hp9; repeat' (first | exact hp9 | apply List.Mem.tail)) oF9 (by lcg_src) ?_))
  (k_with "NumEl" => exact num_el (by assumption) (by assumption))
  (k_with "subscriptTail Name Name ref int" => (k_here; k_dflt (refine cell_item (by k_asm) (by k_mem) (by omega) (by omega) ?_; intro c9 t9)))
  (k_with "subscriptTail List" => (k_here; k_dflt (refine mod_item (by k_asm) (by k_mem) (by omega) (by omega) ?_; intro c9 t9 hc9)))
  (k_with "subscriptTail Name Slice ref ref" => (k_here; (with_reducible show wpAny _ _ (subscriptTail _ (PySem.Expr.Slice _ (some _) (some _) _) (Value.ref _) (Value.ref _)) _ _ _); k_dflt (refine step_slice (by k_asm) (by k_asm) (by kmk_list) (by kmk_part) (by kmk_part) (by kmk_part) (by decide) (by l_ints) ?_ (by with_unfolding_all rfl) (by kmk_pure) (by kmk_size)); intro D' ws' ms' h' F' N' l1 hI'; (try k_lt l1); (try k_sweep)))
  (k_with "subscriptTail List" => (k_here; k_dflt (refine zone_item (by k_asm) (by k_mem) (by omega) (by omega) ?_; intro z9 t9 hz9)))
  (k_with "binaryOp Mod int int" => (k_here; k_dflt (refine mod_opq (by first | decide | omega) ?_); intro r9 hr9; (try simp only [Int.reduceSub] at hr9)))
  (k_with "call ref" => (k_here; (with_reducible show wpAny _ _ (call (Value.ref 165) _) _ _ _); k_dflt (refine end_spec' _ _ _ _ _ _ _ _ _ _ _ _ _ _ _ _ _ _ _ _ _ _ _ _ _ _ (by k_asm) (by k_asm) (by k_asm) (by exact cb_drop (by assumption) (cons_sub (by k_mem) fun _ h9 => h9)) (by k_asm) (by first | exact rfl | assumption) (by ktr_room) (by ktr_units) (by omega) (by omega) (by omega) ?_); intro D9 t9 t9' h9 tk9 T9 M9 hT9 hE9 F9 N9 l9; (try k_sweep)))
  (k_with "call ref" => (k_here; (with_reducible show wpAny _ _ (call (Value.ref 151) [_, Value.int 3 _, _, _, _]) _ _ _); k_dflt (refine law_three _ _ _ _ _ _ _ _ _ _ _ _ _ _ _ _ _ _ _ _ _ _ _ _ _ _ _ _ _ _ _ _ _ _ _ _ _ _ _ (by k_asm) (by k_asm) (by k_asm) (by exact cb_drop (by assumption) (cons_sub (by k_mem) (cons_sub (by k_mem) fun _ h9 => h9))) (by k_asm) (by first | exact rfl | assumption) (by ktr_room) (by ktr_units) (by assumption) (by omega) (by omega) (by omega) (by omega) (by omega) (by assumption) ?_); intro R9 c9 vs9 led9 h9 tk9 hR9 F9 N9; (try k_sweep)))
  (k_with "call ref" => (k_here; (with_reducible show wpAny _ _ (call (Value.ref 151) [_, Value.int 4 _, _, _, _]) _ _ _); k_dflt (refine law_four _ _ _ _ _ _ _ _ _ _ _ _ _ _ _ _ _ _ _ _ _ _ _ _ _ _ _ _ _ _ _ _ _ _ _ _ _ _ _ _ _ _ (by assumption) (by k_asm) (by k_asm) (by k_asm) (by exact cb_drop (by assumption) (cons_sub (by k_mem) (cons_sub (by k_mem) (cons_sub (by k_mem) (fun p9 hp9 => by repeat' (first | exact hp9 | apply List.Mem.tail)))))) (by k_asm) (by first | exact rfl | assumption) (by ktr_room) (by ktr_units) (by omega) (by omega) (by omega) (by omega) (by omega) (by assumption) ?_); intro r9 R9 c9 vs9 led9 h9 tk9 hr1 hr2 hr0 hR9 hR3 F9 N9; (try k_sweep)))
  (k_with "call ref" => (k_here; (with_reducible show wpAny _ _ (call (Value.ref 172) _) _ _ _); k_dflt (refine law_round _ _ _ _ _ _ _ _ _ _ _ _ _ _ _ _ _ _ _ _ _ (_, _) _ _ _ _ _ _ _ (by assumption) (by assumption) (by k_asm) (by k_asm) (by k_asm) (by exact cb_drop (by assumption) (cons_sub (by k_mem) (cons_sub List.mem_cons_self (fun p9 hp9 => by repeat' (first | exact hp9 | apply List.Mem.tail))))) (by k_asm) (by first | exact rfl | assumption) (by ktr_room) (by ktr_units) (by assumption) ?_); intro h9 tk9 F9 N9; (try k_sweep)))
  (k_with "call ref" => (k_here; (with_reducible show wpAny _ _ (call (Value.ref 179) _) _ _ _); k_dflt (refine dies_spec' _ _ _ _ _ _ _ _ _ _ _ _ _ _ _ _ _ _ _ _ _ _ _ _ _ _ (by assumption) (by k_asm) (by k_asm) (by k_asm) (by exact cb_drop (by assumption) (fun _ h9 => h9)) (by k_asm) (by first | exact rfl | assumption) (by ktr_room) (by ktr_units) (by omega) (by omega) (by omega) (by omega) (by assumption) (by assumption) (by assumption) ?_); intro h9 tk9 F9 N9; (try k_sweep)))
  w_strict k_go)
end Mine
set_option maxRecDepth 100000 in
set_option maxHeartbeats 8000000 in
theorem PySem.Challenge.cw_xl0002_01_holds : PySem.Challenge.rw_xl0002_01.Holds := by
  exact Mine.law_walk
