import PyProof.Rows.All
import Wide.All
import OpenK.AllK
import Wide.FinOn
import PyProof.LongRange
import PySem.Challenge.RW_dw0045_01
open PySem PySem.W PyProof.Rows
set_option Elab.async false
namespace Mine
set_option maxRecDepth 100000
-- the plain laws: rounding to the nearest, ties to the even one
def dr (a b : Int) : Int :=
  if (if 0 < b then b < a.fmod b * 2 else a.fmod b * 2 < b) ∨ (a.fmod b * 2 = b ∧ (a.fdiv b).fmod 2 = 1) then a.fdiv b + 1 else a.fdiv b

/-- x is a nearest quotient of n by d, an even one at a tie -/
def Near (n d x : Int) : Prop := 2 * (n - x * d).natAbs < d.natAbs ∨ (2 * (n - x * d).natAbs = d.natAbs ∧ x % 2 = 0)

theorem near_dr (n d : Int) (hd : d ≠ 0) : Near n d (dr n d) := by
  have h1 : d * n.fdiv d + n.fmod d = n := Int.mul_fdiv_add_fmod n d
  have h2 : (n.fdiv d + 1) * d = d * n.fdiv d + d := by rw [Int.add_mul, Int.one_mul, Int.mul_comm]
  have h3 : n.fdiv d * d = d * n.fdiv d := Int.mul_comm ..
  have h6 : (n.fdiv d).fmod 2 = n.fdiv d % 2 := Int.fmod_eq_emod_of_nonneg _ (by decide)
  have h7 : (0 < d ∧ 0 ≤ n.fmod d ∧ n.fmod d < d) ∨ (d < 0 ∧ d < n.fmod d ∧ n.fmod d ≤ 0) := by
    rcases Int.lt_or_gt_of_ne hd with h | h
    · have e := Int.neg_fmod_neg n d
      have a1 := Int.fmod_nonneg_of_pos (-n) (b := -d) (by omega)
      have a2 := Int.fmod_lt_of_pos (-n) (b := -d) (by omega)
      right; omega
    · left; exact ⟨h, Int.fmod_nonneg_of_pos n h, Int.fmod_lt_of_pos n h⟩
  unfold Near dr
  generalize n.fdiv d = q at *
  generalize n.fmod d = r at *
  rw [h6]
  split <;> split <;> first | (rw [h2]; omega) | (rw [h3]; omega)

theorem near_unique {n d x y : Int} (hd : d ≠ 0) (hx : Near n d x) (hy : Near n d y) : x = y := by
  unfold Near at hx hy
  -- |x - y| < 2, and at 1 both are ties, so both even
  have key : ∀ {x y : Int}, x < y → Near n d x → Near n d y → False := by
    intro x y h hx hy
    unfold Near at hx hy
    obtain ⟨k, hk⟩ : ∃ k : Int, y = x + 1 + k := ⟨y - x - 1, by omega⟩
    have e : y * d = x * d + d + k * d := by rw [hk, Int.add_mul, Int.add_mul, Int.one_mul]
    have hk0 : 0 ≤ k := by omega
    rcases Int.lt_or_gt_of_ne hd with h0 | h0
    · have : k * d ≤ 0 := Int.mul_nonpos_of_nonneg_of_nonpos hk0 (Int.le_of_lt h0)
      have hkd : 1 ≤ k → k * d ≤ d := fun h1 => by
        have := Int.mul_le_mul_of_nonpos_right h1 (Int.le_of_lt h0)
        omega
      omega
    · have : 0 ≤ k * d := Int.mul_nonneg hk0 (Int.le_of_lt h0)
      have hkd : 1 ≤ k → d ≤ k * d := fun h1 => by
        have := Int.mul_le_mul_of_nonneg_right h1 (Int.le_of_lt h0)
        omega
      omega
  rcases Int.lt_trichotomy x y with h | h | h
  · exact (key h hx hy).elim
  · exact h
  · exact (key h hy hx).elim
theorem dr_of_near {n d x : Int} (hd : d ≠ 0) (h : Near n d x) : dr n d = x := near_unique hd (near_dr n d hd) h

theorem dr_neg {n d : Int} (hd : d ≠ 0) : dr (-n) d = - dr n d := by
  refine dr_of_near hd ?_
  have h := near_dr n d hd
  unfold Near at h ⊢
  have e : -n - -dr n d * d = -(n - dr n d * d) := by rw [Int.neg_mul]; omega
  rw [e, Int.natAbs_neg]
  omega

theorem dr_two {n d : Int} (hd : d ≠ 0) : dr (n + 2 * d) d = dr n d + 2 := by
  refine dr_of_near hd ?_
  have h := near_dr n d hd
  unfold Near at h ⊢
  have e : n + 2 * d - (dr n d + 2) * d = n - dr n d * d := by rw [Int.add_mul]; omega
  rw [e]
  omega

theorem dr_scale {n d f : Int} (hd : d ≠ 0) (hf : f ≠ 0) : dr (n * f) (d * f) = dr n d := by
  refine dr_of_near (Int.mul_ne_zero hd hf) ?_
  have h := near_dr n d hd
  unfold Near at h ⊢
  have e : n * f - dr n d * (d * f) = (n - dr n d * d) * f := by rw [Int.sub_mul, Int.mul_assoc]
  rw [e, Int.natAbs_mul, Int.natAbs_mul, ← Nat.mul_assoc]
  have hf' : 0 < f.natAbs := by omega
  rcases h with h | h
  · exact .inl (Nat.mul_lt_mul_of_pos_right h hf')
  · exact .inr ⟨by rw [h.1], h.2⟩

/-- rounding by 2 m, by bits -/
theorem dr_bits {s m : Int} (hm : 0 < m) : dr s (2 * m) = (s + m - 1 + (s.fdiv (2 * m)).fmod 2).fdiv (2 * m) := by
  have hd : 2 * m ≠ 0 := by omega
  have h1 : 2 * m * s.fdiv (2 * m) + s.fmod (2 * m) = s := Int.mul_fdiv_add_fmod s (2 * m)
  have a1 := Int.fmod_nonneg_of_pos s (b := 2 * m) (by omega)
  have a2 := Int.fmod_lt_of_pos s (b := 2 * m) (by omega)
  have h6 : (s.fdiv (2 * m)).fmod 2 = s.fdiv (2 * m) % 2 := Int.fmod_eq_emod_of_nonneg _ (by decide)
  rw [h6]
  generalize s.fdiv (2 * m) = q at *
  generalize s.fmod (2 * m) = r at *
  have e2 : ∀ p : Int, (s + m - 1 + q % 2).fdiv (2 * m) = q + (r + m - 1 + q % 2).fdiv (2 * m) := fun _ => by
    have e3 : s + m - 1 + q % 2 = (r + m - 1 + q % 2) + q * (2 * m) := by rw [Int.mul_comm q]; omega
    rw [e3, Int.add_mul_fdiv_right _ _ hd]; omega
  rw [e2 0]
  refine dr_of_near hd ?_
  unfold Near
  by_cases c : 2 * m ≤ r + m - 1 + q % 2
  · have e4 : (r + m - 1 + q % 2).fdiv (2 * m) = 1 := by
      rw [Int.fdiv_eq_ediv_of_nonneg _ (by omega)]
      have e5 : r + m - 1 + q % 2 = (r - m - 1 + q % 2) + 1 * (2 * m) := by omega
      rw [e5, Int.add_mul_ediv_right _ _ hd, Int.ediv_eq_zero_of_lt (by omega) (by omega)]
      rfl
    rw [e4, Int.add_mul, Int.mul_comm q]
    omega
  · have e4 : (r + m - 1 + q % 2).fdiv (2 * m) = 0 := by
      rw [Int.fdiv_eq_ediv_of_nonneg _ (by omega)]
      exact Int.ediv_eq_zero_of_lt (by omega) (by omega)
    rw [e4, Int.add_mul, Int.mul_comm q]
    omega

/-- the sum of f over n ints from a on -/
def runSum (f : Int → Int) (a : Int) : Nat → Int
  | 0 => 0
  | n + 1 => f a + runSum f (a + 1) n

theorem runSum_last (f : Int → Int) (a : Int) (n : Nat) : runSum f a (n + 1) = runSum f a n + f (a + n) := by
  induction n generalizing a with
  | zero => simp [runSum]
  | succ n ih =>
    have e : a + 1 + (n : Int) = a + ((n + 1 : Nat) : Int) := by omega
    have h := ih (a + 1)
    rw [e] at h
    show f a + runSum f (a + 1) (n + 1) = f a + runSum f (a + 1) n + _
    omega

theorem runSum_range (f : Int → Int) (a : Int) (n : Nat) : ((List.range n).map fun (i : Nat) => f (a + (i : Int))).sum = runSum f a n := by
  induction n with
  | zero => rfl
  | succ n ih => rw [runSum_last, List.range_succ, List.map_append, List.sum_append, ih]; simp

/-- an odd function over the ints from -k to k - 1 -/
theorem runSum_odd (f : Int → Int) (hf : ∀ n, f (-n) = - f n) (k : Nat) : runSum f (-(k : Int)) (2 * k) = f (-(k : Int)) := by
  induction k with
  | zero =>
    have h := hf 0
    simp only [Int.neg_zero] at h
    show (0 : Int) = f (-(0 : Int))
    rw [Int.neg_zero]; omega
  | succ k ih =>
    have e1 : 2 * (k + 1) = (2 * k + 1) + 1 := by omega
    have e2 : -((k + 1 : Nat) : Int) + 1 = -(k : Int) := by omega
    have e3 : -(k : Int) + ((2 * k : Nat) : Int) = (k : Int) := by omega
    rw [e1]
    show f _ + runSum f (-((k + 1 : Nat) : Int) + 1) (2 * k + 1) = _
    have h := hf (k : Int)
    rw [e2, runSum_last, ih, e3]
    omega

theorem runSum_step (f : Int → Int) (a : Int) (n : Nat) : runSum f (a + 1) n = runSum f a n + f (a + n) - f a := by
  have h := runSum_last f a n
  have h' : runSum f a (n + 1) = f a + runSum f (a + 1) n := rfl
  omega

theorem dr_step {d : Int} (hd : d ≠ 0) (n : Int) : (dr (n + ((2 * d.natAbs : Nat) : Int)) d - dr n d) * d = 2 * (d.natAbs : Int) := by
  rcases Int.lt_or_gt_of_ne hd with h | h
  · have e := dr_two (n := n + ((2 * d.natAbs : Nat) : Int)) hd
    have e1 : n + ((2 * d.natAbs : Nat) : Int) + 2 * d = n := by omega
    rw [e1] at e
    have e2 : dr (n + ((2 * d.natAbs : Nat) : Int)) d - dr n d = -2 := by omega
    rw [e2]; omega
  · have e := dr_two (n := n) hd
    have e1 : n + ((2 * d.natAbs : Nat) : Int) = n + 2 * d := by omega
    rw [e1]
    have e2 : dr (n + 2 * d) d - dr n d = 2 := by omega
    rw [e2]; omega

theorem dr_half {d : Int} (hd : d ≠ 0) : dr (-(d.natAbs : Int)) d * d = -(d.natAbs : Int) := by
  rcases Int.lt_or_gt_of_ne hd with h | h
  · have e : dr (-(d.natAbs : Int)) d = 1 := by
      refine dr_of_near hd ?_
      unfold Near
      omega
    rw [e]; omega
  · have e : dr (-(d.natAbs : Int)) d = -1 := by
      refine dr_of_near hd ?_
      unfold Near
      omega
    rw [e]; omega

theorem dr_sum {d : Int} (hd : d ≠ 0) (a : Int) :
    runSum (fun n => dr n d) a (2 * d.natAbs) * d = (d.natAbs : Int) * (2 * a + 2 * (d.natAbs : Int) - 1) := by
  have step : ∀ a : Int, runSum (fun n => dr n d) (a + 1) (2 * d.natAbs) * d - (d.natAbs : Int) * (2 * (a + 1) + 2 * (d.natAbs : Int) - 1) =
      runSum (fun n => dr n d) a (2 * d.natAbs) * d - (d.natAbs : Int) * (2 * a + 2 * (d.natAbs : Int) - 1) := by
    intro a
    have h := dr_step hd a
    have e1 : 2 * (a + 1) + 2 * (d.natAbs : Int) - 1 = (2 * a + 2 * (d.natAbs : Int) - 1) + 2 := by omega
    rw [runSum_step, e1, Int.mul_add, Int.sub_mul, Int.add_mul]
    rw [Int.sub_mul] at h
    omega
  have base : runSum (fun n => dr n d) (-(d.natAbs : Int)) (2 * d.natAbs) * d - (d.natAbs : Int) * (2 * (-(d.natAbs : Int)) + 2 * (d.natAbs : Int) - 1) = 0 := by
    rw [runSum_odd _ (fun n => dr_neg hd)]
    have e1 : 2 * (-(d.natAbs : Int)) + 2 * (d.natAbs : Int) - 1 = -1 := by omega
    have h := dr_half hd
    rw [e1]
    omega
  have up : ∀ (k : Nat), runSum (fun n => dr n d) (-(d.natAbs : Int) + k) (2 * d.natAbs) * d - (d.natAbs : Int) * (2 * (-(d.natAbs : Int) + k) + 2 * (d.natAbs : Int) - 1) = 0 := by
    intro k
    induction k with
    | zero => simpa using base
    | succ k ih =>
      have e : -(d.natAbs : Int) + ((k + 1 : Nat) : Int) = -(d.natAbs : Int) + k + 1 := by omega
      rw [e, step]; exact ih
  have down : ∀ (k : Nat), runSum (fun n => dr n d) (-(d.natAbs : Int) - k) (2 * d.natAbs) * d - (d.natAbs : Int) * (2 * (-(d.natAbs : Int) - k) + 2 * (d.natAbs : Int) - 1) = 0 := by
    intro k
    induction k with
    | zero => simpa using base
    | succ k ih =>
      have h := step (-(d.natAbs : Int) - ((k + 1 : Nat) : Int))
      have e : -(d.natAbs : Int) - ((k + 1 : Nat) : Int) + 1 = -(d.natAbs : Int) - k := by omega
      rw [e] at h
      rw [← h]; exact ih
  rcases Int.le_total (-(d.natAbs : Int)) a with h | h
  · have h1 := up (a + d.natAbs).toNat
    have e : -(d.natAbs : Int) + ((a + d.natAbs).toNat : Int) = a := by omega
    rw [e] at h1; omega
  · have h1 := down (-(d.natAbs : Int) - a).toNat
    have e : -(d.natAbs : Int) - ((-(d.natAbs : Int) - a).toNat : Int) = a := by omega
    rw [e] at h1; omega

theorem dr_near (a b : Int) : b = 0 ∨ 2 * ((a - dr a b * b).natAbs : Int) ≤ (b.natAbs : Int) := by
  by_cases hb : b = 0
  · exact .inl hb
  · have h := near_dr a b hb
    unfold Near at h
    right; omega

theorem join_div {x r : Int} (h : (x.fmod 901 - 450 = 0 ∧ r = 1) ∨ (¬ x.fmod 901 - 450 = 0 ∧ r = x.fmod 901 - 450)) : r ≠ 0 ∧ -450 ≤ r ∧ r ≤ 450 := by
  have h1 := Int.fmod_nonneg_of_pos x (b := 901) (by decide)
  have h2 := Int.fmod_lt_of_pos x (b := 901) (by decide)
  omega
theorem join_fac {x r : Int} (h : (x.fmod 401 - 200 = 0 ∧ r = 1) ∨ (¬ x.fmod 401 - 200 = 0 ∧ r = x.fmod 401 - 200)) : r ≠ 0 ∧ -200 ≤ r ∧ r ≤ 200 := by
  have h1 := Int.fmod_nonneg_of_pos x (b := 401) (by decide)
  have h2 := Int.fmod_lt_of_pos x (b := 401) (by decide)
  omega

theorem pow_room {x : Int} : ∃ k : Nat, k < 64 ∧ (x.fmod 64 + 1).toNat = k + 1 ∧ (x.fmod 64 + 1 - 1).toNat = k := by
  have h1 := Int.fmod_nonneg_of_pos x (b := 64) (by decide)
  have h2 := Int.fmod_lt_of_pos x (b := 64) (by decide)
  exact ⟨(x.fmod 64).toNat, by omega, by omega, by omega⟩

theorem pow_fac {x f : Int} (h : f ≠ 0 ∧ -200 ≤ f ∧ f ≤ 200) :
    2 ^ (x.fmod 64 + 1).toNat * f ≠ 0 ∧ (2 ^ (x.fmod 64 + 1).toNat * f).natAbs < 1267650600228229401496703205376 := by
  obtain ⟨k, hk, e, _⟩ := pow_room (x := x)
  rw [e]
  refine ⟨Int.mul_ne_zero (Int.ne_of_gt (Int.pow_pos (by decide))) h.1, ?_⟩
  rw [Int.natAbs_mul, Int.natAbs_pow]
  have h1 : (2 : Int).natAbs ^ (k + 1) ≤ 2 ^ 64 := Nat.pow_le_pow_right (by decide) (by omega)
  have h2 : f.natAbs ≤ 200 := by omega
  exact Nat.lt_of_le_of_lt (Nat.mul_le_mul h1 h2) (by decide)

theorem pow_div {x f y : Int} (h : (y.fmod 401 - 200 = 0 ∧ f = 1) ∨ (¬ y.fmod 401 - 200 = 0 ∧ f = y.fmod 401 - 200)) :
    2 ^ (x.fmod 64 + 1).toNat * f ≠ 0 ∧ (2 ^ (x.fmod 64 + 1).toNat * f).natAbs < 1267650600228229401496703205376 := pow_fac (join_fac h)

theorem dr_pow2 {n x f y : Int} (h : (y.fmod 401 - 200 = 0 ∧ f = 1) ∨ (¬ y.fmod 401 - 200 = 0 ∧ f = y.fmod 401 - 200)) :
    dr (n * f) (2 ^ (x.fmod 64 + 1).toNat * f) =
      (n + 2 ^ (x.fmod 64 + 1 - 1).toNat - 1 + (n.fdiv (2 ^ (x.fmod 64 + 1).toNat)).fmod 2).fdiv (2 ^ (x.fmod 64 + 1).toNat) := by
  obtain ⟨k, hk, e, e'⟩ := pow_room (x := x)
  rw [e, e', dr_scale (Int.ne_of_gt (Int.pow_pos (by decide))) (join_fac h).1]
  have e2 : (2 : Int) ^ (k + 1) = 2 * 2 ^ k := by rw [Int.pow_succ, Int.mul_comm]
  rw [e2]
  exact dr_bits (Int.pow_pos (by decide))

-- the loop's rule
/-- what the loop turns: the list told (its values, its ints, its counter) -/
abbrev Told3 := List Value × List Int × Nat
abbrev tLed (lt : Addr) (rest : List (Addr × Obj)) (c : Told3) : List (Addr × Obj) := (lt, PySem.W.listOf c.1.toArray c.2.2) :: rest
abbrev tPs (_ : Told3) : List (Str × Value) := []
abbrev tFacts (c : Told3) : Prop := IntsAre c.1 c.2.1
abbrev tWord (P : List Int → List Int → Prop) (pre : List Int) (c : Told3) : Prop := P pre c.2.1

section
variable {prog : Program} {w : World} {A : Around} {E : Value → Shared → Prop} {s : Shared} {env : Env} {h₀ : Heap} {x : Str} {body : List Stmt} {Q : Flow → Shared → Prop}

/-- one turn after the other, whatever kind of iterator walks the ints from a on -/
theorem told_walks {I lt : Addr} {a : Int} {n : Nat} {St : Nat → Heap → Prop} {m₀ : Str → Option Value} {rest : List (Addr × Obj)} (stored : List Str) (P : List Int → List Int → Prop) (h : Heap)
    (hW : Walks prog w A I [I] [I] n (fun i v => ∃ t, v = .int (a + i * 1) t) St) (hI : h₀.get? I = none) (hL : env.locals ≠ I) (hlt : lt ≠ I) (hrest : ∀ p ∈ rest, p.1 ≠ I) (hst : St 0 h)
    (F : Fr h₀ env.locals h m₀) (N : News h₀ env.locals h (tLed lt rest ([], [], 0))) (hp : P [] [])
    (turn : ∀ (vs : List Value) (ns : List Int) (cnt : Nat) (pre : List Int) (k : Int) t (u : Str → Option Value) h tk own, k = a + (pre.length : Int) → pre.length < n → OwnOff own (lt :: rest.map (·.1)) → IntsAre vs ns → P pre ns →
      Fr h₀ env.locals h (fun y => if y = x then some (.int k t) else if stored.contains y then u y else m₀ y) → News h₀ env.locals h (((lt, PySem.W.listOf vs.toArray cnt) :: rest) ++ own) →
      wpAny (model prog w) A (execs body env) (InvPostN h₀ env.locals (KstS (tLed lt rest) tPs tFacts x stored m₀ (tWord P) (pre ++ [k])) own (lt :: rest.map (·.1)) { s with heap := h, toks := tk } Q) E { s with heap := h, toks := tk })
    (done : ∀ (vs : List Value) (ns : List Int) (cnt : Nat) (u : Str → Option Value) h tk, IntsAre vs ns → P (rangeKs a n) ns →
      Fr h₀ env.locals h (fun y => if y = x then u y else if stored.contains y then u y else m₀ y) → News h₀ env.locals h ((lt, PySem.W.listOf vs.toArray cnt) :: rest) → Q .next { s with heap := h, toks := tk }) :
    LoopAtV prog w A h₀ env x body Q E (.ref I) { s with heap := h } := by
  refine loop_invN (fun i m nx => KstS (tLed lt rest) tPs tFacts x stored m₀ (tWord P) ((rangeKs a n).take i) m nx) hW ?_ ?_ ?_ ?_ hst F N
    ⟨([], [], 0), rfl, IntsAre.nil, fun _ h => (nomatch h), fun _ _ _ _ => rfl, hp⟩ ?_ ?_
  · simpa using hL
  · simpa using hI
  · intro p hp
    rcases List.mem_cons.mp hp with rfl | hp
    · simpa using hlt
    · simpa using hrest p hp
  · intro p hp
    rcases List.mem_cons.mp hp with rfl | hp
    · simpa using hlt
    · simpa using hrest p hp
  · rintro i v m₁ nx h' tk own hi ⟨t, rfl⟩ _ hoff ⟨⟨vs, ns, cnt⟩, rfl, hf, h1, h2, hp'⟩ F₁ N₁
    have hk : (rangeKs a n)[i]? = some (a + (i : Int)) := by simp [rangeKs, hi]
    have hs : (rangeKs a n).take (i + 1) = (rangeKs a n).take i ++ [a + (i : Int)] := by simp [List.take_add_one, hk]
    have hlen : ((rangeKs a n).take i).length = i := by rw [List.length_take, rangeKs_length]; omega
    rw [Int.mul_one] at F₁
    rw [hs]
    exact turn vs ns cnt _ _ t m₁ h' tk own (by rw [hlen]) (by rw [hlen]; exact hi) hoff hf hp' (kst_fr (ps := []) h1 h2 F₁) N₁
  · rintro m₁ nx h' tk ⟨⟨vs, ns, cnt⟩, rfl, hf, h1, h2, hp'⟩ F₁ N₁
    rw [List.take_of_length_le (Nat.le_of_eq (rangeKs_length _ _))] at hp'
    exact done vs ns cnt m₁ h' tk hf hp' (kst_frOut (ps := []) h1 h2 F₁) N₁

/-- a loop over range(a, b) of any size, small ints or large -/
theorem told_range {r lt : Addr} {a b d : Int} {t₀ u₀ v₀ td : Tok} {m₀ : Str → Option Value} {rest : List (Addr × Obj)} (y : Str) (stored : List Str) (P' : Int → List Int → List Int → Prop)
    (hh : A.handled = none) (_hd : m₀ y = some (.int d td)) (hr : IsRange s.heap r a b 1 t₀ u₀ v₀)
    (F : Fr h₀ env.locals s.heap m₀) (N : News h₀ env.locals s.heap ((lt, PySem.W.listOf #[] 0) :: rest)) (hp : P' d [] [])
    (turn : ∀ (vs : List Value) (ns : List Int) (cnt : Nat) (pre : List Int) (k : Int) t (u : Str → Option Value) h tk own, k = a + (pre.length : Int) → pre.length < (b - a).toNat → OwnOff own (lt :: rest.map (·.1)) → IntsAre vs ns → P' d pre ns →
      Fr h₀ env.locals h (fun y => if y = x then some (.int k t) else if stored.contains y then u y else m₀ y) → News h₀ env.locals h (((lt, PySem.W.listOf vs.toArray cnt) :: rest) ++ own) →
      wpAny (model prog w) A (execs body env) (InvPostN h₀ env.locals (KstS (tLed lt rest) tPs tFacts x stored m₀ (tWord (P' d)) (pre ++ [k])) own (lt :: rest.map (·.1)) { s with heap := h, toks := tk } Q) E { s with heap := h, toks := tk })
    (done : ∀ (vs : List Value) (ns : List Int) (cnt : Nat) (u : Str → Option Value) h tk, IntsAre vs ns → P' d (rangeKs a (b - a).toNat) ns →
      Fr h₀ env.locals h (fun y => if y = x then u y else if stored.contains y then u y else m₀ y) → News h₀ env.locals h ((lt, PySem.W.listOf vs.toArray cnt) :: rest) → Q .next { s with heap := h, toks := tk }) :
    wpAny (model prog w) A (pyIter (.ref r)) (fun it s₂ => LoopAtV prog w A h₀ env x body Q E it s₂) E s := by
  have hn : Builtin.Range.rangeSize a b 1 = ((b - a).toNat : Int) := rangeSize_nat a b
  have nw : ∀ p ∈ (lt, PySem.W.listOf #[] 0) :: rest, p.1 ≠ s.heap.objs.size := fun p hp => Nat.ne_of_lt (Heap.lt_size (N p hp).1)
  have N' (o : Obj) : News h₀ env.locals (s.heap.push o) ((lt, PySem.W.listOf #[] 0) :: rest) := fun p hp => ⟨Heap.get?_push_of_some _ (N p hp).1, (N p hp).2⟩
  cases hs : Builtin.Range.small a b 1 with
  | true =>
    exact wpAny_pyIter_range hr hs (told_walks stored (P' d) _ (Walks.range hh _ a 1 (b - a).toNat) (next_is_new F) (Nat.ne_of_lt F.ns.lt) (nw _ (.head _)) (fun p hp => nw p (.tail _ hp))
      (by show IsRangeIter _ _ _ _ _; rw [hn]; simpa using Heap.get?_push_size _ rfl) (F.push _) (N' _) hp turn done)
  | false =>
    exact wpAny_pyIter_longrange hr hs (told_walks stored (P' d) _ (Walks.longrange hh _ a 1 (b - a).toNat) (next_is_new F) (Nat.ne_of_lt F.ns.lt) (nw _ (.head _)) (fun p hp => nw p (.tail _ hp))
      (by show IsLongIter _ _ _ _ _; rw [hn]; simpa using Heap.get?_push_size _ rfl) (F.push _) (N' _) hp turn done)
end

-- divmod by nought
section
variable {prog : Program} {w : World} {A : Around} {E : Value → Shared → Prop} {s : Shared} {a b : Int} {t u : Tok} {Q : Value → Shared → Prop}
/-- divmod(a, 0) raises ZeroDivisionError -/
theorem divmod_zero (hA : A.handled = none)
    (h0 : ∀ h' tk e, Heap.NewExc s.heap h' e "ZeroDivisionError" → E (.ref e) { s with heap := h', toks := tk }) :
    wpAny (model prog w) A (call (.builtin "divmod") [.int a t, .int 0 u]) Q E s := by
  refine Calls.call_function_entry kind_divmodT plain_divmodT entry_divmodT (args_divmod2 _ _) ?_
  unfold Builtin.«divmod»
  refine wpAny_bind (m := someArgs "divmod" 2 2 _) (wpAny_pure ?_)
  show wpAny _ _ (do ret (← Builtin.Builtins.binaryNamed "divmod()" "divmod" (.int a t) (.int 0 u))) _ _ s
  exact wpAny_bind (binaryNamed_same (nm := "divmod") (T := "int") (id := "int.__divmod__") (typeIs_int s a t) (typeIs_int s 0 u) fills_int_divmod PyProof.Rows.slot_int_divmod
    (call_meets PyProof.Rows.slot_int_divmod (typeIs_int s a t) PyProof.Rows.entry_int_divmod (args_int_divmod _ _) (AutoIntR1.int___divmod___int_int_0 a t 0 u rfl) ⟨hA, h0⟩))
end

-- what the loop keeps
structure ToldIs (d : Int) (pre ns : List Int) : Prop where
  is : ns = pre.map fun n => dr n d
theorem ToldIs.nil {d : Int} : ToldIs d [] [] := ⟨rfl⟩
theorem ToldIs.length {d : Int} {pre ns : List Int} (h : ToldIs d pre ns) : ns.length = pre.length := by rw [h.is, List.length_map]
theorem ToldIs.more {d k : Int} {pre ns : List Int} {vs : List Value} {c : Nat} (h : ToldIs d pre ns) : tWord (ToldIs d) (pre ++ [k]) (vs, ns ++ [dr k d], c) := ⟨by
  show ns ++ [dr k d] = _
  rw [List.map_append, ← h.is, List.map_cons, List.map_nil]⟩
theorem ToldIs.sum {d a : Int} {n : Nat} {ns : List Int} (h : ToldIs d (rangeKs a n) ns) (hd : d ≠ 0) (hn : n = 2 * d.natAbs) :
    ns.sum * d = (d.natAbs : Int) * (2 * a + 2 * (d.natAbs : Int) - 1) := by
  rw [h.is, hn, ← dr_sum hd a, ← runSum_range]
  simp [rangeKs, Function.comp_def]
section
variable {prog : Program} {w : World} {A : Around} {E : Value → Shared → Prop} {s : Shared} {a b : Int} {t u : Tok} {Q : Value → Shared → Prop}
theorem divmod_D {h₀ : Heap} {L : Addr} {m : Str → Option Value} {news : List (Addr × Obj)} (F : Fr h₀ L s.heap m) (N : News h₀ L s.heap news) (hb : b ≠ 0 ∧ b.natAbs < 1267650600228229401496703205376)
    (h : ∀ h', Fr h₀ L h' m → News h₀ L h' ((s.heap.objs.size, { cls := .type "tuple", data := .seq #[.int (a.fdiv b) s.toks, .int (a.fmod b) (s.toks + 1)] }) :: news) →
      Q (.ref s.heap.objs.size) { s with toks := s.toks + 1 + 1, heap := h' }) :
    wpAny (model prog w) A (call (.builtin "divmod") [.int a t, .int b u]) Q E s :=
  divmod_N F N hb.1 h (.inl (PyProof.noPylong_of_log2 (by
    have h0 : b.natAbs ≠ 0 := by omega
    have : b.natAbs.log2 < 100 := (Nat.log2_lt h0).mpr hb.2
    omega)))
end
end Mine
open Mine

-- lines of the walk
local macro_rules | `(tactic| walk_at "call builtin:divmod") => `(tactic| ((with_reducible show wpAny _ _ (call (Value.builtin _) [Value.int _ _, Value.int _ _]) _ _ _); refine divmod_D (by assumption) (by assumption) (by first | assumption | omega) ?_; intro _ _ _))
local macro_rules | `(tactic| walk_at "call builtin:divmod") => `(tactic| (k_here; (with_reducible show wpAny _ _ (call (Value.builtin _) [Value.int _ _, Value.int 0 _]) _ _ _); refine divmod_zero (by first | rfl | assumption) ?_; intro h' tk e hx'; (try dsimp only); (try k_sweep)))
local macro_rules | `(tactic| walk_at "exec If") => `(tactic| (k_here; (with_reducible show wpAny _ _ (exec (Stmt.If _ [Stmt.Assign _ (Expr.Constant (Const.int 1) _ _) _] [] _) _) _ _ _); kj_step))
local macro_rules | `(tactic| walk_at "call ref") => `(tactic| ((fail_if_success (with_reducible show wpAny _ _ (call _ [_, Value.int 0 _]) _ _ _)); k_call_by "_divide_and_round" dr (fun (_ b : Int) => b ≠ 0 ∧ b.natAbs < 1267650600228229401496703205376)))
local macro_rules | `(tactic| walk_at "pyIter ref") => `(tactic| (
    k_here
    (rename Fr _ _ _ _ => lF'); (rename News _ _ _ _ => lN'); (rename IsRange _ _ _ _ _ _ _ _ => rgX)
    have kD := join_div (by assumption)
    (with_unfolding_all refine' told_range (Str.ofString "divisor") [Str.ofString "near"] ToldIs (by rfl) (by rfl) rgX lF' lN' ToldIs.nil ?_ ?_)
    (all_goals (clear lF' lN'))
    intro kVs kNs kCnt kPre kN kT kU kH kTk kOwn kEq kLt kOff kFacts kInv kFr kNews
    have kMark : KstMark := kstMark
    (try dsimp only at kFr); (try dsimp only at kNews); (try simp only [List.nil_append, List.cons_append, List.append_nil] at kNews)
    (try simp only [List.map_cons, List.map_nil] at kOff)
    have kLen := IntsAre.length kFacts
    have kLenP := ToldIs.length kInv
    have kB : kPre.length < 900 := by omega
    rotate_left
    intro kVs kNs kCnt kU kH kTk kFacts kInv kFr kNews
    have kMark : KstMark := kstMark
    (try dsimp only at kFr); (try dsimp only at kNews); (try simp only [List.nil_append, List.cons_append, List.append_nil] at kNews)
    have kLen := IntsAre.length kFacts
    have kLenP := ToldIs.length kInv
    have kSum := ToldIs.sum kInv kD.1 (by omega)
    have kB : kNs.length ≤ 900 := by (rw [rangeKs_length] at kLenP; omega)
    rotate_left
    (all_goals (try k_fold))))
local macro_rules | `(tactic| walk_at "call builtin:list.append") => `(tactic| (
    k_here; (with_reducible show wpAny _ _ (call (Value.builtin _) [Value.ref _, _]) _ _ _); k_dflt (refine' append_K ?k1 ?k2 ?k3 ?_ ?z; (case k1 => k_asm); (case k2 => k_asm); (case k3 => k_upd); (case z => size_fits); k_whole); intro h' F' N'; (try k_sweep)))
local macro_rules | `(tactic| walk_at "InvEndN") => `(tactic| (
    (try dsimp only); (rename News _ _ _ _ => nE'); (try simp only [List.push_toArray] at nE')
    (with_unfolding_all refine' kst_end ⟨_, _, _⟩ ?e1 nE' ?e2 ?e3 ?e4 ?e5 ?e6 ?e7 ?e8)
    (case e1 => assumption)
    (case e2 => first | kst_in | kst_inAny)
    (case e3 => first | (intro p hp; kst_mem) | kst_anyIn)
    (case e4 => rfl)
    (case e5 => kst_facts)
    (case e6 => kst_all)
    (case e7 => kst_same)
    (case e8 => exact ToldIs.more (by assumption))))
local macro_rules | `(tactic| walk_at "binaryOp RShift int int") => `(tactic| (k_here; (try k_fmods); (with_reducible refine rshift_int ?kb1 ?_); (case kb1 => omega); (try dsimp only); (try walk1)))
local macro_rules | `(tactic| trivial) => `(tactic| exact pow_div (by assumption))

set_option maxRecDepth 100000 in
set_option maxHeartbeats 8000000 in
theorem PySem.Challenge.cw_dw0045_01_holds : PySem.Challenge.rw_dw0045_01.Holds := by
  (k_with "tree" => (simp only [dr]))
  (k_with "fact _divide_and_round" => exact dr_near)
  (k_with "end" => ((rename dr _ _ ≠ _ => hne); exact absurd (dr_pow2 (by assumption)) hne))
  open_k
