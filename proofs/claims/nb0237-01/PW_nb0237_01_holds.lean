import PyProof.Rows.All
import Wide.All
import OpenK.AllK
import Wide.FinOn
import PySem.Challenge.RW_nb0237_01
set_option Elab.async false
set_option maxRecDepth 100000
set_option genSizeOf false
set_option genInjectivity false
set_option genSizeOfSpec false
set_option linter.all false
set_option compiler.extract_closed false
open PySem PySem.W PySem.Spec PySem.Calls PyProof.Rows
namespace Mine
section
set_option maxHeartbeats 8000000
local macro_rules | `(tactic| o_head (kHook $K $as $e)) => `(tactic| o_head (kmHook $K $as $e [182, 189]))
local macro_rules | `(tactic| refine PySem.W.holds_open $args*) => `(tactic| (refine (PySem.W.holds_open $args*); (· intro w; kernel_rfl)))
open_top hd for PySem.Challenge.rw_nb0237_01
end
section
-- Lin
theorem fresh_Lin : True := by
  w_top off
  trivial
set_option genSizeOf false
set_option genInjectivity false
set_option genSizeOfSpec false
set_option linter.all false
namespace Lin
theorem aaac (a b c d : Int) : a + b + (c + d) = a + c + (b + d) := by
  rw [Int.add_assoc, Int.add_assoc, Int.add_left_comm b]
theorem neg_le {a b : Int} (h : 0 ≤ a + b) : -a ≤ b := by
  have := Int.add_le_add_left h (-a)
  rwa [Int.add_zero, Int.neg_add_cancel_left] at this
theorem le_neg {a b : Int} (h : -a ≤ b) : 0 ≤ a + b := by
  have := Int.add_le_add_left h a
  rwa [Int.add_right_neg] at this
noncomputable def dot (x : Nat → Int) : List Int → Nat → Int :=
  List.rec (fun _ => 0) fun c _ r n => c * x n + r (n + 1)
noncomputable def addL : List Int → List Int → List Int :=
  List.rec (fun ds => ds) fun c cs r ds => List.rec (c :: cs) (fun d ds _ => (c + d) :: r ds) ds
theorem dot_add (x : Nat → Int) (cs : List Int) : ∀ (ds : List Int) (n : Nat), dot x (addL cs ds) n = dot x cs n + dot x ds n := by
  induction cs with
  | nil => exact fun ds n => (Int.zero_add _).symm
  | cons c cs ih =>
    intro ds n
    cases ds with
    | nil => exact (Int.add_zero _).symm
    | cons d ds =>
      show (c + d) * x n + dot x (addL cs ds) (n + 1) = c * x n + dot x cs (n + 1) + (d * x n + dot x ds (n + 1))
      rw [ih, Int.add_mul]
      exact aaac _ _ _ _
noncomputable def mulL (a : Int) : List Int → List Int := List.rec [] fun c _ r => (a * c) :: r
theorem dot_mul (x : Nat → Int) (a : Int) (cs : List Int) : ∀ n : Nat, dot x (mulL a cs) n = a * dot x cs n := by
  induction cs with
  | nil => exact fun n => (Int.mul_zero a).symm
  | cons c cs ih =>
    intro n
    show a * c * x n + dot x (mulL a cs) (n + 1) = a * (c * x n + dot x cs (n + 1))
    rw [ih, Int.mul_add, Int.mul_assoc]
/-- a form: coefficients and constant -/
noncomputable def val (x : Nat → Int) (n : Nat) (l : List Int × Int) : Int := dot x l.1 n + l.2
noncomputable def add (p q : List Int × Int) : List Int × Int := (addL p.1 q.1, p.2 + q.2)
noncomputable def mul (a : Int) (p : List Int × Int) : List Int × Int := (mulL a p.1, a * p.2)
theorem val_add (x : Nat → Int) (n : Nat) (p q : List Int × Int) : val x n (add p q) = val x n p + val x n q := by
  show dot x (addL p.1 q.1) n + (p.2 + q.2) = dot x p.1 n + p.2 + (dot x q.1 n + q.2)
  rw [dot_add]
  exact aaac _ _ _ _
theorem val_mul (x : Nat → Int) (n : Nat) (a : Int) (p : List Int × Int) : val x n (mul a p) = a * val x n p := by
  show dot x (mulL a p.1) n + a * p.2 = a * (dot x p.1 n + p.2)
  rw [dot_mul, Int.mul_add]
noncomputable def unit (i : Nat) : List Int := Nat.rec [1] (fun _ r => 0 :: r) i
theorem dot_unit (x : Nat → Int) (i : Nat) : ∀ n : Nat, dot x (unit i) n = x (n + i) := by
  induction i with
  | zero => exact fun n => (Int.add_zero _).trans (Int.one_mul _)
  | succ i ih =>
    intro n
    show 0 * x n + dot x (unit i) (n + 1) = x (n + (i + 1))
    rw [ih, Int.zero_mul, Int.zero_add, Nat.add_right_comm n 1 i]
    rfl
inductive N where
  | v (i : Nat) | c (n : Nat) | a (x y : N) | m (k : Nat) (x : N)
inductive I where
  | v (i : Nat) | c (n : Nat) | a (x y : I) | s (x y : I) | n (x : I) | m (k : Nat) (x : I) | t (x : N)
noncomputable def N.den (ns : List Nat) : N → Nat :=
  N.rec (fun i => ns.getD i 0) (fun n => n) (fun _ _ a b => a + b) fun k _ a => k * a
noncomputable def I.den (ns : List Nat) (is : List Int) : I → Int :=
  I.rec (fun i => is.getD i 0) (fun j => Int.ofNat j) (fun _ _ a b => a + b) (fun _ _ a b => a - b) (fun _ a => - a) (fun k _ a => Int.ofNat k * a) fun x => ((x.den ns : Nat) : Int)
noncomputable def valu (ns : List Nat) (is : List Int) (i : Nat) : Int := if i % 2 = 0 then ((ns.getD (i / 2) 0 : Nat) : Int) else is.getD (i / 2) 0
noncomputable def N.lin : N → List Int × Int :=
  N.rec (fun i => (unit (2 * i), 0)) (fun n => ([], n)) (fun _ _ a b => add a b) fun k _ a => mul k a
noncomputable def I.lin : I → List Int × Int :=
  I.rec (fun i => (unit (2 * i + 1), 0)) (fun n => ([], n)) (fun _ _ a b => add a b) (fun _ _ a b => add a (mul (-1) b)) (fun _ a => mul (-1) a) (fun k _ a => mul k a) fun x => x.lin
theorem N.lin_val (ns : List Nat) (is : List Int) (e : N) : val (valu ns is) 0 e.lin = ((e.den ns : Nat) : Int) := by
  induction e with
  | v i =>
    show dot (valu ns is) (unit (2 * i)) 0 + 0 = ((ns.getD i 0 : Nat) : Int)
    rw [dot_unit, Int.add_zero, Nat.zero_add, valu, if_pos (Nat.mul_mod_right 2 i), Nat.mul_div_cancel_left i (by decide)]
  | c n => exact Int.zero_add _
  | a x y hx hy =>
    show val _ _ (add x.lin y.lin) = ((x.den ns + y.den ns : Nat) : Int)
    rw [val_add, hx, hy]; rfl
  | m k x hx =>
    show val _ _ (mul k x.lin) = ((k * x.den ns : Nat) : Int)
    rw [val_mul, hx]; rfl
theorem I.lin_val (ns : List Nat) (is : List Int) (e : I) : val (valu ns is) 0 e.lin = e.den ns is := by
  induction e with
  | v i =>
    show dot (valu ns is) (unit (2 * i + 1)) 0 + 0 = is.getD i 0
    rw [dot_unit, Int.add_zero, Nat.zero_add, valu, Nat.mul_add_mod, Nat.mul_add_div (by decide)]
    rfl
  | c n => exact Int.zero_add _
  | a x y hx hy =>
    show val _ _ (add x.lin y.lin) = x.den ns is + y.den ns is
    rw [val_add, hx, hy]
  | s x y hx hy =>
    show val _ _ (add x.lin (mul (-1) y.lin)) = x.den ns is - y.den ns is
    rw [val_add, val_mul, hx, hy, Int.neg_one_mul]; exact Int.sub_eq_add_neg.symm
  | n x hx =>
    show val _ _ (mul (-1) x.lin) = - x.den ns is
    rw [val_mul, hx, Int.neg_one_mul]
  | m k x hx =>
    show val _ _ (mul k x.lin) = Int.ofNat k * x.den ns is
    rw [val_mul, hx]; rfl
  | t x => exact N.lin_val ns is x
inductive F where
  | ln (x y : N) | en (x y : N) | li (x y : I) | ei (x y : I)
  | and (p q : F) | or (p q : F) | not (p : F) | imp (p q : F) | ff
noncomputable def F.den (ns : List Nat) (is : List Int) : F → Prop :=
  F.rec (fun x y => x.den ns ≤ y.den ns) (fun x y => x.den ns = y.den ns) (fun x y => x.den ns is ≤ y.den ns is) (fun x y => x.den ns is = y.den ns is)
    (fun _ _ p q => p ∧ q) (fun _ _ p q => p ∨ q) (fun _ p => ¬ p) (fun _ _ p q => p → q) False
noncomputable def hd (cs : List Int) : Int := List.rec 0 (fun c _ _ => c) cs
noncomputable def drop (l : List Int × Int) : List Int × Int := if hd l.1 = 0 then (l.1.tail, l.2) else ([], 0)
theorem drop_ok {x : Nat → Int} {n : Nat} {l : List Int × Int} (h : 0 ≤ val x n l) : 0 ≤ val x (n + 1) (drop l) := by
  unfold drop
  split
  · rename_i e
    obtain ⟨cs, k⟩ := l
    cases cs with
    | nil => exact h
    | cons c cs =>
      have e' : c = 0 := e
      subst e'
      have h' : 0 ≤ 0 * x n + dot x cs (n + 1) + k := h
      rw [Int.zero_mul, Int.zero_add] at h'
      exact h'
  · exact Int.le_refl 0
noncomputable def gcdL : List Int → Nat := List.rec 0 fun c _ r => Nat.gcd c.natAbs r
noncomputable def divL (g : Int) : List Int → List Int := List.rec [] fun c _ r => (c / g) :: r
/-- divides by the gcd, rounding down -/
noncomputable def tight (l : List Int × Int) : List Int × Int :=
  if 1 < gcdL l.1 ∧ mulL (gcdL l.1) (divL (gcdL l.1) l.1) = l.1 then (divL (gcdL l.1) l.1, l.2 / (gcdL l.1 : Int)) else l
theorem tight_ok {x : Nat → Int} {n : Nat} {l : List Int × Int} (h : 0 ≤ val x n l) : 0 ≤ val x n (tight l) := by
  unfold tight
  split
  · rename_i hc
    generalize gcdL l.1 = g at hc
    have h1 : dot x l.1 n = (g : Int) * dot x (divL g l.1) n := by rw [← dot_mul, hc.2]
    have h2 : 0 ≤ dot x l.1 n + l.2 := h
    rw [h1] at h2
    show 0 ≤ dot x (divL g l.1) n + l.2 / (g : Int)
    generalize dot x (divL g l.1) n = D at h2
    have hg : (0 : Int) < (g : Int) := Int.natCast_pos.mpr (Nat.lt_of_succ_lt hc.1)
    have h3 : -D ≤ l.2 / (g : Int) := Int.le_ediv_of_mul_le hg (by rw [Int.neg_mul, Int.mul_comm]; exact neg_le h2)
    exact le_neg h3
  · exact h
noncomputable def comb (p q : List Int × Int) : List Int × Int := tight (drop (add (mul (hd q.1).natAbs p) (mul (hd p.1).natAbs q)))
theorem comb_ok {x : Nat → Int} {n : Nat} {p q : List Int × Int} (hp : 0 ≤ val x n p) (hq : 0 ≤ val x n q) : 0 ≤ val x (n + 1) (comb p q) := by
  refine tight_ok (drop_ok ?_)
  rw [val_add, val_mul, val_mul]
  exact Int.add_nonneg (Int.mul_nonneg (Int.natCast_nonneg _) hp) (Int.mul_nonneg (Int.natCast_nonneg _) hq)
noncomputable def elim (ls : List (List Int × Int)) : List (List Int × Int) :=
  (ls.filter fun l => hd l.1 == 0).map drop ++
  (ls.filter fun l => decide (0 < hd l.1)).flatMap fun p => (ls.filter fun l => decide (hd l.1 < 0)).map (comb p)
theorem elim_ok {x : Nat → Int} {n : Nat} {ls : List (List Int × Int)} (h : ∀ l ∈ ls, 0 ≤ val x n l) : ∀ l ∈ elim ls, 0 ≤ val x (n + 1) l := by
  intro l hl
  rcases List.mem_append.mp hl with hl | hl
  · obtain ⟨p, hp, rfl⟩ := List.mem_map.mp hl
    exact drop_ok (h p (List.mem_filter.mp hp).1)
  · obtain ⟨p, hp, hl⟩ := List.mem_flatMap.mp hl
    obtain ⟨q, hq, rfl⟩ := List.mem_map.mp hl
    exact comb_ok (h p (List.mem_filter.mp hp).1) (h q (List.mem_filter.mp hq).1)
noncomputable def bad (l : List Int × Int) : Bool := decide (mulL 0 l.1 = l.1) && decide (l.2 < 0)
theorem bad_ok {x : Nat → Int} {n : Nat} {l : List Int × Int} (h : bad l = true) (h0 : 0 ≤ val x n l) : False := by
  have h' := Bool.and_eq_true_iff.mp h
  have e := of_decide_eq_true h'.1
  have h1 : 0 ≤ dot x l.1 n + l.2 := h0
  rw [← e, dot_mul, Int.zero_mul, Int.zero_add] at h1
  exact Int.not_lt.mpr h1 (of_decide_eq_true h'.2)
noncomputable def fm (f : Nat) : List (List Int × Int) → Bool :=
  Nat.rec (fun ls => ls.any bad) (fun _ r ls => ls.any bad || r (elim ls)) f
theorem any_ok {x : Nat → Int} {n : Nat} {ls : List (List Int × Int)} (h : ls.any bad = true) (H : ∀ l ∈ ls, 0 ≤ val x n l) : False := by
  obtain ⟨l, hl, hb⟩ := List.any_eq_true.mp h
  exact bad_ok hb (H l hl)
theorem fm_ok {x : Nat → Int} (f : Nat) : ∀ {n : Nat} {ls : List (List Int × Int)}, fm f ls = true → (∀ l ∈ ls, 0 ≤ val x n l) → False := by
  induction f with
  | zero => exact fun h H => any_ok h H
  | succ f ih =>
    intro n ls h H
    rcases Bool.or_eq_true_iff.mp h with h | h
    · exact any_ok h H
    · exact ih h (elim_ok H)
/-- p + d ≤ q -/
noncomputable def sub (p q : List Int × Int) (d : Int) : List Int × Int := tight (add q (add (mul (-1) p) ([], -d)))
theorem sub_ok {x : Nat → Int} {p q : List Int × Int} {d a b : Int} (hp : val x 0 p = a) (hq : val x 0 q = b) (h : a + d ≤ b) : 0 ≤ val x 0 (sub p q d) := by
  refine tight_ok ?_
  rw [val_add, val_add, val_mul, hp, hq, Int.neg_one_mul]
  show 0 ≤ b + (-a + (0 + -d))
  rw [Int.zero_add, ← Int.neg_add]
  exact Int.sub_nonneg_of_le h
/-- refutes a statement (b = true) or its denial, then goes on -/
noncomputable def ref : F → Bool → (List (List Int × Int) → Bool) → List (List Int × Int) → Bool :=
  F.rec (fun x y b k ls => k ((bif b then sub x.lin y.lin 0 else sub y.lin x.lin 1) :: ls))
    (fun x y b k ls => bif b then k (sub x.lin y.lin 0 :: sub y.lin x.lin 0 :: ls) else k (sub x.lin y.lin 1 :: ls) && k (sub y.lin x.lin 1 :: ls))
    (fun x y b k ls => k ((bif b then sub x.lin y.lin 0 else sub y.lin x.lin 1) :: ls))
    (fun x y b k ls => bif b then k (sub x.lin y.lin 0 :: sub y.lin x.lin 0 :: ls) else k (sub x.lin y.lin 1 :: ls) && k (sub y.lin x.lin 1 :: ls))
    (fun _ _ p q b k ls => bif b then p true (q true k) ls else p false k ls && q false k ls)
    (fun _ _ p q b k ls => bif b then p true k ls && q true k ls else p false (q false k) ls)
    (fun _ p b k ls => p (!b) k ls)
    (fun _ _ p q b k ls => bif b then p false k ls && q true k ls else p true (q false k) ls)
    (fun b k ls => bif b then true else k ls)
noncomputable def side (P : Prop) (b : Bool) : Prop := bif b then P else ¬ P
noncomputable def Ok (ns : List Nat) (is : List Int) (ls : List (List Int × Int)) : Prop := ∀ l ∈ ls, 0 ≤ val (valu ns is) 0 l
theorem Ok.cons {ns : List Nat} {is : List Int} {l : List Int × Int} {ls : List (List Int × Int)} (h : 0 ≤ val (valu ns is) 0 l) (H : Ok ns is ls) : Ok ns is (l :: ls) := by
  intro q hq
  rcases List.mem_cons.mp hq with rfl | hq
  · exact h
  · exact H q hq
theorem ref_ok {ns : List Nat} {is : List Int} (p : F) : ∀ {b : Bool} {k : List (List Int × Int) → Bool} {ls : List (List Int × Int)}, ref p b k ls = true → side (p.den ns is) b → Ok ns is ls → (∀ ls', k ls' = true → Ok ns is ls' → False) → False := by
  have nv := N.lin_val ns is
  have iv := I.lin_val ns is
  have nle : ∀ {a b : Nat} {d : Nat}, a + d ≤ b → (a : Int) + (d : Int) ≤ (b : Int) := fun h => Int.ofNat_le.mpr h
  induction p with
  | ln x y =>
    intro b k ls h s H K
    cases b
    · exact K _ h (H.cons (sub_ok (nv y) (nv x) (nle (d := 1) (Nat.not_le.mp s))))
    · exact K _ h (H.cons (sub_ok (nv x) (nv y) (nle (d := 0) s)))
  | en x y =>
    intro b k ls h s H K
    cases b
    · have h' := Bool.and_eq_true_iff.mp h
      rcases Nat.lt_or_gt_of_ne s with g | g
      · exact K _ h'.1 (H.cons (sub_ok (nv x) (nv y) (nle (d := 1) g)))
      · exact K _ h'.2 (H.cons (sub_ok (nv y) (nv x) (nle (d := 1) g)))
    · exact K _ h ((H.cons (sub_ok (nv y) (nv x) (nle (d := 0) (Nat.le_of_eq (Eq.symm s))))).cons (sub_ok (nv x) (nv y) (nle (d := 0) (Nat.le_of_eq s))))
  | li x y =>
    intro b k ls h s H K
    cases b
    · exact K _ h (H.cons (sub_ok (iv y) (iv x) (Int.not_le.mp s)))
    · exact K _ h (H.cons (sub_ok (iv x) (iv y) ((Int.add_zero _).symm ▸ s)))
  | ei x y =>
    intro b k ls h s H K
    cases b
    · have h' := Bool.and_eq_true_iff.mp h
      rcases Int.lt_or_gt_of_ne s with g | g
      · exact K _ h'.1 (H.cons (sub_ok (iv x) (iv y) g))
      · exact K _ h'.2 (H.cons (sub_ok (iv y) (iv x) g))
    · exact K _ h ((H.cons (sub_ok (iv y) (iv x) ((Int.add_zero _).symm ▸ Int.le_of_eq (Eq.symm s)))).cons (sub_ok (iv x) (iv y) ((Int.add_zero _).symm ▸ Int.le_of_eq s)))
  | and p q hp hq =>
    intro b k ls h s H K
    cases b
    · have h' := Bool.and_eq_true_iff.mp h
      by_cases g : p.den ns is
      · exact hq (b := false) h'.2 (fun g2 => s ⟨g, g2⟩) H K
      · exact hp (b := false) h'.1 g H K
    · exact hp (b := true) h s.1 H fun ls' h2 H2 => hq (b := true) h2 s.2 H2 K
  | or p q hp hq =>
    intro b k ls h s H K
    cases b
    · exact hp (b := false) h (fun g => s (.inl g)) H fun ls' h2 H2 => hq (b := false) h2 (fun g => s (.inr g)) H2 K
    · have h' := Bool.and_eq_true_iff.mp h
      exact Or.elim s (fun g => hp (b := true) h'.1 g H K) fun g => hq (b := true) h'.2 g H K
  | not p hp =>
    intro b k ls h s H K
    cases b
    · exact hp (b := true) h (Classical.not_not.mp s) H K
    · exact hp (b := false) h s H K
  | imp p q hp hq =>
    intro b k ls h s H K
    cases b
    · exact hp (b := true) h (Classical.byContradiction fun g => s fun g2 => absurd g2 g) H fun ls' h2 H2 => hq (b := false) h2 (fun g => s fun _ => g) H2 K
    · have h' := Bool.and_eq_true_iff.mp h
      by_cases g : p.den ns is
      · exact hq (b := true) h'.2 (s g) H K
      · exact hp (b := false) h'.1 g H K
  | ff =>
    intro b k ls h s H K
    cases b
    · exact K _ h H
    · exact s
/-- the naturals are not negative -/
noncomputable def nats (n : Nat) : List (List Int × Int) := Nat.rec [] (fun n r => (unit (2 * n), 0) :: r) n
theorem nats_ok (ns : List Nat) (is : List Int) (n : Nat) : Ok ns is (nats n) := by
  induction n with
  | zero => exact fun l h => nomatch h
  | succ n ih =>
    refine ih.cons ?_
    rw [show val (valu ns is) 0 (unit (2 * n), 0) = _ from N.lin_val ns is (.v n)]
    exact Int.natCast_nonneg _
/-- what the check refutes the other side of, holds -/
theorem use (ns : List Nat) (is : List Int) (p : F) (h : ref p false (fm 60) (nats ns.length) = true) : p.den ns is :=
  Classical.byContradiction fun g => ref_ok p (b := false) h g (nats_ok ns is _) fun _ h2 H2 => fm_ok 60 h2 H2
theorem sub_f (x y : Nat) : (y ≤ x ∧ x - y + y = x) ∨ (x ≤ y ∧ x - y = 0) :=
  (Nat.le_total y x).imp (fun h => ⟨h, Nat.sub_add_cancel h⟩) fun h => ⟨h, Nat.sub_eq_zero_of_le h⟩
theorem div_f (x k : Nat) (h : 0 < k) : k * (x / k) ≤ x ∧ x + 1 ≤ k * (x / k) + k :=
  ⟨Nat.mul_div_le x k, Nat.lt_mul_div_succ x h⟩
end Lin
end
section
-- Om
theorem fresh_Om : True := by
  w_top off
  trivial
theorem om0 : ∀ {x0 : Int} {x1 x2 : Nat}, x0 < (↑x2 : Int) → x1 = x2 → x0 < (↑x1 : Int) := fun {x0 x1 x2} => Lin.use [x1, x2] [x0] (.imp (.li (.a (.v 0) (.c 1)) (.t (.v 1))) (.imp (.en (.v 0) (.v 1)) (.li (.a (.v 0) (.c 1)) (.t (.v 0))))) (by kernel_rfl)
theorem om1 : ∀ {x0 x1 : Nat}, x1 < x0 → (x0 - 1) / 2 < x0 := fun {x0 x1} => Lin.use [x0, x1, x0 - 1, (x0 - 1) / 2] [] (.imp (.or (.and (.ln (.c 1) (.v 0)) (.en (.a (.v 2) (.c 1)) (.v 0))) (.and (.ln (.v 0) (.c 1)) (.en (.v 2) (.c 0)))) (.imp (.and (.ln (.m 2 (.v 3)) (.v 2)) (.ln (.a (.v 2) (.c 1)) (.a (.m 2 (.v 3)) (.c 2)))) (.imp (.ln (.a (.v 1) (.c 1)) (.v 0)) (.ln (.a (.v 3) (.c 1)) (.v 0))))) (by kernel_rfl) (Lin.sub_f (x0) (1)) (Lin.div_f (x0 - 1) 2 (by decide))
theorem om2 : ∀ {x0 : Nat}, 0 ≤ (↑x0 : Int) := fun {x0} => Lin.use [x0] [] (.li (.c 0) (.t (.v 0))) (by kernel_rfl)
theorem om3 : ∀ {x0 x1 : Nat}, x0 < x1 → x1 < 1000 → (↑x0 : Int) < 2 ^ 63 := fun {x0 x1} => Lin.use [x0, x1] [] (.imp (.ln (.a (.v 0) (.c 1)) (.v 1)) (.imp (.ln (.a (.v 1) (.c 1)) (.c 1000)) (.li (.a (.t (.v 0)) (.c 1)) (.c 9223372036854775808)))) (by kernel_rfl)
theorem om4 : ∀ {x0 x1 : Nat}, x0 < x1 → (↑x0 : Int) < (↑x1 : Int) := fun {x0 x1} => Lin.use [x0, x1] [] (.imp (.ln (.a (.v 0) (.c 1)) (.v 1)) (.li (.a (.t (.v 0)) (.c 1)) (.t (.v 1)))) (by kernel_rfl)
theorem om7 : ∀ {x0 : Nat}, 0 ≤ (↑((x0 - 1) / 2) : Int) := fun {x0} => Lin.use [x0, x0 - 1, (x0 - 1) / 2] [] (.imp (.or (.and (.ln (.c 1) (.v 0)) (.en (.a (.v 1) (.c 1)) (.v 0))) (.and (.ln (.v 0) (.c 1)) (.en (.v 1) (.c 0)))) (.imp (.and (.ln (.m 2 (.v 2)) (.v 1)) (.ln (.a (.v 1) (.c 1)) (.a (.m 2 (.v 2)) (.c 2)))) (.li (.c 0) (.t (.v 2))))) (by kernel_rfl) (Lin.sub_f (x0) (1)) (Lin.div_f (x0 - 1) 2 (by decide))
theorem om8 : ∀ {x0 x1 x2 x3 : Nat}, x2 < x3 → x0 ≤ x2 → x1 = x3 → (↑((x0 - 1) / 2) : Int) < (↑x1 : Int) := fun {x0 x1 x2 x3} => Lin.use [x0, x1, x2, x3, x0 - 1, (x0 - 1) / 2] [] (.imp (.or (.and (.ln (.c 1) (.v 0)) (.en (.a (.v 4) (.c 1)) (.v 0))) (.and (.ln (.v 0) (.c 1)) (.en (.v 4) (.c 0)))) (.imp (.and (.ln (.m 2 (.v 5)) (.v 4)) (.ln (.a (.v 4) (.c 1)) (.a (.m 2 (.v 5)) (.c 2)))) (.imp (.ln (.a (.v 2) (.c 1)) (.v 3)) (.imp (.ln (.v 0) (.v 2)) (.imp (.en (.v 1) (.v 3)) (.li (.a (.t (.v 5)) (.c 1)) (.t (.v 1)))))))) (by kernel_rfl) (Lin.sub_f (x0) (1)) (Lin.div_f (x0 - 1) 2 (by decide))
theorem om9 : ∀ {x0 x1 x2 : Nat}, x1 < x2 → x2 < 1000 → x0 ≤ x1 → (↑((x0 - 1) / 2) : Int) < 2 ^ 63 := fun {x0 x1 x2} => Lin.use [x0, x1, x2, x0 - 1, (x0 - 1) / 2] [] (.imp (.or (.and (.ln (.c 1) (.v 0)) (.en (.a (.v 3) (.c 1)) (.v 0))) (.and (.ln (.v 0) (.c 1)) (.en (.v 3) (.c 0)))) (.imp (.and (.ln (.m 2 (.v 4)) (.v 3)) (.ln (.a (.v 3) (.c 1)) (.a (.m 2 (.v 4)) (.c 2)))) (.imp (.ln (.a (.v 1) (.c 1)) (.v 2)) (.imp (.ln (.a (.v 2) (.c 1)) (.c 1000)) (.imp (.ln (.v 0) (.v 1)) (.li (.a (.t (.v 4)) (.c 1)) (.c 9223372036854775808))))))) (by kernel_rfl) (Lin.sub_f (x0) (1)) (Lin.div_f (x0 - 1) 2 (by decide))
theorem om10 : ∀ {x0 x1 x2 x3 : Nat}, x2 < x3 → x0 ≤ x2 → x1 = x3 → (x0 - 1) / 2 < x1 := fun {x0 x1 x2 x3} => Lin.use [x0, x1, x2, x3, x0 - 1, (x0 - 1) / 2] [] (.imp (.or (.and (.ln (.c 1) (.v 0)) (.en (.a (.v 4) (.c 1)) (.v 0))) (.and (.ln (.v 0) (.c 1)) (.en (.v 4) (.c 0)))) (.imp (.and (.ln (.m 2 (.v 5)) (.v 4)) (.ln (.a (.v 4) (.c 1)) (.a (.m 2 (.v 5)) (.c 2)))) (.imp (.ln (.a (.v 2) (.c 1)) (.v 3)) (.imp (.ln (.v 0) (.v 2)) (.imp (.en (.v 1) (.v 3)) (.ln (.a (.v 5) (.c 1)) (.v 1))))))) (by kernel_rfl) (Lin.sub_f (x0) (1)) (Lin.div_f (x0 - 1) 2 (by decide))
theorem om11 : ∀ {x0 x1 : Nat}, (↑x1 : Int) < (↑x0 : Int) → (x0 - 1) / 2 < x0 := fun {x0 x1} => Lin.use [x0, x1, x0 - 1, (x0 - 1) / 2] [] (.imp (.or (.and (.ln (.c 1) (.v 0)) (.en (.a (.v 2) (.c 1)) (.v 0))) (.and (.ln (.v 0) (.c 1)) (.en (.v 2) (.c 0)))) (.imp (.and (.ln (.m 2 (.v 3)) (.v 2)) (.ln (.a (.v 2) (.c 1)) (.a (.m 2 (.v 3)) (.c 2)))) (.imp (.li (.a (.t (.v 1)) (.c 1)) (.t (.v 0))) (.ln (.a (.v 3) (.c 1)) (.v 0))))) (by kernel_rfl) (Lin.sub_f (x0) (1)) (Lin.div_f (x0 - 1) 2 (by decide))
theorem om12 : ∀ {x0 x1 x2 : Nat}, x0 ≤ x1 → (↑x2 : Int) < (↑x0 : Int) → (x0 - 1) / 2 < x1 := fun {x0 x1 x2} => Lin.use [x0, x1, x2, x0 - 1, (x0 - 1) / 2] [] (.imp (.or (.and (.ln (.c 1) (.v 0)) (.en (.a (.v 3) (.c 1)) (.v 0))) (.and (.ln (.v 0) (.c 1)) (.en (.v 3) (.c 0)))) (.imp (.and (.ln (.m 2 (.v 4)) (.v 3)) (.ln (.a (.v 3) (.c 1)) (.a (.m 2 (.v 4)) (.c 2)))) (.imp (.ln (.v 0) (.v 1)) (.imp (.li (.a (.t (.v 2)) (.c 1)) (.t (.v 0))) (.ln (.a (.v 4) (.c 1)) (.v 1)))))) (by kernel_rfl) (Lin.sub_f (x0) (1)) (Lin.div_f (x0 - 1) 2 (by decide))
theorem om13 : ∀ {x0 x1 : Nat}, x0 + 20 < x1 → x0 + 3 < x1 := fun {x0 x1} => Lin.use [x0, x1] [] (.imp (.ln (.a (.a (.v 0) (.c 20)) (.c 1)) (.v 1)) (.ln (.a (.a (.v 0) (.c 3)) (.c 1)) (.v 1))) (by kernel_rfl)
theorem om14 : ∀ {x0 x1 x2 x3 : Nat}, x2 < x3 → x0 ≤ x2 → x1 = x3 → (↑x0 : Int) < (↑x1 : Int) := fun {x0 x1 x2 x3} => Lin.use [x0, x1, x2, x3] [] (.imp (.ln (.a (.v 2) (.c 1)) (.v 3)) (.imp (.ln (.v 0) (.v 2)) (.imp (.en (.v 1) (.v 3)) (.li (.a (.t (.v 0)) (.c 1)) (.t (.v 1)))))) (by kernel_rfl)
theorem om15 : ∀ {x0 x1 x2 : Nat}, x1 < x2 → x2 < 1000 → x0 ≤ x1 → (↑x0 : Int) < 2 ^ 63 := fun {x0 x1 x2} => Lin.use [x0, x1, x2] [] (.imp (.ln (.a (.v 1) (.c 1)) (.v 2)) (.imp (.ln (.a (.v 2) (.c 1)) (.c 1000)) (.imp (.ln (.v 0) (.v 1)) (.li (.a (.t (.v 0)) (.c 1)) (.c 9223372036854775808))))) (by kernel_rfl)
theorem om16 : ∀ {x0 x1 : Nat}, x0 ≤ x1 → (x0 - 1) / 2 ≤ x1 := fun {x0 x1} => Lin.use [x0, x1, x0 - 1, (x0 - 1) / 2] [] (.imp (.or (.and (.ln (.c 1) (.v 0)) (.en (.a (.v 2) (.c 1)) (.v 0))) (.and (.ln (.v 0) (.c 1)) (.en (.v 2) (.c 0)))) (.imp (.and (.ln (.m 2 (.v 3)) (.v 2)) (.ln (.a (.v 2) (.c 1)) (.a (.m 2 (.v 3)) (.c 2)))) (.imp (.ln (.v 0) (.v 1)) (.ln (.v 3) (.v 1))))) (by kernel_rfl) (Lin.sub_f (x0) (1)) (Lin.div_f (x0 - 1) 2 (by decide))
theorem om17 : ∀ {x0 x1 : Nat}, x1 < (x0 - 1) / 2 → x0 ≠ x1 := fun {x0 x1} => Lin.use [x0, x1, x0 - 1, (x0 - 1) / 2] [] (.imp (.or (.and (.ln (.c 1) (.v 0)) (.en (.a (.v 2) (.c 1)) (.v 0))) (.and (.ln (.v 0) (.c 1)) (.en (.v 2) (.c 0)))) (.imp (.and (.ln (.m 2 (.v 3)) (.v 2)) (.ln (.a (.v 2) (.c 1)) (.a (.m 2 (.v 3)) (.c 2)))) (.imp (.ln (.a (.v 1) (.c 1)) (.v 3)) (.not (.en (.v 0) (.v 1)))))) (by kernel_rfl) (Lin.sub_f (x0) (1)) (Lin.div_f (x0 - 1) 2 (by decide))
theorem om18 : ∀ {x0 x1 : Nat}, x0 < (x1 - 1) / 2 → x0 < x1 := fun {x0 x1} => Lin.use [x0, x1, x1 - 1, (x1 - 1) / 2] [] (.imp (.or (.and (.ln (.c 1) (.v 1)) (.en (.a (.v 2) (.c 1)) (.v 1))) (.and (.ln (.v 1) (.c 1)) (.en (.v 2) (.c 0)))) (.imp (.and (.ln (.m 2 (.v 3)) (.v 2)) (.ln (.a (.v 2) (.c 1)) (.a (.m 2 (.v 3)) (.c 2)))) (.imp (.ln (.a (.v 0) (.c 1)) (.v 3)) (.ln (.a (.v 0) (.c 1)) (.v 1))))) (by kernel_rfl) (Lin.sub_f (x1) (1)) (Lin.div_f (x1 - 1) 2 (by decide))
theorem om19 : ∀ {x0 x1 : Nat}, ¬(↑x0 : Int) < (↑x1 : Int) → ¬x0 < x1 := fun {x0 x1} => Lin.use [x0, x1] [] (.imp (.not (.li (.a (.t (.v 0)) (.c 1)) (.t (.v 1)))) (.not (.ln (.a (.v 0) (.c 1)) (.v 1)))) (by kernel_rfl)
theorem om20 : ∀ {x0 : Nat}, x0 ≤ x0 + 1 := fun {x0} => Lin.use [x0] [] (.ln (.v 0) (.a (.v 0) (.c 1))) (by kernel_rfl)
theorem om21 : ∀ {x0 : Nat}, x0 ≤ x0 := fun {x0} => Lin.use [x0] [] (.ln (.v 0) (.v 0)) (by kernel_rfl)
theorem om22 : ∀ {x0 x1 : Nat}, x0 < x1 → x0 < x1 := fun {x0 x1} => Lin.use [x0, x1] [] (.imp (.ln (.a (.v 0) (.c 1)) (.v 1)) (.ln (.a (.v 0) (.c 1)) (.v 1))) (by kernel_rfl)
theorem om23 : ∀ {x0 x1 x2 : Nat}, 2 * x2 + 1 < x0 → 2 * x2 + 1 ≤ x1 → x0 - x1 < x0 - x2 := fun {x0 x1 x2} => Lin.use [x0, x1, x2, x0 - x1, x0 - x2] [] (.imp (.or (.and (.ln (.v 1) (.v 0)) (.en (.a (.v 3) (.v 1)) (.v 0))) (.and (.ln (.v 0) (.v 1)) (.en (.v 3) (.c 0)))) (.imp (.or (.and (.ln (.v 2) (.v 0)) (.en (.a (.v 4) (.v 2)) (.v 0))) (.and (.ln (.v 0) (.v 2)) (.en (.v 4) (.c 0)))) (.imp (.ln (.a (.a (.m 2 (.v 2)) (.c 1)) (.c 1)) (.v 0)) (.imp (.ln (.a (.m 2 (.v 2)) (.c 1)) (.v 1)) (.ln (.a (.v 3) (.c 1)) (.v 4)))))) (by kernel_rfl) (Lin.sub_f (x0) (x1)) (Lin.sub_f (x0) (x2))
theorem om24 : ∀ {x0 x1 x2 : Nat}, 2 * x0 + 1 < x2 → x1 = x2 → 2 * x0 + 1 < x1 := fun {x0 x1 x2} => Lin.use [x0, x1, x2] [] (.imp (.ln (.a (.a (.m 2 (.v 0)) (.c 1)) (.c 1)) (.v 2)) (.imp (.en (.v 1) (.v 2)) (.ln (.a (.a (.m 2 (.v 0)) (.c 1)) (.c 1)) (.v 1)))) (by kernel_rfl)
theorem om25 : ∀ {x0 x1 x2 : Nat}, x2 = x1 → x0 < x2 → x0 < x1 := fun {x0 x1 x2} => Lin.use [x0, x1, x2] [] (.imp (.en (.v 2) (.v 1)) (.imp (.ln (.a (.v 0) (.c 1)) (.v 2)) (.ln (.a (.v 0) (.c 1)) (.v 1)))) (by kernel_rfl)
theorem om26 : ∀ {x0 x1 x2 : Nat}, 2 * x0 + 1 ≤ x2 → x2 < x1 → x0 ≠ x1 := fun {x0 x1 x2} => Lin.use [x0, x1, x2] [] (.imp (.ln (.a (.m 2 (.v 0)) (.c 1)) (.v 2)) (.imp (.ln (.a (.v 2) (.c 1)) (.v 1)) (.not (.en (.v 0) (.v 1))))) (by kernel_rfl)
theorem om27 : ∀ {x0 x1 x2 : Nat}, 2 * x0 + 1 ≤ x2 → x2 < x1 → x0 < x1 := fun {x0 x1 x2} => Lin.use [x0, x1, x2] [] (.imp (.ln (.a (.m 2 (.v 0)) (.c 1)) (.v 2)) (.imp (.ln (.a (.v 2) (.c 1)) (.v 1)) (.ln (.a (.v 0) (.c 1)) (.v 1)))) (by kernel_rfl)
theorem om28 : ∀ {x0 x1 x2 : Nat}, x1 = x2 → x0 < x2 → x0 < x1 := fun {x0 x1 x2} => Lin.use [x0, x1, x2] [] (.imp (.en (.v 1) (.v 2)) (.imp (.ln (.a (.v 0) (.c 1)) (.v 2)) (.ln (.a (.v 0) (.c 1)) (.v 1)))) (by kernel_rfl)
theorem om29 : ∀ {x0 x1 : Nat}, 2 * x1 + 1 ≤ x0 → x0 ≠ x1 := fun {x0 x1} => Lin.use [x0, x1] [] (.imp (.ln (.a (.m 2 (.v 1)) (.c 1)) (.v 0)) (.not (.en (.v 0) (.v 1)))) (by kernel_rfl)
theorem om30 : ∀ {x0 x1 : Nat}, ¬x1 = x0 → x0 ≠ x1 := fun {x0 x1} => Lin.use [x0, x1] [] (.imp (.not (.en (.v 1) (.v 0))) (.not (.en (.v 0) (.v 1)))) (by kernel_rfl)
theorem om31 : ∀ {x0 x1 : Nat}, x0 + 1 < x1 → x0 < x1 := fun {x0 x1} => Lin.use [x0, x1] [] (.imp (.ln (.a (.a (.v 0) (.c 1)) (.c 1)) (.v 1)) (.ln (.a (.v 0) (.c 1)) (.v 1))) (by kernel_rfl)
theorem om32 : ∀ {x0 : Nat}, x0 < 1000 → (↑x0 : Int) < 2 ^ 63 := fun {x0} => Lin.use [x0] [] (.imp (.ln (.a (.v 0) (.c 1)) (.c 1000)) (.li (.a (.t (.v 0)) (.c 1)) (.c 9223372036854775808))) (by kernel_rfl)
theorem om33 : ∀ {x0 x1 : Nat}, 2 * (↑x0 : Int) + 1 < (↑x1 : Int) → 2 * x0 + 1 < x1 := fun {x0 x1} => Lin.use [x0, x1] [] (.imp (.li (.a (.a (.m 2 (.t (.v 0))) (.c 1)) (.c 1)) (.t (.v 1))) (.ln (.a (.a (.m 2 (.v 0)) (.c 1)) (.c 1)) (.v 1))) (by kernel_rfl)
theorem om34 : ∀ {x0 : Nat}, 0 ≤ 2 * (↑x0 : Int) + 1 := fun {x0} => Lin.use [x0] [] (.li (.c 0) (.a (.m 2 (.t (.v 0))) (.c 1))) (by kernel_rfl)
theorem om35 : ∀ {x0 x1 : Nat}, x1 < 1000 → 2 * (↑x0 : Int) + 1 + 1 < (↑x1 : Int) → 2 * (↑x0 : Int) + 1 < 2 ^ 63 := fun {x0 x1} => Lin.use [x0, x1] [] (.imp (.ln (.a (.v 1) (.c 1)) (.c 1000)) (.imp (.li (.a (.a (.a (.m 2 (.t (.v 0))) (.c 1)) (.c 1)) (.c 1)) (.t (.v 1))) (.li (.a (.a (.m 2 (.t (.v 0))) (.c 1)) (.c 1)) (.c 9223372036854775808)))) (by kernel_rfl)
theorem om36 : ∀ {x0 x1 : Nat}, x1 < 1000 → 2 * (↑x0 : Int) + 1 < (↑x1 : Int) → 2 * (↑x0 : Int) + 1 < 2 ^ 63 := fun {x0 x1} => Lin.use [x0, x1] [] (.imp (.ln (.a (.v 1) (.c 1)) (.c 1000)) (.imp (.li (.a (.a (.m 2 (.t (.v 0))) (.c 1)) (.c 1)) (.t (.v 1))) (.li (.a (.a (.m 2 (.t (.v 0))) (.c 1)) (.c 1)) (.c 9223372036854775808)))) (by kernel_rfl)
theorem om37 : ∀ {x0 x1 x2 : Nat}, x1 = x2 → 2 * (↑x0 : Int) + 1 + 1 < (↑x2 : Int) → 2 * (↑x0 : Int) + 1 < (↑x1 : Int) := fun {x0 x1 x2} => Lin.use [x0, x1, x2] [] (.imp (.en (.v 1) (.v 2)) (.imp (.li (.a (.a (.a (.m 2 (.t (.v 0))) (.c 1)) (.c 1)) (.c 1)) (.t (.v 2))) (.li (.a (.a (.m 2 (.t (.v 0))) (.c 1)) (.c 1)) (.t (.v 1))))) (by kernel_rfl)
theorem om38 : ∀ {x0 : Nat}, 0 ≤ 2 * (↑x0 : Int) + 1 + 1 := fun {x0} => Lin.use [x0] [] (.li (.c 0) (.a (.a (.m 2 (.t (.v 0))) (.c 1)) (.c 1))) (by kernel_rfl)
theorem om39 : ∀ {x0 x1 : Nat}, x1 < 1000 → 2 * (↑x0 : Int) + 1 + 1 < (↑x1 : Int) → 2 * (↑x0 : Int) + 1 + 1 < 2 ^ 63 := fun {x0 x1} => Lin.use [x0, x1] [] (.imp (.ln (.a (.v 1) (.c 1)) (.c 1000)) (.imp (.li (.a (.a (.a (.m 2 (.t (.v 0))) (.c 1)) (.c 1)) (.c 1)) (.t (.v 1))) (.li (.a (.a (.a (.m 2 (.t (.v 0))) (.c 1)) (.c 1)) (.c 1)) (.c 9223372036854775808)))) (by kernel_rfl)
theorem om40 : ∀ {x0 x1 x2 : Nat}, x1 = x2 → 2 * (↑x0 : Int) + 1 + 1 < (↑x2 : Int) → 2 * (↑x0 : Int) + 1 + 1 < (↑x1 : Int) := fun {x0 x1 x2} => Lin.use [x0, x1, x2] [] (.imp (.en (.v 1) (.v 2)) (.imp (.li (.a (.a (.a (.m 2 (.t (.v 0))) (.c 1)) (.c 1)) (.c 1)) (.t (.v 2))) (.li (.a (.a (.a (.m 2 (.t (.v 0))) (.c 1)) (.c 1)) (.c 1)) (.t (.v 1))))) (by kernel_rfl)
theorem om41 : ∀ {x0 x1 x2 : Nat}, x1 = x2 → 2 * (↑x0 : Int) + 1 + 1 < (↑x2 : Int) → 2 * x0 + 1 < x1 := fun {x0 x1 x2} => Lin.use [x0, x1, x2] [] (.imp (.en (.v 1) (.v 2)) (.imp (.li (.a (.a (.a (.m 2 (.t (.v 0))) (.c 1)) (.c 1)) (.c 1)) (.t (.v 2))) (.ln (.a (.a (.m 2 (.v 0)) (.c 1)) (.c 1)) (.v 1)))) (by kernel_rfl)
theorem om42 : ∀ {x0 x1 x2 : Nat}, x1 = x2 → 2 * (↑x0 : Int) + 1 + 1 < (↑x2 : Int) → 2 * x0 + 1 + 1 < x1 := fun {x0 x1 x2} => Lin.use [x0, x1, x2] [] (.imp (.en (.v 1) (.v 2)) (.imp (.li (.a (.a (.a (.m 2 (.t (.v 0))) (.c 1)) (.c 1)) (.c 1)) (.t (.v 2))) (.ln (.a (.a (.a (.m 2 (.v 0)) (.c 1)) (.c 1)) (.c 1)) (.v 1)))) (by kernel_rfl)
theorem om43 : ∀ {x0 : Nat}, x0 < 2 * x0 + 1 := fun {x0} => Lin.use [x0] [] (.ln (.a (.v 0) (.c 1)) (.a (.m 2 (.v 0)) (.c 1))) (by kernel_rfl)
theorem om44 : ∀ {x0 : Nat}, x0 < 2 * x0 + 1 + 1 := fun {x0} => Lin.use [x0] [] (.ln (.a (.v 0) (.c 1)) (.a (.a (.m 2 (.v 0)) (.c 1)) (.c 1))) (by kernel_rfl)
theorem om45 : ∀ {x0 x1 : Nat}, 2 * (↑x0 : Int) + 1 + 1 < (↑x1 : Int) → 2 * x0 + 1 < x1 := fun {x0 x1} => Lin.use [x0, x1] [] (.imp (.li (.a (.a (.a (.m 2 (.t (.v 0))) (.c 1)) (.c 1)) (.c 1)) (.t (.v 1))) (.ln (.a (.a (.m 2 (.v 0)) (.c 1)) (.c 1)) (.v 1))) (by kernel_rfl)
theorem om46 : ∀ {x0 x1 : Nat}, 2 * (↑x0 : Int) + 1 + 1 < (↑x1 : Int) → 2 * x0 + 1 + 1 < x1 := fun {x0 x1} => Lin.use [x0, x1] [] (.imp (.li (.a (.a (.a (.m 2 (.t (.v 0))) (.c 1)) (.c 1)) (.c 1)) (.t (.v 1))) (.ln (.a (.a (.a (.m 2 (.v 0)) (.c 1)) (.c 1)) (.c 1)) (.v 1))) (by kernel_rfl)
theorem om47 : ∀ {x0 : Nat}, 2 * x0 + 1 ≠ 2 * x0 + 1 + 1 := fun {x0} => Lin.use [x0] [] (.not (.en (.a (.m 2 (.v 0)) (.c 1)) (.a (.a (.m 2 (.v 0)) (.c 1)) (.c 1)))) (by kernel_rfl)
theorem om48 : ∀ {x0 x1 : Nat}, x0 + 30 < x1 → x0 + 3 < x1 := fun {x0 x1} => Lin.use [x0, x1] [] (.imp (.ln (.a (.a (.v 0) (.c 30)) (.c 1)) (.v 1)) (.ln (.a (.a (.v 0) (.c 3)) (.c 1)) (.v 1))) (by kernel_rfl)
theorem om49 : ∀ {x0 x1 x2 : Nat}, x0 < x2 → x1 = x2 → (↑x0 : Int) < (↑x1 : Int) := fun {x0 x1 x2} => Lin.use [x0, x1, x2] [] (.imp (.ln (.a (.v 0) (.c 1)) (.v 2)) (.imp (.en (.v 1) (.v 2)) (.li (.a (.t (.v 0)) (.c 1)) (.t (.v 1))))) (by kernel_rfl)
theorem om50 : ∀ {x0 x1 : Nat}, x1 < 1000 → 2 * (↑x0 : Int) + 1 + 1 < (↑x1 : Int) → (↑x0 : Int) < 2 ^ 63 := fun {x0 x1} => Lin.use [x0, x1] [] (.imp (.ln (.a (.v 1) (.c 1)) (.c 1000)) (.imp (.li (.a (.a (.a (.m 2 (.t (.v 0))) (.c 1)) (.c 1)) (.c 1)) (.t (.v 1))) (.li (.a (.t (.v 0)) (.c 1)) (.c 9223372036854775808)))) (by kernel_rfl)
theorem om51 : ∀ {x0 x1 : Nat}, x1 < x0 → x0 - (2 * x1 + 1) < x0 - x1 := fun {x0 x1} => Lin.use [x0, x1, x0 - (2 * x1 + 1), x0 - x1] [] (.imp (.or (.and (.ln (.a (.m 2 (.v 1)) (.c 1)) (.v 0)) (.en (.a (.v 2) (.a (.m 2 (.v 1)) (.c 1))) (.v 0))) (.and (.ln (.v 0) (.a (.m 2 (.v 1)) (.c 1))) (.en (.v 2) (.c 0)))) (.imp (.or (.and (.ln (.v 1) (.v 0)) (.en (.a (.v 3) (.v 1)) (.v 0))) (.and (.ln (.v 0) (.v 1)) (.en (.v 3) (.c 0)))) (.imp (.ln (.a (.v 1) (.c 1)) (.v 0)) (.ln (.a (.v 2) (.c 1)) (.v 3))))) (by kernel_rfl) (Lin.sub_f (x0) (2 * x1 + 1)) (Lin.sub_f (x0) (x1))
theorem om52 : ∀ {x0 x1 : Nat}, x1 < x0 → x0 - (2 * x1 + 1 + 1) < x0 - x1 := fun {x0 x1} => Lin.use [x0, x1, x0 - (2 * x1 + 1 + 1), x0 - x1] [] (.imp (.or (.and (.ln (.a (.a (.m 2 (.v 1)) (.c 1)) (.c 1)) (.v 0)) (.en (.a (.v 2) (.a (.a (.m 2 (.v 1)) (.c 1)) (.c 1))) (.v 0))) (.and (.ln (.v 0) (.a (.a (.m 2 (.v 1)) (.c 1)) (.c 1))) (.en (.v 2) (.c 0)))) (.imp (.or (.and (.ln (.v 1) (.v 0)) (.en (.a (.v 3) (.v 1)) (.v 0))) (.and (.ln (.v 0) (.v 1)) (.en (.v 3) (.c 0)))) (.imp (.ln (.a (.v 1) (.c 1)) (.v 0)) (.ln (.a (.v 2) (.c 1)) (.v 3))))) (by kernel_rfl) (Lin.sub_f (x0) (2 * x1 + 1 + 1)) (Lin.sub_f (x0) (x1))
theorem om53 : ∀ {x0 x1 x2 : Nat}, x1 = x2 → 2 * (↑x0 : Int) + 1 < (↑x2 : Int) → 2 * (↑x0 : Int) + 1 < (↑x1 : Int) := fun {x0 x1 x2} => Lin.use [x0, x1, x2] [] (.imp (.en (.v 1) (.v 2)) (.imp (.li (.a (.a (.m 2 (.t (.v 0))) (.c 1)) (.c 1)) (.t (.v 2))) (.li (.a (.a (.m 2 (.t (.v 0))) (.c 1)) (.c 1)) (.t (.v 1))))) (by kernel_rfl)
theorem om54 : ∀ {x0 x1 x2 : Nat}, x1 = x2 → 2 * (↑x0 : Int) + 1 < (↑x2 : Int) → (↑x0 : Int) < (↑x1 : Int) := fun {x0 x1 x2} => Lin.use [x0, x1, x2] [] (.imp (.en (.v 1) (.v 2)) (.imp (.li (.a (.a (.m 2 (.t (.v 0))) (.c 1)) (.c 1)) (.t (.v 2))) (.li (.a (.t (.v 0)) (.c 1)) (.t (.v 1))))) (by kernel_rfl)
theorem om55 : ∀ {x0 x1 : Nat}, x1 < 1000 → 2 * (↑x0 : Int) + 1 < (↑x1 : Int) → (↑x0 : Int) < 2 ^ 63 := fun {x0 x1} => Lin.use [x0, x1] [] (.imp (.ln (.a (.v 1) (.c 1)) (.c 1000)) (.imp (.li (.a (.a (.m 2 (.t (.v 0))) (.c 1)) (.c 1)) (.t (.v 1))) (.li (.a (.t (.v 0)) (.c 1)) (.c 9223372036854775808)))) (by kernel_rfl)
theorem om56 : ∀ {x0 x1 : Nat}, 2 * (↑x1 : Int) + 1 < (↑x0 : Int) → x0 - (2 * x1 + 1) < x0 - x1 := fun {x0 x1} => Lin.use [x0, x1, x0 - (2 * x1 + 1), x0 - x1] [] (.imp (.or (.and (.ln (.a (.m 2 (.v 1)) (.c 1)) (.v 0)) (.en (.a (.v 2) (.a (.m 2 (.v 1)) (.c 1))) (.v 0))) (.and (.ln (.v 0) (.a (.m 2 (.v 1)) (.c 1))) (.en (.v 2) (.c 0)))) (.imp (.or (.and (.ln (.v 1) (.v 0)) (.en (.a (.v 3) (.v 1)) (.v 0))) (.and (.ln (.v 0) (.v 1)) (.en (.v 3) (.c 0)))) (.imp (.li (.a (.a (.m 2 (.t (.v 1))) (.c 1)) (.c 1)) (.t (.v 0))) (.ln (.a (.v 2) (.c 1)) (.v 3))))) (by kernel_rfl) (Lin.sub_f (x0) (2 * x1 + 1)) (Lin.sub_f (x0) (x1))
theorem om57 : ∀ {x0 x1 : Nat}, x1 < 1000 → x0 < x1 → (↑x0 : Int) < 2 ^ 63 := fun {x0 x1} => Lin.use [x0, x1] [] (.imp (.ln (.a (.v 1) (.c 1)) (.c 1000)) (.imp (.ln (.a (.v 0) (.c 1)) (.v 1)) (.li (.a (.t (.v 0)) (.c 1)) (.c 9223372036854775808)))) (by kernel_rfl)
theorem om58 : ∀ {x0 x1 x2 : Nat}, x1 = x2 → ¬2 * (↑x0 : Int) + 1 < (↑x2 : Int) → ¬2 * x0 + 1 < x1 := fun {x0 x1 x2} => Lin.use [x0, x1, x2] [] (.imp (.en (.v 1) (.v 2)) (.imp (.not (.li (.a (.a (.m 2 (.t (.v 0))) (.c 1)) (.c 1)) (.t (.v 2)))) (.not (.ln (.a (.a (.m 2 (.v 0)) (.c 1)) (.c 1)) (.v 1))))) (by kernel_rfl)
theorem om59 : ∀ {x0 x1 x2 : Nat}, x0 < x2 → x1 = x2 → x0 < x1 := fun {x0 x1 x2} => Lin.use [x0, x1, x2] [] (.imp (.ln (.a (.v 0) (.c 1)) (.v 2)) (.imp (.en (.v 1) (.v 2)) (.ln (.a (.v 0) (.c 1)) (.v 1)))) (by kernel_rfl)
theorem om60 : ∀ {x0 x1 : Nat}, x0 + 30 < x1 → x0 + 3 + 20 < x1 := fun {x0 x1} => Lin.use [x0, x1] [] (.imp (.ln (.a (.a (.v 0) (.c 30)) (.c 1)) (.v 1)) (.ln (.a (.a (.a (.v 0) (.c 3)) (.c 20)) (.c 1)) (.v 1))) (by kernel_rfl)
theorem om61 : ∀ {x0 x1 : Nat}, x1 < 1000 → x0 = x1 → x0 < 1000 := fun {x0 x1} => Lin.use [x0, x1] [] (.imp (.ln (.a (.v 1) (.c 1)) (.c 1000)) (.imp (.en (.v 0) (.v 1)) (.ln (.a (.v 0) (.c 1)) (.c 1000)))) (by kernel_rfl)
theorem om62 : ∀ {x0 x1 : Nat}, x1 < x0 → x0 ≠ x1 := fun {x0 x1} => Lin.use [x0, x1] [] (.imp (.ln (.a (.v 1) (.c 1)) (.v 0)) (.not (.en (.v 0) (.v 1)))) (by kernel_rfl)
theorem om63 : ∀ {x0 x1 : Nat}, x0 < x1 → x0 ≠ x1 := fun {x0 x1} => Lin.use [x0, x1] [] (.imp (.ln (.a (.v 0) (.c 1)) (.v 1)) (.not (.en (.v 0) (.v 1)))) (by kernel_rfl)
theorem om64 : ∀ {x0 x1 x2 : Nat}, x2 < x1 → x0 < x2 → x0 < x1 := fun {x0 x1 x2} => Lin.use [x0, x1, x2] [] (.imp (.ln (.a (.v 2) (.c 1)) (.v 1)) (.imp (.ln (.a (.v 0) (.c 1)) (.v 2)) (.ln (.a (.v 0) (.c 1)) (.v 1)))) (by kernel_rfl)
theorem om65 : ∀ {x0 : Nat}, x0 < 1000 → x0 ≤ 16777216 := fun {x0} => Lin.use [x0] [] (.imp (.ln (.a (.v 0) (.c 1)) (.c 1000)) (.ln (.v 0) (.c 16777216))) (by kernel_rfl)
theorem om66 : ∀ {x0 : Nat}, x0 < 1000 → x0 ≤ 16777215 := fun {x0} => Lin.use [x0] [] (.imp (.ln (.a (.v 0) (.c 1)) (.c 1000)) (.ln (.v 0) (.c 16777215))) (by kernel_rfl)
theorem om68 : ∀ {x0 : Nat}, x0 < 900 → x0 < 1000 := fun {x0} => Lin.use [x0] [] (.imp (.ln (.a (.v 0) (.c 1)) (.c 900)) (.ln (.a (.v 0) (.c 1)) (.c 1000))) (by kernel_rfl)
theorem om69 : ∀ {x0 : Nat}, x0 < 900 → (↑x0 : Int) + 1 < 9223372036854775808 := fun {x0} => Lin.use [x0] [] (.imp (.ln (.a (.v 0) (.c 1)) (.c 900)) (.li (.a (.a (.t (.v 0)) (.c 1)) (.c 1)) (.c 9223372036854775808))) (by kernel_rfl)
theorem om70 : ∀ {x0 : Nat}, x0 < 900 → x0 + 1 < 1000 := fun {x0} => Lin.use [x0] [] (.imp (.ln (.a (.v 0) (.c 1)) (.c 900)) (.ln (.a (.a (.v 0) (.c 1)) (.c 1)) (.c 1000))) (by kernel_rfl)
theorem om71 : ∀ {x0 x1 : Nat}, x0 + 2 < x1 → x0 < x1 := fun {x0 x1} => Lin.use [x0, x1] [] (.imp (.ln (.a (.a (.v 0) (.c 2)) (.c 1)) (.v 1)) (.ln (.a (.v 0) (.c 1)) (.v 1))) (by kernel_rfl)
theorem om72 : ∀ {x0 : Nat}, 0 < x0 → 0 < (↑x0 : Int) := fun {x0} => Lin.use [x0] [] (.imp (.ln (.a (.c 0) (.c 1)) (.v 0)) (.li (.a (.c 0) (.c 1)) (.t (.v 0)))) (by kernel_rfl)
theorem om73 : ∀ {x0 x1 : Nat}, x0 + 40 < x1 → x0 + 3 + 30 < x1 := fun {x0 x1} => Lin.use [x0, x1] [] (.imp (.ln (.a (.a (.v 0) (.c 40)) (.c 1)) (.v 1)) (.ln (.a (.a (.a (.v 0) (.c 3)) (.c 30)) (.c 1)) (.v 1))) (by kernel_rfl)
theorem om75 : ∀ {x0 : Nat}, x0 + 1 < 900 → x0 + 1 < 1000 := fun {x0} => Lin.use [x0] [] (.imp (.ln (.a (.a (.v 0) (.c 1)) (.c 1)) (.c 900)) (.ln (.a (.a (.v 0) (.c 1)) (.c 1)) (.c 1000))) (by kernel_rfl)
theorem om76 : ∀ {x0 : Nat}, x0 + 1 < x0 + 1 + (0 + 1) := fun {x0} => Lin.use [x0] [] (.ln (.a (.a (.v 0) (.c 1)) (.c 1)) (.a (.a (.v 0) (.c 1)) (.a (.c 0) (.c 1)))) (by kernel_rfl)
theorem om77 : ∀ {x0 x1 : Nat}, x0 < x1 + 1 → x0 < x1 + 1 + (0 + 1) := fun {x0 x1} => Lin.use [x0, x1] [] (.imp (.ln (.a (.v 0) (.c 1)) (.a (.v 1) (.c 1))) (.ln (.a (.v 0) (.c 1)) (.a (.a (.v 1) (.c 1)) (.a (.c 0) (.c 1))))) (by kernel_rfl)
theorem om78 : ∀ {x0 x1 : Nat}, x1 < x0 + 1 → x0 + 1 ≠ x1 := fun {x0 x1} => Lin.use [x0, x1] [] (.imp (.ln (.a (.v 1) (.c 1)) (.a (.v 0) (.c 1))) (.not (.en (.a (.v 0) (.c 1)) (.v 1)))) (by kernel_rfl)
theorem om79 : ∀ {x0 x1 : Nat}, x0 < x1 + 1 → x0 ≠ x1 + 1 := fun {x0 x1} => Lin.use [x0, x1] [] (.imp (.ln (.a (.v 0) (.c 1)) (.a (.v 1) (.c 1))) (.not (.en (.v 0) (.a (.v 1) (.c 1))))) (by kernel_rfl)
theorem om80 : ∀ {x0 x1 : Nat}, x0 ≠ x1 → x0 ≠ x1 := fun {x0 x1} => Lin.use [x0, x1] [] (.imp (.not (.en (.v 0) (.v 1))) (.not (.en (.v 0) (.v 1)))) (by kernel_rfl)
theorem om81 : ∀ {x0 : Nat}, x0 < 1 → x0 = 0 := fun {x0} => Lin.use [x0] [] (.imp (.ln (.a (.v 0) (.c 1)) (.c 1)) (.en (.v 0) (.c 0))) (by kernel_rfl)
theorem om82 : ∀ {x0 x1 x2 : Int}, x0 + x1 + x2 = x0 + (x1 + x2) := fun {x0 x1 x2} => Lin.use [] [x0, x1, x2] (.ei (.a (.a (.v 0) (.v 1)) (.v 2)) (.a (.v 0) (.a (.v 1) (.v 2)))) (by kernel_rfl)
theorem om83 : ∀ {x0 x1 : Nat}, x0 + 1 < x1 + 1 → x0 < x1 := fun {x0 x1} => Lin.use [x0, x1] [] (.imp (.ln (.a (.a (.v 0) (.c 1)) (.c 1)) (.a (.v 1) (.c 1))) (.ln (.a (.v 0) (.c 1)) (.v 1))) (by kernel_rfl)
theorem om84 : ∀ {x0 : Nat}, x0 + 1 - 1 = x0 := fun {x0} => Lin.use [x0, x0 + 1 - 1] [] (.imp (.or (.and (.ln (.c 1) (.a (.v 0) (.c 1))) (.en (.a (.v 1) (.c 1)) (.a (.v 0) (.c 1)))) (.and (.ln (.a (.v 0) (.c 1)) (.c 1)) (.en (.v 1) (.c 0)))) (.en (.v 1) (.v 0))) (by kernel_rfl) (Lin.sub_f (x0 + 1) (1))
theorem om85 : ∀ {x0 : Nat}, 1 ≤ x0 + 1 := fun {x0} => Lin.use [x0] [] (.ln (.c 1) (.a (.v 0) (.c 1))) (by kernel_rfl)
theorem om86 : ∀ {x0 : Nat}, x0 < 2 ^ 40 → ¬(↑x0 : Int) ≥ 2 ^ 63 := fun {x0} => Lin.use [x0] [] (.imp (.ln (.a (.v 0) (.c 1)) (.c 1099511627776)) (.not (.li (.c 9223372036854775808) (.t (.v 0))))) (by kernel_rfl)
theorem om87 : ∀ {x0 x1 : Nat}, x0 + 1 ≤ x1 → x0 ≤ x1 := fun {x0 x1} => Lin.use [x0, x1] [] (.imp (.ln (.a (.v 0) (.c 1)) (.v 1)) (.ln (.v 0) (.v 1))) (by kernel_rfl)
theorem om88 : ∀ {x0 x1 : Nat}, x0 + 1 ≤ x1 → x0 < x1 := fun {x0 x1} => Lin.use [x0, x1] [] (.imp (.ln (.a (.v 0) (.c 1)) (.v 1)) (.ln (.a (.v 0) (.c 1)) (.v 1))) (by kernel_rfl)
theorem om90 : ∀ {x0 x1 : Nat}, x0 < 2 ^ 10 ∧ x1 < 2 ^ 10 → x0 + x1 ≤ 2048 := fun {x0 x1} => Lin.use [x0, x1] [] (.imp (.and (.ln (.a (.v 0) (.c 1)) (.c 1024)) (.ln (.a (.v 1) (.c 1)) (.c 1024))) (.ln (.a (.v 0) (.v 1)) (.c 2048))) (by kernel_rfl)
theorem om91 : ∀ {x0 : Nat}, x0 < 1000 → x0 + 1 ≤ 16777216 := fun {x0} => Lin.use [x0] [] (.imp (.ln (.a (.v 0) (.c 1)) (.c 1000)) (.ln (.a (.v 0) (.c 1)) (.c 16777216))) (by kernel_rfl)
theorem om92 : ∀ {x0 : Nat}, x0 < 1000 → x0 ≤ 16777216 + 1 := fun {x0} => Lin.use [x0] [] (.imp (.ln (.a (.v 0) (.c 1)) (.c 1000)) (.ln (.v 0) (.a (.c 16777216) (.c 1)))) (by kernel_rfl)
theorem om93 : ∀ {x0 : Nat}, x0 ≤ 1000 → x0 ≤ 16777216 + 1 := fun {x0} => Lin.use [x0] [] (.imp (.ln (.v 0) (.c 1000)) (.ln (.v 0) (.a (.c 16777216) (.c 1)))) (by kernel_rfl)
theorem om94 : ∀ {x0 : Int}, 0 ≤ x0 → ¬x0 < 0 := fun {x0} => Lin.use [] [x0] (.imp (.li (.c 0) (.v 0)) (.not (.li (.a (.v 0) (.c 1)) (.c 0)))) (by kernel_rfl)
theorem om95 : ∀ {x0 : Int}, x0 < 2 ^ 63 → ¬x0 ≥ 2 ^ 63 := fun {x0} => Lin.use [] [x0] (.imp (.li (.a (.v 0) (.c 1)) (.c 9223372036854775808)) (.not (.li (.c 9223372036854775808) (.v 0)))) (by kernel_rfl)
theorem om96 : ∀ {x0 x1 x2 x3 x4 x5 x6 : Nat}, x2 ≤ x3 → x4 + x5 ≤ x6 → x1 = x3 + x6 → x0 = x4 + x5 + x2 → x0 ≤ x1 := fun {x0 x1 x2 x3 x4 x5 x6} => Lin.use [x0, x1, x2, x3, x4, x5, x6] [] (.imp (.ln (.v 2) (.v 3)) (.imp (.ln (.a (.v 4) (.v 5)) (.v 6)) (.imp (.en (.v 1) (.a (.v 3) (.v 6))) (.imp (.en (.v 0) (.a (.a (.v 4) (.v 5)) (.v 2))) (.ln (.v 0) (.v 1)))))) (by kernel_rfl)
theorem om97 : ∀ {x0 x1 : Nat}, x0 + 60 < x1 → x0 + 3 + 1 + 40 < x1 := fun {x0 x1} => Lin.use [x0, x1] [] (.imp (.ln (.a (.a (.v 0) (.c 60)) (.c 1)) (.v 1)) (.ln (.a (.a (.a (.a (.v 0) (.c 3)) (.c 1)) (.c 40)) (.c 1)) (.v 1))) (by kernel_rfl)
theorem om98 : ∀ {x0 x1 : Nat}, x0 < 2 ^ 10 ∧ x1 < 2 ^ 10 → x0 < 2 ^ 40 ∧ x1 < 2 ^ 40 := fun {x0 x1} => Lin.use [x0, x1] [] (.imp (.and (.ln (.a (.v 0) (.c 1)) (.c 1024)) (.ln (.a (.v 1) (.c 1)) (.c 1024))) (.and (.ln (.a (.v 0) (.c 1)) (.c 1099511627776)) (.ln (.a (.v 1) (.c 1)) (.c 1099511627776)))) (by kernel_rfl)
theorem om99 : ∀ {x0 : Nat}, 0 ≤ 0 + (↑x0 : Int) := fun {x0} => Lin.use [x0] [] (.li (.c 0) (.a (.c 0) (.t (.v 0)))) (by kernel_rfl)
theorem om100 : ∀ {x0 x1 : Nat}, x0 < 2 ^ 10 ∧ x1 < 2 ^ 10 → x0 + x1 ≤ 2 ^ 11 := fun {x0 x1} => Lin.use [x0, x1] [] (.imp (.and (.ln (.a (.v 0) (.c 1)) (.c 1024)) (.ln (.a (.v 1) (.c 1)) (.c 1024))) (.ln (.a (.v 0) (.v 1)) (.c 2048))) (by kernel_rfl)
theorem om101 : ∀ {x0 : Nat}, 0 < x0 → 0 + (↑x0 : Int) ≠ 0 := fun {x0} => Lin.use [x0] [] (.imp (.ln (.a (.c 0) (.c 1)) (.v 0)) (.not (.ei (.a (.c 0) (.t (.v 0))) (.c 0)))) (by kernel_rfl)
theorem om102 : ∀ {x0 x1 : Nat}, x0 + 60 < x1 → x0 + 3 + 1 + 1 < x1 := fun {x0 x1} => Lin.use [x0, x1] [] (.imp (.ln (.a (.a (.v 0) (.c 60)) (.c 1)) (.v 1)) (.ln (.a (.a (.a (.a (.v 0) (.c 3)) (.c 1)) (.c 1)) (.c 1)) (.v 1))) (by kernel_rfl)
theorem om103 : ∀ {x0 x1 : Nat}, x0 + 3 < x1 → x0 < x1 := fun {x0 x1} => Lin.use [x0, x1] [] (.imp (.ln (.a (.a (.v 0) (.c 3)) (.c 1)) (.v 1)) (.ln (.a (.v 0) (.c 1)) (.v 1))) (by kernel_rfl)
theorem om104 : ∀ {x0 x1 : Nat}, x0 + 3 < x1 → x0 + 1 + 1 < x1 := fun {x0 x1} => Lin.use [x0, x1] [] (.imp (.ln (.a (.a (.v 0) (.c 3)) (.c 1)) (.v 1)) (.ln (.a (.a (.a (.v 0) (.c 1)) (.c 1)) (.c 1)) (.v 1))) (by kernel_rfl)
theorem om105 : ∀ {x0 x1 : Nat}, x0 + 80 < x1 → x0 + 3 + 40 < x1 := fun {x0 x1} => Lin.use [x0, x1] [] (.imp (.ln (.a (.a (.v 0) (.c 80)) (.c 1)) (.v 1)) (.ln (.a (.a (.a (.v 0) (.c 3)) (.c 40)) (.c 1)) (.v 1))) (by kernel_rfl)
theorem om106 : ∀ {x0 x1 : Nat}, x1 < 900 → x0 = x1 → x0 < 900 := fun {x0 x1} => Lin.use [x0, x1] [] (.imp (.ln (.a (.v 1) (.c 1)) (.c 900)) (.imp (.en (.v 0) (.v 1)) (.ln (.a (.v 0) (.c 1)) (.c 900)))) (by kernel_rfl)
theorem om107 : ∀ {x0 x1 : Nat}, x0 + 80 < x1 → x0 + 3 + 1 + 40 < x1 := fun {x0 x1} => Lin.use [x0, x1] [] (.imp (.ln (.a (.a (.v 0) (.c 80)) (.c 1)) (.v 1)) (.ln (.a (.a (.a (.a (.v 0) (.c 3)) (.c 1)) (.c 40)) (.c 1)) (.v 1))) (by kernel_rfl)
theorem om108 : ∀ {x0 : Nat}, x0 < 2 ^ 10 → x0 < 2 ^ 40 := fun {x0} => Lin.use [x0] [] (.imp (.ln (.a (.v 0) (.c 1)) (.c 1024)) (.ln (.a (.v 0) (.c 1)) (.c 1099511627776))) (by kernel_rfl)
theorem om109 : ∀ {x0 x1 : Nat}, x0 + (1 + x1) = x0 + 1 + x1 := fun {x0 x1} => Lin.use [x0, x1] [] (.en (.a (.v 0) (.a (.c 1) (.v 1))) (.a (.a (.v 0) (.c 1)) (.v 1))) (by kernel_rfl)
theorem om110 : ∀ {x0 : Int} {x1 x2 : Nat}, 0 ≤ x0 → 0 ≤ x0 + (↑(x1 + 1 + x2) : Int) := fun {x0 x1 x2} => Lin.use [x1, x2] [x0] (.imp (.li (.c 0) (.v 0)) (.li (.c 0) (.a (.v 0) (.t (.a (.a (.v 0) (.c 1)) (.v 1)))))) (by kernel_rfl)
theorem om111 : ∀ {x0 : Int} {x1 x2 : Nat}, x0 + (↑(x1 + 1 + x2) : Int) ≤ 80 → x0 + (↑(x1 + 1 + x2) : Int) < 2 ^ 63 := fun {x0 x1 x2} => Lin.use [x1, x2] [x0] (.imp (.li (.a (.v 0) (.t (.a (.a (.v 0) (.c 1)) (.v 1)))) (.c 80)) (.li (.a (.a (.v 0) (.t (.a (.a (.v 0) (.c 1)) (.v 1)))) (.c 1)) (.c 9223372036854775808))) (by kernel_rfl)
theorem om113 : ∀ {x0 x1 : Nat}, x0 + 4 < x1 → x0 < x1 := fun {x0 x1} => Lin.use [x0, x1] [] (.imp (.ln (.a (.a (.v 0) (.c 4)) (.c 1)) (.v 1)) (.ln (.a (.v 0) (.c 1)) (.v 1))) (by kernel_rfl)
theorem om114 : ∀ {x0 x1 : Nat}, x0 + 4 < x1 → x0 + 1 + 2 < x1 := fun {x0 x1} => Lin.use [x0, x1] [] (.imp (.ln (.a (.a (.v 0) (.c 4)) (.c 1)) (.v 1)) (.ln (.a (.a (.a (.v 0) (.c 1)) (.c 2)) (.c 1)) (.v 1))) (by kernel_rfl)
theorem om115 : ∀ {x0 x1 : Nat}, x1 < 800 → x0 = x1 → x0 < 900 := fun {x0 x1} => Lin.use [x0, x1] [] (.imp (.ln (.a (.v 1) (.c 1)) (.c 800)) (.imp (.en (.v 0) (.v 1)) (.ln (.a (.v 0) (.c 1)) (.c 900)))) (by kernel_rfl)
theorem om116 : ∀ {x0 x1 : Nat}, x0 + 100 < x1 → x0 + 3 + 64 < x1 := fun {x0 x1} => Lin.use [x0, x1] [] (.imp (.ln (.a (.a (.v 0) (.c 100)) (.c 1)) (.v 1)) (.ln (.a (.a (.a (.v 0) (.c 3)) (.c 64)) (.c 1)) (.v 1))) (by kernel_rfl)
theorem om117 : ∀ {x0 x1 : Nat}, x0 + 4 < x1 → x0 + 1 + 1 < x1 := fun {x0 x1} => Lin.use [x0, x1] [] (.imp (.ln (.a (.a (.v 0) (.c 4)) (.c 1)) (.v 1)) (.ln (.a (.a (.a (.v 0) (.c 1)) (.c 1)) (.c 1)) (.v 1))) (by kernel_rfl)
theorem om118 : ∀ {x0 x1 : Nat}, x0 + 100 < x1 → x0 + 3 + 40 < x1 := fun {x0 x1} => Lin.use [x0, x1] [] (.imp (.ln (.a (.a (.v 0) (.c 100)) (.c 1)) (.v 1)) (.ln (.a (.a (.a (.v 0) (.c 3)) (.c 40)) (.c 1)) (.v 1))) (by kernel_rfl)
theorem om119 : ∀ {x0 x1 : Nat}, x0 < 2 ^ 9 ∧ x1 < 2 ^ 9 → x0 < 2 ^ 10 ∧ x1 < 2 ^ 10 := fun {x0 x1} => Lin.use [x0, x1] [] (.imp (.and (.ln (.a (.v 0) (.c 1)) (.c 512)) (.ln (.a (.v 1) (.c 1)) (.c 512))) (.and (.ln (.a (.v 0) (.c 1)) (.c 1024)) (.ln (.a (.v 1) (.c 1)) (.c 1024)))) (by kernel_rfl)
theorem om120 : ∀ {x0 : Nat}, x0 < 2 ^ 9 → x0 < 2 ^ 10 := fun {x0} => Lin.use [x0] [] (.imp (.ln (.a (.v 0) (.c 1)) (.c 512)) (.ln (.a (.v 0) (.c 1)) (.c 1024))) (by kernel_rfl)
theorem om121 : ∀ {x0 x1 : Nat}, x0 < 2 ^ 9 ∧ x1 < 2 ^ 9 → x0 + x1 ≤ 2 ^ 10 := fun {x0 x1} => Lin.use [x0, x1] [] (.imp (.and (.ln (.a (.v 0) (.c 1)) (.c 512)) (.ln (.a (.v 1) (.c 1)) (.c 512))) (.ln (.a (.v 0) (.v 1)) (.c 1024))) (by kernel_rfl)
theorem om122 : ∀ {x0 x1 : Nat}, x0 + 100 < x1 → x0 + 3 + 1 + 40 < x1 := fun {x0 x1} => Lin.use [x0, x1] [] (.imp (.ln (.a (.a (.v 0) (.c 100)) (.c 1)) (.v 1)) (.ln (.a (.a (.a (.a (.v 0) (.c 3)) (.c 1)) (.c 40)) (.c 1)) (.v 1))) (by kernel_rfl)
theorem om124 : ∀ {x0 x1 : Nat}, x0 + 100 < x1 → x0 + 3 + 60 < x1 := fun {x0 x1} => Lin.use [x0, x1] [] (.imp (.ln (.a (.a (.v 0) (.c 100)) (.c 1)) (.v 1)) (.ln (.a (.a (.a (.v 0) (.c 3)) (.c 60)) (.c 1)) (.v 1))) (by kernel_rfl)
theorem om125 : ∀ {x0 : Nat}, x0 < 800 → x0 + 1 < 1000 := fun {x0} => Lin.use [x0] [] (.imp (.ln (.a (.v 0) (.c 1)) (.c 800)) (.ln (.a (.a (.v 0) (.c 1)) (.c 1)) (.c 1000))) (by kernel_rfl)
theorem om126 : ∀ {x0 x1 x2 : Nat}, x0 = x1 + 1 + x2 → 0 < x0 := fun {x0 x1 x2} => Lin.use [x0, x1, x2] [] (.imp (.en (.v 0) (.a (.a (.v 1) (.c 1)) (.v 2))) (.ln (.a (.c 0) (.c 1)) (.v 0))) (by kernel_rfl)
theorem om127 : ∀ {x0 x1 : Nat}, x0 + 100 < x1 → x0 + 3 + 1 + 1 < x1 := fun {x0 x1} => Lin.use [x0, x1] [] (.imp (.ln (.a (.a (.v 0) (.c 100)) (.c 1)) (.v 1)) (.ln (.a (.a (.a (.a (.v 0) (.c 3)) (.c 1)) (.c 1)) (.c 1)) (.v 1))) (by kernel_rfl)
theorem om128 : ∀ {x0 x1 : Nat}, x1 < 800 → x0 = x1 → x0 + 1 < 900 := fun {x0 x1} => Lin.use [x0, x1] [] (.imp (.ln (.a (.v 1) (.c 1)) (.c 800)) (.imp (.en (.v 0) (.v 1)) (.ln (.a (.a (.v 0) (.c 1)) (.c 1)) (.c 900)))) (by kernel_rfl)
theorem om129 : ∀ {x0 : Int}, 0 ≤ x0 → 0 ≤ x0 + (↑0 : Int) := fun {x0} => Lin.use [] [x0] (.imp (.li (.c 0) (.v 0)) (.li (.c 0) (.a (.v 0) (.t (.c 0))))) (by kernel_rfl)
theorem om130 : ∀ {x0 : Int}, x0 < 2 ^ 20 → x0 + (↑0 : Int) < 2 ^ 63 := fun {x0} => Lin.use [] [x0] (.imp (.li (.a (.v 0) (.c 1)) (.c 1048576)) (.li (.a (.a (.v 0) (.t (.c 0))) (.c 1)) (.c 9223372036854775808))) (by kernel_rfl)
theorem om131 : ∀ {x0 : Int}, 0 ≤ x0 → ¬x0 = 0 → 0 < x0 := fun {x0} => Lin.use [] [x0] (.imp (.li (.c 0) (.v 0)) (.imp (.not (.ei (.v 0) (.c 0))) (.li (.a (.c 0) (.c 1)) (.v 0)))) (by kernel_rfl)
theorem om133 : ∀ {x0 x1 : Nat}, x0 + 5 < x1 → x0 < x1 := fun {x0 x1} => Lin.use [x0, x1] [] (.imp (.ln (.a (.a (.v 0) (.c 5)) (.c 1)) (.v 1)) (.ln (.a (.v 0) (.c 1)) (.v 1))) (by kernel_rfl)
theorem om134 : ∀ {x0 x1 : Nat}, x0 + 5 < x1 → x0 + 1 + 4 < x1 := fun {x0 x1} => Lin.use [x0, x1] [] (.imp (.ln (.a (.a (.v 0) (.c 5)) (.c 1)) (.v 1)) (.ln (.a (.a (.a (.v 0) (.c 1)) (.c 4)) (.c 1)) (.v 1))) (by kernel_rfl)
theorem om135 : ∀ {x0 x1 : Nat}, x0 + 110 < x1 → x0 + 3 + 100 < x1 := fun {x0 x1} => Lin.use [x0, x1] [] (.imp (.ln (.a (.a (.v 0) (.c 110)) (.c 1)) (.v 1)) (.ln (.a (.a (.a (.v 0) (.c 3)) (.c 100)) (.c 1)) (.v 1))) (by kernel_rfl)
theorem om136 : ∀ {x0 : Nat}, x0 < 2 ^ 20 → x0 ≤ 16777152 := fun {x0} => Lin.use [x0] [] (.imp (.ln (.a (.v 0) (.c 1)) (.c 1048576)) (.ln (.v 0) (.c 16777152))) (by kernel_rfl)
theorem om137 : ∀ {x0 x1 : Nat}, x0 + 6 < x1 → x0 < x1 := fun {x0 x1} => Lin.use [x0, x1] [] (.imp (.ln (.a (.a (.v 0) (.c 6)) (.c 1)) (.v 1)) (.ln (.a (.v 0) (.c 1)) (.v 1))) (by kernel_rfl)
theorem om138 : ∀ {x0 x1 : Nat}, x0 + 6 < x1 → x0 + 1 + 5 < x1 := fun {x0 x1} => Lin.use [x0, x1] [] (.imp (.ln (.a (.a (.v 0) (.c 6)) (.c 1)) (.v 1)) (.ln (.a (.a (.a (.v 0) (.c 1)) (.c 5)) (.c 1)) (.v 1))) (by kernel_rfl)
theorem om139 : ∀ {x0 x1 : Nat}, x0 + 120 < x1 → x0 + 3 + 110 < x1 := fun {x0 x1} => Lin.use [x0, x1] [] (.imp (.ln (.a (.a (.v 0) (.c 120)) (.c 1)) (.v 1)) (.ln (.a (.a (.a (.v 0) (.c 3)) (.c 110)) (.c 1)) (.v 1))) (by kernel_rfl)
theorem om140 : ∀ {x0 : Nat}, x0 + 1 < 100 → x0 < 800 := fun {x0} => Lin.use [x0] [] (.imp (.ln (.a (.a (.v 0) (.c 1)) (.c 1)) (.c 100)) (.ln (.a (.v 0) (.c 1)) (.c 800))) (by kernel_rfl)
theorem om141 : ∀ {x0 x1 : Nat}, x0 + 1 = x1 → x0 ≠ x1 := fun {x0 x1} => Lin.use [x0, x1] [] (.imp (.en (.a (.v 0) (.c 1)) (.v 1)) (.not (.en (.v 0) (.v 1)))) (by kernel_rfl)
theorem om142 : ∀ {x0 x1 : Nat}, x0 + 1 = x1 → x0 < x1 := fun {x0 x1} => Lin.use [x0, x1] [] (.imp (.en (.a (.v 0) (.c 1)) (.v 1)) (.ln (.a (.v 0) (.c 1)) (.v 1))) (by kernel_rfl)
theorem om143 : ∀ {x0 x1 : Nat}, x0 + 2 < x1 → x0 + 1 < x1 := fun {x0 x1} => Lin.use [x0, x1] [] (.imp (.ln (.a (.a (.v 0) (.c 2)) (.c 1)) (.v 1)) (.ln (.a (.a (.v 0) (.c 1)) (.c 1)) (.v 1))) (by kernel_rfl)
theorem om144 : ∀ {x0 x1 : Nat}, x0 + 5 < x1 → x0 + 1 < x1 := fun {x0 x1} => Lin.use [x0, x1] [] (.imp (.ln (.a (.a (.v 0) (.c 5)) (.c 1)) (.v 1)) (.ln (.a (.a (.v 0) (.c 1)) (.c 1)) (.v 1))) (by kernel_rfl)
theorem om145 : ∀ {x0 x1 : Nat}, x0 + 5 < x1 → x0 + 1 + 1 + 2 < x1 := fun {x0 x1} => Lin.use [x0, x1] [] (.imp (.ln (.a (.a (.v 0) (.c 5)) (.c 1)) (.v 1)) (.ln (.a (.a (.a (.a (.v 0) (.c 1)) (.c 1)) (.c 2)) (.c 1)) (.v 1))) (by kernel_rfl)
theorem om146 : ∀ {x0 : Nat}, (↑x0 : Int) - 0 = (↑x0 : Int) := fun {x0} => Lin.use [x0] [] (.ei (.s (.t (.v 0)) (.c 0)) (.t (.v 0))) (by kernel_rfl)
theorem om147 : ∀ {x0 : Nat}, ¬0 < (↑x0 : Int) → 0 = (↑x0 : Int) := fun {x0} => Lin.use [x0] [] (.imp (.not (.li (.a (.c 0) (.c 1)) (.t (.v 0)))) (.ei (.c 0) (.t (.v 0)))) (by kernel_rfl)
theorem om148 : ∀ {x0 : Int}, 0 ≤ x0 → x0 ≤ 1000 → -9223372036854775808 ≤ x0 ∧ x0 < 9223372036854775808 := fun {x0} => Lin.use [] [x0] (.imp (.li (.c 0) (.v 0)) (.imp (.li (.v 0) (.c 1000)) (.and (.li (.n (.c 9223372036854775808)) (.v 0)) (.li (.a (.v 0) (.c 1)) (.c 9223372036854775808))))) (by kernel_rfl)
theorem om149 : ∀ {x0 : Nat}, x0 ≤ 1000 → (↑x0 : Int) ≤ 1000 := fun {x0} => Lin.use [x0] [] (.imp (.ln (.v 0) (.c 1000)) (.li (.t (.v 0)) (.c 1000))) (by kernel_rfl)
theorem om150 : ∀ {x0 x1 : Nat}, x1 < x0 → (↑x0 : Int) ≠ (↑x1 : Int) := fun {x0 x1} => Lin.use [x0, x1] [] (.imp (.ln (.a (.v 1) (.c 1)) (.v 0)) (.not (.ei (.t (.v 0)) (.t (.v 1))))) (by kernel_rfl)
theorem om151 : ∀ {x0 : Nat}, x0 < x0 + 1 := fun {x0} => Lin.use [x0] [] (.ln (.a (.v 0) (.c 1)) (.a (.v 0) (.c 1))) (by kernel_rfl)
theorem om152 : ∀ {x0 x1 : Nat}, x0 < x1 → x0 < x1 + 1 := fun {x0 x1} => Lin.use [x0, x1] [] (.imp (.ln (.a (.v 0) (.c 1)) (.v 1)) (.ln (.a (.v 0) (.c 1)) (.a (.v 1) (.c 1)))) (by kernel_rfl)
theorem om156 : ∀ {x0 : Nat}, 4 ≤ x0 ∧ x0 ≤ 9 → x0 ≤ 1000 := fun {x0} => Lin.use [x0] [] (.imp (.and (.ln (.c 4) (.v 0)) (.ln (.v 0) (.c 9))) (.ln (.v 0) (.c 1000))) (by kernel_rfl)
theorem om160 : ∀ {x0 x1 : Int}, 0 ≤ x1 ∧ x1 < 6 → 1 + x1 = x0 → 1 ≤ x0 ∧ x0 ≤ 6 := fun {x0 x1} => Lin.use [] [x0, x1] (.imp (.and (.li (.c 0) (.v 1)) (.li (.a (.v 1) (.c 1)) (.c 6))) (.imp (.ei (.a (.c 1) (.v 1)) (.v 0)) (.and (.li (.c 1) (.v 0)) (.li (.v 0) (.c 6))))) (by kernel_rfl)
theorem om161 : ∀ {x0 x1 : Int}, 0 ≤ x1 ∧ x1 < 6 → 1 + x1 = x0 → x0 ≤ (↑1048576 : Int) := fun {x0 x1} => Lin.use [] [x0, x1] (.imp (.and (.li (.c 0) (.v 1)) (.li (.a (.v 1) (.c 1)) (.c 6))) (.imp (.ei (.a (.c 1) (.v 1)) (.v 0)) (.li (.v 0) (.t (.c 1048576))))) (by kernel_rfl)
theorem om162 : ∀ {x0 x1 : Int}, 0 ≤ x1 ∧ x1 < 6 → 1 + x1 = x0 → -2 ^ 63 ≤ x0 := fun {x0 x1} => Lin.use [] [x0, x1] (.imp (.and (.li (.c 0) (.v 1)) (.li (.a (.v 1) (.c 1)) (.c 6))) (.imp (.ei (.a (.c 1) (.v 1)) (.v 0)) (.li (.n (.c 9223372036854775808)) (.v 0)))) (by kernel_rfl)
theorem om163 : ∀ {x0 : Nat} {x1 : Int}, 0 ≤ x1 ∧ x1 < 6 → 1 + x1 = (↑x0 : Int) → 1 ≤ x0 := fun {x0 x1} => Lin.use [x0] [x1] (.imp (.and (.li (.c 0) (.v 0)) (.li (.a (.v 0) (.c 1)) (.c 6))) (.imp (.ei (.a (.c 1) (.v 0)) (.t (.v 0))) (.ln (.c 1) (.v 0)))) (by kernel_rfl)
theorem om164 : ∀ {x0 : Nat} {x1 : Int}, 0 ≤ x1 ∧ x1 < 6 → 1 + x1 = (↑x0 : Int) → x0 ≤ 6 := fun {x0 x1} => Lin.use [x0] [x1] (.imp (.and (.li (.c 0) (.v 0)) (.li (.a (.v 0) (.c 1)) (.c 6))) (.imp (.ei (.a (.c 1) (.v 0)) (.t (.v 0))) (.ln (.v 0) (.c 6)))) (by kernel_rfl)
theorem om165 : ∀ {x0 x1 x2 : Nat}, 4 ≤ x1 ∧ x1 ≤ 9 → x2 < x1 → x0 = x2 → x0 < 900 := fun {x0 x1 x2} => Lin.use [x0, x1, x2] [] (.imp (.and (.ln (.c 4) (.v 1)) (.ln (.v 1) (.c 9))) (.imp (.ln (.a (.v 2) (.c 1)) (.v 1)) (.imp (.en (.v 0) (.v 2)) (.ln (.a (.v 0) (.c 1)) (.c 900))))) (by kernel_rfl)
theorem om166 : ∀ {x0 x1 x2 x3 : Nat}, x0 < x1 ∧ x2 < x1 ∧ x3 + 1 < x1 ∧ 182 < x1 ∧ 189 < x1 → x0 ≠ x1 := fun {x0 x1 x2 x3} => Lin.use [x0, x1, x2, x3] [] (.imp (.and (.ln (.a (.v 0) (.c 1)) (.v 1)) (.and (.ln (.a (.v 2) (.c 1)) (.v 1)) (.and (.ln (.a (.a (.v 3) (.c 1)) (.c 1)) (.v 1)) (.and (.ln (.a (.c 182) (.c 1)) (.v 1)) (.ln (.a (.c 189) (.c 1)) (.v 1)))))) (.not (.en (.v 0) (.v 1)))) (by kernel_rfl)
theorem om167 : ∀ {x0 x1 x2 x3 : Nat}, x2 < x1 ∧ x0 < x1 ∧ x3 + 1 < x1 ∧ 182 < x1 ∧ 189 < x1 → x0 ≠ x1 := fun {x0 x1 x2 x3} => Lin.use [x0, x1, x2, x3] [] (.imp (.and (.ln (.a (.v 2) (.c 1)) (.v 1)) (.and (.ln (.a (.v 0) (.c 1)) (.v 1)) (.and (.ln (.a (.a (.v 3) (.c 1)) (.c 1)) (.v 1)) (.and (.ln (.a (.c 182) (.c 1)) (.v 1)) (.ln (.a (.c 189) (.c 1)) (.v 1)))))) (.not (.en (.v 0) (.v 1)))) (by kernel_rfl)
theorem om168 : ∀ {x0 x1 x2 x3 : Nat}, x2 < x1 ∧ x3 < x1 ∧ x0 + 1 < x1 ∧ 182 < x1 ∧ 189 < x1 → x0 + 1 ≠ x1 := fun {x0 x1 x2 x3} => Lin.use [x0, x1, x2, x3] [] (.imp (.and (.ln (.a (.v 2) (.c 1)) (.v 1)) (.and (.ln (.a (.v 3) (.c 1)) (.v 1)) (.and (.ln (.a (.a (.v 0) (.c 1)) (.c 1)) (.v 1)) (.and (.ln (.a (.c 182) (.c 1)) (.v 1)) (.ln (.a (.c 189) (.c 1)) (.v 1)))))) (.not (.en (.a (.v 0) (.c 1)) (.v 1)))) (by kernel_rfl)
theorem om169 : ∀ {x0 x1 x2 x3 : Nat}, x1 < x0 ∧ x2 < x0 ∧ x3 + 1 < x0 ∧ 182 < x0 ∧ 189 < x0 → 182 ≠ x0 := fun {x0 x1 x2 x3} => Lin.use [x0, x1, x2, x3] [] (.imp (.and (.ln (.a (.v 1) (.c 1)) (.v 0)) (.and (.ln (.a (.v 2) (.c 1)) (.v 0)) (.and (.ln (.a (.a (.v 3) (.c 1)) (.c 1)) (.v 0)) (.and (.ln (.a (.c 182) (.c 1)) (.v 0)) (.ln (.a (.c 189) (.c 1)) (.v 0)))))) (.not (.en (.c 182) (.v 0)))) (by kernel_rfl)
theorem om170 : ∀ {x0 x1 x2 x3 : Nat}, x1 < x0 ∧ x2 < x0 ∧ x3 + 1 < x0 ∧ 182 < x0 ∧ 189 < x0 → 189 ≠ x0 := fun {x0 x1 x2 x3} => Lin.use [x0, x1, x2, x3] [] (.imp (.and (.ln (.a (.v 1) (.c 1)) (.v 0)) (.and (.ln (.a (.v 2) (.c 1)) (.v 0)) (.and (.ln (.a (.a (.v 3) (.c 1)) (.c 1)) (.v 0)) (.and (.ln (.a (.c 182) (.c 1)) (.v 0)) (.ln (.a (.c 189) (.c 1)) (.v 0)))))) (.not (.en (.c 189) (.v 0)))) (by kernel_rfl)
theorem om172 : ∀ {x0 x1 : Nat}, 4 ≤ x1 ∧ x1 ≤ 9 → x0 = x1 → 2 ≤ x0 := fun {x0 x1} => Lin.use [x0, x1] [] (.imp (.and (.ln (.c 4) (.v 1)) (.ln (.v 1) (.c 9))) (.imp (.en (.v 0) (.v 1)) (.ln (.c 2) (.v 0)))) (by kernel_rfl)
theorem om173 : ∀ {x0 x1 : Nat}, 4 ≤ x1 ∧ x1 ≤ 9 → x0 = x1 → x0 < 64 := fun {x0 x1} => Lin.use [x0, x1] [] (.imp (.and (.ln (.c 4) (.v 1)) (.ln (.v 1) (.c 9))) (.imp (.en (.v 0) (.v 1)) (.ln (.a (.v 0) (.c 1)) (.c 64)))) (by kernel_rfl)
theorem om174 : ∀ {x0 x1 x2 x3 x4 : Nat}, x0 < x2 → x2 < x3 → x3 < x4 → x4 < x1 → x0 ≤ x1 := fun {x0 x1 x2 x3 x4} => Lin.use [x0, x1, x2, x3, x4] [] (.imp (.ln (.a (.v 0) (.c 1)) (.v 2)) (.imp (.ln (.a (.v 2) (.c 1)) (.v 3)) (.imp (.ln (.a (.v 3) (.c 1)) (.v 4)) (.imp (.ln (.a (.v 4) (.c 1)) (.v 1)) (.ln (.v 0) (.v 1)))))) (by kernel_rfl)
theorem om175 : ∀ {x0 x1 : Nat}, x0 < x1 → x0 ≤ x1 := fun {x0 x1} => Lin.use [x0, x1] [] (.imp (.ln (.a (.v 0) (.c 1)) (.v 1)) (.ln (.v 0) (.v 1))) (by kernel_rfl)
theorem om176 : ∀ {x0 x1 x2 x3 : Nat}, x0 < x2 → x2 < x3 → x3 < x1 → x0 ≤ x1 := fun {x0 x1 x2 x3} => Lin.use [x0, x1, x2, x3] [] (.imp (.ln (.a (.v 0) (.c 1)) (.v 2)) (.imp (.ln (.a (.v 2) (.c 1)) (.v 3)) (.imp (.ln (.a (.v 3) (.c 1)) (.v 1)) (.ln (.v 0) (.v 1))))) (by kernel_rfl)
theorem om177 : ∀ {x0 x1 x2 : Nat}, x0 < x2 → x2 < x1 → x0 ≤ x1 := fun {x0 x1 x2} => Lin.use [x0, x1, x2] [] (.imp (.ln (.a (.v 0) (.c 1)) (.v 2)) (.imp (.ln (.a (.v 2) (.c 1)) (.v 1)) (.ln (.v 0) (.v 1)))) (by kernel_rfl)
theorem om198 : ∀ {x0 : Nat}, x0 < 3 → x0 = 0 ∨ x0 = 1 ∨ x0 = 2 := fun {x0} => Lin.use [x0] [] (.imp (.ln (.a (.v 0) (.c 1)) (.c 3)) (.or (.en (.v 0) (.c 0)) (.or (.en (.v 0) (.c 1)) (.en (.v 0) (.c 2))))) (by kernel_rfl)
theorem om199 : ∀ {x0 : Int}, 0 ≤ x0 ∧ x0 < 6 → 0 ≤ x0 + (↑0 : Int) := fun {x0} => Lin.use [] [x0] (.imp (.and (.li (.c 0) (.v 0)) (.li (.a (.v 0) (.c 1)) (.c 6))) (.li (.c 0) (.a (.v 0) (.t (.c 0))))) (by kernel_rfl)
theorem om200 : ∀ {x0 : Int}, 0 ≤ x0 ∧ x0 < 6 → x0 + (↑0 : Int) < 2 ^ 63 := fun {x0} => Lin.use [] [x0] (.imp (.and (.li (.c 0) (.v 0)) (.li (.a (.v 0) (.c 1)) (.c 6))) (.li (.a (.a (.v 0) (.t (.c 0))) (.c 1)) (.c 9223372036854775808))) (by kernel_rfl)
theorem om201 : ∀ {x0 : Nat}, 2 < x0 → 3 ≤ x0 := fun {x0} => Lin.use [x0] [] (.imp (.ln (.a (.c 2) (.c 1)) (.v 0)) (.ln (.c 3) (.v 0))) (by kernel_rfl)
theorem om202 : ∀ {x0 x1 : Nat}, x1 < x0 → x0 + 1 - (x1 + 1) < x0 + 1 - x1 := fun {x0 x1} => Lin.use [x0, x1, x0 + 1 - (x1 + 1), x0 + 1 - x1] [] (.imp (.or (.and (.ln (.a (.v 1) (.c 1)) (.a (.v 0) (.c 1))) (.en (.a (.v 2) (.a (.v 1) (.c 1))) (.a (.v 0) (.c 1)))) (.and (.ln (.a (.v 0) (.c 1)) (.a (.v 1) (.c 1))) (.en (.v 2) (.c 0)))) (.imp (.or (.and (.ln (.v 1) (.a (.v 0) (.c 1))) (.en (.a (.v 3) (.v 1)) (.a (.v 0) (.c 1)))) (.and (.ln (.a (.v 0) (.c 1)) (.v 1)) (.en (.v 3) (.c 0)))) (.imp (.ln (.a (.v 1) (.c 1)) (.v 0)) (.ln (.a (.v 2) (.c 1)) (.v 3))))) (by kernel_rfl) (Lin.sub_f (x0 + 1) (x1 + 1)) (Lin.sub_f (x0 + 1) (x1))
theorem om203 : ∀ {x0 : Nat}, x0 ≤ 100000 → x0 ≤ 16777216 := fun {x0} => Lin.use [x0] [] (.imp (.ln (.v 0) (.c 100000)) (.ln (.v 0) (.c 16777216))) (by kernel_rfl)
theorem om204 : ∀ {x0 : Int}, 0 ≤ x0 → x0 ≤ 100000 → -9223372036854775808 ≤ x0 ∧ x0 < 9223372036854775808 := fun {x0} => Lin.use [] [x0] (.imp (.li (.c 0) (.v 0)) (.imp (.li (.v 0) (.c 100000)) (.and (.li (.n (.c 9223372036854775808)) (.v 0)) (.li (.a (.v 0) (.c 1)) (.c 9223372036854775808))))) (by kernel_rfl)
theorem om205 : ∀ {x0 : Nat}, x0 ≤ 100000 → (↑x0 : Int) ≤ 100000 := fun {x0} => Lin.use [x0] [] (.imp (.ln (.v 0) (.c 100000)) (.li (.t (.v 0)) (.c 100000))) (by kernel_rfl)
theorem om207 : ∀ {x0 x1 : Nat}, x0 < x1 → x0 ≠ x1 + 1 := fun {x0 x1} => Lin.use [x0, x1] [] (.imp (.ln (.a (.v 0) (.c 1)) (.v 1)) (.not (.en (.v 0) (.a (.v 1) (.c 1))))) (by kernel_rfl)
theorem om209 : ∀ {x0 x1 x2 x3 : Nat}, 1 ≤ x1 ∧ x1 ≤ 9 → x2 = x1 → x3 = x2 → x0 < x3 → x0 < 9 := fun {x0 x1 x2 x3} => Lin.use [x0, x1, x2, x3] [] (.imp (.and (.ln (.c 1) (.v 1)) (.ln (.v 1) (.c 9))) (.imp (.en (.v 2) (.v 1)) (.imp (.en (.v 3) (.v 2)) (.imp (.ln (.a (.v 0) (.c 1)) (.v 3)) (.ln (.a (.v 0) (.c 1)) (.c 9)))))) (by kernel_rfl)
theorem om210 : ∀ {x0 : Nat}, x0 < 9 → x0 ≤ 8 := fun {x0} => Lin.use [x0] [] (.imp (.ln (.a (.v 0) (.c 1)) (.c 9)) (.ln (.v 0) (.c 8))) (by kernel_rfl)
theorem om212 : ∀ {x0 : Nat}, x0 < 3 → (↑x0 : Int) < 2 ^ 63 := fun {x0} => Lin.use [x0] [] (.imp (.ln (.a (.v 0) (.c 1)) (.c 3)) (.li (.a (.t (.v 0)) (.c 1)) (.c 9223372036854775808))) (by kernel_rfl)
theorem om213 : ∀ {x0 x1 : Int}, x0 = x1 → 0 ≤ x1 → 0 ≤ x0 + 1 := fun {x0 x1} => Lin.use [] [x0, x1] (.imp (.ei (.v 0) (.v 1)) (.imp (.li (.c 0) (.v 1)) (.li (.c 0) (.a (.v 0) (.c 1))))) (by kernel_rfl)
theorem om214 : ∀ {x0 x1 x2 x3 : Nat}, x2 ≤ x3 → x3 ≤ 3 ^ 8 → x0 < x2 → x1 < 3 → 3 * x0 + x1 ≤ 100000 := fun {x0 x1 x2 x3} => Lin.use [x0, x1, x2, x3] [] (.imp (.ln (.v 2) (.v 3)) (.imp (.ln (.v 3) (.c 6561)) (.imp (.ln (.a (.v 0) (.c 1)) (.v 2)) (.imp (.ln (.a (.v 1) (.c 1)) (.c 3)) (.ln (.a (.m 3 (.v 0)) (.v 1)) (.c 100000)))))) (by kernel_rfl)
theorem om215 : ∀ {x0 x1 x2 : Nat}, x0 ≤ 3 * x1 + x2 → 3 * x1 + x2 ≤ 100000 → x0 ≤ 16777216 := fun {x0 x1 x2} => Lin.use [x0, x1, x2] [] (.imp (.ln (.v 0) (.a (.m 3 (.v 1)) (.v 2))) (.imp (.ln (.a (.m 3 (.v 1)) (.v 2)) (.c 100000)) (.ln (.v 0) (.c 16777216)))) (by kernel_rfl)
theorem om216 : ∀ {x0 x1 x2 : Nat}, x0 ≤ 3 * x1 + x2 → x0 + 1 ≤ 3 * x1 + (x2 + 1) := fun {x0 x1 x2} => Lin.use [x0, x1, x2] [] (.imp (.ln (.v 0) (.a (.m 3 (.v 1)) (.v 2))) (.ln (.a (.v 0) (.c 1)) (.a (.m 3 (.v 1)) (.a (.v 2) (.c 1))))) (by kernel_rfl)
theorem om217 : ∀ {x0 x1 : Nat}, x0 < x1 + 1 → ¬x0 = x1 → x0 < x1 := fun {x0 x1} => Lin.use [x0, x1] [] (.imp (.ln (.a (.v 0) (.c 1)) (.a (.v 1) (.c 1))) (.imp (.not (.en (.v 0) (.v 1))) (.ln (.a (.v 0) (.c 1)) (.v 1)))) (by kernel_rfl)
theorem om218 : ∀ {x0 x1 x2 x3 : Int}, x0 + x1 + x2 < x3 → x0 + x1 + x2 ≤ x3 := fun {x0 x1 x2 x3} => Lin.use [] [x0, x1, x2, x3] (.imp (.li (.a (.a (.a (.v 0) (.v 1)) (.v 2)) (.c 1)) (.v 3)) (.li (.a (.a (.v 0) (.v 1)) (.v 2)) (.v 3))) (by kernel_rfl)
theorem om219 : ∀ {x0 x1 x2 : Nat}, x0 ≤ 3 * x1 + x2 → x0 ≤ 3 * x1 + (x2 + 1) := fun {x0 x1 x2} => Lin.use [x0, x1, x2] [] (.imp (.ln (.v 0) (.a (.m 3 (.v 1)) (.v 2))) (.ln (.v 0) (.a (.m 3 (.v 1)) (.a (.v 2) (.c 1))))) (by kernel_rfl)
theorem om220 : ∀ {x0 x1 x2 x3 : Int}, ¬x1 + x2 + x3 < x0 → x0 ≤ x1 + x2 + x3 := fun {x0 x1 x2 x3} => Lin.use [] [x0, x1, x2, x3] (.imp (.not (.li (.a (.a (.a (.v 1) (.v 2)) (.v 3)) (.c 1)) (.v 0))) (.li (.v 0) (.a (.a (.v 1) (.v 2)) (.v 3)))) (by kernel_rfl)
theorem om221 : ∀ {x0 x1 : Nat}, x0 ≤ 3 * x1 + 3 → x0 ≤ 3 * (x1 + 1) := fun {x0 x1} => Lin.use [x0, x1] [] (.imp (.ln (.v 0) (.a (.m 3 (.v 1)) (.c 3))) (.ln (.v 0) (.m 3 (.a (.v 1) (.c 1))))) (by kernel_rfl)
theorem om222 : ∀ {x0 x1 x2 : Nat}, 1 ≤ x1 ∧ x1 ≤ 9 → x2 = x1 → x0 = x2 → x0 ≤ 9 := fun {x0 x1 x2} => Lin.use [x0, x1, x2] [] (.imp (.and (.ln (.c 1) (.v 1)) (.ln (.v 1) (.c 9))) (.imp (.en (.v 2) (.v 1)) (.imp (.en (.v 0) (.v 2)) (.ln (.v 0) (.c 9))))) (by kernel_rfl)
theorem om223 : ∀ {x0 x1 : Nat}, x0 ≤ x1 → x1 ≤ 3 ^ 9 → x0 ≤ 100000 := fun {x0 x1} => Lin.use [x0, x1] [] (.imp (.ln (.v 0) (.v 1)) (.imp (.ln (.v 1) (.c 19683)) (.ln (.v 0) (.c 100000)))) (by kernel_rfl)
theorem om224 : ∀ {x0 x1 : Nat}, x1 - (x0 + 1) = 0 → x0 + 1 ≤ x1 → x0 + 1 = x1 := fun {x0 x1} => Lin.use [x0, x1, x1 - (x0 + 1)] [] (.imp (.or (.and (.ln (.a (.v 0) (.c 1)) (.v 1)) (.en (.a (.v 2) (.a (.v 0) (.c 1))) (.v 1))) (.and (.ln (.v 1) (.a (.v 0) (.c 1))) (.en (.v 2) (.c 0)))) (.imp (.en (.v 2) (.c 0)) (.imp (.ln (.a (.v 0) (.c 1)) (.v 1)) (.en (.a (.v 0) (.c 1)) (.v 1))))) (by kernel_rfl) (Lin.sub_f (x1) (x0 + 1))
theorem om225 : ∀ {x0 x1 x2 : Nat}, x1 - (x0 + 1) = x2 + 1 → x0 + 1 < x1 := fun {x0 x1 x2} => Lin.use [x0, x1, x2, x1 - (x0 + 1)] [] (.imp (.or (.and (.ln (.a (.v 0) (.c 1)) (.v 1)) (.en (.a (.v 3) (.a (.v 0) (.c 1))) (.v 1))) (.and (.ln (.v 1) (.a (.v 0) (.c 1))) (.en (.v 3) (.c 0)))) (.imp (.en (.v 3) (.a (.v 2) (.c 1))) (.ln (.a (.a (.v 0) (.c 1)) (.c 1)) (.v 1)))) (by kernel_rfl) (Lin.sub_f (x1) (x0 + 1))
theorem om226 : ∀ {x0 : Nat}, 0 < x0 + 1 := fun {x0} => Lin.use [x0] [] (.ln (.a (.c 0) (.c 1)) (.a (.v 0) (.c 1))) (by kernel_rfl)
theorem om227 : ∀ {x0 x1 x2 : Nat}, x0 - (x1 + 1) = x2 + 1 → x0 - (x1 + 1 + 1) = x2 := fun {x0 x1 x2} => Lin.use [x0, x1, x2, x0 - (x1 + 1), x0 - (x1 + 1 + 1)] [] (.imp (.or (.and (.ln (.a (.v 1) (.c 1)) (.v 0)) (.en (.a (.v 3) (.a (.v 1) (.c 1))) (.v 0))) (.and (.ln (.v 0) (.a (.v 1) (.c 1))) (.en (.v 3) (.c 0)))) (.imp (.or (.and (.ln (.a (.a (.v 1) (.c 1)) (.c 1)) (.v 0)) (.en (.a (.v 4) (.a (.a (.v 1) (.c 1)) (.c 1))) (.v 0))) (.and (.ln (.v 0) (.a (.a (.v 1) (.c 1)) (.c 1))) (.en (.v 4) (.c 0)))) (.imp (.en (.v 3) (.a (.v 2) (.c 1))) (.en (.v 4) (.v 2))))) (by kernel_rfl) (Lin.sub_f (x0) (x1 + 1)) (Lin.sub_f (x0) (x1 + 1 + 1))
theorem om228 : ∀ {x0 : Nat}, 0 < x0 → x0 = x0 - 1 + 1 := fun {x0} => Lin.use [x0, x0 - 1] [] (.imp (.or (.and (.ln (.c 1) (.v 0)) (.en (.a (.v 1) (.c 1)) (.v 0))) (.and (.ln (.v 0) (.c 1)) (.en (.v 1) (.c 0)))) (.imp (.ln (.a (.c 0) (.c 1)) (.v 0)) (.en (.v 0) (.a (.v 1) (.c 1))))) (by kernel_rfl) (Lin.sub_f (x0) (1))
theorem om229 : ∀ {x0 x1 x2 x3 x4 x5 : Int}, ¬(x4 < x1 ∨ x4 = x1 ∧ x5 < x3) → ¬(x0 < x4 ∨ x0 = x4 ∧ x2 < x5) → ¬(x0 < x1 ∨ x0 = x1 ∧ x2 < x3) := fun {x0 x1 x2 x3 x4 x5} => Lin.use [] [x0, x1, x2, x3, x4, x5] (.imp (.not (.or (.li (.a (.v 4) (.c 1)) (.v 1)) (.and (.ei (.v 4) (.v 1)) (.li (.a (.v 5) (.c 1)) (.v 3))))) (.imp (.not (.or (.li (.a (.v 0) (.c 1)) (.v 4)) (.and (.ei (.v 0) (.v 4)) (.li (.a (.v 2) (.c 1)) (.v 5))))) (.not (.or (.li (.a (.v 0) (.c 1)) (.v 1)) (.and (.ei (.v 0) (.v 1)) (.li (.a (.v 2) (.c 1)) (.v 3))))))) (by kernel_rfl)
theorem om230 : ∀ {x0 x1 x2 x3 : Int}, x1 < x0 ∨ x1 = x0 ∧ x3 < x2 → ¬(x0 < x1 ∨ x0 = x1 ∧ x2 < x3) := fun {x0 x1 x2 x3} => Lin.use [] [x0, x1, x2, x3] (.imp (.or (.li (.a (.v 1) (.c 1)) (.v 0)) (.and (.ei (.v 1) (.v 0)) (.li (.a (.v 3) (.c 1)) (.v 2)))) (.not (.or (.li (.a (.v 0) (.c 1)) (.v 1)) (.and (.ei (.v 0) (.v 1)) (.li (.a (.v 2) (.c 1)) (.v 3)))))) (by kernel_rfl)
theorem om231 : ∀ {x0 x1 : Int}, ¬(x0 < x0 ∨ x0 = x0 ∧ x1 < x1) := fun {x0 x1} => Lin.use [] [x0, x1] (.not (.or (.li (.a (.v 0) (.c 1)) (.v 0)) (.and (.ei (.v 0) (.v 0)) (.li (.a (.v 1) (.c 1)) (.v 1))))) (by kernel_rfl)
theorem om232 : ∀ {x0 x1 : Nat}, x0 < x1 → (x0 - 1) / 2 < x1 := fun {x0 x1} => Lin.use [x0, x1, x0 - 1, (x0 - 1) / 2] [] (.imp (.or (.and (.ln (.c 1) (.v 0)) (.en (.a (.v 2) (.c 1)) (.v 0))) (.and (.ln (.v 0) (.c 1)) (.en (.v 2) (.c 0)))) (.imp (.and (.ln (.m 2 (.v 3)) (.v 2)) (.ln (.a (.v 2) (.c 1)) (.a (.m 2 (.v 3)) (.c 2)))) (.imp (.ln (.a (.v 0) (.c 1)) (.v 1)) (.ln (.a (.v 3) (.c 1)) (.v 1))))) (by kernel_rfl) (Lin.sub_f (x0) (1)) (Lin.div_f (x0 - 1) 2 (by decide))
theorem om233 : ∀ {x0 x1 : Nat}, x1 < x0 → x0 ≠ (x0 - 1) / 2 := fun {x0 x1} => Lin.use [x0, x1, x0 - 1, (x0 - 1) / 2] [] (.imp (.or (.and (.ln (.c 1) (.v 0)) (.en (.a (.v 2) (.c 1)) (.v 0))) (.and (.ln (.v 0) (.c 1)) (.en (.v 2) (.c 0)))) (.imp (.and (.ln (.m 2 (.v 3)) (.v 2)) (.ln (.a (.v 2) (.c 1)) (.a (.m 2 (.v 3)) (.c 2)))) (.imp (.ln (.a (.v 1) (.c 1)) (.v 0)) (.not (.en (.v 0) (.v 3)))))) (by kernel_rfl) (Lin.sub_f (x0) (1)) (Lin.div_f (x0 - 1) 2 (by decide))
theorem om234 : ∀ {x0 : Nat}, 0 < x0 → (x0 - 1) / 2 < x0 := fun {x0} => Lin.use [x0, x0 - 1, (x0 - 1) / 2] [] (.imp (.or (.and (.ln (.c 1) (.v 0)) (.en (.a (.v 1) (.c 1)) (.v 0))) (.and (.ln (.v 0) (.c 1)) (.en (.v 1) (.c 0)))) (.imp (.and (.ln (.m 2 (.v 2)) (.v 1)) (.ln (.a (.v 1) (.c 1)) (.a (.m 2 (.v 2)) (.c 2)))) (.imp (.ln (.a (.c 0) (.c 1)) (.v 0)) (.ln (.a (.v 2) (.c 1)) (.v 0))))) (by kernel_rfl) (Lin.sub_f (x0) (1)) (Lin.div_f (x0 - 1) 2 (by decide))
theorem om235 : ∀ {x0 : Nat}, 0 < x0 → (x0 - 1) / 2 ≠ x0 := fun {x0} => Lin.use [x0, x0 - 1, (x0 - 1) / 2] [] (.imp (.or (.and (.ln (.c 1) (.v 0)) (.en (.a (.v 1) (.c 1)) (.v 0))) (.and (.ln (.v 0) (.c 1)) (.en (.v 1) (.c 0)))) (.imp (.and (.ln (.m 2 (.v 2)) (.v 1)) (.ln (.a (.v 1) (.c 1)) (.a (.m 2 (.v 2)) (.c 2)))) (.imp (.ln (.a (.c 0) (.c 1)) (.v 0)) (.not (.en (.v 2) (.v 0)))))) (by kernel_rfl) (Lin.sub_f (x0) (1)) (Lin.div_f (x0 - 1) 2 (by decide))
theorem om236 : ∀ {x0 x1 : Nat}, x1 ≠ (x0 - 1) / 2 → (x0 - 1) / 2 ≠ x1 := fun {x0 x1} => Lin.use [x0, x1, x0 - 1, (x0 - 1) / 2] [] (.imp (.or (.and (.ln (.c 1) (.v 0)) (.en (.a (.v 2) (.c 1)) (.v 0))) (.and (.ln (.v 0) (.c 1)) (.en (.v 2) (.c 0)))) (.imp (.and (.ln (.m 2 (.v 3)) (.v 2)) (.ln (.a (.v 2) (.c 1)) (.a (.m 2 (.v 3)) (.c 2)))) (.imp (.not (.en (.v 1) (.v 3))) (.not (.en (.v 3) (.v 1)))))) (by kernel_rfl) (Lin.sub_f (x0) (1)) (Lin.div_f (x0 - 1) 2 (by decide))
theorem om237 : ∀ {x0 : Nat}, 0 < x0 → x0 ≠ (x0 - 1) / 2 := fun {x0} => Lin.use [x0, x0 - 1, (x0 - 1) / 2] [] (.imp (.or (.and (.ln (.c 1) (.v 0)) (.en (.a (.v 1) (.c 1)) (.v 0))) (.and (.ln (.v 0) (.c 1)) (.en (.v 1) (.c 0)))) (.imp (.and (.ln (.m 2 (.v 2)) (.v 1)) (.ln (.a (.v 1) (.c 1)) (.a (.m 2 (.v 2)) (.c 2)))) (.imp (.ln (.a (.c 0) (.c 1)) (.v 0)) (.not (.en (.v 0) (.v 2)))))) (by kernel_rfl) (Lin.sub_f (x0) (1)) (Lin.div_f (x0 - 1) 2 (by decide))
theorem om238 : ∀ {x0 : Nat}, 0 < (x0 - 1) / 2 → (x0 - 1) / 2 ≠ x0 := fun {x0} => Lin.use [x0, x0 - 1, (x0 - 1) / 2] [] (.imp (.or (.and (.ln (.c 1) (.v 0)) (.en (.a (.v 1) (.c 1)) (.v 0))) (.and (.ln (.v 0) (.c 1)) (.en (.v 1) (.c 0)))) (.imp (.and (.ln (.m 2 (.v 2)) (.v 1)) (.ln (.a (.v 1) (.c 1)) (.a (.m 2 (.v 2)) (.c 2)))) (.imp (.ln (.a (.c 0) (.c 1)) (.v 2)) (.not (.en (.v 2) (.v 0)))))) (by kernel_rfl) (Lin.sub_f (x0) (1)) (Lin.div_f (x0 - 1) 2 (by decide))
theorem om239 : ∀ {x0 : Nat}, 0 < (x0 - 1) / 2 → x0 ≠ (x0 - 1) / 2 := fun {x0} => Lin.use [x0, x0 - 1, (x0 - 1) / 2] [] (.imp (.or (.and (.ln (.c 1) (.v 0)) (.en (.a (.v 1) (.c 1)) (.v 0))) (.and (.ln (.v 0) (.c 1)) (.en (.v 1) (.c 0)))) (.imp (.and (.ln (.m 2 (.v 2)) (.v 1)) (.ln (.a (.v 1) (.c 1)) (.a (.m 2 (.v 2)) (.c 2)))) (.imp (.ln (.a (.c 0) (.c 1)) (.v 2)) (.not (.en (.v 0) (.v 2)))))) (by kernel_rfl) (Lin.sub_f (x0) (1)) (Lin.div_f (x0 - 1) 2 (by decide))
theorem om240 : ∀ {x0 : Nat}, 0 < x0 → x0 ≠ ((x0 - 1) / 2 - 1) / 2 := fun {x0} => Lin.use [x0, x0 - 1, (x0 - 1) / 2, (x0 - 1) / 2 - 1, ((x0 - 1) / 2 - 1) / 2] [] (.imp (.or (.and (.ln (.c 1) (.v 0)) (.en (.a (.v 1) (.c 1)) (.v 0))) (.and (.ln (.v 0) (.c 1)) (.en (.v 1) (.c 0)))) (.imp (.and (.ln (.m 2 (.v 2)) (.v 1)) (.ln (.a (.v 1) (.c 1)) (.a (.m 2 (.v 2)) (.c 2)))) (.imp (.or (.and (.ln (.c 1) (.v 2)) (.en (.a (.v 3) (.c 1)) (.v 2))) (.and (.ln (.v 2) (.c 1)) (.en (.v 3) (.c 0)))) (.imp (.and (.ln (.m 2 (.v 4)) (.v 3)) (.ln (.a (.v 3) (.c 1)) (.a (.m 2 (.v 4)) (.c 2)))) (.imp (.ln (.a (.c 0) (.c 1)) (.v 0)) (.not (.en (.v 0) (.v 4)))))))) (by kernel_rfl) (Lin.sub_f (x0) (1)) (Lin.div_f (x0 - 1) 2 (by decide)) (Lin.sub_f ((x0 - 1) / 2) (1)) (Lin.div_f ((x0 - 1) / 2 - 1) 2 (by decide))
theorem om241 : ∀ {x0 x1 : Nat}, ¬0 < x1 → 0 < x0 → x0 ≠ x1 := fun {x0 x1} => Lin.use [x0, x1] [] (.imp (.not (.ln (.a (.c 0) (.c 1)) (.v 1))) (.imp (.ln (.a (.c 0) (.c 1)) (.v 0)) (.not (.en (.v 0) (.v 1))))) (by kernel_rfl)
theorem om242 : ∀ {x0 x1 : Nat}, x0 < x1 + 1 → x0 ≠ x1 → x0 < x1 := fun {x0 x1} => Lin.use [x0, x1] [] (.imp (.ln (.a (.v 0) (.c 1)) (.a (.v 1) (.c 1))) (.imp (.not (.en (.v 0) (.v 1))) (.ln (.a (.v 0) (.c 1)) (.v 1)))) (by kernel_rfl)
theorem om243 : ∀ {x0 x1 : Nat}, 0 < x0 → x0 < x1 + 1 → (x0 - 1) / 2 < x1 := fun {x0 x1} => Lin.use [x0, x1, x0 - 1, (x0 - 1) / 2] [] (.imp (.or (.and (.ln (.c 1) (.v 0)) (.en (.a (.v 2) (.c 1)) (.v 0))) (.and (.ln (.v 0) (.c 1)) (.en (.v 2) (.c 0)))) (.imp (.and (.ln (.m 2 (.v 3)) (.v 2)) (.ln (.a (.v 2) (.c 1)) (.a (.m 2 (.v 3)) (.c 2)))) (.imp (.ln (.a (.c 0) (.c 1)) (.v 0)) (.imp (.ln (.a (.v 0) (.c 1)) (.a (.v 1) (.c 1))) (.ln (.a (.v 3) (.c 1)) (.v 1)))))) (by kernel_rfl) (Lin.sub_f (x0) (1)) (Lin.div_f (x0 - 1) 2 (by decide))
theorem om244 : ∀ {x0 : Nat}, 2 * x0 + 1 + 1 = 2 * x0 + 1 ∨ 2 * x0 + 1 + 1 = 2 * x0 + 2 := fun {x0} => Lin.use [x0] [] (.or (.en (.a (.a (.m 2 (.v 0)) (.c 1)) (.c 1)) (.a (.m 2 (.v 0)) (.c 1))) (.en (.a (.a (.m 2 (.v 0)) (.c 1)) (.c 1)) (.a (.m 2 (.v 0)) (.c 2)))) (by kernel_rfl)
theorem om245 : ∀ {x0 : Nat}, 2 * x0 + 1 = 2 * x0 + 1 ∨ 2 * x0 + 1 = 2 * x0 + 2 := fun {x0} => Lin.use [x0] [] (.or (.en (.a (.m 2 (.v 0)) (.c 1)) (.a (.m 2 (.v 0)) (.c 1))) (.en (.a (.m 2 (.v 0)) (.c 1)) (.a (.m 2 (.v 0)) (.c 2)))) (by kernel_rfl)
theorem om246 : ∀ {x0 x1 : Nat}, (x0 - 1) / 2 = x1 → 0 < x0 → x0 = 2 * x1 + 1 ∨ x0 = 2 * x1 + 2 := fun {x0 x1} => Lin.use [x0, x1, x0 - 1, (x0 - 1) / 2] [] (.imp (.or (.and (.ln (.c 1) (.v 0)) (.en (.a (.v 2) (.c 1)) (.v 0))) (.and (.ln (.v 0) (.c 1)) (.en (.v 2) (.c 0)))) (.imp (.and (.ln (.m 2 (.v 3)) (.v 2)) (.ln (.a (.v 2) (.c 1)) (.a (.m 2 (.v 3)) (.c 2)))) (.imp (.en (.v 3) (.v 1)) (.imp (.ln (.a (.c 0) (.c 1)) (.v 0)) (.or (.en (.v 0) (.a (.m 2 (.v 1)) (.c 1))) (.en (.v 0) (.a (.m 2 (.v 1)) (.c 2)))))))) (by kernel_rfl) (Lin.sub_f (x0) (1)) (Lin.div_f (x0 - 1) 2 (by decide))
theorem om247 : ∀ {x0 x1 : Nat}, x0 = 2 * x1 + 1 ∨ x0 = 2 * x1 + 2 → (x0 - 1) / 2 = x1 := fun {x0 x1} => Lin.use [x0, x1, x0 - 1, (x0 - 1) / 2] [] (.imp (.or (.and (.ln (.c 1) (.v 0)) (.en (.a (.v 2) (.c 1)) (.v 0))) (.and (.ln (.v 0) (.c 1)) (.en (.v 2) (.c 0)))) (.imp (.and (.ln (.m 2 (.v 3)) (.v 2)) (.ln (.a (.v 2) (.c 1)) (.a (.m 2 (.v 3)) (.c 2)))) (.imp (.or (.en (.v 0) (.a (.m 2 (.v 1)) (.c 1))) (.en (.v 0) (.a (.m 2 (.v 1)) (.c 2)))) (.en (.v 3) (.v 1))))) (by kernel_rfl) (Lin.sub_f (x0) (1)) (Lin.div_f (x0 - 1) 2 (by decide))
theorem om248 : ∀ {x0 x1 x2 x3 : Nat}, x0 - x3 ≤ x2 + 1 → 2 * x3 + 1 ≤ x1 → x0 - x1 ≤ x2 := fun {x0 x1 x2 x3} => Lin.use [x0, x1, x2, x3, x0 - x3, x0 - x1] [] (.imp (.or (.and (.ln (.v 3) (.v 0)) (.en (.a (.v 4) (.v 3)) (.v 0))) (.and (.ln (.v 0) (.v 3)) (.en (.v 4) (.c 0)))) (.imp (.or (.and (.ln (.v 1) (.v 0)) (.en (.a (.v 5) (.v 1)) (.v 0))) (.and (.ln (.v 0) (.v 1)) (.en (.v 5) (.c 0)))) (.imp (.ln (.v 4) (.a (.v 2) (.c 1))) (.imp (.ln (.a (.m 2 (.v 3)) (.c 1)) (.v 1)) (.ln (.v 5) (.v 2)))))) (by kernel_rfl) (Lin.sub_f (x0) (x3)) (Lin.sub_f (x0) (x1))
theorem om249 : ∀ {x0 x1 : Nat}, 2 * x0 + 1 ≤ x1 → x0 ≠ x1 := fun {x0 x1} => Lin.use [x0, x1] [] (.imp (.ln (.a (.m 2 (.v 0)) (.c 1)) (.v 1)) (.not (.en (.v 0) (.v 1)))) (by kernel_rfl)
theorem om250 : ∀ {x0 x1 : Nat}, 2 * x1 + 1 ≤ x0 → 0 < x0 := fun {x0 x1} => Lin.use [x0, x1] [] (.imp (.ln (.a (.m 2 (.v 1)) (.c 1)) (.v 0)) (.ln (.a (.c 0) (.c 1)) (.v 0))) (by kernel_rfl)
theorem om251 : ∀ {x0 x1 x2 : Nat}, 2 * x0 + 1 ≤ x2 → (x1 - 1) / 2 = x2 → x0 ≠ x1 := fun {x0 x1 x2} => Lin.use [x0, x1, x2, x1 - 1, (x1 - 1) / 2] [] (.imp (.or (.and (.ln (.c 1) (.v 1)) (.en (.a (.v 3) (.c 1)) (.v 1))) (.and (.ln (.v 1) (.c 1)) (.en (.v 3) (.c 0)))) (.imp (.and (.ln (.m 2 (.v 4)) (.v 3)) (.ln (.a (.v 3) (.c 1)) (.a (.m 2 (.v 4)) (.c 2)))) (.imp (.ln (.a (.m 2 (.v 0)) (.c 1)) (.v 2)) (.imp (.en (.v 4) (.v 2)) (.not (.en (.v 0) (.v 1))))))) (by kernel_rfl) (Lin.sub_f (x1) (1)) (Lin.div_f (x1 - 1) 2 (by decide))
theorem om252 : ∀ {x0 x1 x2 : Nat}, 2 * x1 + 1 ≤ x2 → (x0 - 1) / 2 = x2 → x0 ≠ x1 := fun {x0 x1 x2} => Lin.use [x0, x1, x2, x0 - 1, (x0 - 1) / 2] [] (.imp (.or (.and (.ln (.c 1) (.v 0)) (.en (.a (.v 3) (.c 1)) (.v 0))) (.and (.ln (.v 0) (.c 1)) (.en (.v 3) (.c 0)))) (.imp (.and (.ln (.m 2 (.v 4)) (.v 3)) (.ln (.a (.v 3) (.c 1)) (.a (.m 2 (.v 4)) (.c 2)))) (.imp (.ln (.a (.m 2 (.v 1)) (.c 1)) (.v 2)) (.imp (.en (.v 4) (.v 2)) (.not (.en (.v 0) (.v 1))))))) (by kernel_rfl) (Lin.sub_f (x0) (1)) (Lin.div_f (x0 - 1) 2 (by decide))
theorem om253 : ∀ {x0 x1 x2 : Nat}, 2 * x1 + 1 ≤ x2 → (x0 - 1) / 2 = x2 → (x0 - 1) / 2 ≠ x1 := fun {x0 x1 x2} => Lin.use [x0, x1, x2, x0 - 1, (x0 - 1) / 2] [] (.imp (.or (.and (.ln (.c 1) (.v 0)) (.en (.a (.v 3) (.c 1)) (.v 0))) (.and (.ln (.v 0) (.c 1)) (.en (.v 3) (.c 0)))) (.imp (.and (.ln (.m 2 (.v 4)) (.v 3)) (.ln (.a (.v 3) (.c 1)) (.a (.m 2 (.v 4)) (.c 2)))) (.imp (.ln (.a (.m 2 (.v 1)) (.c 1)) (.v 2)) (.imp (.en (.v 4) (.v 2)) (.not (.en (.v 4) (.v 1))))))) (by kernel_rfl) (Lin.sub_f (x0) (1)) (Lin.div_f (x0 - 1) 2 (by decide))
theorem om254 : ∀ {x0 x1 : Nat}, ¬2 * x1 + 1 < x0 → x0 ≤ 2 * x1 + 1 := fun {x0 x1} => Lin.use [x0, x1] [] (.imp (.not (.ln (.a (.a (.m 2 (.v 1)) (.c 1)) (.c 1)) (.v 0))) (.ln (.v 0) (.a (.m 2 (.v 1)) (.c 1)))) (by kernel_rfl)
theorem om255 : ∀ {x0 x1 x2 : Nat}, ¬2 * x1 + 1 < x2 → 0 < x0 → x0 < x2 → (x0 - 1) / 2 ≠ x1 := fun {x0 x1 x2} => Lin.use [x0, x1, x2, x0 - 1, (x0 - 1) / 2] [] (.imp (.or (.and (.ln (.c 1) (.v 0)) (.en (.a (.v 3) (.c 1)) (.v 0))) (.and (.ln (.v 0) (.c 1)) (.en (.v 3) (.c 0)))) (.imp (.and (.ln (.m 2 (.v 4)) (.v 3)) (.ln (.a (.v 3) (.c 1)) (.a (.m 2 (.v 4)) (.c 2)))) (.imp (.not (.ln (.a (.a (.m 2 (.v 1)) (.c 1)) (.c 1)) (.v 2))) (.imp (.ln (.a (.c 0) (.c 1)) (.v 0)) (.imp (.ln (.a (.v 0) (.c 1)) (.v 2)) (.not (.en (.v 4) (.v 1)))))))) (by kernel_rfl) (Lin.sub_f (x0) (1)) (Lin.div_f (x0 - 1) 2 (by decide))
theorem om256 : ∀ {x0 : Nat}, x0 - 0 ≤ x0 := fun {x0} => Lin.use [x0, x0 - 0] [] (.imp (.or (.and (.ln (.c 0) (.v 0)) (.en (.a (.v 1) (.c 0)) (.v 0))) (.and (.ln (.v 0) (.c 0)) (.en (.v 1) (.c 0)))) (.ln (.v 1) (.v 0))) (by kernel_rfl) (Lin.sub_f (x0) (0))
theorem om257 : ∀ {x0 : Nat}, (x0 - 1) / 2 ≠ 0 → 2 < x0 := fun {x0} => Lin.use [x0, x0 - 1, (x0 - 1) / 2] [] (.imp (.or (.and (.ln (.c 1) (.v 0)) (.en (.a (.v 1) (.c 1)) (.v 0))) (.and (.ln (.v 0) (.c 1)) (.en (.v 1) (.c 0)))) (.imp (.and (.ln (.m 2 (.v 2)) (.v 1)) (.ln (.a (.v 1) (.c 1)) (.a (.m 2 (.v 2)) (.c 2)))) (.imp (.not (.en (.v 2) (.c 0))) (.ln (.a (.c 2) (.c 1)) (.v 0))))) (by kernel_rfl) (Lin.sub_f (x0) (1)) (Lin.div_f (x0 - 1) 2 (by decide))
theorem om258 : ∀ {x0 x1 x2 : Nat}, x2 ≤ 2 * x0 + 1 → 0 < x1 → x1 < x2 → x0 ≠ (x1 - 1) / 2 := fun {x0 x1 x2} => Lin.use [x0, x1, x2, x1 - 1, (x1 - 1) / 2] [] (.imp (.or (.and (.ln (.c 1) (.v 1)) (.en (.a (.v 3) (.c 1)) (.v 1))) (.and (.ln (.v 1) (.c 1)) (.en (.v 3) (.c 0)))) (.imp (.and (.ln (.m 2 (.v 4)) (.v 3)) (.ln (.a (.v 3) (.c 1)) (.a (.m 2 (.v 4)) (.c 2)))) (.imp (.ln (.v 2) (.a (.m 2 (.v 0)) (.c 1))) (.imp (.ln (.a (.c 0) (.c 1)) (.v 1)) (.imp (.ln (.a (.v 1) (.c 1)) (.v 2)) (.not (.en (.v 0) (.v 4)))))))) (by kernel_rfl) (Lin.sub_f (x1) (1)) (Lin.div_f (x1 - 1) 2 (by decide))
theorem om259 : ∀ {x0 : Nat}, ¬x0 = 0 → (x0 - 1) / 2 < x0 := fun {x0} => Lin.use [x0, x0 - 1, (x0 - 1) / 2] [] (.imp (.or (.and (.ln (.c 1) (.v 0)) (.en (.a (.v 1) (.c 1)) (.v 0))) (.and (.ln (.v 0) (.c 1)) (.en (.v 1) (.c 0)))) (.imp (.and (.ln (.m 2 (.v 2)) (.v 1)) (.ln (.a (.v 1) (.c 1)) (.a (.m 2 (.v 2)) (.c 2)))) (.imp (.not (.en (.v 0) (.c 0))) (.ln (.a (.v 2) (.c 1)) (.v 0))))) (by kernel_rfl) (Lin.sub_f (x0) (1)) (Lin.div_f (x0 - 1) 2 (by decide))
theorem om260 : ∀ {x0 : Nat}, ¬x0 = 0 → 0 < x0 := fun {x0} => Lin.use [x0] [] (.imp (.not (.en (.v 0) (.c 0))) (.ln (.a (.c 0) (.c 1)) (.v 0))) (by kernel_rfl)
theorem om261 : ∀ {x0 : Nat}, 2 < x0 → 0 < x0 := fun {x0} => Lin.use [x0] [] (.imp (.ln (.a (.c 2) (.c 1)) (.v 0)) (.ln (.a (.c 0) (.c 1)) (.v 0))) (by kernel_rfl)
theorem om262 : ∀ {x0 x1 : Nat}, x0 < x1 + 1 → x0 < x1 + 1 + 1 := fun {x0 x1} => Lin.use [x0, x1] [] (.imp (.ln (.a (.v 0) (.c 1)) (.a (.v 1) (.c 1))) (.ln (.a (.v 0) (.c 1)) (.a (.a (.v 1) (.c 1)) (.c 1)))) (by kernel_rfl)
theorem om263 : ∀ {x0 x1 : Nat}, x0 < x1 + 1 → (x0 - 1) / 2 < x1 + 1 := fun {x0 x1} => Lin.use [x0, x1, x0 - 1, (x0 - 1) / 2] [] (.imp (.or (.and (.ln (.c 1) (.v 0)) (.en (.a (.v 2) (.c 1)) (.v 0))) (.and (.ln (.v 0) (.c 1)) (.en (.v 2) (.c 0)))) (.imp (.and (.ln (.m 2 (.v 3)) (.v 2)) (.ln (.a (.v 2) (.c 1)) (.a (.m 2 (.v 3)) (.c 2)))) (.imp (.ln (.a (.v 0) (.c 1)) (.a (.v 1) (.c 1))) (.ln (.a (.v 3) (.c 1)) (.a (.v 1) (.c 1)))))) (by kernel_rfl) (Lin.sub_f (x0) (1)) (Lin.div_f (x0 - 1) 2 (by decide))
theorem om264 : ∀ {x0 : Nat}, 2 < x0 → 0 < (x0 - 1) / 2 := fun {x0} => Lin.use [x0, x0 - 1, (x0 - 1) / 2] [] (.imp (.or (.and (.ln (.c 1) (.v 0)) (.en (.a (.v 1) (.c 1)) (.v 0))) (.and (.ln (.v 0) (.c 1)) (.en (.v 1) (.c 0)))) (.imp (.and (.ln (.m 2 (.v 2)) (.v 1)) (.ln (.a (.v 1) (.c 1)) (.a (.m 2 (.v 2)) (.c 2)))) (.imp (.ln (.a (.c 2) (.c 1)) (.v 0)) (.ln (.a (.c 0) (.c 1)) (.v 2))))) (by kernel_rfl) (Lin.sub_f (x0) (1)) (Lin.div_f (x0 - 1) 2 (by decide))
theorem om265 : ∀ {x0 x1 : Nat}, x1 < 9 ∧ 1 ≤ x0 ∧ x0 ≤ 6 → x0 < 7 := fun {x0 x1} => Lin.use [x0, x1] [] (.imp (.and (.ln (.a (.v 1) (.c 1)) (.c 9)) (.and (.ln (.c 1) (.v 0)) (.ln (.v 0) (.c 6)))) (.ln (.a (.v 0) (.c 1)) (.c 7))) (by kernel_rfl)
theorem om266 : ∀ {x0 : Nat}, x0 ≤ 2 → x0 + 1 ≤ 64 := fun {x0} => Lin.use [x0] [] (.imp (.ln (.v 0) (.c 2)) (.ln (.a (.v 0) (.c 1)) (.c 64))) (by kernel_rfl)
theorem om267 : ∀ {x0 x1 x2 x3 : Nat}, x0 ≤ x1 → x1 = x2 → x2 = x3 → x3 ≤ 9 → x0 ≤ 9 := fun {x0 x1 x2 x3} => Lin.use [x0, x1, x2, x3] [] (.imp (.ln (.v 0) (.v 1)) (.imp (.en (.v 1) (.v 2)) (.imp (.en (.v 2) (.v 3)) (.imp (.ln (.v 3) (.c 9)) (.ln (.v 0) (.c 9)))))) (by kernel_rfl)
theorem om268 : ∀ {x0 x1 : Nat}, x0 ≤ x1 → (↑x0 : Int) + 1 ≤ (↑x1 : Int) + 1 := fun {x0 x1} => Lin.use [x0, x1] [] (.imp (.ln (.v 0) (.v 1)) (.li (.a (.t (.v 0)) (.c 1)) (.a (.t (.v 1)) (.c 1)))) (by kernel_rfl)
theorem om269 : ∀ {x0 : Nat}, 0 ≤ (↑x0 : Int) + 1 := fun {x0} => Lin.use [x0] [] (.li (.c 0) (.a (.t (.v 0)) (.c 1))) (by kernel_rfl)
theorem om270 : ∀ {x0 x1 x2 x3 : Int}, ¬(x2 < x3 ∨ x2 = x3 ∧ x1 < x0) → ¬(x3 < x2 ∨ x3 = x2 ∧ x0 < x1) → x0 = x1 := fun {x0 x1 x2 x3} => Lin.use [] [x0, x1, x2, x3] (.imp (.not (.or (.li (.a (.v 2) (.c 1)) (.v 3)) (.and (.ei (.v 2) (.v 3)) (.li (.a (.v 1) (.c 1)) (.v 0))))) (.imp (.not (.or (.li (.a (.v 3) (.c 1)) (.v 2)) (.and (.ei (.v 3) (.v 2)) (.li (.a (.v 0) (.c 1)) (.v 1))))) (.ei (.v 0) (.v 1)))) (by kernel_rfl)
theorem om271 : ∀ {x0 : Int}, 0 ≤ x0 → 0 ≤ 1 + x0 := fun {x0} => Lin.use [] [x0] (.imp (.li (.c 0) (.v 0)) (.li (.c 0) (.a (.c 1) (.v 0)))) (by kernel_rfl)
theorem om272 : ∀ {x0 : Int}, 0 ≤ x0 → 0 ≤ 0 + x0 := fun {x0} => Lin.use [] [x0] (.imp (.li (.c 0) (.v 0)) (.li (.c 0) (.a (.c 0) (.v 0)))) (by kernel_rfl)
theorem om273 : ∀ {x0 x1 x2 x3 x4 x5 : Int}, x5 = x3 + x1 → x0 + x1 + (x2 + x3) + x4 = x0 + x2 + x4 + x5 := fun {x0 x1 x2 x3 x4 x5} => Lin.use [] [x0, x1, x2, x3, x4, x5] (.imp (.ei (.v 5) (.a (.v 3) (.v 1))) (.ei (.a (.a (.a (.v 0) (.v 1)) (.a (.v 2) (.v 3))) (.v 4)) (.a (.a (.a (.v 0) (.v 2)) (.v 4)) (.v 5)))) (by kernel_rfl)
theorem om274 : ∀ {x0 x1 x2 x3 : Int}, x0 + x1 + x2 + x3 = x0 + x2 + x3 + x1 := fun {x0 x1 x2 x3} => Lin.use [] [x0, x1, x2, x3] (.ei (.a (.a (.a (.v 0) (.v 1)) (.v 2)) (.v 3)) (.a (.a (.a (.v 0) (.v 2)) (.v 3)) (.v 1))) (by kernel_rfl)
theorem om275 : ∀ {x0 x1 x2 x3 : Int}, x0 + x1 + (x2 + x3) = x2 + x0 + (x3 + x1) := fun {x0 x1 x2 x3} => Lin.use [] [x0, x1, x2, x3] (.ei (.a (.a (.v 0) (.v 1)) (.a (.v 2) (.v 3))) (.a (.a (.v 2) (.v 0)) (.a (.v 3) (.v 1)))) (by kernel_rfl)
theorem om276 : ∀ {x0 x1 x2 : Nat}, x0 = x2 → x1 = x2 → x0 = x1 := fun {x0 x1 x2} => Lin.use [x0, x1, x2] [] (.imp (.en (.v 0) (.v 2)) (.imp (.en (.v 1) (.v 2)) (.en (.v 0) (.v 1)))) (by kernel_rfl)
theorem om277 : ∀ {x0 x1 : Nat}, x0 = x1 → x0 = x1 := fun {x0 x1} => Lin.use [x0, x1] [] (.imp (.en (.v 0) (.v 1)) (.en (.v 0) (.v 1))) (by kernel_rfl)
theorem om278 : ∀ {x0 x1 : Int}, 0 + x0 - (1 + x1) = x0 - x1 - 1 := fun {x0 x1} => Lin.use [] [x0, x1] (.ei (.s (.a (.c 0) (.v 0)) (.a (.c 1) (.v 1))) (.s (.s (.v 0) (.v 1)) (.c 1))) (by kernel_rfl)
theorem om279 : ∀ {x0 x1 x2 x3 x4 : Int}, x0 + x1 + x2 + x3 = x0 + x4 + x3 + (x1 - (x4 - x2)) := fun {x0 x1 x2 x3 x4} => Lin.use [] [x0, x1, x2, x3, x4] (.ei (.a (.a (.a (.v 0) (.v 1)) (.v 2)) (.v 3)) (.a (.a (.a (.v 0) (.v 4)) (.v 3)) (.s (.v 1) (.s (.v 4) (.v 2))))) (by kernel_rfl)
theorem om280 : ∀ {x0 x1 : Int}, 1 + x0 - (0 + x1) = x0 - x1 + 1 := fun {x0 x1} => Lin.use [] [x0, x1] (.ei (.s (.a (.c 1) (.v 0)) (.a (.c 0) (.v 1))) (.a (.s (.v 0) (.v 1)) (.c 1))) (by kernel_rfl)
theorem om281 : ∀ {x0 x1 x2 x3 x4 : Int}, x0 + x1 + x2 + x3 = x0 + x4 + x3 + (x1 + (x2 - x4)) := fun {x0 x1 x2 x3 x4} => Lin.use [] [x0, x1, x2, x3, x4] (.ei (.a (.a (.a (.v 0) (.v 1)) (.v 2)) (.v 3)) (.a (.a (.a (.v 0) (.v 4)) (.v 3)) (.a (.v 1) (.s (.v 2) (.v 4))))) (by kernel_rfl)
theorem om282 : ∀ {x0 : Int}, 0 + x0 = 1 + x0 - 1 := fun {x0} => Lin.use [] [x0] (.ei (.a (.c 0) (.v 0)) (.s (.a (.c 1) (.v 0)) (.c 1))) (by kernel_rfl)
theorem om283 : ∀ {x0 : Int}, 0 < 0 + x0 → 0 < x0 := fun {x0} => Lin.use [] [x0] (.imp (.li (.a (.c 0) (.c 1)) (.a (.c 0) (.v 0))) (.li (.a (.c 0) (.c 1)) (.v 0))) (by kernel_rfl)
theorem om284 : ∀ {x0 : Int}, 0 + (x0 - 1) = 0 + x0 - 1 := fun {x0} => Lin.use [] [x0] (.ei (.a (.c 0) (.s (.v 0) (.c 1))) (.s (.a (.c 0) (.v 0)) (.c 1))) (by kernel_rfl)
theorem om285 : ∀ {x0 x1 x2 : Nat}, x2 ≠ x1 → x0 = x2 → ¬x0 = x1 := fun {x0 x1 x2} => Lin.use [x0, x1, x2] [] (.imp (.not (.en (.v 2) (.v 1))) (.imp (.en (.v 0) (.v 2)) (.not (.en (.v 0) (.v 1))))) (by kernel_rfl)
theorem om286 : ∀ {x0 : Int}, 1 + x0 = 0 + x0 + 1 := fun {x0} => Lin.use [] [x0] (.ei (.a (.c 1) (.v 0)) (.a (.a (.c 0) (.v 0)) (.c 1))) (by kernel_rfl)
theorem om287 : ∀ {x0 x1 : Int}, x0 + (x1 + 1) = x0 + x1 + 1 := fun {x0 x1} => Lin.use [] [x0, x1] (.ei (.a (.v 0) (.a (.v 1) (.c 1))) (.a (.a (.v 0) (.v 1)) (.c 1))) (by kernel_rfl)
theorem om288 : ∀ {x0 x1 x2 : Nat}, x1 ≠ x2 → x0 = x2 → ¬x0 = x1 := fun {x0 x1 x2} => Lin.use [x0, x1, x2] [] (.imp (.not (.en (.v 1) (.v 2))) (.imp (.en (.v 0) (.v 2)) (.not (.en (.v 0) (.v 1))))) (by kernel_rfl)
theorem om289 : ∀ {x0 x1 : Int}, 1 + x0 - (0 + x1) - 1 = x0 - x1 := fun {x0 x1} => Lin.use [] [x0, x1] (.ei (.s (.s (.a (.c 1) (.v 0)) (.a (.c 0) (.v 1))) (.c 1)) (.s (.v 0) (.v 1))) (by kernel_rfl)
theorem om290 : ∀ {x0 x1 : Int}, 0 + x1 + 1 ≤ 1 + x0 → 0 ≤ x0 - x1 := fun {x0 x1} => Lin.use [] [x0, x1] (.imp (.li (.a (.a (.c 0) (.v 1)) (.c 1)) (.a (.c 1) (.v 0))) (.li (.c 0) (.s (.v 0) (.v 1)))) (by kernel_rfl)
theorem om291 : ∀ {x0 x1 : Int}, x0 + 1 = x0 - x1 + (x1 + 1) := fun {x0 x1} => Lin.use [] [x0, x1] (.ei (.a (.v 0) (.c 1)) (.a (.s (.v 0) (.v 1)) (.a (.v 1) (.c 1)))) (by kernel_rfl)
theorem om292 : ∀ {x0 x1 x2 x3 x4 x5 x6 : Int}, x5 ≤ x6 → x4 = x6 + x2 → x0 + x1 + x2 ≤ x0 + x3 + x4 + (x1 - x3) - x5 := fun {x0 x1 x2 x3 x4 x5 x6} => Lin.use [] [x0, x1, x2, x3, x4, x5, x6] (.imp (.li (.v 5) (.v 6)) (.imp (.ei (.v 4) (.a (.v 6) (.v 2))) (.li (.a (.a (.v 0) (.v 1)) (.v 2)) (.s (.a (.a (.a (.v 0) (.v 3)) (.v 4)) (.s (.v 1) (.v 3))) (.v 5))))) (by kernel_rfl)
theorem om293 : ∀ {x0 x1 : Int}, 1 + x0 + 1 ≤ 0 + x1 → x0 + 1 ≤ x1 := fun {x0 x1} => Lin.use [] [x0, x1] (.imp (.li (.a (.a (.c 1) (.v 0)) (.c 1)) (.a (.c 0) (.v 1))) (.li (.a (.v 0) (.c 1)) (.v 1))) (by kernel_rfl)
theorem om294 : ∀ {x0 x1 : Int}, 0 ≤ x1 → 1 + x1 + 1 ≤ 0 + x0 → 0 < x0 := fun {x0 x1} => Lin.use [] [x0, x1] (.imp (.li (.c 0) (.v 1)) (.imp (.li (.a (.a (.c 1) (.v 1)) (.c 1)) (.a (.c 0) (.v 0))) (.li (.a (.c 0) (.c 1)) (.v 0)))) (by kernel_rfl)
theorem om295 : ∀ {x0 x1 : Int}, 0 + x0 - (1 + x1) - 1 = x0 - x1 - 2 := fun {x0 x1} => Lin.use [] [x0, x1] (.ei (.s (.s (.a (.c 0) (.v 0)) (.a (.c 1) (.v 1))) (.c 1)) (.s (.s (.v 0) (.v 1)) (.c 2))) (by kernel_rfl)
theorem om296 : ∀ {x0 x1 : Int}, 1 + x1 + 1 ≤ 0 + x0 → 0 ≤ x0 - x1 - 2 := fun {x0 x1} => Lin.use [] [x0, x1] (.imp (.li (.a (.a (.c 1) (.v 1)) (.c 1)) (.a (.c 0) (.v 0))) (.li (.c 0) (.s (.s (.v 0) (.v 1)) (.c 2)))) (by kernel_rfl)
theorem om297 : ∀ {x0 x1 : Int}, x0 - x1 - 1 = x0 - x1 - 2 + 1 := fun {x0 x1} => Lin.use [] [x0, x1] (.ei (.s (.s (.v 0) (.v 1)) (.c 1)) (.a (.s (.s (.v 0) (.v 1)) (.c 2)) (.c 1))) (by kernel_rfl)
theorem om298 : ∀ {x0 x1 x2 x3 x4 x5 x6 x7 x8 x9 : Int}, x0 ≤ x3 + (x1 - x5) - x7 → x6 ≤ x8 → x2 = x4 + x9 → x7 = x8 + x9 → x0 + x1 + x2 ≤ x3 + x1 + x4 + (x1 - x5) - x6 := fun {x0 x1 x2 x3 x4 x5 x6 x7 x8 x9} => Lin.use [] [x0, x1, x2, x3, x4, x5, x6, x7, x8, x9] (.imp (.li (.v 0) (.s (.a (.v 3) (.s (.v 1) (.v 5))) (.v 7))) (.imp (.li (.v 6) (.v 8)) (.imp (.ei (.v 2) (.a (.v 4) (.v 9))) (.imp (.ei (.v 7) (.a (.v 8) (.v 9))) (.li (.a (.a (.v 0) (.v 1)) (.v 2)) (.s (.a (.a (.a (.v 3) (.v 1)) (.v 4)) (.s (.v 1) (.v 5))) (.v 6))))))) (by kernel_rfl)
theorem om299 : ∀ {x0 x1 : Int}, 0 + x0 + 1 ≤ 0 + x1 → x0 + 1 ≤ x1 := fun {x0 x1} => Lin.use [] [x0, x1] (.imp (.li (.a (.a (.c 0) (.v 0)) (.c 1)) (.a (.c 0) (.v 1))) (.li (.a (.v 0) (.c 1)) (.v 1))) (by kernel_rfl)
theorem om300 : ∀ {x0 x1 : Int}, 0 + x0 - (0 + x1) - 1 = x0 - x1 - 1 := fun {x0 x1} => Lin.use [] [x0, x1] (.ei (.s (.s (.a (.c 0) (.v 0)) (.a (.c 0) (.v 1))) (.c 1)) (.s (.s (.v 0) (.v 1)) (.c 1))) (by kernel_rfl)
theorem om301 : ∀ {x0 x1 x2 x3 x4 x5 x6 : Int}, x0 ≤ x3 + (x4 - x5) - x6 → x0 + x1 + x2 ≤ x3 + x1 + x2 + (x4 - x5) - x6 := fun {x0 x1 x2 x3 x4 x5 x6} => Lin.use [] [x0, x1, x2, x3, x4, x5, x6] (.imp (.li (.v 0) (.s (.a (.v 3) (.s (.v 4) (.v 5))) (.v 6))) (.li (.a (.a (.v 0) (.v 1)) (.v 2)) (.s (.a (.a (.a (.v 3) (.v 1)) (.v 2)) (.s (.v 4) (.v 5))) (.v 6)))) (by kernel_rfl)
theorem om302 : ∀ {x0 x1 : Int}, 1 + x0 - (0 + x1) = x0 + 1 - x1 := fun {x0 x1} => Lin.use [] [x0, x1] (.ei (.s (.a (.c 1) (.v 0)) (.a (.c 0) (.v 1))) (.s (.a (.v 0) (.c 1)) (.v 1))) (by kernel_rfl)
theorem om303 : ∀ {x0 x1 : Int}, x0 ≤ x1 → x0 - x1 ≤ 0 := fun {x0 x1} => Lin.use [] [x0, x1] (.imp (.li (.v 0) (.v 1)) (.li (.s (.v 0) (.v 1)) (.c 0))) (by kernel_rfl)
theorem om304 : ∀ {x0 x1 : Int}, x1 ≤ x0 + 1 → 0 ≤ x0 + 1 - x1 := fun {x0 x1} => Lin.use [] [x0, x1] (.imp (.li (.v 1) (.a (.v 0) (.c 1))) (.li (.c 0) (.s (.a (.v 0) (.c 1)) (.v 1)))) (by kernel_rfl)
theorem om305 : ∀ {x0 x1 : Int}, x1 ≤ 0 → x0 + x1 ≤ x0 := fun {x0 x1} => Lin.use [] [x0, x1] (.imp (.li (.v 1) (.c 0)) (.li (.a (.v 0) (.v 1)) (.v 0))) (by kernel_rfl)
theorem om306 : ∀ {x0 x1 : Int}, ¬x1 ≤ x0 + 1 → x0 + 1 ≤ x1 := fun {x0 x1} => Lin.use [] [x0, x1] (.imp (.not (.li (.v 1) (.a (.v 0) (.c 1)))) (.li (.a (.v 0) (.c 1)) (.v 1))) (by kernel_rfl)
theorem om307 : ∀ {x0 x1 : Int}, ¬x0 ≤ x1 + 1 → 0 ≤ x1 → 0 < x0 := fun {x0 x1} => Lin.use [] [x0, x1] (.imp (.not (.li (.v 0) (.a (.v 1) (.c 1)))) (.imp (.li (.c 0) (.v 1)) (.li (.a (.c 0) (.c 1)) (.v 0)))) (by kernel_rfl)
theorem om308 : ∀ {x0 x1 : Int}, x0 - 1 + 1 = x0 - x1 - 1 + (x1 + 1) := fun {x0 x1} => Lin.use [] [x0, x1] (.ei (.a (.s (.v 0) (.c 1)) (.c 1)) (.a (.s (.s (.v 0) (.v 1)) (.c 1)) (.a (.v 1) (.c 1)))) (by kernel_rfl)
theorem om309 : ∀ {x0 x1 x2 x3 x4 x5 x6 : Int}, x0 ≤ x3 + (x4 - x1) - x6 → x2 = x6 + x5 → x0 + x1 + x2 ≤ x3 + x4 + x5 := fun {x0 x1 x2 x3 x4 x5 x6} => Lin.use [] [x0, x1, x2, x3, x4, x5, x6] (.imp (.li (.v 0) (.s (.a (.v 3) (.s (.v 4) (.v 1))) (.v 6))) (.imp (.ei (.v 2) (.a (.v 6) (.v 5))) (.li (.a (.a (.v 0) (.v 1)) (.v 2)) (.a (.a (.v 3) (.v 4)) (.v 5))))) (by kernel_rfl)
theorem om310 : ∀ {x0 x1 x2 : Nat}, x2 = x1 → x0 = x2 → x0 = x1 := fun {x0 x1 x2} => Lin.use [x0, x1, x2] [] (.imp (.en (.v 2) (.v 1)) (.imp (.en (.v 0) (.v 2)) (.en (.v 0) (.v 1)))) (by kernel_rfl)
theorem om311 : ∀ {x0 x1 x2 : Nat}, x2 = x0 → x1 = x2 → x0 = x1 := fun {x0 x1 x2} => Lin.use [x0, x1, x2] [] (.imp (.en (.v 2) (.v 0)) (.imp (.en (.v 1) (.v 2)) (.en (.v 0) (.v 1)))) (by kernel_rfl)
theorem om312 : ∀ {x0 x1 x2 x3 x4 : Int}, x2 ≤ x3 + x4 → x0 + x1 + x2 ≤ x3 + x0 + (x4 + x1) := fun {x0 x1 x2 x3 x4} => Lin.use [] [x0, x1, x2, x3, x4] (.imp (.li (.v 2) (.a (.v 3) (.v 4))) (.li (.a (.a (.v 0) (.v 1)) (.v 2)) (.a (.a (.v 3) (.v 0)) (.a (.v 4) (.v 1))))) (by kernel_rfl)
theorem om313 : ∀ {x0 x1 x2 x3 x4 x5 : Int}, x4 < x1 ∨ x4 = x1 ∧ x5 < x3 → x0 < x4 ∨ x0 = x4 ∧ x2 < x5 → x0 < x1 ∨ x0 = x1 ∧ x2 < x3 := fun {x0 x1 x2 x3 x4 x5} => Lin.use [] [x0, x1, x2, x3, x4, x5] (.imp (.or (.li (.a (.v 4) (.c 1)) (.v 1)) (.and (.ei (.v 4) (.v 1)) (.li (.a (.v 5) (.c 1)) (.v 3)))) (.imp (.or (.li (.a (.v 0) (.c 1)) (.v 4)) (.and (.ei (.v 0) (.v 4)) (.li (.a (.v 2) (.c 1)) (.v 5)))) (.or (.li (.a (.v 0) (.c 1)) (.v 1)) (.and (.ei (.v 0) (.v 1)) (.li (.a (.v 2) (.c 1)) (.v 3)))))) (by kernel_rfl)
theorem om314 : ∀ {x0 x1 : Nat}, x0 ≤ x1 → x1 < 1 → x0 = x1 := fun {x0 x1} => Lin.use [x0, x1] [] (.imp (.ln (.v 0) (.v 1)) (.imp (.ln (.a (.v 1) (.c 1)) (.c 1)) (.en (.v 0) (.v 1)))) (by kernel_rfl)
theorem om315 : ∀ {x0 x1 : Nat}, x0 ≤ x1 → ¬x0 = x1 → x0 ≤ x1 - 1 := fun {x0 x1} => Lin.use [x0, x1, x1 - 1] [] (.imp (.or (.and (.ln (.c 1) (.v 1)) (.en (.a (.v 2) (.c 1)) (.v 1))) (.and (.ln (.v 1) (.c 1)) (.en (.v 2) (.c 0)))) (.imp (.ln (.v 0) (.v 1)) (.imp (.not (.en (.v 0) (.v 1))) (.ln (.v 0) (.v 2))))) (by kernel_rfl) (Lin.sub_f (x1) (1))
theorem om316 : ∀ {x0 : Nat}, 1 ≤ x0 → x0 - 1 < x0 := fun {x0} => Lin.use [x0, x0 - 1] [] (.imp (.or (.and (.ln (.c 1) (.v 0)) (.en (.a (.v 1) (.c 1)) (.v 0))) (.and (.ln (.v 0) (.c 1)) (.en (.v 1) (.c 0)))) (.imp (.ln (.c 1) (.v 0)) (.ln (.a (.v 1) (.c 1)) (.v 0)))) (by kernel_rfl) (Lin.sub_f (x0) (1))
theorem om317 : ∀ {x0 x1 x2 : Nat}, x0 ≤ x1 + 1 + x2 → x0 ≤ x1 + (x2 + 1) := fun {x0 x1 x2} => Lin.use [x0, x1, x2] [] (.imp (.ln (.v 0) (.a (.a (.v 1) (.c 1)) (.v 2))) (.ln (.v 0) (.a (.v 1) (.a (.v 2) (.c 1))))) (by kernel_rfl)
theorem om318 : ∀ {x0 x1 x2 : Nat}, x0 < x1 + (x2 + 1) → x0 < x1 + 1 + x2 := fun {x0 x1 x2} => Lin.use [x0, x1, x2] [] (.imp (.ln (.a (.v 0) (.c 1)) (.a (.v 1) (.a (.v 2) (.c 1)))) (.ln (.a (.v 0) (.c 1)) (.a (.a (.v 1) (.c 1)) (.v 2)))) (by kernel_rfl)
theorem om319 : ∀ {x0 : Nat}, 2 ≤ x0 → 2 ≤ x0 + 1 := fun {x0} => Lin.use [x0] [] (.imp (.ln (.c 2) (.v 0)) (.ln (.c 2) (.a (.v 0) (.c 1)))) (by kernel_rfl)
theorem om320 : ∀ {x0 x1 x2 : Nat}, x0 + (x1 + 1) ≤ x2 → x0 + 1 + x1 ≤ x2 := fun {x0 x1 x2} => Lin.use [x0, x1, x2] [] (.imp (.ln (.a (.v 0) (.a (.v 1) (.c 1))) (.v 2)) (.ln (.a (.a (.v 0) (.c 1)) (.v 1)) (.v 2))) (by kernel_rfl)
theorem om321 : ∀ {x0 x1 : Nat}, x0 < x1 → ¬x0 = x1 - 1 → x0 < x1 - 1 := fun {x0 x1} => Lin.use [x0, x1, x1 - 1] [] (.imp (.or (.and (.ln (.c 1) (.v 1)) (.en (.a (.v 2) (.c 1)) (.v 1))) (.and (.ln (.v 1) (.c 1)) (.en (.v 2) (.c 0)))) (.imp (.ln (.a (.v 0) (.c 1)) (.v 1)) (.imp (.not (.en (.v 0) (.v 2))) (.ln (.a (.v 0) (.c 1)) (.v 2))))) (by kernel_rfl) (Lin.sub_f (x1) (1))
theorem om322 : ∀ {x0 : Nat}, 2 ≤ x0 → x0 - 1 < x0 := fun {x0} => Lin.use [x0, x0 - 1] [] (.imp (.or (.and (.ln (.c 1) (.v 0)) (.en (.a (.v 1) (.c 1)) (.v 0))) (.and (.ln (.v 0) (.c 1)) (.en (.v 1) (.c 0)))) (.imp (.ln (.c 2) (.v 0)) (.ln (.a (.v 1) (.c 1)) (.v 0)))) (by kernel_rfl) (Lin.sub_f (x0) (1))
theorem om323 : ∀ {x0 x1 x2 : Nat}, x0 + (x2 + 1) ≤ x1 → x0 < x1 := fun {x0 x1 x2} => Lin.use [x0, x1, x2] [] (.imp (.ln (.a (.v 0) (.a (.v 2) (.c 1))) (.v 1)) (.ln (.a (.v 0) (.c 1)) (.v 1))) (by kernel_rfl)
theorem om324 : ∀ {x0 x1 x2 : Nat}, x0 + (x2 + 1) ≤ x1 → x0 - 1 < x1 := fun {x0 x1 x2} => Lin.use [x0, x1, x2, x0 - 1] [] (.imp (.or (.and (.ln (.c 1) (.v 0)) (.en (.a (.v 3) (.c 1)) (.v 0))) (.and (.ln (.v 0) (.c 1)) (.en (.v 3) (.c 0)))) (.imp (.ln (.a (.v 0) (.a (.v 2) (.c 1))) (.v 1)) (.ln (.a (.v 3) (.c 1)) (.v 1)))) (by kernel_rfl) (Lin.sub_f (x0) (1))
theorem om325 : ∀ {x0 : Nat}, 2 ≤ x0 → x0 ≠ x0 - 1 := fun {x0} => Lin.use [x0, x0 - 1] [] (.imp (.or (.and (.ln (.c 1) (.v 0)) (.en (.a (.v 1) (.c 1)) (.v 0))) (.and (.ln (.v 0) (.c 1)) (.en (.v 1) (.c 0)))) (.imp (.ln (.c 2) (.v 0)) (.not (.en (.v 0) (.v 1))))) (by kernel_rfl) (Lin.sub_f (x0) (1))
theorem om326 : ∀ {x0 x1 : Nat}, x0 ≤ x0 + (x1 + 1) := fun {x0 x1} => Lin.use [x0, x1] [] (.ln (.v 0) (.a (.v 0) (.a (.v 1) (.c 1)))) (by kernel_rfl)
theorem om327 : ∀ {x0 x1 : Nat}, 0 + (x0 - 1) - x1 = x0 - 1 - x1 := fun {x0 x1} => Lin.use [x0, x1, x0 - 1, 0 + (x0 - 1) - x1, x0 - 1 - x1] [] (.imp (.or (.and (.ln (.c 1) (.v 0)) (.en (.a (.v 2) (.c 1)) (.v 0))) (.and (.ln (.v 0) (.c 1)) (.en (.v 2) (.c 0)))) (.imp (.or (.and (.ln (.v 1) (.a (.c 0) (.v 2))) (.en (.a (.v 3) (.v 1)) (.a (.c 0) (.v 2)))) (.and (.ln (.a (.c 0) (.v 2)) (.v 1)) (.en (.v 3) (.c 0)))) (.imp (.or (.and (.ln (.v 1) (.v 2)) (.en (.a (.v 4) (.v 1)) (.v 2))) (.and (.ln (.v 2) (.v 1)) (.en (.v 4) (.c 0)))) (.en (.v 3) (.v 4))))) (by kernel_rfl) (Lin.sub_f (x0) (1)) (Lin.sub_f (0 + (x0 - 1)) (x1)) (Lin.sub_f (x0 - 1) (x1))
theorem om328 : ∀ {x0 x1 : Nat}, x1 ≤ x0 → ¬x0 < x1 := fun {x0 x1} => Lin.use [x0, x1] [] (.imp (.ln (.v 1) (.v 0)) (.not (.ln (.a (.v 0) (.c 1)) (.v 1)))) (by kernel_rfl)
theorem om329 : ∀ {x0 x1 x2 : Nat}, x0 ≤ x2 → x2 < x1 → x0 < x1 := fun {x0 x1 x2} => Lin.use [x0, x1, x2] [] (.imp (.ln (.v 0) (.v 2)) (.imp (.ln (.a (.v 2) (.c 1)) (.v 1)) (.ln (.a (.v 0) (.c 1)) (.v 1)))) (by kernel_rfl)
theorem om330 : ∀ {x0 x1 x2 : Nat}, x2 ≤ x1 → x1 < x0 → ¬x2 = x1 → x0 - 1 - x1 < x0 - 1 - x2 := fun {x0 x1 x2} => Lin.use [x0, x1, x2, x0 - 1, x0 - 1 - x1, x0 - 1 - x2] [] (.imp (.or (.and (.ln (.c 1) (.v 0)) (.en (.a (.v 3) (.c 1)) (.v 0))) (.and (.ln (.v 0) (.c 1)) (.en (.v 3) (.c 0)))) (.imp (.or (.and (.ln (.v 1) (.v 3)) (.en (.a (.v 4) (.v 1)) (.v 3))) (.and (.ln (.v 3) (.v 1)) (.en (.v 4) (.c 0)))) (.imp (.or (.and (.ln (.v 2) (.v 3)) (.en (.a (.v 5) (.v 2)) (.v 3))) (.and (.ln (.v 3) (.v 2)) (.en (.v 5) (.c 0)))) (.imp (.ln (.v 2) (.v 1)) (.imp (.ln (.a (.v 1) (.c 1)) (.v 0)) (.imp (.not (.en (.v 2) (.v 1))) (.ln (.a (.v 4) (.c 1)) (.v 5)))))))) (by kernel_rfl) (Lin.sub_f (x0) (1)) (Lin.sub_f (x0 - 1) (x1)) (Lin.sub_f (x0 - 1) (x2))
theorem om331 : ∀ {x0 x1 x2 : Nat}, x2 < x0 → x0 - 1 - x1 < x0 := fun {x0 x1 x2} => Lin.use [x0, x1, x2, x0 - 1, x0 - 1 - x1] [] (.imp (.or (.and (.ln (.c 1) (.v 0)) (.en (.a (.v 3) (.c 1)) (.v 0))) (.and (.ln (.v 0) (.c 1)) (.en (.v 3) (.c 0)))) (.imp (.or (.and (.ln (.v 1) (.v 3)) (.en (.a (.v 4) (.v 1)) (.v 3))) (.and (.ln (.v 3) (.v 1)) (.en (.v 4) (.c 0)))) (.imp (.ln (.a (.v 2) (.c 1)) (.v 0)) (.ln (.a (.v 4) (.c 1)) (.v 0))))) (by kernel_rfl) (Lin.sub_f (x0) (1)) (Lin.sub_f (x0 - 1) (x1))
theorem om332 : ∀ {x0 x1 : Nat}, 2 ≤ x1 → x0 = x1 → 1 ≤ x0 := fun {x0 x1} => Lin.use [x0, x1] [] (.imp (.ln (.c 2) (.v 1)) (.imp (.en (.v 0) (.v 1)) (.ln (.c 1) (.v 0)))) (by kernel_rfl)
theorem om333 : ∀ {x0 x1 : Nat}, x0 = x1 → x0 ≤ x1 := fun {x0 x1} => Lin.use [x0, x1] [] (.imp (.en (.v 0) (.v 1)) (.ln (.v 0) (.v 1))) (by kernel_rfl)
theorem om334 : ∀ {x0 x1 : Nat}, 2 ≤ x1 → x0 ≤ 1 + (x1 - 1) → ¬x0 = x1 → x0 < 1 + (x1 - 1) := fun {x0 x1} => Lin.use [x0, x1, x1 - 1] [] (.imp (.or (.and (.ln (.c 1) (.v 1)) (.en (.a (.v 2) (.c 1)) (.v 1))) (.and (.ln (.v 1) (.c 1)) (.en (.v 2) (.c 0)))) (.imp (.ln (.c 2) (.v 1)) (.imp (.ln (.v 0) (.a (.c 1) (.v 2))) (.imp (.not (.en (.v 0) (.v 1))) (.ln (.a (.v 0) (.c 1)) (.a (.c 1) (.v 2))))))) (by kernel_rfl) (Lin.sub_f (x1) (1))
theorem om335 : ∀ {x0 : Nat}, 2 ≤ x0 → 0 < x0 := fun {x0} => Lin.use [x0] [] (.imp (.ln (.c 2) (.v 0)) (.ln (.a (.c 0) (.c 1)) (.v 0))) (by kernel_rfl)
theorem om336 : ∀ {x0 x1 : Nat}, 2 ≤ x1 → x0 ≤ 1 + (x1 - 1) → x0 - 1 < x1 := fun {x0 x1} => Lin.use [x0, x1, x1 - 1, x0 - 1] [] (.imp (.or (.and (.ln (.c 1) (.v 1)) (.en (.a (.v 2) (.c 1)) (.v 1))) (.and (.ln (.v 1) (.c 1)) (.en (.v 2) (.c 0)))) (.imp (.or (.and (.ln (.c 1) (.v 0)) (.en (.a (.v 3) (.c 1)) (.v 0))) (.and (.ln (.v 0) (.c 1)) (.en (.v 3) (.c 0)))) (.imp (.ln (.c 2) (.v 1)) (.imp (.ln (.v 0) (.a (.c 1) (.v 2))) (.ln (.a (.v 3) (.c 1)) (.v 1)))))) (by kernel_rfl) (Lin.sub_f (x1) (1)) (Lin.sub_f (x0) (1))
theorem om337 : ∀ {x0 : Nat}, x0 > 1 → 0 ≠ x0 - 1 := fun {x0} => Lin.use [x0, x0 - 1] [] (.imp (.or (.and (.ln (.c 1) (.v 0)) (.en (.a (.v 1) (.c 1)) (.v 0))) (.and (.ln (.v 0) (.c 1)) (.en (.v 1) (.c 0)))) (.imp (.ln (.a (.c 1) (.c 1)) (.v 0)) (.not (.en (.c 0) (.v 1))))) (by kernel_rfl) (Lin.sub_f (x0) (1))
theorem om338 : ∀ {x0 : Nat}, 0 ≤ x0 - 1 := fun {x0} => Lin.use [x0, x0 - 1] [] (.imp (.or (.and (.ln (.c 1) (.v 0)) (.en (.a (.v 1) (.c 1)) (.v 0))) (.and (.ln (.v 0) (.c 1)) (.en (.v 1) (.c 0)))) (.ln (.c 0) (.v 1))) (by kernel_rfl) (Lin.sub_f (x0) (1))
theorem om339 : ∀ {x0 : Nat}, x0 > 1 → x0 - 1 < x0 := fun {x0} => Lin.use [x0, x0 - 1] [] (.imp (.or (.and (.ln (.c 1) (.v 0)) (.en (.a (.v 1) (.c 1)) (.v 0))) (.and (.ln (.v 0) (.c 1)) (.en (.v 1) (.c 0)))) (.imp (.ln (.a (.c 1) (.c 1)) (.v 0)) (.ln (.a (.v 1) (.c 1)) (.v 0)))) (by kernel_rfl) (Lin.sub_f (x0) (1))
theorem om340 : ∀ {x0 : Nat}, x0 > 1 → 1 ≤ x0 := fun {x0} => Lin.use [x0] [] (.imp (.ln (.a (.c 1) (.c 1)) (.v 0)) (.ln (.c 1) (.v 0))) (by kernel_rfl)
theorem om341 : ∀ {x0 x1 : Nat}, 2 ≤ x1 → x0 ≤ 1 + (x1 - 1) → x0 ≤ x1 := fun {x0 x1} => Lin.use [x0, x1, x1 - 1] [] (.imp (.or (.and (.ln (.c 1) (.v 1)) (.en (.a (.v 2) (.c 1)) (.v 1))) (.and (.ln (.v 1) (.c 1)) (.en (.v 2) (.c 0)))) (.imp (.ln (.c 2) (.v 1)) (.imp (.ln (.v 0) (.a (.c 1) (.v 2))) (.ln (.v 0) (.v 1))))) (by kernel_rfl) (Lin.sub_f (x1) (1))
theorem om342 : ∀ {x0 : Nat}, 1 ≤ x0 → ¬x0 > 1 → x0 = 1 := fun {x0} => Lin.use [x0] [] (.imp (.ln (.c 1) (.v 0)) (.imp (.not (.ln (.a (.c 1) (.c 1)) (.v 0))) (.en (.v 0) (.c 1)))) (by kernel_rfl)
theorem om343 : ∀ {x0 : Nat}, 2 ≤ x0 → 2 + (x0 - (1 + 1)) ≤ x0 := fun {x0} => Lin.use [x0, x0 - (1 + 1)] [] (.imp (.or (.and (.ln (.a (.c 1) (.c 1)) (.v 0)) (.en (.a (.v 1) (.a (.c 1) (.c 1))) (.v 0))) (.and (.ln (.v 0) (.a (.c 1) (.c 1))) (.en (.v 1) (.c 0)))) (.imp (.ln (.c 2) (.v 0)) (.ln (.a (.c 2) (.v 1)) (.v 0)))) (by kernel_rfl) (Lin.sub_f (x0) (1 + 1))
theorem om344 : ∀ {x0 x1 : Nat}, x0 < x1 → x1 < 2 → x0 = 0 := fun {x0 x1} => Lin.use [x0, x1] [] (.imp (.ln (.a (.v 0) (.c 1)) (.v 1)) (.imp (.ln (.a (.v 1) (.c 1)) (.c 2)) (.en (.v 0) (.c 0)))) (by kernel_rfl)
theorem om345 : ∀ {x0 x1 : Nat}, x1 < x0 → x0 < 2 → x0 = 1 := fun {x0 x1} => Lin.use [x0, x1] [] (.imp (.ln (.a (.v 1) (.c 1)) (.v 0)) (.imp (.ln (.a (.v 0) (.c 1)) (.c 2)) (.en (.v 0) (.c 1)))) (by kernel_rfl)
theorem om346 : ∀ {x0 x1 : Nat}, 2 ≤ x1 → x0 ≤ 2 + (x1 - (1 + 1)) → x0 ≤ x1 := fun {x0 x1} => Lin.use [x0, x1, x1 - (1 + 1)] [] (.imp (.or (.and (.ln (.a (.c 1) (.c 1)) (.v 1)) (.en (.a (.v 2) (.a (.c 1) (.c 1))) (.v 1))) (.and (.ln (.v 1) (.a (.c 1) (.c 1))) (.en (.v 2) (.c 0)))) (.imp (.ln (.c 2) (.v 1)) (.imp (.ln (.v 0) (.a (.c 2) (.v 2))) (.ln (.v 0) (.v 1))))) (by kernel_rfl) (Lin.sub_f (x1) (1 + 1))
theorem om347 : ∀ {x0 : Nat}, 2 ≤ x0 → 1 ≤ x0 := fun {x0} => Lin.use [x0] [] (.imp (.ln (.c 2) (.v 0)) (.ln (.c 1) (.v 0))) (by kernel_rfl)
theorem om348 : ∀ {x0 x1 : Nat}, 2 ≤ x1 → x1 ≤ x0 → 1 ≤ x0 := fun {x0 x1} => Lin.use [x0, x1] [] (.imp (.ln (.c 2) (.v 1)) (.imp (.ln (.v 1) (.v 0)) (.ln (.c 1) (.v 0)))) (by kernel_rfl)
theorem om349 : ∀ {x0 x1 x2 : Nat}, x2 ≤ x1 → x0 ≤ x2 + (x1 - x2) → x0 ≤ x1 := fun {x0 x1 x2} => Lin.use [x0, x1, x2, x1 - x2] [] (.imp (.or (.and (.ln (.v 2) (.v 1)) (.en (.a (.v 3) (.v 2)) (.v 1))) (.and (.ln (.v 1) (.v 2)) (.en (.v 3) (.c 0)))) (.imp (.ln (.v 2) (.v 1)) (.imp (.ln (.v 0) (.a (.v 2) (.v 3))) (.ln (.v 0) (.v 1))))) (by kernel_rfl) (Lin.sub_f (x1) (x2))
theorem om350 : ∀ {x0 x1 : Nat}, x0 ≤ x1 → x1 - x0 ≤ 0 → x0 = x1 := fun {x0 x1} => Lin.use [x0, x1, x1 - x0] [] (.imp (.or (.and (.ln (.v 0) (.v 1)) (.en (.a (.v 2) (.v 0)) (.v 1))) (.and (.ln (.v 1) (.v 0)) (.en (.v 2) (.c 0)))) (.imp (.ln (.v 0) (.v 1)) (.imp (.ln (.v 2) (.c 0)) (.en (.v 0) (.v 1))))) (by kernel_rfl) (Lin.sub_f (x1) (x0))
theorem om351 : ∀ {x0 x1 : Nat}, x0 ≤ x1 → x0 ≥ x1 → x0 = x1 := fun {x0 x1} => Lin.use [x0, x1] [] (.imp (.ln (.v 0) (.v 1)) (.imp (.ln (.v 1) (.v 0)) (.en (.v 0) (.v 1)))) (by kernel_rfl)
theorem om352 : ∀ {x0 x1 : Nat}, ¬x0 ≥ x1 → x0 ≤ (x0 + x1) / 2 := fun {x0 x1} => Lin.use [x0, x1, (x0 + x1) / 2] [] (.imp (.and (.ln (.m 2 (.v 2)) (.a (.v 0) (.v 1))) (.ln (.a (.a (.v 0) (.v 1)) (.c 1)) (.a (.m 2 (.v 2)) (.c 2)))) (.imp (.not (.ln (.v 1) (.v 0))) (.ln (.v 0) (.v 2)))) (by kernel_rfl) (Lin.div_f (x0 + x1) 2 (by decide))
theorem om353 : ∀ {x0 x1 x2 : Nat}, x1 ≤ x2 → ¬x0 ≥ x1 → (x0 + x1) / 2 ≤ x2 := fun {x0 x1 x2} => Lin.use [x0, x1, x2, (x0 + x1) / 2] [] (.imp (.and (.ln (.m 2 (.v 3)) (.a (.v 0) (.v 1))) (.ln (.a (.a (.v 0) (.v 1)) (.c 1)) (.a (.m 2 (.v 3)) (.c 2)))) (.imp (.ln (.v 1) (.v 2)) (.imp (.not (.ln (.v 1) (.v 0))) (.ln (.v 3) (.v 2))))) (by kernel_rfl) (Lin.div_f (x0 + x1) 2 (by decide))
theorem om354 : ∀ {x0 x1 x2 : Nat}, x1 - x0 ≤ x2 + 1 → (x0 + x1) / 2 - x0 ≤ x2 := fun {x0 x1 x2} => Lin.use [x0, x1, x2, x1 - x0, (x0 + x1) / 2, (x0 + x1) / 2 - x0] [] (.imp (.or (.and (.ln (.v 0) (.v 1)) (.en (.a (.v 3) (.v 0)) (.v 1))) (.and (.ln (.v 1) (.v 0)) (.en (.v 3) (.c 0)))) (.imp (.and (.ln (.m 2 (.v 4)) (.a (.v 0) (.v 1))) (.ln (.a (.a (.v 0) (.v 1)) (.c 1)) (.a (.m 2 (.v 4)) (.c 2)))) (.imp (.or (.and (.ln (.v 0) (.v 4)) (.en (.a (.v 5) (.v 0)) (.v 4))) (.and (.ln (.v 4) (.v 0)) (.en (.v 5) (.c 0)))) (.imp (.ln (.v 3) (.a (.v 2) (.c 1))) (.ln (.v 5) (.v 2)))))) (by kernel_rfl) (Lin.sub_f (x1) (x0)) (Lin.div_f (x0 + x1) 2 (by decide)) (Lin.sub_f ((x0 + x1) / 2) (x0))
theorem om355 : ∀ {x0 x1 x2 x3 x4 x5 : Int}, ¬(x1 < x4 ∨ x1 = x4 ∧ x3 < x5) → x0 < x4 ∨ x0 = x4 ∧ x2 < x5 → x0 < x1 ∨ x0 = x1 ∧ x2 < x3 := fun {x0 x1 x2 x3 x4 x5} => Lin.use [] [x0, x1, x2, x3, x4, x5] (.imp (.not (.or (.li (.a (.v 1) (.c 1)) (.v 4)) (.and (.ei (.v 1) (.v 4)) (.li (.a (.v 3) (.c 1)) (.v 5))))) (.imp (.or (.li (.a (.v 0) (.c 1)) (.v 4)) (.and (.ei (.v 0) (.v 4)) (.li (.a (.v 2) (.c 1)) (.v 5)))) (.or (.li (.a (.v 0) (.c 1)) (.v 1)) (.and (.ei (.v 0) (.v 1)) (.li (.a (.v 2) (.c 1)) (.v 3)))))) (by kernel_rfl)
theorem om356 : ∀ {x0 x1 : Nat}, ¬x0 ≥ x1 → (x0 + x1) / 2 + 1 ≤ x1 := fun {x0 x1} => Lin.use [x0, x1, (x0 + x1) / 2] [] (.imp (.and (.ln (.m 2 (.v 2)) (.a (.v 0) (.v 1))) (.ln (.a (.a (.v 0) (.v 1)) (.c 1)) (.a (.m 2 (.v 2)) (.c 2)))) (.imp (.not (.ln (.v 1) (.v 0))) (.ln (.a (.v 2) (.c 1)) (.v 1)))) (by kernel_rfl) (Lin.div_f (x0 + x1) 2 (by decide))
theorem om357 : ∀ {x0 x1 x2 : Nat}, x0 - x1 ≤ x2 + 1 → x0 - ((x1 + x0) / 2 + 1) ≤ x2 := fun {x0 x1 x2} => Lin.use [x0, x1, x2, x0 - x1, (x1 + x0) / 2, x0 - ((x1 + x0) / 2 + 1)] [] (.imp (.or (.and (.ln (.v 1) (.v 0)) (.en (.a (.v 3) (.v 1)) (.v 0))) (.and (.ln (.v 0) (.v 1)) (.en (.v 3) (.c 0)))) (.imp (.and (.ln (.m 2 (.v 4)) (.a (.v 1) (.v 0))) (.ln (.a (.a (.v 1) (.v 0)) (.c 1)) (.a (.m 2 (.v 4)) (.c 2)))) (.imp (.or (.and (.ln (.a (.v 4) (.c 1)) (.v 0)) (.en (.a (.v 5) (.a (.v 4) (.c 1))) (.v 0))) (.and (.ln (.v 0) (.a (.v 4) (.c 1))) (.en (.v 5) (.c 0)))) (.imp (.ln (.v 3) (.a (.v 2) (.c 1))) (.ln (.v 5) (.v 2)))))) (by kernel_rfl) (Lin.sub_f (x0) (x1)) (Lin.div_f (x1 + x0) 2 (by decide)) (Lin.sub_f (x0) ((x1 + x0) / 2 + 1))
theorem om358 : ∀ {x0 x1 x2 : Nat}, x0 < (x1 + x2) / 2 + 1 → x0 ≤ (x1 + x2) / 2 := fun {x0 x1 x2} => Lin.use [x0, x1, x2, (x1 + x2) / 2] [] (.imp (.and (.ln (.m 2 (.v 3)) (.a (.v 1) (.v 2))) (.ln (.a (.a (.v 1) (.v 2)) (.c 1)) (.a (.m 2 (.v 3)) (.c 2)))) (.imp (.ln (.a (.v 0) (.c 1)) (.a (.v 3) (.c 1))) (.ln (.v 0) (.v 3)))) (by kernel_rfl) (Lin.div_f (x1 + x2) 2 (by decide))
theorem om359 : ∀ {x0 x1 x2 : Nat}, x1 ≤ x2 → ¬x0 ≥ x1 → (x0 + x1) / 2 < x2 := fun {x0 x1 x2} => Lin.use [x0, x1, x2, (x0 + x1) / 2] [] (.imp (.and (.ln (.m 2 (.v 3)) (.a (.v 0) (.v 1))) (.ln (.a (.a (.v 0) (.v 1)) (.c 1)) (.a (.m 2 (.v 3)) (.c 2)))) (.imp (.ln (.v 1) (.v 2)) (.imp (.not (.ln (.v 1) (.v 0))) (.ln (.a (.v 3) (.c 1)) (.v 2))))) (by kernel_rfl) (Lin.div_f (x0 + x1) 2 (by decide))
theorem om360 : ∀ {x0 x1 : Nat}, x0 + 0 = x1 → x0 = x1 := fun {x0 x1} => Lin.use [x0, x1] [] (.imp (.en (.a (.v 0) (.c 0)) (.v 1)) (.en (.v 0) (.v 1))) (by kernel_rfl)
theorem om361 : ∀ {x0 : Nat}, 0 ≤ x0 := fun {x0} => Lin.use [x0] [] (.ln (.c 0) (.v 0)) (by kernel_rfl)
theorem om362 : ∀ {x0 x1 x2 : Nat}, x0 + (x1 + 1) = x2 → x0 + 1 + x1 = x2 := fun {x0 x1 x2} => Lin.use [x0, x1, x2] [] (.imp (.en (.a (.v 0) (.a (.v 1) (.c 1))) (.v 2)) (.en (.a (.a (.v 0) (.c 1)) (.v 1)) (.v 2))) (by kernel_rfl)
theorem om363 : ∀ {x0 x1 x2 : Nat}, x0 + (x2 + 1) = x1 → x0 < x1 := fun {x0 x1 x2} => Lin.use [x0, x1, x2] [] (.imp (.en (.a (.v 0) (.a (.v 2) (.c 1))) (.v 1)) (.ln (.a (.v 0) (.c 1)) (.v 1))) (by kernel_rfl)
theorem om364 : ∀ {x0 x1 : Nat}, x0 - x1 ≤ x0 := fun {x0 x1} => Lin.use [x0, x1, x0 - x1] [] (.imp (.or (.and (.ln (.v 1) (.v 0)) (.en (.a (.v 2) (.v 1)) (.v 0))) (.and (.ln (.v 0) (.v 1)) (.en (.v 2) (.c 0)))) (.ln (.v 2) (.v 0))) (by kernel_rfl) (Lin.sub_f (x0) (x1))
theorem om365 : ∀ {x0 x1 : Nat}, x1 ≤ x0 → x0 - (x0 - x1) = x1 := fun {x0 x1} => Lin.use [x0, x1, x0 - x1, x0 - (x0 - x1)] [] (.imp (.or (.and (.ln (.v 1) (.v 0)) (.en (.a (.v 2) (.v 1)) (.v 0))) (.and (.ln (.v 0) (.v 1)) (.en (.v 2) (.c 0)))) (.imp (.or (.and (.ln (.v 2) (.v 0)) (.en (.a (.v 3) (.v 2)) (.v 0))) (.and (.ln (.v 0) (.v 2)) (.en (.v 3) (.c 0)))) (.imp (.ln (.v 1) (.v 0)) (.en (.v 3) (.v 1))))) (by kernel_rfl) (Lin.sub_f (x0) (x1)) (Lin.sub_f (x0) (x0 - x1))
theorem om366 : ∀ {x0 x1 x2 x3 : Nat}, x1 ≤ x3 → x3 = x0 → ¬(x0 < x1 ∧ x1 ≤ x2) := fun {x0 x1 x2 x3} => Lin.use [x0, x1, x2, x3] [] (.imp (.ln (.v 1) (.v 3)) (.imp (.en (.v 3) (.v 0)) (.not (.and (.ln (.a (.v 0) (.c 1)) (.v 1)) (.ln (.v 1) (.v 2)))))) (by kernel_rfl)
theorem om367 : ∀ {x0 x1 x2 : Nat}, x0 ≤ x2 → x2 = x1 → ¬x0 = x1 → x0 < x1 := fun {x0 x1 x2} => Lin.use [x0, x1, x2] [] (.imp (.ln (.v 0) (.v 2)) (.imp (.en (.v 2) (.v 1)) (.imp (.not (.en (.v 0) (.v 1))) (.ln (.a (.v 0) (.c 1)) (.v 1))))) (by kernel_rfl)
theorem om368 : ∀ {x0 x1 x2 : Nat}, x0 < x1 ∧ x1 ≤ x2 → x0 ≤ x1 - 1 := fun {x0 x1 x2} => Lin.use [x0, x1, x2, x1 - 1] [] (.imp (.or (.and (.ln (.c 1) (.v 1)) (.en (.a (.v 3) (.c 1)) (.v 1))) (.and (.ln (.v 1) (.c 1)) (.en (.v 3) (.c 0)))) (.imp (.and (.ln (.a (.v 0) (.c 1)) (.v 1)) (.ln (.v 1) (.v 2))) (.ln (.v 0) (.v 3)))) (by kernel_rfl) (Lin.sub_f (x1) (1))
theorem om369 : ∀ {x0 x1 x2 : Nat}, x2 < x0 ∧ x0 ≤ x1 → x0 - 1 < x1 := fun {x0 x1 x2} => Lin.use [x0, x1, x2, x0 - 1] [] (.imp (.or (.and (.ln (.c 1) (.v 0)) (.en (.a (.v 3) (.c 1)) (.v 0))) (.and (.ln (.v 0) (.c 1)) (.en (.v 3) (.c 0)))) (.imp (.and (.ln (.a (.v 2) (.c 1)) (.v 0)) (.ln (.v 0) (.v 1))) (.ln (.a (.v 3) (.c 1)) (.v 1)))) (by kernel_rfl) (Lin.sub_f (x0) (1))
theorem om370 : ∀ {x0 x1 : Nat}, x0 ≤ x1 → x0 - 1 ≤ x1 - 1 := fun {x0 x1} => Lin.use [x0, x1, x0 - 1, x1 - 1] [] (.imp (.or (.and (.ln (.c 1) (.v 0)) (.en (.a (.v 2) (.c 1)) (.v 0))) (.and (.ln (.v 0) (.c 1)) (.en (.v 2) (.c 0)))) (.imp (.or (.and (.ln (.c 1) (.v 1)) (.en (.a (.v 3) (.c 1)) (.v 1))) (.and (.ln (.v 1) (.c 1)) (.en (.v 3) (.c 0)))) (.imp (.ln (.v 0) (.v 1)) (.ln (.v 2) (.v 3))))) (by kernel_rfl) (Lin.sub_f (x0) (1)) (Lin.sub_f (x1) (1))
theorem om371 : ∀ {x0 x1 x2 x3 : Nat}, x0 ≤ x1 → x2 < x1 ∧ x1 ≤ x3 → ¬(x2 < x0 ∧ x0 ≤ x3) → x0 ≤ x1 - 1 := fun {x0 x1 x2 x3} => Lin.use [x0, x1, x2, x3, x1 - 1] [] (.imp (.or (.and (.ln (.c 1) (.v 1)) (.en (.a (.v 4) (.c 1)) (.v 1))) (.and (.ln (.v 1) (.c 1)) (.en (.v 4) (.c 0)))) (.imp (.ln (.v 0) (.v 1)) (.imp (.and (.ln (.a (.v 2) (.c 1)) (.v 1)) (.ln (.v 1) (.v 3))) (.imp (.not (.and (.ln (.a (.v 2) (.c 1)) (.v 0)) (.ln (.v 0) (.v 3)))) (.ln (.v 0) (.v 4)))))) (by kernel_rfl) (Lin.sub_f (x1) (1))
theorem om372 : ∀ {x0 x1 x2 x3 : Nat}, x0 ≤ x2 → x2 < x3 + 1 → ¬x2 = x1 → ¬(x1 < x2 ∧ x2 ≤ x3) → ¬x0 = x1 := fun {x0 x1 x2 x3} => Lin.use [x0, x1, x2, x3] [] (.imp (.ln (.v 0) (.v 2)) (.imp (.ln (.a (.v 2) (.c 1)) (.a (.v 3) (.c 1))) (.imp (.not (.en (.v 2) (.v 1))) (.imp (.not (.and (.ln (.a (.v 1) (.c 1)) (.v 2)) (.ln (.v 2) (.v 3)))) (.not (.en (.v 0) (.v 1))))))) (by kernel_rfl)
theorem om373 : ∀ {x0 x1 x2 x3 : Nat}, x1 ≤ x3 → x3 < x2 + 1 → ¬(x0 < x3 ∧ x3 ≤ x2) → ¬(x0 < x1 ∧ x1 ≤ x2) := fun {x0 x1 x2 x3} => Lin.use [x0, x1, x2, x3] [] (.imp (.ln (.v 1) (.v 3)) (.imp (.ln (.a (.v 3) (.c 1)) (.a (.v 2) (.c 1))) (.imp (.not (.and (.ln (.a (.v 0) (.c 1)) (.v 3)) (.ln (.v 3) (.v 2)))) (.not (.and (.ln (.a (.v 0) (.c 1)) (.v 1)) (.ln (.v 1) (.v 2))))))) (by kernel_rfl)
theorem om374 : ∀ {x0 x1 x2 : Nat}, x2 ≤ x1 → x0 < x1 + 1 → ¬x0 = x2 → ¬(x2 < x0 ∧ x0 ≤ x1) → x0 < x1 := fun {x0 x1 x2} => Lin.use [x0, x1, x2] [] (.imp (.ln (.v 2) (.v 1)) (.imp (.ln (.a (.v 0) (.c 1)) (.a (.v 1) (.c 1))) (.imp (.not (.en (.v 0) (.v 2))) (.imp (.not (.and (.ln (.a (.v 2) (.c 1)) (.v 0)) (.ln (.v 0) (.v 1)))) (.ln (.a (.v 0) (.c 1)) (.v 1)))))) (by kernel_rfl)
theorem om375 : ∀ {x0 x1 : Nat}, 2 ≤ x1 → x0 = x1 → 2 ≤ x0 := fun {x0 x1} => Lin.use [x0, x1] [] (.imp (.ln (.c 2) (.v 1)) (.imp (.en (.v 0) (.v 1)) (.ln (.c 2) (.v 0)))) (by kernel_rfl)
theorem om376 : ∀ {x0 x1 x2 : Nat}, x2 = x1 → x0 < x1 → x0 + (x1 - x0) = x2 := fun {x0 x1 x2} => Lin.use [x0, x1, x2, x1 - x0] [] (.imp (.or (.and (.ln (.v 0) (.v 1)) (.en (.a (.v 3) (.v 0)) (.v 1))) (.and (.ln (.v 1) (.v 0)) (.en (.v 3) (.c 0)))) (.imp (.en (.v 2) (.v 1)) (.imp (.ln (.a (.v 0) (.c 1)) (.v 1)) (.en (.a (.v 0) (.v 3)) (.v 2))))) (by kernel_rfl) (Lin.sub_f (x1) (x0))
theorem om377 : ∀ {x0 x1 : Nat}, x0 ≤ x1 → ¬x0 < x1 → x0 = x1 := fun {x0 x1} => Lin.use [x0, x1] [] (.imp (.ln (.v 0) (.v 1)) (.imp (.not (.ln (.a (.v 0) (.c 1)) (.v 1))) (.en (.v 0) (.v 1)))) (by kernel_rfl)
theorem om378 : ∀ {x0 : Nat}, 1 ≤ x0 → x0 ≠ x0 - 1 := fun {x0} => Lin.use [x0, x0 - 1] [] (.imp (.or (.and (.ln (.c 1) (.v 0)) (.en (.a (.v 1) (.c 1)) (.v 0))) (.and (.ln (.v 0) (.c 1)) (.en (.v 1) (.c 0)))) (.imp (.ln (.c 1) (.v 0)) (.not (.en (.v 0) (.v 1))))) (by kernel_rfl) (Lin.sub_f (x0) (1))
theorem om379 : ∀ {x0 : Nat}, 1 ≤ x0 → x0 - 1 ≠ x0 := fun {x0} => Lin.use [x0, x0 - 1] [] (.imp (.or (.and (.ln (.c 1) (.v 0)) (.en (.a (.v 1) (.c 1)) (.v 0))) (.and (.ln (.v 0) (.c 1)) (.en (.v 1) (.c 0)))) (.imp (.ln (.c 1) (.v 0)) (.not (.en (.v 1) (.v 0))))) (by kernel_rfl) (Lin.sub_f (x0) (1))
theorem om380 : ∀ {x0 x1 x2 x3 : Nat}, x0 + (x2 + 1) ≤ x3 → x1 = x3 → x0 < x1 := fun {x0 x1 x2 x3} => Lin.use [x0, x1, x2, x3] [] (.imp (.ln (.a (.v 0) (.a (.v 2) (.c 1))) (.v 3)) (.imp (.en (.v 1) (.v 3)) (.ln (.a (.v 0) (.c 1)) (.v 1)))) (by kernel_rfl)
theorem om381 : ∀ {x0 x1 x2 x3 : Nat}, x0 + (x2 + 1) ≤ x3 → x1 = x3 → x0 - 1 < x1 := fun {x0 x1 x2 x3} => Lin.use [x0, x1, x2, x3, x0 - 1] [] (.imp (.or (.and (.ln (.c 1) (.v 0)) (.en (.a (.v 4) (.c 1)) (.v 0))) (.and (.ln (.v 0) (.c 1)) (.en (.v 4) (.c 0)))) (.imp (.ln (.a (.v 0) (.a (.v 2) (.c 1))) (.v 3)) (.imp (.en (.v 1) (.v 3)) (.ln (.a (.v 4) (.c 1)) (.v 1))))) (by kernel_rfl) (Lin.sub_f (x0) (1))
theorem om382 : ∀ {x0 x1 x2 x3 : Nat}, x3 < x2 → x1 ≤ x3 → ¬x0 ≥ x1 → (x0 + x1) / 2 < x2 := fun {x0 x1 x2 x3} => Lin.use [x0, x1, x2, x3, (x0 + x1) / 2] [] (.imp (.and (.ln (.m 2 (.v 4)) (.a (.v 0) (.v 1))) (.ln (.a (.a (.v 0) (.v 1)) (.c 1)) (.a (.m 2 (.v 4)) (.c 2)))) (.imp (.ln (.a (.v 3) (.c 1)) (.v 2)) (.imp (.ln (.v 1) (.v 3)) (.imp (.not (.ln (.v 1) (.v 0))) (.ln (.a (.v 4) (.c 1)) (.v 2)))))) (by kernel_rfl) (Lin.div_f (x0 + x1) 2 (by decide))
theorem om383 : ∀ {x0 x1 x2 : Nat}, x2 ≤ x0 → ¬x1 ≥ x2 → x0 ≠ (x1 + x2) / 2 := fun {x0 x1 x2} => Lin.use [x0, x1, x2, (x1 + x2) / 2] [] (.imp (.and (.ln (.m 2 (.v 3)) (.a (.v 1) (.v 2))) (.ln (.a (.a (.v 1) (.v 2)) (.c 1)) (.a (.m 2 (.v 3)) (.c 2)))) (.imp (.ln (.v 2) (.v 0)) (.imp (.not (.ln (.v 2) (.v 1))) (.not (.en (.v 0) (.v 3)))))) (by kernel_rfl) (Lin.div_f (x1 + x2) 2 (by decide))
theorem om384 : ∀ {x0 : Nat}, 2 ≤ x0 → 1 + (x0 - 1) ≤ x0 := fun {x0} => Lin.use [x0, x0 - 1] [] (.imp (.or (.and (.ln (.c 1) (.v 0)) (.en (.a (.v 1) (.c 1)) (.v 0))) (.and (.ln (.v 0) (.c 1)) (.en (.v 1) (.c 0)))) (.imp (.ln (.c 2) (.v 0)) (.ln (.a (.c 1) (.v 1)) (.v 0)))) (by kernel_rfl) (Lin.sub_f (x0) (1))
theorem om385 : ∀ {x0 x1 : Nat}, 2 ≤ x1 → x0 = x1 → 0 < x0 := fun {x0 x1} => Lin.use [x0, x1] [] (.imp (.ln (.c 2) (.v 1)) (.imp (.en (.v 0) (.v 1)) (.ln (.a (.c 0) (.c 1)) (.v 0)))) (by kernel_rfl)
theorem om386 : ∀ {x0 x1 x2 : Nat}, 2 ≤ x2 → x1 = x2 → x0 ≤ 1 + (x2 - 1) → x0 - 1 < x1 := fun {x0 x1 x2} => Lin.use [x0, x1, x2, x2 - 1, x0 - 1] [] (.imp (.or (.and (.ln (.c 1) (.v 2)) (.en (.a (.v 3) (.c 1)) (.v 2))) (.and (.ln (.v 2) (.c 1)) (.en (.v 3) (.c 0)))) (.imp (.or (.and (.ln (.c 1) (.v 0)) (.en (.a (.v 4) (.c 1)) (.v 0))) (.and (.ln (.v 0) (.c 1)) (.en (.v 4) (.c 0)))) (.imp (.ln (.c 2) (.v 2)) (.imp (.en (.v 1) (.v 2)) (.imp (.ln (.v 0) (.a (.c 1) (.v 3))) (.ln (.a (.v 4) (.c 1)) (.v 1))))))) (by kernel_rfl) (Lin.sub_f (x2) (1)) (Lin.sub_f (x0) (1))
theorem om387 : ∀ {x0 x1 : Nat}, 2 ≤ x0 → x1 = x0 → 2 + (x0 - (1 + 1)) ≤ x1 := fun {x0 x1} => Lin.use [x0, x1, x0 - (1 + 1)] [] (.imp (.or (.and (.ln (.a (.c 1) (.c 1)) (.v 0)) (.en (.a (.v 2) (.a (.c 1) (.c 1))) (.v 0))) (.and (.ln (.v 0) (.a (.c 1) (.c 1))) (.en (.v 2) (.c 0)))) (.imp (.ln (.c 2) (.v 0)) (.imp (.en (.v 1) (.v 0)) (.ln (.a (.c 2) (.v 2)) (.v 1))))) (by kernel_rfl) (Lin.sub_f (x0) (1 + 1))
theorem om388 : ∀ {x0 : Nat}, 2 ≤ x0 → 1 < 1 + (x0 - 1) := fun {x0} => Lin.use [x0, x0 - 1] [] (.imp (.or (.and (.ln (.c 1) (.v 0)) (.en (.a (.v 1) (.c 1)) (.v 0))) (.and (.ln (.v 0) (.c 1)) (.en (.v 1) (.c 0)))) (.imp (.ln (.c 2) (.v 0)) (.ln (.a (.c 1) (.c 1)) (.a (.c 1) (.v 1))))) (by kernel_rfl) (Lin.sub_f (x0) (1))
theorem om389 : ∀ {x0 x1 : Nat}, 2 ≤ x1 → x0 ≤ 2 + (x1 - (1 + 1)) → x0 + (x1 - x0) ≤ x1 := fun {x0 x1} => Lin.use [x0, x1, x1 - (1 + 1), x1 - x0] [] (.imp (.or (.and (.ln (.a (.c 1) (.c 1)) (.v 1)) (.en (.a (.v 2) (.a (.c 1) (.c 1))) (.v 1))) (.and (.ln (.v 1) (.a (.c 1) (.c 1))) (.en (.v 2) (.c 0)))) (.imp (.or (.and (.ln (.v 0) (.v 1)) (.en (.a (.v 3) (.v 0)) (.v 1))) (.and (.ln (.v 1) (.v 0)) (.en (.v 3) (.c 0)))) (.imp (.ln (.c 2) (.v 1)) (.imp (.ln (.v 0) (.a (.c 2) (.v 2))) (.ln (.a (.v 0) (.v 3)) (.v 1)))))) (by kernel_rfl) (Lin.sub_f (x1) (1 + 1)) (Lin.sub_f (x1) (x0))
theorem om390 : ∀ {x0 x1 : Nat}, x0 < x1 → x0 + (x1 - x0) = x1 := fun {x0 x1} => Lin.use [x0, x1, x1 - x0] [] (.imp (.or (.and (.ln (.v 0) (.v 1)) (.en (.a (.v 2) (.v 0)) (.v 1))) (.and (.ln (.v 1) (.v 0)) (.en (.v 2) (.c 0)))) (.imp (.ln (.a (.v 0) (.c 1)) (.v 1)) (.en (.a (.v 0) (.v 2)) (.v 1)))) (by kernel_rfl) (Lin.sub_f (x1) (x0))
theorem om391 : ∀ {x0 x1 x2 x3 : Int}, x2 ≠ x3 → (x0 < x1 ∨ x0 = x1 ∧ x2 < x3) ∨ x1 < x0 ∨ x1 = x0 ∧ x3 < x2 := fun {x0 x1 x2 x3} => Lin.use [] [x0, x1, x2, x3] (.imp (.not (.ei (.v 2) (.v 3))) (.or (.or (.li (.a (.v 0) (.c 1)) (.v 1)) (.and (.ei (.v 0) (.v 1)) (.li (.a (.v 2) (.c 1)) (.v 3)))) (.or (.li (.a (.v 1) (.c 1)) (.v 0)) (.and (.ei (.v 1) (.v 0)) (.li (.a (.v 3) (.c 1)) (.v 2)))))) (by kernel_rfl)
theorem om392 : ∀ {x0 x1 x2 : Int}, 100 * (1 + x0) + 10 * x1 + x2 = 100 * x0 + 10 * x1 + x2 + 100 := fun {x0 x1 x2} => Lin.use [] [x0, x1, x2] (.ei (.a (.a (.m 100 (.a (.c 1) (.v 0))) (.m 10 (.v 1))) (.v 2)) (.a (.a (.a (.m 100 (.v 0)) (.m 10 (.v 1))) (.v 2)) (.c 100))) (by kernel_rfl)
theorem om393 : ∀ {x0 x1 x2 : Int}, 100 * x0 + 10 * (1 + x1) + x2 = 100 * x0 + 10 * x1 + x2 + 10 := fun {x0 x1 x2} => Lin.use [] [x0, x1, x2] (.ei (.a (.a (.m 100 (.v 0)) (.m 10 (.a (.c 1) (.v 1)))) (.v 2)) (.a (.a (.a (.m 100 (.v 0)) (.m 10 (.v 1))) (.v 2)) (.c 10))) (by kernel_rfl)
theorem om394 : ∀ {x0 x1 x2 : Int}, 100 * x0 + 10 * x1 + (1 + x2) = 100 * x0 + 10 * x1 + x2 + 1 := fun {x0 x1 x2} => Lin.use [] [x0, x1, x2] (.ei (.a (.a (.m 100 (.v 0)) (.m 10 (.v 1))) (.a (.c 1) (.v 2))) (.a (.a (.a (.m 100 (.v 0)) (.m 10 (.v 1))) (.v 2)) (.c 1))) (by kernel_rfl)
theorem om395 : ∀ {x0 : Int} {x1 : Nat}, x0 ≤ (↑x1 : Int) → 1 + x0 ≤ (↑x1 : Int) + 1 := fun {x0 x1} => Lin.use [x1] [x0] (.imp (.li (.v 0) (.t (.v 0))) (.li (.a (.c 1) (.v 0)) (.a (.t (.v 0)) (.c 1)))) (by kernel_rfl)
theorem om396 : ∀ {x0 : Int} {x1 : Nat}, x0 ≤ (↑x1 : Int) → 0 + x0 ≤ (↑x1 : Int) + 1 := fun {x0 x1} => Lin.use [x1] [x0] (.imp (.li (.v 0) (.t (.v 0))) (.li (.a (.c 0) (.v 0)) (.a (.t (.v 0)) (.c 1)))) (by kernel_rfl)
theorem om397 : ∀ {x0 x1 x2 : Int}, 0 ≤ x0 → 0 ≤ x1 → 0 ≤ x2 → 0 ≤ 100 * x0 + 10 * x1 + x2 := fun {x0 x1 x2} => Lin.use [] [x0, x1, x2] (.imp (.li (.c 0) (.v 0)) (.imp (.li (.c 0) (.v 1)) (.imp (.li (.c 0) (.v 2)) (.li (.c 0) (.a (.a (.m 100 (.v 0)) (.m 10 (.v 1))) (.v 2)))))) (by kernel_rfl)
theorem om398 : ∀ {x0 x1 x2 : Int}, x1 ≠ x2 → x0 = x2 → ¬x0 = x1 := fun {x0 x1 x2} => Lin.use [] [x0, x1, x2] (.imp (.not (.ei (.v 1) (.v 2))) (.imp (.ei (.v 0) (.v 2)) (.not (.ei (.v 0) (.v 1))))) (by kernel_rfl)
theorem om399 : ∀ {x0 x1 : Int}, x1 ≠ x0 → ¬x0 = x1 := fun {x0 x1} => Lin.use [] [x0, x1] (.imp (.not (.ei (.v 1) (.v 0))) (.not (.ei (.v 0) (.v 1)))) (by kernel_rfl)
theorem om400 : ∀ {x0 x1 : Nat}, x0 = x1 → x1 ≤ 9 → x0 ≤ 9 := fun {x0 x1} => Lin.use [x0, x1] [] (.imp (.en (.v 0) (.v 1)) (.imp (.ln (.v 1) (.c 9)) (.ln (.v 0) (.c 9)))) (by kernel_rfl)
theorem om401 : ∀ {x0 x1 x2 x3 x4 : Int}, x4 ≤ x1 + x2 + x3 → x0 ≤ x4 → x0 ≤ x1 + x2 + x3 := fun {x0 x1 x2 x3 x4} => Lin.use [] [x0, x1, x2, x3, x4] (.imp (.li (.v 4) (.a (.a (.v 1) (.v 2)) (.v 3))) (.imp (.li (.v 0) (.v 4)) (.li (.v 0) (.a (.a (.v 1) (.v 2)) (.v 3))))) (by kernel_rfl)
theorem om402 : ∀ {x0 x1 x2 x3 x4 : Int}, x4 ≤ x1 → x0 ≤ x4 + x2 + x3 → x0 ≤ x1 + x2 + x3 := fun {x0 x1 x2 x3 x4} => Lin.use [] [x0, x1, x2, x3, x4] (.imp (.li (.v 4) (.v 1)) (.imp (.li (.v 0) (.a (.a (.v 4) (.v 2)) (.v 3))) (.li (.v 0) (.a (.a (.v 1) (.v 2)) (.v 3))))) (by kernel_rfl)
theorem om403 : ∀ {x0 : Int} {x1 x2 : Nat}, x0 + ((↑x1 : Int) + 1) + (↑x2 : Int) = x0 + ((↑x1 : Int) + 1 + (↑x2 : Int)) := fun {x0 x1 x2} => Lin.use [x1, x2] [x0] (.ei (.a (.a (.v 0) (.a (.t (.v 0)) (.c 1))) (.t (.v 1))) (.a (.v 0) (.a (.a (.t (.v 0)) (.c 1)) (.t (.v 1))))) (by kernel_rfl)
theorem om404 : ∀ {x0 x1 x2 : Nat}, x1 ≤ 7 * x2 → x0 ≤ 6 → x0 + 1 + x1 ≤ 7 * (x2 + 1) := fun {x0 x1 x2} => Lin.use [x0, x1, x2] [] (.imp (.ln (.v 1) (.m 7 (.v 2))) (.imp (.ln (.v 0) (.c 6)) (.ln (.a (.a (.v 0) (.c 1)) (.v 1)) (.m 7 (.a (.v 2) (.c 1)))))) (by kernel_rfl)
theorem om405 : ∀ {x0 : Int} {x1 : Nat}, x0 + 1 + (↑x1 : Int) = x0 + ((↑x1 : Int) + 1) := fun {x0 x1} => Lin.use [x1] [x0] (.ei (.a (.a (.v 0) (.c 1)) (.t (.v 0))) (.a (.v 0) (.a (.t (.v 0)) (.c 1)))) (by kernel_rfl)
theorem om406 : ∀ {x0 x1 x2 x3 : Int}, 0 ≤ x3 ∧ x1 ≤ x3 → x0 ≤ x2 → x0 + x1 ≤ x2 + x3 := fun {x0 x1 x2 x3} => Lin.use [] [x0, x1, x2, x3] (.imp (.and (.li (.c 0) (.v 3)) (.li (.v 1) (.v 3))) (.imp (.li (.v 0) (.v 2)) (.li (.a (.v 0) (.v 1)) (.a (.v 2) (.v 3))))) (by kernel_rfl)
theorem om407 : ∀ {x0 x1 x2 x3 : Int}, 0 ≤ x2 ∧ x3 ≤ x2 → x0 ≤ x1 → x0 ≤ x1 + x2 := fun {x0 x1 x2 x3} => Lin.use [] [x0, x1, x2, x3] (.imp (.and (.li (.c 0) (.v 2)) (.li (.v 3) (.v 2))) (.imp (.li (.v 0) (.v 1)) (.li (.v 0) (.a (.v 1) (.v 2))))) (by kernel_rfl)
theorem om408 : ∀ {x0 x1 : Int}, x0 ≤ x1 → x0 ≤ x1 := fun {x0 x1} => Lin.use [] [x0, x1] (.imp (.li (.v 0) (.v 1)) (.li (.v 0) (.v 1))) (by kernel_rfl)
theorem om409 : ∀ {x0 x1 : Int}, 0 ≤ x1 → x0 ≤ x0 + x1 := fun {x0 x1} => Lin.use [] [x0, x1] (.imp (.li (.c 0) (.v 1)) (.li (.v 0) (.a (.v 0) (.v 1)))) (by kernel_rfl)
theorem om410 : ∀ {x0 x1 x2 : Int}, x0 + (x1 + x2) = x1 + (x0 + x2) := fun {x0 x1 x2} => Lin.use [] [x0, x1, x2] (.ei (.a (.v 0) (.a (.v 1) (.v 2))) (.a (.v 1) (.a (.v 0) (.v 2)))) (by kernel_rfl)
theorem om411 : ∀ {x0 x1 : Nat}, 1 + x0 + x1 = x0 + 1 + x1 := fun {x0 x1} => Lin.use [x0, x1] [] (.en (.a (.a (.c 1) (.v 0)) (.v 1)) (.a (.a (.v 0) (.c 1)) (.v 1))) (by kernel_rfl)
theorem om412 : ∀ {x0 x1 x2 : Nat}, x0 + (x1 + 1) = x2 → x2 ≤ 9 → x0 + x1 < 9 := fun {x0 x1 x2} => Lin.use [x0, x1, x2] [] (.imp (.en (.a (.v 0) (.a (.v 1) (.c 1))) (.v 2)) (.imp (.ln (.v 2) (.c 9)) (.ln (.a (.a (.v 0) (.v 1)) (.c 1)) (.c 9)))) (by kernel_rfl)
theorem om413 : ∀ {x0 : Int} {x1 : Nat} {x2 : Int} {x3 x4 x5 x6 x7 x8 x9 : Nat}, x0 = x2 + (↑x3 : Int) → x1 ≤ 6 → x4 + (x5 + 1) = x6 → x6 ≤ 9 → x7 ≤ x8 → x8 = x4 → x9 ≤ 7 * x7 → x3 = x9 → 0 ≤ x2 ∧ x2 < 6 → x0 + ((↑x1 : Int) + 1) ≤ 80 := fun {x0 x1 x2 x3 x4 x5 x6 x7 x8 x9} => Lin.use [x1, x3, x4, x5, x6, x7, x8, x9] [x0, x2] (.imp (.ei (.v 0) (.a (.v 1) (.t (.v 1)))) (.imp (.ln (.v 0) (.c 6)) (.imp (.en (.a (.v 2) (.a (.v 3) (.c 1))) (.v 4)) (.imp (.ln (.v 4) (.c 9)) (.imp (.ln (.v 5) (.v 6)) (.imp (.en (.v 6) (.v 2)) (.imp (.ln (.v 7) (.m 7 (.v 5))) (.imp (.en (.v 1) (.v 7)) (.imp (.and (.li (.c 0) (.v 1)) (.li (.a (.v 1) (.c 1)) (.c 6))) (.li (.a (.v 0) (.a (.t (.v 0)) (.c 1))) (.c 80))))))))))) (by kernel_rfl)
theorem om414 : ∀ {x0 x1 : Int} {x2 : Nat}, x0 = x1 + (↑x2 : Int) → 0 ≤ x1 ∧ x1 < 6 → 0 ≤ x0 := fun {x0 x1 x2} => Lin.use [x2] [x0, x1] (.imp (.ei (.v 0) (.a (.v 1) (.t (.v 0)))) (.imp (.and (.li (.c 0) (.v 1)) (.li (.a (.v 1) (.c 1)) (.c 6))) (.li (.c 0) (.v 0)))) (by kernel_rfl)
theorem om415 : ∀ {x0 x1 x2 x3 x4 : Nat}, x1 + (x2 + 1) = x3 → x3 ≤ 9 → x0 ≤ x4 → x4 = x1 → x0 ≤ 9 := fun {x0 x1 x2 x3 x4} => Lin.use [x0, x1, x2, x3, x4] [] (.imp (.en (.a (.v 1) (.a (.v 2) (.c 1))) (.v 3)) (.imp (.ln (.v 3) (.c 9)) (.imp (.ln (.v 0) (.v 4)) (.imp (.en (.v 4) (.v 1)) (.ln (.v 0) (.c 9)))))) (by kernel_rfl)
theorem om416 : ∀ {x0 x1 : Nat}, x1 < 9 ∧ 1 ≤ x0 ∧ x0 ≤ 6 → x0 < 2 ^ 9 := fun {x0 x1} => Lin.use [x0, x1] [] (.imp (.and (.ln (.a (.v 1) (.c 1)) (.c 9)) (.and (.ln (.c 1) (.v 0)) (.ln (.v 0) (.c 6)))) (.ln (.a (.v 0) (.c 1)) (.c 512))) (by kernel_rfl)
theorem om417 : ∀ {x0 x1 x2 : Int} {x3 x4 : Nat}, x2 = x0 → x2 = x1 ∧ (↑x3 : Int) = (↑x4 : Int) → x0 ≤ x1 := fun {x0 x1 x2 x3 x4} => Lin.use [x3, x4] [x0, x1, x2] (.imp (.ei (.v 2) (.v 0)) (.imp (.and (.ei (.v 2) (.v 1)) (.ei (.t (.v 0)) (.t (.v 1)))) (.li (.v 0) (.v 1)))) (by kernel_rfl)
theorem om418 : ∀ {x0 x1 x2 : Int} {x3 x4 : Nat}, x2 = x0 → ¬(x1 < x2 ∨ x1 = x2 ∧ (↑x3 : Int) < (↑x4 : Int)) → x0 ≤ x1 := fun {x0 x1 x2 x3 x4} => Lin.use [x3, x4] [x0, x1, x2] (.imp (.ei (.v 2) (.v 0)) (.imp (.not (.or (.li (.a (.v 1) (.c 1)) (.v 2)) (.and (.ei (.v 1) (.v 2)) (.li (.a (.t (.v 0)) (.c 1)) (.t (.v 1)))))) (.li (.v 0) (.v 1)))) (by kernel_rfl)
theorem om419 : ∀ {x0 : Nat}, 1 ≤ (↑x0 : Int) + 1 := fun {x0} => Lin.use [x0] [] (.li (.c 1) (.a (.t (.v 0)) (.c 1))) (by kernel_rfl)
theorem om420 : ∀ {x0 x1 x2 : Nat}, x0 < x2 → x2 < x1 → x0 < x1 := fun {x0 x1 x2} => Lin.use [x0, x1, x2] [] (.imp (.ln (.a (.v 0) (.c 1)) (.v 2)) (.imp (.ln (.a (.v 2) (.c 1)) (.v 1)) (.ln (.a (.v 0) (.c 1)) (.v 1)))) (by kernel_rfl)
theorem om421 : ∀ {x0 : Nat}, x0 < 9 → x0 < 900 := fun {x0} => Lin.use [x0] [] (.imp (.ln (.a (.v 0) (.c 1)) (.c 9)) (.ln (.a (.v 0) (.c 1)) (.c 900))) (by kernel_rfl)
theorem om422 : ∀ {x0 : Nat}, x0 < 3 → (↑x0 : Int) < 3 := fun {x0} => Lin.use [x0] [] (.imp (.ln (.a (.v 0) (.c 1)) (.c 3)) (.li (.a (.t (.v 0)) (.c 1)) (.c 3))) (by kernel_rfl)
theorem om423 : ∀ {x0 x1 x2 : Nat}, x1 < 9 ∧ 1 ≤ x2 ∧ x2 ≤ 6 → x0 = x2 → x0 < 2 ^ 10 := fun {x0 x1 x2} => Lin.use [x0, x1, x2] [] (.imp (.and (.ln (.a (.v 1) (.c 1)) (.c 9)) (.and (.ln (.c 1) (.v 2)) (.ln (.v 2) (.c 6)))) (.imp (.en (.v 0) (.v 2)) (.ln (.a (.v 0) (.c 1)) (.c 1024)))) (by kernel_rfl)
theorem om424 : ∀ {x0 : Nat}, x0 ≤ 9 → x0 < 900 := fun {x0} => Lin.use [x0] [] (.imp (.ln (.v 0) (.c 9)) (.ln (.a (.v 0) (.c 1)) (.c 900))) (by kernel_rfl)
theorem om425 : ∀ {x0 : Int} {x1 x2 : Nat} {x3 : Int}, x3 = x0 + (↑x1 : Int) → x3 + ((↑x2 : Int) + 1) ≤ 80 → x0 + (↑(x1 + 1 + x2) : Int) ≤ 80 := fun {x0 x1 x2 x3} => Lin.use [x1, x2] [x0, x3] (.imp (.ei (.v 1) (.a (.v 0) (.t (.v 0)))) (.imp (.li (.a (.v 1) (.a (.t (.v 1)) (.c 1))) (.c 80)) (.li (.a (.v 0) (.t (.a (.a (.v 0) (.c 1)) (.v 1)))) (.c 80)))) (by kernel_rfl)
theorem om426 : ∀ {x0 x1 : Nat}, x0 < 2 ^ 9 ∧ x1 < 2 ^ 9 → x0 < 2 ^ 40 ∧ x1 < 2 ^ 40 := fun {x0 x1} => Lin.use [x0, x1] [] (.imp (.and (.ln (.a (.v 0) (.c 1)) (.c 512)) (.ln (.a (.v 1) (.c 1)) (.c 512))) (.and (.ln (.a (.v 0) (.c 1)) (.c 1099511627776)) (.ln (.a (.v 1) (.c 1)) (.c 1099511627776)))) (by kernel_rfl)
theorem om427 : ∀ {x0 x1 x2 : Nat}, x1 < 9 ∧ 1 ≤ x2 ∧ x2 ≤ 6 → x0 = x2 → x0 < 2 ^ 40 := fun {x0 x1 x2} => Lin.use [x0, x1, x2] [] (.imp (.and (.ln (.a (.v 1) (.c 1)) (.c 9)) (.and (.ln (.c 1) (.v 2)) (.ln (.v 2) (.c 6)))) (.imp (.en (.v 0) (.v 2)) (.ln (.a (.v 0) (.c 1)) (.c 1099511627776)))) (by kernel_rfl)
theorem om428 : ∀ {x0 : Nat}, 1 + (↑x0 : Int) = (↑x0 : Int) + 1 := fun {x0} => Lin.use [x0] [] (.ei (.a (.c 1) (.t (.v 0))) (.a (.t (.v 0)) (.c 1))) (by kernel_rfl)
theorem om429 : ∀ {x0 : Int} {x1 : Nat} {x2 : Int} {x3 x4 : Nat}, x2 = x0 + (↑x4 : Int) → (↑x1 : Int) = (↑x4 : Int) + ((↑x3 : Int) + 1) → x0 + (↑x1 : Int) = x2 + ((↑x3 : Int) + 1) := fun {x0 x1 x2 x3 x4} => Lin.use [x1, x3, x4] [x0, x2] (.imp (.ei (.v 1) (.a (.v 0) (.t (.v 2)))) (.imp (.ei (.t (.v 0)) (.a (.t (.v 2)) (.a (.t (.v 1)) (.c 1)))) (.ei (.a (.v 0) (.t (.v 0))) (.a (.v 1) (.a (.t (.v 1)) (.c 1)))))) (by kernel_rfl)
theorem om430 : ∀ {x0 : Int} {x1 : Nat}, 0 ≤ x0 → 0 ≤ x0 + (↑x1 : Int) := fun {x0 x1} => Lin.use [x1] [x0] (.imp (.li (.c 0) (.v 0)) (.li (.c 0) (.a (.v 0) (.t (.v 0))))) (by kernel_rfl)
theorem om431 : ∀ {x0 : Int} {x1 : Nat} {x2 : Int} {x3 x4 : Nat}, x2 = x0 + (↑x3 : Int) → x2 + ((↑x4 : Int) + 1) ≤ 80 → (↑x1 : Int) = (↑x3 : Int) + ((↑x4 : Int) + 1) → x0 + (↑x1 : Int) < 2 ^ 63 := fun {x0 x1 x2 x3 x4} => Lin.use [x1, x3, x4] [x0, x2] (.imp (.ei (.v 1) (.a (.v 0) (.t (.v 1)))) (.imp (.li (.a (.v 1) (.a (.t (.v 2)) (.c 1))) (.c 80)) (.imp (.ei (.t (.v 0)) (.a (.t (.v 1)) (.a (.t (.v 2)) (.c 1)))) (.li (.a (.a (.v 0) (.t (.v 0))) (.c 1)) (.c 9223372036854775808))))) (by kernel_rfl)
theorem om432 : ∀ {x0 : Nat}, x0 = 2 → x0 + 1 < 900 := fun {x0} => Lin.use [x0] [] (.imp (.en (.v 0) (.c 2)) (.ln (.a (.a (.v 0) (.c 1)) (.c 1)) (.c 900))) (by kernel_rfl)
theorem om433 : ∀ {x0 x1 : Nat}, 1 ≤ x1 ∧ x1 ≤ 9 → x0 = x1 → x0 ≤ 100000 := fun {x0 x1} => Lin.use [x0, x1] [] (.imp (.and (.ln (.c 1) (.v 1)) (.ln (.v 1) (.c 9))) (.imp (.en (.v 0) (.v 1)) (.ln (.v 0) (.c 100000)))) (by kernel_rfl)
theorem om434 : ∀ {x0 x1 : Nat}, x1 = x0 → x0 ≤ x1 := fun {x0 x1} => Lin.use [x0, x1] [] (.imp (.en (.v 1) (.v 0)) (.ln (.v 0) (.v 1))) (by kernel_rfl)
theorem om435 : ∀ {x0 x1 x2 : Nat}, x0 + (x1 + 1) ≤ x2 + 1 → x0 + x1 ≤ x2 := fun {x0 x1 x2} => Lin.use [x0, x1, x2] [] (.imp (.ln (.a (.v 0) (.a (.v 1) (.c 1))) (.a (.v 2) (.c 1))) (.ln (.a (.v 0) (.v 1)) (.v 2))) (by kernel_rfl)
theorem om436 : ∀ {x0 x1 x2 x3 : Nat}, x0 = x1 → x1 = x2 → x2 = x3 → x3 ≤ 9 → x0 ≤ 9 := fun {x0 x1 x2 x3} => Lin.use [x0, x1, x2, x3] [] (.imp (.en (.v 0) (.v 1)) (.imp (.en (.v 1) (.v 2)) (.imp (.en (.v 2) (.v 3)) (.imp (.ln (.v 3) (.c 9)) (.ln (.v 0) (.c 9)))))) (by kernel_rfl)
theorem om437 : ∀ {x0 : Nat}, x0 ≤ 6 → x0 < 7 := fun {x0} => Lin.use [x0] [] (.imp (.ln (.v 0) (.c 6)) (.ln (.a (.v 0) (.c 1)) (.c 7))) (by kernel_rfl)
theorem om438 : ∀ {x0 x1 x2 : Nat}, x1 = x2 → x2 ≤ 9 → x0 = x1 → x0 ≤ 9 := fun {x0 x1 x2} => Lin.use [x0, x1, x2] [] (.imp (.en (.v 1) (.v 2)) (.imp (.ln (.v 2) (.c 9)) (.imp (.en (.v 0) (.v 1)) (.ln (.v 0) (.c 9))))) (by kernel_rfl)
theorem om439 : ∀ {x0 x1 x2 : Nat}, 4 ≤ x1 → x2 = x1 → x1 ≤ 9 → x0 = x2 → 1 ≤ x0 ∧ x0 ≤ 9 := fun {x0 x1 x2} => Lin.use [x0, x1, x2] [] (.imp (.ln (.c 4) (.v 1)) (.imp (.en (.v 2) (.v 1)) (.imp (.ln (.v 1) (.c 9)) (.imp (.en (.v 0) (.v 2)) (.and (.ln (.c 1) (.v 0)) (.ln (.v 0) (.c 9))))))) (by kernel_rfl)
theorem om440 : ∀ {x0 x1 : Nat}, x0 + x1 < 9 → x0 < 900 := fun {x0 x1} => Lin.use [x0, x1] [] (.imp (.ln (.a (.a (.v 0) (.v 1)) (.c 1)) (.c 9)) (.ln (.a (.v 0) (.c 1)) (.c 900))) (by kernel_rfl)
theorem om441 : ∀ {x0 x1 x2 x3 x4 : Nat}, x1 + x2 < 9 → x0 = x3 → x3 = x4 → x4 = x1 → x0 < 900 := fun {x0 x1 x2 x3 x4} => Lin.use [x0, x1, x2, x3, x4] [] (.imp (.ln (.a (.a (.v 1) (.v 2)) (.c 1)) (.c 9)) (.imp (.en (.v 0) (.v 3)) (.imp (.en (.v 3) (.v 4)) (.imp (.en (.v 4) (.v 1)) (.ln (.a (.v 0) (.c 1)) (.c 900)))))) (by kernel_rfl)
theorem om442 : ∀ {x0 x1 : Nat}, x1 + x0 < 9 → x0 < 9 := fun {x0 x1} => Lin.use [x0, x1] [] (.imp (.ln (.a (.a (.v 1) (.v 0)) (.c 1)) (.c 9)) (.ln (.a (.v 0) (.c 1)) (.c 9))) (by kernel_rfl)
theorem om443 : ∀ {x0 x1 : Nat}, 1 ≤ x1 → x0 = x1 → 0 < x0 := fun {x0 x1} => Lin.use [x0, x1] [] (.imp (.ln (.c 1) (.v 1)) (.imp (.en (.v 0) (.v 1)) (.ln (.a (.c 0) (.c 1)) (.v 0)))) (by kernel_rfl)
theorem om444 : ∀ {x0 x1 : Nat}, x1 ≤ 6 → x0 = x1 → x0 < 2 ^ 9 := fun {x0 x1} => Lin.use [x0, x1] [] (.imp (.ln (.v 1) (.c 6)) (.imp (.en (.v 0) (.v 1)) (.ln (.a (.v 0) (.c 1)) (.c 512)))) (by kernel_rfl)
theorem om445 : ∀ {x0 : Nat}, x0 ≤ 9 → x0 < 100 := fun {x0} => Lin.use [x0] [] (.imp (.ln (.v 0) (.c 9)) (.ln (.a (.v 0) (.c 1)) (.c 100))) (by kernel_rfl)
theorem om446 : ∀ {x0 : Int}, 0 ≤ x0 ∧ x0 < 6 → x0 < 2 ^ 20 := fun {x0} => Lin.use [] [x0] (.imp (.and (.li (.c 0) (.v 0)) (.li (.a (.v 0) (.c 1)) (.c 6))) (.li (.a (.v 0) (.c 1)) (.c 1048576))) (by kernel_rfl)
theorem om447 : ∀ {x0 x1 x2 x3 : Nat}, x0 = x1 → x1 = x2 → x2 ≤ 7 * x3 → x3 ≤ 9 → x0 ≤ 63 := fun {x0 x1 x2 x3} => Lin.use [x0, x1, x2, x3] [] (.imp (.en (.v 0) (.v 1)) (.imp (.en (.v 1) (.v 2)) (.imp (.ln (.v 2) (.m 7 (.v 3))) (.imp (.ln (.v 3) (.c 9)) (.ln (.v 0) (.c 63)))))) (by kernel_rfl)
theorem om448 : ∀ {x0 : Nat}, x0 ≤ 63 → x0 < 2 ^ 20 := fun {x0} => Lin.use [x0] [] (.imp (.ln (.v 0) (.c 63)) (.ln (.a (.v 0) (.c 1)) (.c 1048576))) (by kernel_rfl)
theorem om449 : ∀ {x0 : Nat}, x0 ≤ 1000 → x0 ≤ 16777216 := fun {x0} => Lin.use [x0] [] (.imp (.ln (.v 0) (.c 1000)) (.ln (.v 0) (.c 16777216))) (by kernel_rfl)
theorem om450 : ∀ {x0 x1 : Nat}, x0 = x1 → x1 ≤ 9 → x0 ≤ 999 := fun {x0 x1} => Lin.use [x0, x1] [] (.imp (.en (.v 0) (.v 1)) (.imp (.ln (.v 1) (.c 9)) (.ln (.v 0) (.c 999)))) (by kernel_rfl)
theorem om452 : ∀ {x0 x1 x2 x3 : Nat}, x0 = x1 → x1 = x2 → x3 ≤ 9 → x2 ≤ x3 → x0 < 1000 := fun {x0 x1 x2 x3} => Lin.use [x0, x1, x2, x3] [] (.imp (.en (.v 0) (.v 1)) (.imp (.en (.v 1) (.v 2)) (.imp (.ln (.v 3) (.c 9)) (.imp (.ln (.v 2) (.v 3)) (.ln (.a (.v 0) (.c 1)) (.c 1000)))))) (by kernel_rfl)
theorem om453 : ∀ {x0 : Nat}, x0 ≤ 63 → x0 + 2 ≤ 16777216 := fun {x0} => Lin.use [x0] [] (.imp (.ln (.v 0) (.c 63)) (.ln (.a (.v 0) (.c 2)) (.c 16777216))) (by kernel_rfl)
theorem om454 : ∀ {x0 x1 x2 x3 : Nat}, x1 ≤ 7 * x2 → x3 < 9 ∧ 1 ≤ x0 ∧ x0 ≤ 6 → 1 + x0 + x1 ≤ 7 * (x2 + 1) := fun {x0 x1 x2 x3} => Lin.use [x0, x1, x2, x3] [] (.imp (.ln (.v 1) (.m 7 (.v 2))) (.imp (.and (.ln (.a (.v 3) (.c 1)) (.c 9)) (.and (.ln (.c 1) (.v 0)) (.ln (.v 0) (.c 6)))) (.ln (.a (.a (.c 1) (.v 0)) (.v 1)) (.m 7 (.a (.v 2) (.c 1)))))) (by kernel_rfl)
theorem om455 : ∀ {x0 x1 : Nat}, x0 < 3 → x1 = 3 → (↑x0 : Int) < (↑x1 : Int) := fun {x0 x1} => Lin.use [x0, x1] [] (.imp (.ln (.a (.v 0) (.c 1)) (.c 3)) (.imp (.en (.v 1) (.c 3)) (.li (.a (.t (.v 0)) (.c 1)) (.t (.v 1))))) (by kernel_rfl)
theorem om456 : ∀ {x0 x1 : Nat}, x1 ≤ 9 → x0 = x1 → x0 ≤ 100000 := fun {x0 x1} => Lin.use [x0, x1] [] (.imp (.ln (.v 1) (.c 9)) (.imp (.en (.v 0) (.v 1)) (.ln (.v 0) (.c 100000)))) (by kernel_rfl)
theorem om457 : ∀ {x0 x1 : Nat}, x1 < 9 ∧ 1 ≤ x0 ∧ x0 ≤ 6 → 1 + x0 ≤ 16777216 := fun {x0 x1} => Lin.use [x0, x1] [] (.imp (.and (.ln (.a (.v 1) (.c 1)) (.c 9)) (.and (.ln (.c 1) (.v 0)) (.ln (.v 0) (.c 6)))) (.ln (.a (.c 1) (.v 0)) (.c 16777216))) (by kernel_rfl)
theorem om458 : ∀ {x0 x1 x2 : Nat}, x2 = x0 → x2 = x1 → x0 ≤ x1 := fun {x0 x1 x2} => Lin.use [x0, x1, x2] [] (.imp (.en (.v 2) (.v 0)) (.imp (.en (.v 2) (.v 1)) (.ln (.v 0) (.v 1)))) (by kernel_rfl)
theorem om459 : ∀ {x0 x1 : Nat}, x0 ≤ x1 → (↑x0 : Int) ≤ (↑x1 : Int) := fun {x0 x1} => Lin.use [x0, x1] [] (.imp (.ln (.v 0) (.v 1)) (.li (.t (.v 0)) (.t (.v 1)))) (by kernel_rfl)
theorem om460 : ∀ {x0 : Nat}, x0 ≤ 9 → x0 < 64 := fun {x0} => Lin.use [x0] [] (.imp (.ln (.v 0) (.c 9)) (.ln (.a (.v 0) (.c 1)) (.c 64))) (by kernel_rfl)
theorem om461 : ∀ {x0 x1 x2 x3 x4 x5 : Nat}, x2 ≤ 100 → x3 = x4 → x3 = x5 → x4 ≤ 100000 → x1 = x5 → x0 = x2 → x0 + x1 ≤ 16777216 := fun {x0 x1 x2 x3 x4 x5} => Lin.use [x0, x1, x2, x3, x4, x5] [] (.imp (.ln (.v 2) (.c 100)) (.imp (.en (.v 3) (.v 4)) (.imp (.en (.v 3) (.v 5)) (.imp (.ln (.v 4) (.c 100000)) (.imp (.en (.v 1) (.v 5)) (.imp (.en (.v 0) (.v 2)) (.ln (.a (.v 0) (.v 1)) (.c 16777216)))))))) (by kernel_rfl)
theorem om462 : ∀ {x0 x1 x2 x3 x4 x5 x6 : Nat}, x2 ≤ 100 → x3 = x4 → x3 = x5 → x4 ≤ 100000 → x0 = x2 → x1 = x6 → x6 = x5 → x0 + x1 ≤ 16777216 := fun {x0 x1 x2 x3 x4 x5 x6} => Lin.use [x0, x1, x2, x3, x4, x5, x6] [] (.imp (.ln (.v 2) (.c 100)) (.imp (.en (.v 3) (.v 4)) (.imp (.en (.v 3) (.v 5)) (.imp (.ln (.v 4) (.c 100000)) (.imp (.en (.v 0) (.v 2)) (.imp (.en (.v 1) (.v 6)) (.imp (.en (.v 6) (.v 5)) (.ln (.a (.v 0) (.v 1)) (.c 16777216))))))))) (by kernel_rfl)
theorem om463 : ∀ {x0 x1 x2 : Nat}, x0 ≤ 9 * x2 → x1 ≤ 9 → x0 + x1 ≤ 9 * (x2 + 1) := fun {x0 x1 x2} => Lin.use [x0, x1, x2] [] (.imp (.ln (.v 0) (.m 9 (.v 2))) (.imp (.ln (.v 1) (.c 9)) (.ln (.a (.v 0) (.v 1)) (.m 9 (.a (.v 2) (.c 1)))))) (by kernel_rfl)
theorem om464 : ∀ {x0 x1 : Nat}, x1 < 3 → x0 < x1 → x0 < 3 := fun {x0 x1} => Lin.use [x0, x1] [] (.imp (.ln (.a (.v 1) (.c 1)) (.c 3)) (.imp (.ln (.a (.v 0) (.c 1)) (.v 1)) (.ln (.a (.v 0) (.c 1)) (.c 3)))) (by kernel_rfl)
theorem om465 : ∀ {x0 x1 : Nat}, x1 < 3 → x0 ≤ 9 * x1 → x0 ≤ 100 := fun {x0 x1} => Lin.use [x0, x1] [] (.imp (.ln (.a (.v 1) (.c 1)) (.c 3)) (.imp (.ln (.v 0) (.m 9 (.v 1))) (.ln (.v 0) (.c 100)))) (by kernel_rfl)
theorem om466 : ∀ {x0 x1 : Nat}, x1 ≤ 9 → x0 = x1 → x0 < 64 := fun {x0 x1} => Lin.use [x0, x1] [] (.imp (.ln (.v 1) (.c 9)) (.imp (.en (.v 0) (.v 1)) (.ln (.a (.v 0) (.c 1)) (.c 64)))) (by kernel_rfl)
theorem om467 : ∀ {x0 : Nat}, ¬(↑63 : Int) < (↑x0 : Int) → x0 ≤ 63 := fun {x0} => Lin.use [x0] [] (.imp (.not (.li (.a (.t (.c 63)) (.c 1)) (.t (.v 0)))) (.ln (.v 0) (.c 63))) (by kernel_rfl)
end
section
-- A0
theorem fresh_A0 : True := by
  w_top off
  trivial
set_option maxHeartbeats 8000000
section
open SeqAt MeetsSeq MeetsSeq2 MeetsSeq3 SeqRoads2
open AutoSeq1 (wpAny_loadPart')

/-- the lexicographic order of two pairs of ints, as a Bool -/
noncomputable def klt (x y : Int × Int) : Bool := decide (x.1 < y.1 ∨ (x.1 = y.1 ∧ x.2 < y.2))

theorem lt_loop1 (l b : Addr) (items items2 : Array Value) (n n2 : Nat) (y1 y2 : Int) (t2 u2 : Tok)
    (g2 : items[1]? = some (.int y1 t2)) (k2 : items2[1]? = some (.int y2 u2)) (hne : y1 ≠ y2) :
    Meets (Builtin.«list.__eq__.loop» ⟨[.ref l, .ref b, rawInt 1, rawInt 0], []⟩)
      (fun _ R s => s.heap.get? l = some (listOf items n) ∧ s.heap.get? b = some (listOf items2 n2) ∧
        R (.ok (.ret (.bool (decide (y1 < y2))))) s) := by
  intro prog w A R s h
  obtain ⟨hp, g, d, tk, os⟩ := s; obtain ⟨hl, hb, h⟩ := h
  have gi : items[(1 : Int).toNat]? = some (.int y1 t2) := g2
  have ki : items2[(1 : Int).toNat]? = some (.int y2 u2) := k2
  wp_walk using wpAny_loadPart' hl, wpAny_loadPart' hb
  rw [gi, ki]
  refine wpAny_bind (EqAt.int_int y1 t2 y2 u2 prog w _ _ ?_)
  have hq : (y1 == y2) = false := by simpa using hne
  rw [hq]
  wp_walk using wpAny_loadPart' hl, wpAny_loadPart' hb
  rw [gi, ki]
  refine wpAny_bind (show wpAny (model prog w) A.in1 (compareOp .Lt (.int y1 t2) (.int y2 u2)) _ _ _ from ?_)
  refine lt_int ?_
  exact wpAny_pure h

theorem lt_loop0 (l b : Addr) (items items2 : Array Value) (n n2 : Nat) (x1 y1 x2 y2 : Int) (t1 t2 u1 u2 : Tok)
    (g1 : items[0]? = some (.int x1 t1)) (g2 : items[1]? = some (.int y1 t2)) (k1 : items2[0]? = some (.int x2 u1)) (k2 : items2[1]? = some (.int y2 u2)) (hne : y1 ≠ y2) :
    Meets (Builtin.«list.__eq__.loop» ⟨[.ref l, .ref b, rawInt 0, rawInt 0], []⟩)
      (fun _ R s => s.heap.get? l = some (listOf items n) ∧ s.heap.get? b = some (listOf items2 n2) ∧
        R (.ok (.ret (.bool (klt (x1, y1) (x2, y2))))) s) := by
  intro prog w A R s h
  obtain ⟨hp, g, d, tk, os⟩ := s; obtain ⟨hl, hb, h⟩ := h
  have gi : items[(0 : Int).toNat]? = some (.int x1 t1) := g1
  have ki : items2[(0 : Int).toNat]? = some (.int x2 u1) := k1
  wp_walk using wpAny_loadPart' hl, wpAny_loadPart' hb
  rw [gi, ki]
  refine wpAny_bind (EqAt.int_int x1 t1 x2 u1 prog w _ _ ?_)
  by_cases hx : x1 = x2
  · have hq : (x1 == x2) = true := by simpa using hx
    rw [hq]
    wp_walk
    exact ⟨plainId_quiet plain_eq_loop _, codeAny_builtin entry_eq_loop (by
        rw [Around.under_plainId plain_eq_loop _]
        refine lt_loop1 l b items items2 n n2 y1 y2 t2 u2 g2 k2 hne prog w A R _ ⟨hl, hb, ?_⟩
        have : klt (x1, y1) (x2, y2) = decide (y1 < y2) := by simp [klt, hx]
        rw [← this]; exact h)⟩
  · have hq : (x1 == x2) = false := by simpa using hx
    rw [hq]
    wp_walk using wpAny_loadPart' hl, wpAny_loadPart' hb
    rw [gi, ki]
    refine wpAny_bind (show wpAny (model prog w) A.in1 (compareOp .Lt (.int x1 t1) (.int x2 u1)) _ _ _ from ?_)
    refine lt_int ?_
    have : klt (x1, y1) (x2, y2) = decide (x1 < x2) := by simp [klt, hx]
    rw [← this]
    exact wpAny_pure h

theorem list_lt (l b : Addr) (items items2 : Array Value) (n n2 : Nat) (x1 y1 x2 y2 : Int) (t1 t2 u1 u2 : Tok)
    (g1 : items[0]? = some (.int x1 t1)) (g2 : items[1]? = some (.int y1 t2)) (k1 : items2[0]? = some (.int x2 u1)) (k2 : items2[1]? = some (.int y2 u2)) (hne : y1 ≠ y2) :
    Meets (Builtin.«list.__lt__» ⟨[.ref l, .ref b], []⟩)
      (fun _ R s => s.heap.get? l = some (listOf items n) ∧ s.heap.get? b = some (listOf items2 n2) ∧
        R (.ok (.ret (.bool (klt (x1, y1) (x2, y2))))) s) := by
  intro prog w A R s h
  obtain ⟨hp, g, d, tk, os⟩ := s; obtain ⟨hl, hb, h⟩ := h
  have f3 := AutoSeq1.sub_list_list
  wp_walk using wpAny_loadPart' hl, wpAny_loadPart' hb
  exact ⟨plainId_quiet plain_eq_loop _, codeAny_builtin entry_eq_loop (by
    rw [Around.under_plainId plain_eq_loop _]
    exact lt_loop0 l b items items2 n n2 x1 y1 x2 y2 t1 t2 u1 u2 g1 g2 k1 k2 hne prog w A R _ ⟨hl, hb, h⟩)⟩
end
end
section
-- A1
theorem fresh_A1 : True := by
  w_top off
  trivial
set_option maxHeartbeats 400000
noncomputable def ItemAt (news : List (Addr × Obj)) (v : Value) (k : Int × Int) : Prop :=
  ∃ a items n t1 t2, v = .ref a ∧ (a, listOf items n) ∈ news ∧ items[0]? = some (.int k.1 t1) ∧ items[1]? = some (.int k.2 t2)
theorem ItemAt.mono {news news' : List (Addr × Obj)} {v : Value} {k : Int × Int} (h : ItemAt news v k) (hs : ∀ q ∈ news, q ∈ news') : ItemAt news' v k := by
  obtain ⟨a, items, n, t1, t2, e, hm, r⟩ := h
  exact ⟨a, items, n, t1, t2, e, hs _ hm, r⟩

section
variable {prog : Program} {w : World} {A : Around} {E : Value → Shared → Prop} {s : Shared} {h₀ : Heap} {L D a : Addr} {m : Str → Option Value} {news news' : List (Addr × Obj)} {xs : List Value} {n : Nat} {k : Int} {t u : Tok} {v v' : Value}
theorem r_item {value slice : Expr} {Q : Value → Shared → Prop} (N : News h₀ L s.heap news) (hm : (a, listOf xs.toArray n) ∈ news) (h0 : 0 ≤ k) (h1 : k < xs.length) (hfit : k < 2 ^ 63)
    (h : Q (xs.getD k.toNat .none) s)
    (hs : subscripted slice false (.ref a) (.int k u) = operate [.ref a, .int k u] (getItem (.ref a) (.int k u)) := by with_unfolding_all rfl) (hg : ∀ r, letTemporaryGo value (.ref a) r = pure () := by intro _; with_unfolding_all rfl) :
    wpAny (model prog w) A (subscriptTail value slice (.ref a) (.int k u)) Q E s :=
  kim_list N hm rfl rfl h0 hfit (by rw [List.getD_eq_getElem?_getD]; have : k.toNat < xs.length := by omega
                                    simp [this]) h hs hg
theorem r_set {Q : Unit → Shared → Prop} (F : Fr h₀ L s.heap m) (N : News h₀ L s.heap news) (U : Upd D (listOf xs.toArray n) (listOf (xs.set k.toNat v).toArray n) news news') (h0 : 0 ≤ k) (h1 : k < xs.length) (hfit : k < 2 ^ 63)
    (h : ∀ h', Fr h₀ L h' m → News h₀ L h' news' → Q () { s with heap := h' }) :
    wpAny (model prog w) A (setItem (.ref D) (.int k t) v) Q E s := by
  obtain ⟨pre, post, rfl, rfl, a, b⟩ := U.split
  have z := N (D, listOf xs.toArray n) (List.mem_append.mpr (.inr (.head _)))
  have hs : xs.toArray.size = xs.length := by rw [List.size_toArray]
  refine ki_setAt z.1 h0 hfit (by (first | exact om0 h1 hs | omega)) (h _ (F.change (Heap.SameBut.update ..) z.2.1 z.2.2) (ki_turn _ N a b ?_ ?_))
  · show xs.toArray.setIfInBounds k.toNat v = (xs.set k.toNat v).toArray
    apply Array.toList_inj.mp
    simp
  · simp
theorem r_lt {Q : Value → Shared → Prop} {k1 k2 : Int × Int} (N : News h₀ L s.heap news) (i1 : ItemAt news v k1) (i2 : ItemAt news v' k2) (hne : k1.2 ≠ k2.2) (hu : A.units < cLine) (h : Q (.bool (klt k1 k2)) s) :
    wpAny (model prog w) A (compareOp .Lt v v') Q E s := by
  obtain ⟨a, i1, n1, t1, t2, rfl, hm1, g1, g2⟩ := i1
  obtain ⟨b, i2, n2, u1, u2, rfl, hm2, g3, g4⟩ := i2
  have hl : s.heap.get? a = some (listOf i1 n1) := (N _ hm1).1
  have hb : s.heap.get? b = some (listOf i2 n2) := (N _ hm2).1
  have T1 : s.TypeIs (.ref a) "list" := (show s.heap.IsList a i1 from ⟨_, hl, rfl, n1, rfl⟩).typeIs
  have T2 : s.TypeIs (.ref b) "list" := (show s.heap.IsList b i2 from ⟨_, hb, rfl, n2, rfl⟩).typeIs
  show wpAny (model prog w) A (richCompare .Lt (.ref a) (.ref b)) Q E s
  refine richCompare_meets_room T1 T2 PySem.F.slot_list_lt PySem.F.entry_list_lt (PySem.F.args_list_lt_2 _ _) (list_lt a b i1 i2 n1 n2 k1.1 k1.2 k2.1 k2.2 t1 t2 u1 u2 g1 g2 g3 g4 hne) ?_ hu
  refine ⟨hl, hb, ?_⟩
  refine ⟨?_, h⟩
  intro e; cases e
end
end
-- A2
theorem fresh_A2 : True := by
  w_top off
  trivial
set_option maxHeartbeats 1000000
theorem same_step {z x : Str} {d : Decidable (z = x)} {v r : Option Value} {b : Option Value} (h : z ≠ x) (k : b = r) : @ite _ (z = x) d v b = r := by rw [if_neg h]; exact k
theorem same_end {stored : List Str} {u m₀ : Str → Option Value} {z : Str} : ∀ {ps ps' : List (Str × Value)}, (∀ p ∈ ps', z ≠ p.1) → stored.contains z = false → ps.map (·.1) = ps'.map (·.1) →
    kstB (fun z => if stored.contains z = true then u z else m₀ z) ps z = m₀ z
  | [], _, _, h, _ => by
    show (if stored.contains z = true then u z else m₀ z) = m₀ z
    rw [h]; rfl
  | p :: r, [], _, _, e => by cases e
  | p :: r, p' :: r', h2, h3, e => by
    simp only [List.map_cons, List.cons.injEq] at e
    show (if z = p.1 then some p.2 else kstB _ r z) = m₀ z
    rw [if_neg (by rw [e.1]; exact h2 p' (.head _))]
    exact same_end (fun q hq => h2 q (.tail _ hq)) h3 e.2
theorem ne_stored {stored : List Str} {z x : Str} (h : stored.contains z = false) (hx : x ∈ stored) : z ≠ x := by
  rintro rfl
  rw [List.contains_iff_mem.mpr hx] at h
  cases h
local macro_rules | `(tactic| walk_at "my same") => `(tactic| (intro z h2 h3; (repeat (refine same_step (by first | exact h2 _ (.head _) | exact h2 _ (.tail _ (.head _)) | exact h2 _ (.tail _ (.tail _ (.head _))) | exact ne_stored h3 (.head _) | exact ne_stored h3 (.tail _ (.head _)) | exact ne_stored h3 (.tail _ (.tail _ (.head _)))) ?_)); exact same_end h2 h3 rfl))
local macro_rules | `(tactic| walk_at "my go") => `(tactic| repeat' (first | (k_unfold; (try dsimp only)) | ((fail_if_success (with_reducible show KswEnd _ _ _ _ _ _ _ _ _ _ _ _)); first | walk1 | (dsimp only; walk1))))
/-- the loop of _siftdown, plainly (n: turns at most) -/
noncomputable def sdN (κ : Value → Int × Int) (x : Value) (st : Nat) : Nat → Nat → List Value → List Value
  | 0, pos, xs => xs.set pos x
  | n + 1, pos, xs => if st < pos then if klt (κ x) (κ (xs.getD ((pos - 1) / 2) .none)) then sdN κ x st n ((pos - 1) / 2) (xs.set pos (xs.getD ((pos - 1) / 2) .none)) else xs.set pos x else xs.set pos x
noncomputable def sd (κ : Value → Int × Int) (x : Value) (st pos : Nat) (xs : List Value) : List Value := sdN κ x st pos pos xs
theorem sdN_fuel {κ : Value → Int × Int} {x : Value} {st : Nat} : ∀ (n m pos : Nat) (xs : List Value), pos ≤ n → pos ≤ m → sdN κ x st n pos xs = sdN κ x st m pos xs
  | 0, 0, _, _, _, _ => rfl
  | 0, m + 1, pos, xs, h, _ => by
    show _ = if st < pos then _ else _
    rw [if_neg (fun g => Nat.not_lt_zero _ (Nat.lt_of_lt_of_le g h))]; rfl
  | n + 1, 0, pos, xs, _, h => by
    show (if st < pos then _ else _) = _
    rw [if_neg (fun g => Nat.not_lt_zero _ (Nat.lt_of_lt_of_le g h))]; rfl
  | n + 1, m + 1, pos, xs, h1, h2 => by
    show (if st < pos then if _ then sdN κ x st n _ _ else _ else _) = if st < pos then if _ then sdN κ x st m _ _ else _ else _
    rw [sdN_fuel n m _ _ (Nat.le_trans (Nat.div_le_self _ 2) (Nat.sub_le_of_le_add h1)) (Nat.le_trans (Nat.div_le_self _ 2) (Nat.sub_le_of_le_add h2))]
theorem sd_def (κ : Value → Int × Int) (x : Value) (st pos : Nat) (xs : List Value) : sd κ x st pos xs = if st < pos then if klt (κ x) (κ (xs.getD ((pos - 1) / 2) .none)) then sd κ x st ((pos - 1) / 2) (xs.set pos (xs.getD ((pos - 1) / 2) .none)) else xs.set pos x else xs.set pos x := by
  cases pos with
  | zero => rw [if_neg (Nat.not_lt_zero _)]; rfl
  | succ p =>
    show (if st < p + 1 then if _ then sdN κ x st p _ _ else _ else _) = if st < p + 1 then if _ then sdN κ x st _ _ _ else _ else _
    rw [sdN_fuel p ((p + 1 - 1) / 2) ((p + 1 - 1) / 2) _ (Nat.div_le_self _ 2) (Nat.le_refl _)]
theorem getD_mem {xs : List Value} {i : Nat} (h : i < xs.length) : xs.getD i .none ∈ xs := by
  rw [List.getD_eq_getElem?_getD, List.getElem?_eq_getElem h]; exact List.getElem_mem h
theorem siftdown_ok {w : World} {A A₀ : Around} {env : Env} {outer : List Env} {base h₀ : Heap} {L : Addr} {m : Str → Option Value} {news : List (Addr × Obj)} {s : Shared}
    {p : Program} {loose : List Str} {mean : ExcName → Option Value} {mg mb : Str → Option Value}
    {wl : Addr} {xs : List Value} {n : Nat} {st pos : Nat} {t1 t2 : Tok} {Q E : Value → Shared → Prop} (κ : Value → Int × Int)
    (B : Below A₀ base outer h₀) (F : Fr h₀ L s.heap m) (X : (hd.heap_39 w.params).In h₀) (N : News h₀ L s.heap ((wl, listOf xs.toArray n) :: news)) (T : Top p loose mean mg mb h₀)
    (hA : A.frames = some (env :: outer)) (hf : env.frame = some L) (hke : env.scope.kind = .function)
    (hroom : A.depth < recursionLimit) (hu : A.units + 20 < cLine)
    (hw : ∀ q ∈ news, q.1 ≠ wl) (hI : ∀ v ∈ xs, ItemAt news v (κ v)) (h2 : pos < xs.length) (h3 : xs.length < 1000)
    (hne : ∀ j, j < pos → (κ (xs.getD pos .none)).2 ≠ (κ (xs.getD j .none)).2)
    (ret : ∀ h' tk', Fr h₀ L h' m → News h₀ L h' ((wl, listOf (sd κ (xs.getD pos .none) st pos xs).toArray n) :: news) → Q .none { s with heap := h', toks := tk' }) :
    wpAny (model Challenge.rw_nb0237_01.row.prog w) A (call (.ref 56) [.ref wl, .int st t1, .int pos t2]) Q E s := by
  revert X; k_fill; intro X
  refine wpAny_call ?_
  refine code_def (binds := [(Str.ofString "heap", .ref wl), (Str.ofString "startpos", .int st t1), (Str.ofString "pos", .int pos t2)]) B F X N T hA hf hke (by k_is) (by k_is) hroom (BindsTo.of_eq rfl) (locs rfl) ?_ rfl rfl rfl (by decide)
  intro g' L' h' FG' F' N' B' X' T'
  try dsimp only
  walk_at "my go"
  refine r_item N' (.head _) (by (first | exact om2 | omega)) (by (first | exact om4 h2 | omega)) (by (first | exact om3 h2 h3 | omega)) ?_
  have hx0 : xs.getD ((pos : Int).toNat) .none = xs.getD pos .none := rfl
  rw [hx0]
  generalize hx : xs.getD pos .none = x at *
  iterate 2 walk1
  rename Fr g' L' _ _ => F1
  rename News g' L' _ _ => N1
  refine ksw_while (σ := Nat × List Value × Tok) (fun c => (wl, listOf c.2.1.toArray n) :: news) (fun c => [(Str.ofString "pos", .int c.1 c.2.2)]) (fun _ => True)
    [Str.ofString "parentpos", Str.ofString "parent"]
    (fun c => c.1 ≤ pos ∧ c.2.1.length = xs.length ∧ sd κ x st c.1 c.2.1 = sd κ x st pos xs ∧ (∀ v ∈ c.2.1, ItemAt news v (κ v)) ∧ (∀ j, j < c.1 → c.2.1.getD j .none = xs.getD j .none))
    (fun c => c.1) (pos, xs, t2) F1 N1 trivial ?_ ⟨Nat.le_refl _, rfl, rfl, hI, fun _ _ => rfl⟩ ?_
  · intro q hq
    rw [List.mem_singleton.mp hq]; rfl
  rintro ⟨c, ys, tc⟩ u h tk - ⟨q2, q3, q4, q5, q6⟩ F2 N2
  dsimp only at q2 q3 q4 q5 q6 N2 F2 ⊢
  iterate 5 walk1
  walk1
  · rename (st : Int) < _ => hlt
    have hc : st < c := by simpa using hlt
    have hp : ((c : Int) - 1).fdiv (2 ^ Int.toNat 1) = (((c - 1) / 2 : Nat) : Int) := by
      have : (2 : Int) ^ Int.toNat 1 = 2 := rfl
      rw [this, Int.fdiv_eq_ediv_of_nonneg _ (by decide), show (c : Int) - 1 = ((c - 1 : Nat) : Int) from (Int.ofNat_sub (Nat.one_le_of_lt hc)).symm]
      rfl
    walk_at "my go"
    rename Fr g' L' _ _ => F3
    rename News g' L' _ _ => N3
    simp only [hp] at F3 ⊢
    refine r_item N3 (.head _) (by (first | exact om7 | omega)) (by (first | exact om8 h2 q2 q3 | omega)) (by (first | exact om9 h2 h3 q2 | omega)) ?_
    have hy0 : ys.getD ((((c - 1) / 2 : Nat) : Int).toNat) .none = ys.getD ((c - 1) / 2) .none := rfl
    rw [hy0]
    generalize hy : ys.getD ((c - 1) / 2) .none = y at *
    walk_at "my go"
    rename Fr g' L' _ _ => F4
    rename News g' L' _ _ => N4
    have ix : ItemAt ((wl, listOf ys.toArray n) :: news) x (κ x) := (hI x (hx ▸ getD_mem h2)).mono fun _ => .tail _
    have iy : ItemAt ((wl, listOf ys.toArray n) :: news) y (κ y) := (q5 y (hy ▸ getD_mem (by (first | exact om10 h2 q2 q3 | omega)))).mono fun _ => .tail _
    have hyx : y = xs.getD ((c - 1) / 2) .none := by rw [← hy]; exact q6 _ (by (first | exact om11 hlt | omega))
    refine r_lt N4 ix iy (by rw [hyx]; exact hne _ (by (first | exact om12 q2 hlt | omega))) (by show A.units + 3 < cLine; (first | exact om13 hu | omega)) ?_
    walk_at "my go"
    · rename klt _ _ = true => hk
      refine r_set (k := (c : Int)) (n := n) F4 N4 (Upd.head hw) (by (first | exact om2 | omega)) (by (first | exact om14 h2 q2 q3 | omega)) (by (first | exact om15 h2 h3 q2 | omega)) ?_
      intro h5 F5 N5
      walk_at "my go"
      rename Fr g' L' _ _ => F6
      rename News g' L' _ _ => N6
      refine ksw_end ((c - 1) / 2, ys.set c y, _) F6 N6 (fun p hp => hp) trivial (fun q hq => by rw [List.mem_singleton.mp hq]; rfl) (by walk_at "my same") ⟨?_, ?_, ?_, ?_, ?_⟩ ?_
      all_goals dsimp only
      · (first | exact om16 q2 | omega)
      · rw [List.length_set]; exact q3
      · rw [← q4, sd_def κ x st c ys, if_pos hc, hy, if_pos hk]
      · intro v hv
        rcases List.mem_or_eq_of_mem_set hv with hv | rfl
        · exact q5 v hv
        · exact q5 _ (hy ▸ getD_mem (by (first | exact om10 h2 q2 q3 | omega)))
      · intro j hj
        rw [List.getD_eq_getElem?_getD, List.getElem?_set_ne (by (first | exact om17 hj | omega)), ← List.getD_eq_getElem?_getD]
        exact q6 j (by (first | exact om18 hj | omega))
      · (first | exact om11 hlt | omega)
    · rename klt _ _ = false => hk
      refine r_set (k := (c : Int)) (n := n) F4 N4 (Upd.head hw) (by (first | exact om2 | omega)) (by (first | exact om14 h2 q2 q3 | omega)) (by (first | exact om15 h2 h3 q2 | omega)) ?_
      intro h5 F5 N5
      walk_at "my go"
      rename Fr h₀ L h5 _ => F6
      rename News h₀ L h5 _ => N6
      refine ret _ _ F6 ?_
      rw [← q4, sd_def κ x st c ys, if_pos hc, hy, if_neg (by rw [hk]; simp)]
      exact N6
  · rename ¬ (st : Int) < _ => hlt
    walk_at "my go"
    refine r_set (k := (c : Int)) (n := n) F2 N2 (Upd.head hw) (by (first | exact om2 | omega)) (by (first | exact om14 h2 q2 q3 | omega)) (by (first | exact om15 h2 h3 q2 | omega)) ?_
    intro h5 F5 N5
    walk_at "my go"
    rename Fr h₀ L h5 _ => F6
    rename News h₀ L h5 _ => N6
    refine ret _ _ F6 ?_
    rw [← q4, sd_def κ x st c ys, if_neg (by (first | exact om19 hlt | omega))]
    exact N6

section
-- A3
theorem fresh_A3 : True := by
  w_top off
  trivial
set_option maxHeartbeats 1000000
section
variable {prog : Program} {w : World} {A : Around} {E : Value → Shared → Prop} {s : Shared} {h₀ : Heap} {L a : Addr} {news : List (Addr × Obj)} {xs : List Value} {n : Nat}
theorem r_len {Q : Value → Shared → Prop} (N : News h₀ L s.heap news) (hm : (a, listOf xs.toArray n) ∈ news) (hfit : (xs.length : Int) < 2 ^ 63) (h : Q (.int xs.length (s.toks + 1)) { s with toks := s.toks + 1 + 1 }) :
    wpAny (model prog w) A (call (.builtin "len") [.ref a]) Q E s := by
  have e : (List.toArray xs).size = xs.length := by rw [List.size_toArray]
  exact call_len_list (PySem.IsL.isList (n := n) (N _ hm).1) (by rw [e]; exact hfit) (by rw [e]; exact h)
end
/-- the child that _siftup lifts -/
noncomputable def pick (κ : Value → Int × Int) (xs : List Value) (c : Nat) : Nat :=
  if c + 1 < xs.length ∧ klt (κ (xs.getD c .none)) (κ (xs.getD (c + 1) .none)) = false then c + 1 else c
theorem pick_ge (κ : Value → Int × Int) (xs : List Value) (c : Nat) : c ≤ pick κ xs c := by unfold pick; split <;> (first | exact om20 | exact om21 | omega)
theorem pick_lt (κ : Value → Int × Int) (xs : List Value) (c : Nat) (h : c < xs.length) : pick κ xs c < xs.length := by unfold pick; split <;> (first | exact om22 h | omega)
/-- the loop of _siftup, plainly (n: turns at most) -/
noncomputable def suN (κ : Value → Int × Int) : Nat → Nat → List Value → Nat × List Value
  | 0, pos, xs => (pos, xs)
  | n + 1, pos, xs => if 2 * pos + 1 < xs.length then suN κ n (pick κ xs (2 * pos + 1)) (xs.set pos (xs.getD (pick κ xs (2 * pos + 1)) .none)) else (pos, xs)
noncomputable def su (κ : Value → Int × Int) (pos : Nat) (xs : List Value) : Nat × List Value := suN κ (xs.length - pos) pos xs
theorem su_step {κ : Value → Int × Int} {pos n : Nat} {xs : List Value} {v : Value} (h : 2 * pos + 1 < xs.length) (hn : xs.length - pos ≤ n + 1) : (xs.set pos v).length - pick κ xs (2 * pos + 1) ≤ n := by
  have := pick_ge κ xs (2 * pos + 1)
  rw [List.length_set]
  exact Nat.le_of_lt_succ (Nat.lt_of_lt_of_le (by (first | exact om23 h this | omega)) hn)
theorem su_none {pos : Nat} {xs : List Value} (h : xs.length - pos ≤ 0) : ¬ 2 * pos + 1 < xs.length := by omega
theorem suN_fuel {κ : Value → Int × Int} : ∀ (n m pos : Nat) (xs : List Value), xs.length - pos ≤ n → xs.length - pos ≤ m → suN κ n pos xs = suN κ m pos xs
  | 0, 0, _, _, _, _ => rfl
  | 0, m + 1, pos, xs, h, _ => by
    show _ = if 2 * pos + 1 < xs.length then _ else _
    rw [if_neg (su_none h)]; rfl
  | n + 1, 0, pos, xs, _, h => by
    show (if 2 * pos + 1 < xs.length then _ else _) = _
    rw [if_neg (su_none h)]; rfl
  | n + 1, m + 1, pos, xs, h1, h2 => by
    show (if 2 * pos + 1 < xs.length then suN κ n _ _ else _) = if 2 * pos + 1 < xs.length then suN κ m _ _ else _
    split
    · rename_i h
      exact suN_fuel n m _ _ (su_step h h1) (su_step h h2)
    · rfl
theorem su_def (κ : Value → Int × Int) (pos : Nat) (xs : List Value) : su κ pos xs = if 2 * pos + 1 < xs.length then su κ (pick κ xs (2 * pos + 1)) (xs.set pos (xs.getD (pick κ xs (2 * pos + 1)) .none)) else (pos, xs) := by
  rw [su, suN_fuel (xs.length - pos) (xs.length - pos + 1) pos xs (Nat.le_refl _) (Nat.le_succ _)]
  show (if 2 * pos + 1 < xs.length then suN κ _ _ _ else _) = _
  split
  · rename_i h
    exact suN_fuel _ _ _ _ (su_step h (Nat.le_succ _)) (Nat.le_refl _)
  · rfl
noncomputable def siftup (κ : Value → Int × Int) (pos : Nat) (xs : List Value) : List Value :=
  sd κ (xs.getD pos .none) pos (su κ pos xs).1 ((su κ pos xs).2.set (su κ pos xs).1 (xs.getD pos .none))

theorem getD_set_ne {xs : List Value} {i j : Nat} {v : Value} (h : i ≠ j) : (xs.set i v).getD j .none = xs.getD j .none := by
  rw [List.getD_eq_getElem?_getD, List.getElem?_set_ne h, ← List.getD_eq_getElem?_getD]
theorem getD_set_eq {xs : List Value} {i : Nat} {v : Value} (h : i < xs.length) : (xs.set i v).getD i .none = v := by
  rw [List.getD_eq_getElem?_getD, List.getElem?_set_self h]; rfl
theorem su_keep {κ : Value → Int × Int} {news : List (Addr × Obj)} {pos c d : Nat} {xs ys : List Value} (hc : 2 * c + 1 < xs.length) (hp : pick κ ys (2 * c + 1) = d) (q2 : c < xs.length) (q3 : ys.length = xs.length)
    (q4 : su κ c ys = su κ pos xs) (q5 : ∀ v ∈ ys, ItemAt news v (κ v)) (q6 : ∀ j, c < j → ys.getD j .none = xs.getD j .none)
    (q7 : ∀ j, j ≠ c → j < xs.length → ∃ i, i ≠ pos ∧ i < xs.length ∧ ys.getD j .none = xs.getD i .none) :
    d < xs.length ∧ (ys.set c (ys.getD d .none)).length = xs.length ∧ su κ d (ys.set c (ys.getD d .none)) = su κ pos xs ∧ (∀ v ∈ ys.set c (ys.getD d .none), ItemAt news v (κ v)) ∧
      (∀ j, d < j → (ys.set c (ys.getD d .none)).getD j .none = xs.getD j .none) ∧ (∀ j, j ≠ d → j < xs.length → ∃ i, i ≠ pos ∧ i < xs.length ∧ (ys.set c (ys.getD d .none)).getD j .none = xs.getD i .none) := by
  have g1 := pick_ge κ ys (2 * c + 1)
  have g2 := pick_lt κ ys (2 * c + 1) (by (first | exact om24 hc q3 | omega))
  rw [hp] at g1 g2
  refine ⟨by (first | exact om25 q3 g2 | omega), by rw [List.length_set]; exact q3, ?_, ?_, ?_, ?_⟩
  · rw [← q4, su_def κ c ys, if_pos (by (first | exact om24 hc q3 | omega)), hp]
  · intro v hv
    rcases List.mem_or_eq_of_mem_set hv with hv | rfl
    · exact q5 v hv
    · exact q5 _ (getD_mem g2)
  · intro j hj
    rw [getD_set_ne (by (first | exact om26 g1 hj | omega))]; exact q6 j (by (first | exact om27 g1 hj | omega))
  · intro j h1 h2
    by_cases hj : j = c
    · subst hj
      rw [getD_set_eq (by (first | exact om28 q3 h2 | omega))]
      exact q7 d (by (first | exact om29 g1 | omega)) (by (first | exact om25 q3 g2 | omega))
    · rw [getD_set_ne (by (first | exact om30 hj | omega))]
      exact q7 j hj h2
theorem siftup_ok {w : World} {A A₀ : Around} {env : Env} {outer : List Env} {base h₀ : Heap} {L : Addr} {m : Str → Option Value} {news : List (Addr × Obj)} {s : Shared}
    {p : Program} {loose : List Str} {mean : ExcName → Option Value} {mg mb : Str → Option Value}
    {wl : Addr} {xs : List Value} {n : Nat} {pos : Nat} {t2 : Tok} {Q E : Value → Shared → Prop} (κ : Value → Int × Int)
    (B : Below A₀ base outer h₀) (F : Fr h₀ L s.heap m) (X : (hd.heap_39 w.params).In h₀) (N : News h₀ L s.heap ((wl, listOf xs.toArray n) :: news)) (T : Top p loose mean mg mb h₀)
    (hA : A.frames = some (env :: outer)) (hf : env.frame = some L) (hke : env.scope.kind = .function)
    (hroom : A.depth + 1 < recursionLimit) (hu : A.units + 30 < cLine)
    (hw : ∀ q ∈ news, q.1 ≠ wl) (hI : ∀ v ∈ xs, ItemAt news v (κ v)) (h2 : pos < xs.length) (h3 : xs.length < 1000)
    (hne : ∀ i j, i < xs.length → j < xs.length → i ≠ j → (κ (xs.getD i .none)).2 ≠ (κ (xs.getD j .none)).2)
    (ret : ∀ h' tk', Fr h₀ L h' m → News h₀ L h' ((wl, listOf (siftup κ pos xs).toArray n) :: news) → Q .none { s with heap := h', toks := tk' }) :
    wpAny (model Challenge.rw_nb0237_01.row.prog w) A (call (.ref 63) [.ref wl, .int pos t2]) Q E s := by
  revert X; k_fill; intro X
  refine wpAny_call ?_
  refine code_def (binds := [(Str.ofString "heap", .ref wl), (Str.ofString "pos", .int pos t2)]) B F X N T hA hf hke (by k_is) (by k_is) (by (first | exact om31 hroom | omega)) (BindsTo.of_eq rfl) (locs rfl) ?_ rfl rfl rfl (by decide)
  intro g' L' h' FG' F' N' B' X' T'
  try dsimp only
  walk_at "my go"
  refine r_len N' (.head _) (by (first | exact om32 h3 | omega)) ?_
  walk_at "my go"
  rename Fr g' L' _ _ => F1
  rename News g' L' _ _ => N1
  refine r_item N1 (.head _) (by (first | exact om2 | omega)) (by (first | exact om4 h2 | omega)) (by (first | exact om3 h2 h3 | omega)) ?_
  have hx0 : xs.getD ((pos : Int).toNat) .none = xs.getD pos .none := rfl
  rw [hx0]
  generalize hx : xs.getD pos .none = x at *
  iterate 12 walk1
  rename Fr g' L' _ _ => F1
  rename News g' L' _ _ => N1
  dsimp only at F1
  refine ksw_while (σ := Nat × List Value × Tok × Tok) (fun c => (wl, listOf c.2.1.toArray n) :: news) (fun c => [(Str.ofString "pos", .int c.1 c.2.2.1), (Str.ofString "childpos", .int (2 * (c.1 : Int) + 1) c.2.2.2)]) (fun _ => True)
    [Str.ofString "rightpos"]
    (fun c => c.1 < xs.length ∧ c.2.1.length = xs.length ∧ su κ c.1 c.2.1 = su κ pos xs ∧ (∀ v ∈ c.2.1, ItemAt news v (κ v)) ∧ (∀ j, c.1 < j → c.2.1.getD j .none = xs.getD j .none) ∧ (∀ j, j ≠ c.1 → j < xs.length → ∃ i, i ≠ pos ∧ i < xs.length ∧ c.2.1.getD j .none = xs.getD i .none))
    (fun c => xs.length - c.1) (pos, xs, t2, ?tok) F1 N1 trivial ?k1 ?k2 ?k3
  case k1 =>
    intro q hq
    rcases List.mem_cons.mp hq with rfl | hq
    · rfl
    · rw [List.mem_singleton.mp hq]; rfl
  case k2 => exact ⟨h2, rfl, rfl, hI, fun _ _ => rfl, fun j h1 h2 => ⟨j, h1, h2, rfl⟩⟩
  all_goals dsimp only
  rintro ⟨c, ys, tc, td⟩ u h tk - ⟨q2, q3, q4, q5, q6, q7⟩ F2 N2
  dsimp only at q2 q3 q4 q5 q6 q7 N2 F2 ⊢
  iterate 5 walk1
  walk1
  · rename (_ : Int) < _ => hlt
    have hc : 2 * c + 1 < xs.length := by (first | exact om33 hlt | omega)
    walk_at "my go"
    · rename (_ : Int) < _ => hr
      rename Fr g' L' _ _ => F3
      rename News g' L' _ _ => N3
      dsimp only at F3
      refine r_item (k := 2 * (c : Int) + 1) N3 (.head _) (by (first | exact om34 | omega)) (by (first | exact om37 q3 hr | omega)) (by (first | exact om35 h3 hr | omega)) ?_
      have hv0 : ys.getD (Int.toNat (2 * (c : Int) + 1)) .none = ys.getD (2 * c + 1) .none := rfl
      rw [hv0]
      walk_at "my go"
      refine r_item (k := 2 * (c : Int) + 1 + 1) N3 (.head _) (by (first | exact om38 | omega)) (by (first | exact om40 q3 hr | omega)) (by (first | exact om39 h3 hr | omega)) ?_
      have hv1 : ys.getD (Int.toNat (2 * (c : Int) + 1 + 1)) .none = ys.getD (2 * c + 1 + 1) .none := rfl
      rw [hv1]
      have i1 : ItemAt ((wl, listOf ys.toArray n) :: news) (ys.getD (2 * c + 1) .none) (κ (ys.getD (2 * c + 1) .none)) := (q5 _ (getD_mem (by (first | exact om41 q3 hr | omega)))).mono fun _ => .tail _
      have i2 : ItemAt ((wl, listOf ys.toArray n) :: news) (ys.getD (2 * c + 1 + 1) .none) (κ (ys.getD (2 * c + 1 + 1) .none)) := (q5 _ (getD_mem (by (first | exact om42 q3 hr | omega)))).mono fun _ => .tail _
      refine r_lt N3 i1 i2 (by rw [q6 _ (by (first | exact om43 | omega)), q6 _ (by (first | exact om44 | omega))]; exact hne _ _ (by (first | exact om45 hr | omega)) (by (first | exact om46 hr | omega)) (by (first | exact om47 | omega))) (by show A.units + 3 < cLine; (first | exact om48 hu | omega)) ?_
      walk_at "my go"
      · rename klt _ _ = true => hk
        have hp : pick κ ys (2 * c + 1) = 2 * c + 1 := by unfold pick; rw [if_neg (by rw [hk]; simp)]
        rename Fr g' L' _ _ => F3
        rename News g' L' _ _ => N3
        refine r_item (k := 2 * (c : Int) + 1) N3 (.head _) (by (first | exact om34 | omega)) (by (first | exact om37 q3 hr | omega)) (by (first | exact om35 h3 hr | omega)) ?_
        have hv2 : ys.getD (Int.toNat (2 * (c : Int) + 1)) .none = ys.getD (2 * c + 1) .none := rfl
        rw [hv2]
        walk_at "my go"
        rename Fr g' L' _ _ => F4
        rename News g' L' _ _ => N4
        refine r_set (k := (c : Int)) (n := n) F4 N4 (Upd.head hw) (by (first | exact om2 | omega)) (by (first | exact om49 q2 q3 | omega)) (by (first | exact om50 h3 hr | omega)) ?_
        intro h5 F5 N5
        walk_at "my go"
        rename Fr g' L' _ _ => F6
        rename News g' L' _ _ => N6
        dsimp only at F6
        refine ksw_end (2 * c + 1, ys.set c (ys.getD (2 * c + 1) .none), ?ta1, ?tb1) F6 N6 (fun p hp => hp) trivial ?e1 (by walk_at "my same") ?e2 ?e3
        case e1 =>
          intro q hq
          rcases List.mem_cons.mp hq with rfl | hq
          · rfl
          · rw [List.mem_singleton.mp hq]; rfl
        case e2 => exact su_keep (by (first | exact om45 hr | omega)) hp q2 q3 q4 q5 q6 q7
        case e3 => dsimp only; (first | exact om51 q2 | omega)
      · rename klt _ _ = false => hk
        have hp : pick κ ys (2 * c + 1) = 2 * c + 1 + 1 := by unfold pick; rw [if_pos ⟨by (first | exact om42 q3 hr | omega), hk⟩]
        rename Fr g' L' _ _ => F3
        rename News g' L' _ _ => N3
        refine r_item (k := 2 * (c : Int) + 1 + 1) N3 (.head _) (by (first | exact om38 | omega)) (by (first | exact om40 q3 hr | omega)) (by (first | exact om39 h3 hr | omega)) ?_
        have hv2 : ys.getD (Int.toNat (2 * (c : Int) + 1 + 1)) .none = ys.getD (2 * c + 1 + 1) .none := rfl
        rw [hv2]
        walk_at "my go"
        rename Fr g' L' _ _ => F4
        rename News g' L' _ _ => N4
        refine r_set (k := (c : Int)) (n := n) F4 N4 (Upd.head hw) (by (first | exact om2 | omega)) (by (first | exact om49 q2 q3 | omega)) (by (first | exact om50 h3 hr | omega)) ?_
        intro h5 F5 N5
        walk_at "my go"
        rename Fr g' L' _ _ => F6
        rename News g' L' _ _ => N6
        dsimp only at F6
        refine ksw_end (2 * c + 1 + 1, ys.set c (ys.getD (2 * c + 1 + 1) .none), ?ta2, ?tb2) F6 N6 (fun p hp => hp) trivial ?e1 (by walk_at "my same") ?e2 ?e3
        case e1 =>
          intro q hq
          rcases List.mem_cons.mp hq with rfl | hq
          · rfl
          · rw [List.mem_singleton.mp hq]; rfl
        case e2 => exact su_keep (by (first | exact om45 hr | omega)) hp q2 q3 q4 q5 q6 q7
        case e3 => dsimp only; (first | exact om52 q2 | omega)
    · rename ¬ (_ : Int) < _ => hr
      have hp : pick κ ys (2 * c + 1) = 2 * c + 1 := by unfold pick; rw [if_neg (by omega)]
      rename Fr g' L' _ _ => F3
      rename News g' L' _ _ => N3
      refine r_item (k := 2 * (c : Int) + 1) N3 (.head _) (by (first | exact om34 | omega)) (by (first | exact om53 q3 hlt | omega)) (by (first | exact om36 h3 hlt | omega)) ?_
      have hv2 : ys.getD (Int.toNat (2 * (c : Int) + 1)) .none = ys.getD (2 * c + 1) .none := rfl
      rw [hv2]
      walk_at "my go"
      rename Fr g' L' _ _ => F4
      rename News g' L' _ _ => N4
      refine r_set (k := (c : Int)) (n := n) F4 N4 (Upd.head hw) (by (first | exact om2 | omega)) (by (first | exact om54 q3 hlt | omega)) (by (first | exact om55 h3 hlt | omega)) ?_
      intro h5 F5 N5
      walk_at "my go"
      rename Fr g' L' _ _ => F6
      rename News g' L' _ _ => N6
      dsimp only at F6
      refine ksw_end (2 * c + 1, ys.set c (ys.getD (2 * c + 1) .none), ?ta3, ?tb3) F6 N6 (fun p hp => hp) trivial ?e1 (by walk_at "my same") ?e2 ?e3
      case e1 =>
        intro q hq
        rcases List.mem_cons.mp hq with rfl | hq
        · rfl
        · rw [List.mem_singleton.mp hq]; rfl
      case e2 => exact su_keep (by (first | exact om33 hlt | omega)) hp q2 q3 q4 q5 q6 q7
      case e3 => dsimp only; (first | exact om56 hlt | omega)
  · rename ¬ (_ : Int) < _ => hlt
    walk_at "my go"
    rename Fr g' L' _ _ => F3
    rename News g' L' _ _ => N3
    refine r_set (k := (c : Int)) (n := n) F3 N3 (Upd.head hw) (by (first | exact om2 | omega)) (by (first | exact om49 q2 q3 | omega)) (by (first | exact om57 h3 q2 | omega)) ?_
    intro h5 F5 N5
    walk_at "my go"
    have hz : su κ c ys = (c, ys) := by rw [su_def, if_neg (by (first | exact om58 q3 hlt | omega))]
    rw [hz] at q4
    have hx2 : (ys.set c x).getD c .none = x := getD_set_eq (by (first | exact om59 q2 q3 | omega))
    have hxm : x ∈ xs := hx ▸ getD_mem h2
    refine siftdown_ok (xs := ys.set c x) κ B' F5 X' N5 T' (by show A.frames.map _ = _; rw [hA]; rfl) rfl rfl (by show A.depth + 1 < recursionLimit; exact hroom) (by show A.units + 3 + 20 < cLine; (first | exact om60 hu | omega)) hw ?_ (by rw [List.length_set]; (first | exact om59 q2 q3 | omega)) (by rw [List.length_set]; (first | exact om61 h3 q3 | omega)) ?_ ?_
    · intro v hv
      rcases List.mem_or_eq_of_mem_set hv with hv | rfl
      · exact q5 v hv
      · exact hI _ hxm
    · intro j hj
      rw [hx2, getD_set_ne (by (first | exact om62 hj | omega))]
      obtain ⟨i, i1, i2, i3⟩ := q7 j (by (first | exact om63 hj | omega)) (by (first | exact om64 q2 hj | omega))
      rw [i3, ← hx]
      exact hne _ _ h2 i2 (Ne.symm i1)
    · intro h7 tk7 F7 N7
      rw [hx2] at N7
      walk_at "my go"
      rename Fr h₀ L h7 _ => F8
      rename News h₀ L h7 _ => N8
      refine ret _ _ F8 ?_
      have e : siftup κ pos xs = sd κ x pos c (ys.set c x) := by unfold siftup; rw [hx, ← q4]
      rw [e]; exact N8
end
section
-- A4
theorem fresh_A4 : True := by
  w_top off
  trivial
set_option maxHeartbeats 1000000
section
variable {prog : Program} {w : World} {A : Around} {E : Value → Shared → Prop} {s : Shared} {h₀ : Heap} {L D : Addr} {m : Str → Option Value} {news : List (Addr × Obj)} {xs : List Value} {n : Nat} {v : Value} {Q : Value → Shared → Prop}
theorem r_append (F : Fr h₀ L s.heap m) (N : News h₀ L s.heap ((D, listOf xs.toArray n) :: news)) (hw : ∀ q ∈ news, q.1 ≠ D) (hz : xs.length < 1000)
    (h : ∀ h', Fr h₀ L h' m → News h₀ L h' ((D, listOf (xs ++ [v]).toArray (n + 1)) :: news) → Q .none { s with heap := h' }) : wpAny (model prog w) A (call (.builtin "list.append") [.ref D, v]) Q E s :=
  append_K F N (Upd.head hw) (fun h' F' N' => h h' F' (by rw [List.push_toArray] at N'; exact N')) (by rw [List.size_toArray, sizeLine_eq]; (first | exact om65 hz | omega))
theorem r_pop (F : Fr h₀ L s.heap m) (N : News h₀ L s.heap ((D, listOf (xs ++ [v]).toArray n) :: news)) (hw : ∀ q ∈ news, q.1 ≠ D) (hz : xs.length < 1000)
    (h : ∀ h', Fr h₀ L h' m → News h₀ L h' ((D, listOf xs.toArray (n + 1)) :: news) → Q v { s with heap := h' }) : wpAny (model prog w) A (call (.builtin "list.pop") [.ref D]) Q E s :=
  kl_pop F N (p := xs) (y := v) (kpa_last v xs) (Upd.head hw) (by simp [sizeLine_eq]; (first | exact om66 hz | omega)) fun h' F' N' => h h' F' N'
end
theorem getD_append_len {xs : List Value} {v : Value} : (xs ++ [v]).getD xs.length .none = v := by
  rw [List.getD_eq_getElem?_getD, List.getElem?_append_right (Nat.le_refl _), Nat.sub_self]; rfl
theorem getD_append_lt {xs : List Value} {v : Value} {j : Nat} (h : j < xs.length) : (xs ++ [v]).getD j .none = xs.getD j .none := by
  rw [List.getD_eq_getElem?_getD, List.getElem?_append_left h, ← List.getD_eq_getElem?_getD]
theorem heappush_ok {w : World} {A A₀ : Around} {env : Env} {outer : List Env} {base h₀ : Heap} {L : Addr} {m : Str → Option Value} {news : List (Addr × Obj)} {s : Shared}
    {p : Program} {loose : List Str} {mean : ExcName → Option Value} {mg mb : Str → Option Value}
    {wl : Addr} {xs : List Value} {n : Nat} {item : Value} {Q E : Value → Shared → Prop} (κ : Value → Int × Int)
    (B : Below A₀ base outer h₀) (F : Fr h₀ L s.heap m) (X : (hd.heap_39 w.params).In h₀) (N : News h₀ L s.heap ((wl, listOf xs.toArray n) :: news)) (T : Top p loose mean mg mb h₀)
    (hA : A.frames = some (env :: outer)) (hf : env.frame = some L) (hke : env.scope.kind = .function)
    (hroom : A.depth + 1 < recursionLimit) (hu : A.units + 30 < cLine)
    (hw : ∀ q ∈ news, q.1 ≠ wl) (hI : ∀ v ∈ xs, ItemAt news v (κ v)) (hit : ItemAt news item (κ item)) (h3 : xs.length < 900)
    (hne : ∀ j, j < xs.length → (κ item).2 ≠ (κ (xs.getD j .none)).2)
    (ret : ∀ h' tk', Fr h₀ L h' m → News h₀ L h' ((wl, listOf (sd κ item 0 xs.length (xs ++ [item])).toArray (n + 1)) :: news) → Q .none { s with heap := h', toks := tk' }) :
    wpAny (model Challenge.rw_nb0237_01.row.prog w) A (call (.ref 28) [.ref wl, item]) Q E s := by
  revert X; k_fill; intro X
  refine wpAny_call ?_
  refine code_def (binds := [(Str.ofString "heap", .ref wl), (Str.ofString "item", item)]) B F X N T hA hf hke (by k_is) (by k_is) (by (first | exact om31 hroom | omega)) (BindsTo.of_eq rfl) (locs rfl) ?_ rfl rfl rfl (by decide)
  intro g' L' h' FG' F' N' B' X' T'
  try dsimp only
  walk_at "my go"
  refine r_append F' N' hw (by (first | exact om68 h3 | omega)) ?_
  intro h1 F1 N1
  walk_at "my go"
  refine r_len N1 (.head _) (by rw [List.length_append]; simp; (first | exact om69 h3 | omega)) ?_
  walk_at "my go"
  have e1 : (((xs ++ [item]).length : Nat) : Int) - 1 = (xs.length : Int) := by rw [List.length_append]; simp
  rw [e1]
  refine siftdown_ok (xs := xs ++ [item]) (st := 0) (pos := xs.length) κ B' F1 X' N1 T' (by show A.frames.map _ = _; rw [hA]; rfl) rfl rfl (by show A.depth + 1 < recursionLimit; exact hroom) (by show A.units + 3 + 20 < cLine; (first | exact om60 hu | omega)) hw ?_ (by simp) (by simp; (first | exact om70 h3 | omega)) ?_ ?_
  · intro v hv
    rcases List.mem_append.mp hv with hv | hv
    · exact hI v hv
    · rw [List.mem_singleton.mp hv]; exact hit
  · intro j hj
    rw [getD_append_len, getD_append_lt hj]
    exact hne j hj
  · intro h7 tk7 F7 N7
    rw [getD_append_len] at N7
    walk_at "my go"
    rename Fr h₀ L h7 _ => F8
    rename News h₀ L h7 _ => N8
    exact ret _ _ F8 N8
theorem heapreplace_ok {w : World} {A A₀ : Around} {env : Env} {outer : List Env} {base h₀ : Heap} {L : Addr} {m : Str → Option Value} {news : List (Addr × Obj)} {s : Shared}
    {p : Program} {loose : List Str} {mean : ExcName → Option Value} {mg mb : Str → Option Value}
    {wl : Addr} {xs : List Value} {n : Nat} {item : Value} {Q E : Value → Shared → Prop} (κ : Value → Int × Int)
    (B : Below A₀ base outer h₀) (F : Fr h₀ L s.heap m) (X : (hd.heap_39 w.params).In h₀) (N : News h₀ L s.heap ((wl, listOf xs.toArray n) :: news)) (T : Top p loose mean mg mb h₀)
    (hA : A.frames = some (env :: outer)) (hf : env.frame = some L) (hke : env.scope.kind = .function)
    (hroom : A.depth + 2 < recursionLimit) (hu : A.units + 40 < cLine)
    (hw : ∀ q ∈ news, q.1 ≠ wl) (hI : ∀ v ∈ xs, ItemAt news v (κ v)) (hit : ItemAt news item (κ item)) (h0 : 0 < xs.length) (h3 : xs.length < 900)
    (hne : ∀ i j, i < xs.length → j < xs.length → i ≠ j → (κ ((xs.set 0 item).getD i .none)).2 ≠ (κ ((xs.set 0 item).getD j .none)).2)
    (ret : ∀ h' tk', Fr h₀ L h' m → News h₀ L h' ((wl, listOf (siftup κ 0 (xs.set 0 item)).toArray n) :: news) → Q (xs.getD 0 .none) { s with heap := h', toks := tk' }) :
    wpAny (model Challenge.rw_nb0237_01.row.prog w) A (call (.ref 42) [.ref wl, item]) Q E s := by
  revert X; k_fill; intro X
  refine wpAny_call ?_
  refine code_def (binds := [(Str.ofString "heap", .ref wl), (Str.ofString "item", item)]) B F X N T hA hf hke (by k_is) (by k_is) (by (first | exact om71 hroom | omega)) (BindsTo.of_eq rfl) (locs rfl) ?_ rfl rfl rfl (by decide)
  intro g' L' h' FG' F' N' B' X' T'
  try dsimp only
  walk_at "my go"
  refine r_item (k := 0) N' (.head _) (by omega) (by (first | exact om72 h0 | omega)) (by omega) ?_
  have hx0 : xs.getD (Int.toNat 0) .none = xs.getD 0 .none := rfl
  rw [hx0]
  walk_at "my go"
  rename Fr g' L' _ _ => F3
  rename News g' L' _ _ => N3
  refine r_set (k := 0) (n := n) F3 N3 (Upd.head hw) (by omega) (by (first | exact om72 h0 | omega)) (by omega) ?_
  intro h5 F5 N5
  walk_at "my go"
  refine siftup_ok (xs := xs.set 0 item) (pos := 0) κ B' F5 X' N5 T' (by show A.frames.map _ = _; rw [hA]; rfl) rfl rfl (by show A.depth + 1 + 1 < recursionLimit; exact hroom) (by show A.units + 3 + 30 < cLine; (first | exact om73 hu | omega)) hw ?_ (by rw [List.length_set]; exact h0) (by rw [List.length_set]; (first | exact om68 h3 | omega)) ?_ ?_
  · intro v hv
    rcases List.mem_or_eq_of_mem_set hv with hv | rfl
    · exact hI v hv
    · exact hit
  · rw [List.length_set]; exact hne
  · intro h7 tk7 F7 N7
    walk_at "my go"
    rename Fr h₀ L h7 _ => F8
    rename News h₀ L h7 _ => N8
    exact ret _ _ F8 N8
/-- heappop of a list that is not empty, plainly -/
noncomputable def hpop (κ : Value → Int × Int) : List Value → Value → Value × List Value
  | [], l => (l, [])
  | y :: ys, l => (y, siftup κ 0 (l :: ys))
theorem heappop_ok {w : World} {A A₀ : Around} {env : Env} {outer : List Env} {base h₀ : Heap} {L : Addr} {m : Str → Option Value} {news : List (Addr × Obj)} {s : Shared}
    {p : Program} {loose : List Str} {mean : ExcName → Option Value} {mg mb : Str → Option Value}
    {wl : Addr} {xs : List Value} {l : Value} {n : Nat} {Q E : Value → Shared → Prop} (κ : Value → Int × Int)
    (B : Below A₀ base outer h₀) (F : Fr h₀ L s.heap m) (X : (hd.heap_39 w.params).In h₀) (N : News h₀ L s.heap ((wl, listOf (xs ++ [l]).toArray n) :: news)) (T : Top p loose mean mg mb h₀)
    (hA : A.frames = some (env :: outer)) (hf : env.frame = some L) (hke : env.scope.kind = .function)
    (hroom : A.depth + 2 < recursionLimit) (hu : A.units + 40 < cLine)
    (hw : ∀ q ∈ news, q.1 ≠ wl) (hI : ∀ v ∈ xs ++ [l], ItemAt news v (κ v)) (h3 : xs.length < 900)
    (hne : ∀ i j, i < (xs ++ [l]).length → j < (xs ++ [l]).length → i ≠ j → (κ ((xs ++ [l]).getD i .none)).2 ≠ (κ ((xs ++ [l]).getD j .none)).2)
    (ret : ∀ h' tk', Fr h₀ L h' m → News h₀ L h' ((wl, listOf (hpop κ xs l).2.toArray (n + 1)) :: news) → Q (hpop κ xs l).1 { s with heap := h', toks := tk' }) :
    wpAny (model Challenge.rw_nb0237_01.row.prog w) A (call (.ref 35) [.ref wl]) Q E s := by
  revert X; k_fill; intro X
  refine wpAny_call ?_
  refine code_def (binds := [(Str.ofString "heap", .ref wl)]) B F X N T hA hf hke (by k_is) (by k_is) (by (first | exact om71 hroom | omega)) (BindsTo.of_eq rfl) (locs rfl) ?_ rfl rfl rfl (by decide)
  intro g' L' h' FG' F' N' B' X' T'
  try dsimp only
  walk_at "my go"
  refine r_pop F' N' hw (by (first | exact om68 h3 | omega)) ?_
  intro h1 F1 N1
  walk_at "my go"
  · rename List.isEmpty _ = true => he
    rename Fr h₀ L _ _ => F8
    rename News h₀ L _ _ => N8
    have hx : xs = [] := List.isEmpty_iff.mp he
    subst hx
    exact ret _ _ F8 N8
  · rename List.isEmpty _ = false => he
    rename Fr g' L' _ _ => F3
    rename News g' L' _ _ => N3
    obtain ⟨y, ys, rfl⟩ : ∃ y ys, xs = y :: ys := by
      cases xs with
      | nil => cases he
      | cons y ys => exact ⟨y, ys, rfl⟩
    refine r_item (k := 0) N3 (.head _) (by omega) (by simp) (by omega) ?_
    have hx0 : (y :: ys).getD (Int.toNat 0) .none = y := rfl
    rw [hx0]
    walk_at "my go"
    rename Fr g' L' _ _ => F4
    rename News g' L' _ _ => N4
    refine r_set (k := 0) (n := n + 1) F4 N4 (Upd.head hw) (by omega) (by simp) (by omega) ?_
    intro h5 F5 N5
    walk_at "my go"
    have hg : ∀ i, i < (l :: ys).length → (l :: ys).getD i .none = ((y :: ys) ++ [l]).getD (if i = 0 then (y :: ys).length else i) .none := by
      intro i hi
      by_cases h : i = 0
      · subst h; rw [if_pos rfl, getD_append_len]; rfl
      · rw [if_neg h, getD_append_lt (by simpa using hi)]
        cases i with
        | zero => exact absurd rfl h
        | succ i => rfl
    refine siftup_ok (xs := l :: ys) (pos := 0) κ B' F5 X' N5 T' (by show A.frames.map _ = _; rw [hA]; rfl) rfl rfl (by show A.depth + 1 + 1 < recursionLimit; exact hroom) (by show A.units + 3 + 30 < cLine; (first | exact om73 hu | omega)) hw ?_ (by simp) (by simp at h3 ⊢; (first | exact om75 h3 | omega)) ?_ ?_
    · intro v hv
      rcases List.mem_cons.mp hv with rfl | hv
      · exact hI _ (List.mem_append.mpr (.inr (.head _)))
      · exact hI _ (List.mem_append.mpr (.inl (.tail _ hv)))
    · intro i j hi hj hij
      rw [hg i hi, hg j hj]
      simp only [List.length_cons] at hi hj
      refine hne _ _ ?_ ?_ ?_
      · simp only [List.length_append, List.length_cons, List.length_nil]; split <;> (first | exact om76 | exact om77 hi | omega)
      · simp only [List.length_append, List.length_cons, List.length_nil]; split <;> (first | exact om76 | exact om77 hj | omega)
      · simp only [List.length_cons]; split <;> split <;> (first | exact om78 hj | exact om79 hi | exact om80 hij | omega)
    · intro h7 tk7 F7 N7
      walk_at "my go"
      rename Fr h₀ L h7 _ => F8
      rename News h₀ L h7 _ => N8
      exact ret _ _ F8 N8

end
section
-- L0
theorem fresh_L0 : True := by
  w_top off
  trivial
set_option maxHeartbeats 1000000
noncomputable def LEnd (h₀ : Heap) (L : Addr) (s : Shared) (I : Addr) (io : Obj) (keep : List (Addr × Obj)) (J : (Str → Option Value) → List (Addr × Obj) → Prop) (Q : Flow → Shared → Prop) (f : Flow) (s₂ : Shared) : Prop :=
  match f with
  | .next | .cont => ∃ h' tk m₂ news₂, s₂ = { s with heap := h', toks := tk } ∧ Fr h₀ L h' m₂ ∧ News h₀ L h' ((I, io) :: news₂) ∧ (∀ p ∈ news₂, p.1 ≠ I) ∧ (∀ q ∈ keep, q ∈ news₂) ∧ J m₂ news₂
  | .brk => Q .next s₂
  | .ret v => Q (.ret v) s₂
/-- what is known of some names, written out -/
theorem fr_kst {h₀ h : Heap} {L : Addr} {m : Str → Option Value} (ps : List (Str × Value)) (hp : ∀ p ∈ ps, m p.1 = some p.2) (F : Fr h₀ L h m) : Fr h₀ L h (kstB m ps) := by
  have e : kstB m ps = m := by
    funext y
    exact kstB_eq hp fun _ => rfl
  rw [e]; exact F
theorem news_swap {h₀ h : Heap} {L : Addr} {a b : Addr × Obj} {news : List (Addr × Obj)} (N : News h₀ L h (a :: b :: news)) : News h₀ L h (b :: a :: news) := by
  intro q hq
  rcases List.mem_cons.mp hq with rfl | hq
  · exact N _ (.tail _ (.head _))
  · rcases List.mem_cons.mp hq with rfl | hq
    · exact N _ (.head _)
    · exact N _ (.tail _ (.tail _ hq))
section
variable {prog : Program} {w : World} {A : Around} {E : Value → Shared → Prop} {s : Shared} {env : Env} {h₀ : Heap} {x : Str} {body : List Stmt} {Q : Flow → Shared → Prop}
theorem LEnd.intro {L I : Addr} {io : Obj} {keep news₂ : List (Addr × Obj)} {J : (Str → Option Value) → List (Addr × Obj) → Prop} {h' : Heap} {tk : Nat} {m₂ : Str → Option Value}
    (F : Fr h₀ L h' m₂) (N : News h₀ L h' ((I, io) :: news₂)) (ho : ∀ p ∈ news₂, p.1 ≠ I) (hk : ∀ q ∈ keep, q ∈ news₂) (hJ : J m₂ news₂) :
    LEnd h₀ L s I io keep J Q .next { s with heap := h', toks := tk } := ⟨h', tk, m₂, news₂, rfl, F, N, ho, hk, hJ⟩
theorem LEnd.introC {L I : Addr} {io : Obj} {keep news₂ : List (Addr × Obj)} {J : (Str → Option Value) → List (Addr × Obj) → Prop} {h' : Heap} {tk : Nat} {m₂ : Str → Option Value}
    (F : Fr h₀ L h' m₂) (N : News h₀ L h' ((I, io) :: news₂)) (ho : ∀ p ∈ news₂, p.1 ≠ I) (hk : ∀ q ∈ keep, q ∈ news₂) (hJ : J m₂ news₂) :
    LEnd h₀ L s I io keep J Q .cont { s with heap := h', toks := tk } := ⟨h', tk, m₂, news₂, rfl, F, N, ho, hk, hJ⟩
theorem loopW {I : Addr} {io₀ : Obj} {keep : List (Addr × Obj)} {n : Nat} {P : Nat → Value → Prop} {St : Nat → Heap → Prop} {m₀ : Str → Option Value} {news : List (Addr × Obj)}
    (W : Walks prog w A I (I :: keep.map (·.1)) [I] n P St) (hst : St 0 s.heap) (hio : ∀ i h, St i h → ∃ io, h.get? I = some io)
    (F : Fr h₀ env.locals s.heap m₀) (N : News h₀ env.locals s.heap ((I, io₀) :: news)) (hoff : ∀ p ∈ news, p.1 ≠ I) (hkeep : ∀ q ∈ keep, q ∈ news)
    (J : Nat → (Str → Option Value) → List (Addr × Obj) → Prop) (h0 : J 0 m₀ news)
    (step : ∀ i v m₁ news₁ io h tk, i < n → P i v → J i m₁ news₁ → (∀ p ∈ news₁, p.1 ≠ I) → (∀ q ∈ keep, q ∈ news₁) → Fr h₀ env.locals h (fun y => if y = x then some v else m₁ y) → News h₀ env.locals h ((I, io) :: news₁) →
      wpAny (model prog w) A (execs body env) (LEnd h₀ env.locals { s with heap := h, toks := tk } I io keep (J (i + 1)) Q) E { s with heap := h, toks := tk })
    (fin : ∀ h' tk m' news', Fr h₀ env.locals h' m' → News h₀ env.locals h' news' → J n m' news' → Q .next { s with heap := h', toks := tk }) :
    LoopAtV prog w A h₀ env x body Q E (.ref I) s := by
  have hI := N _ (List.mem_cons_self ..)
  have N0 : News h₀ env.locals s.heap news := fun p hp => N p (.tail _ hp)
  have kill : ∀ {i m₁ news₁}, (∀ q ∈ keep, q ∈ news₁) ∧ J i m₁ news₁ → True := fun _ => trivial
  refine ⟨I, I :: keep.map (·.1), [I], n, P, St, m₀, news, fun i mm nn => (∀ q ∈ keep, q ∈ nn) ∧ J i mm nn, rfl, W, ?_, ?_, ?_, hst, F, N0, ⟨hkeep, h0⟩, ?_, ?_⟩
  · intro hmm
    rcases List.mem_cons.mp hmm with e | hmm
    · exact hI.2.1 e.symm
    · obtain ⟨q, hq, e⟩ := List.mem_map.mp hmm
      exact (N0 q (hkeep q hq)).2.1 e
  · intro b hb
    rw [List.mem_singleton.mp hb]; exact hI.2.2
  · intro p hp hb
    exact hoff p hp (List.mem_singleton.mp hb)
  · rintro i v m₁ news₁ s₁ own ⟨hh, tk, rfl⟩ hi hP ⟨hk₁, hJ⟩ hofs hown hget hall hst₁ F₁ N₁
    obtain ⟨io, hio₁⟩ := hio _ _ hst₁
    have hmemI := hall I (List.mem_cons_self ..) hI.2.2 _ hio₁
    have hoff₁ : ∀ p ∈ news₁, p.1 ≠ I := fun p hp e => hofs p hp (by rw [e]; exact List.mem_singleton.mpr rfl)
    have N₂ : News h₀ env.locals hh ((I, io) :: news₁) := fun p hp => by
      rcases List.mem_cons.mp hp with rfl | hp
      · exact N₁ _ (List.mem_append_left _ hmemI)
      · exact N₁ _ (List.mem_append_right _ hp)
    refine wpAny_mono (step i v m₁ news₁ io hh tk hi hP hJ hoff₁ hk₁ F₁ N₂) (fun f s₂ p => ?_) fun _ _ e => e
    have turn : (∃ h' tk' m₂ news₂, s₂ = { s with heap := h', toks := tk' } ∧ Fr h₀ env.locals h' m₂ ∧ News h₀ env.locals h' ((I, io) :: news₂) ∧ (∀ p ∈ news₂, p.1 ≠ I) ∧ (∀ q ∈ keep, q ∈ news₂) ∧ J (i + 1) m₂ news₂) →
        LoopStepU h₀ env.locals [I] own (fun mm nn => (∀ q ∈ keep, q ∈ nn) ∧ J (i + 1) mm nn) { s with heap := hh, toks := tk } .next s₂ := by
      rintro ⟨h', tk', m₂, news₂, rfl, F', N', ho, hk₂, hJ₂⟩
      refine ⟨rfl, h', tk', m₂, news₂, rfl, F', fun p hp => ?_, fun p hp hb => ho p hp (List.mem_singleton.mp hb), hk₂, hJ₂⟩
      rcases List.mem_append.mp hp with hp | hp
      · have h2 : hh.get? p.1 = some p.2 := hget p hp
        rcases List.mem_cons.mp (hown p hp) with h1 | h1
        · have h3 : p = (I, io) := by
            rw [h1, hio₁] at h2
            exact Prod.ext h1 (Option.some.inj h2).symm
          rw [h3]; exact N' _ (List.mem_cons_self ..)
        · obtain ⟨q, hq, e⟩ := List.mem_map.mp h1
          have h3 : p = q := by
            rw [← e, (N₂ q (.tail _ (hk₁ q hq))).1] at h2
            exact Prod.ext e.symm (Option.some.inj h2).symm
          rw [h3]; exact N' _ (.tail _ (hk₂ q hq))
      · exact N' _ (.tail _ hp)
    cases f with
    | ret v => exact .ret p
    | brk => exact .brk p
    | next => exact .next (turn p)
    | cont => exact .cont (turn p)
  · rintro h' tk m' news' F' N' _ ⟨_, hJ⟩
    exact fin h' tk m' news' F' N' hJ
end
end
section
-- B1
theorem fresh_B1 : True := by
  w_top off
  trivial
set_option maxHeartbeats 400000
noncomputable abbrev accObj (da : Addr) (items : List Value) (n : Nat) : Obj := ⟨.ref 220, some da, .seq items.toArray n, #[]⟩
theorem InstAt.of_acc {h₀ h : Heap} {L x dx : Addr} {news : List (Addr × Obj)} {od : Obj} {items : List Value} {n : Nat} (N : News h₀ L h news) (h1 : (x, accObj dx items n) ∈ news) (h2 : (dx, od) ∈ news) :
    InstAt h x (accObj dx items n) 220 (some od) := ⟨(N _ h1).1, rfl, rfl, (N _ h2).1⟩
section
variable {prog : Program} {w : World} {A : Around} {E : Value → Shared → Prop} {s : Shared} {K : Frag} {a da : Addr} {items : List Value} {n : Nat}
theorem acc_type {M : Model} {h : Heap} (hg : h.get? a = some (accObj da items n)) : Looks M h (typeOf (.ref a)) (.ref 220) := (Looks.ld hg).andThen .now
theorem acc_inst {M : Model} {h : Heap} (X : K.In h) (hm : mroIn K 220 (.type "list") = some true) (hg : h.get? a = some (accObj da items n)) : Looks M h (isInstance (.ref a) (.type "list")) true :=
  (acc_type hg).andThen (looks_mroIn X hm)
theorem check_method {M : Model} {i owner nm : String} {self : Value} {rest : List Value} {kw : List (Str × Value)} {Q : Unit → Shared → Prop}
    (hk : builtinKind i = some .method) (hs : splitId i = some (owner, nm)) (hi : Looks M s.heap (isInstance self (.type owner)) true) (ha : argsOk i ⟨self :: rest, kw⟩) (q : Q () s) :
    wpAny M A (checkBuiltinCall i ⟨self :: rest, kw⟩) Q E s := by
  simp only [checkBuiltinCall, hk, hs]
  refine wpAny_bind (hi.here ?_)
  simp only [Bool.not_true, Bool.false_eq_true, if_false]
  cases hsig : Manifest.signature? i with
  | none => exact wpAny_pure q
  | some sig =>
    simp only [argsOk, hsig] at ha
    have h2 : Bind.checkArgs i sig ⟨self :: rest, kw⟩ = pure () := ha
    show wpAny _ _ (Bind.checkArgs i sig ⟨self :: rest, kw⟩) _ _ _
    rw [h2]; exact wpAny_pure q
/-- a builtin of list's, called on an object of the subclass -/
theorem acc_call {id nm : String} {b : Builtin} {rest : List Value} {Q : Value → Shared → Prop} (X : K.In s.heap) (hm : mroIn K 220 (.type "list") = some true) (hg : s.heap.get? a = some (accObj da items n))
    (hk : builtinKind id = some .slot ∨ builtinKind id = some .method) (hs : splitId id = some ("list", nm)) (hp : plainId id = true) (hb : entryFor table id = some b) (ha : argsOk id ⟨.ref a :: rest, []⟩)
    (hc : wpAny (model prog w) A.in1 (b ⟨.ref a :: rest, []⟩) (fun fin s' => ∃ v, fin = .done (.ret v) ∧ Q v s') E s) :
    wpAny (model prog w) A (call (.builtin id) (.ref a :: rest)) Q E s := by
  have fin := wpAny_mono hc (Q' := fun fin s' => match fin with | .done f => (match f with | .ret v => Q v s' | _ => False) | .again c' => c'.quiet = true ∧ codeAny (model prog w) A c' (wants Q E) s') (E' := E) (fun fin s' h' => by obtain ⟨v, rfl, hv⟩ := h'; exact hv) fun _ _ h' => h'
  refine wpAny_call (codeAny_call_builtin hp hb ?_)
  rcases hk with hk | hk
  · refine check_slot hk hs (acc_inst X hm hg) ha ?_
    refine wpAny_mono hc (fun fin s' h' => ?_) fun _ _ h' => h'
    obtain ⟨v, rfl, hv⟩ := h'; exact hv
  · refine check_method hk hs (acc_inst X hm hg) ha ?_
    refine wpAny_mono hc (fun fin s' h' => ?_) fun _ _ h' => h'
    obtain ⟨v, rfl, hv⟩ := h'; exact hv
noncomputable abbrev liObj (a : Addr) (i : Nat) : Obj := { cls := .type "list_iterator", data := .fields #[.ref a, .int i 0] }
theorem acc_iter {Q : Value → Shared → Prop} (X : K.In s.heap) (hm : mroIn K 220 (.type "list") = some true) (hi : findIn K (.ref 220) "__iter__" = some (some (.builtin "list.__iter__"))) (hg : s.heap.get? a = some (accObj da items n))
    (h : Q (.ref s.heap.objs.size) { s with heap := s.heap.push (liObj a 0) }) : wpAny (model prog w) A (pyIter (.ref a)) Q E s := by
  have hl : Looks (model prog w) s.heap (specialOf (.ref a) "__iter__") (some (.builtin "list.__iter__")) := (acc_type hg).andThen (looks_findIn X hi)
  unfold pyIter
  refine wpAny_bind (hl.here ?_)
  show wpAny _ A (callSpecialIfBoundUnlessNone? (.ref a) "__iter__" _ >>= _) Q E s
  unfold callSpecialIfBoundUnlessNone? bindSpecialIfBound?
  refine wpAny_bind (wpAny_holding (wpAny_bind (wpAny_bind (hl.here ?_))))
  have hb : bindSpecial (.builtin "list.__iter__") (.ref a) = pure (.builtin "list.__iter__", [.ref a]) := PySem.F.slot_list_iter.bind _
  have bnd : ∀ (Q' : Option (Value × List Value) → Shared → Prop), Q' (some (.builtin "list.__iter__", [.ref a])) s → wpAny (model prog w) A (do
      let bind : Sem (Option (Value × List Value)) := do return some (← bindSpecial (.builtin "list.__iter__") (.ref a))
      if (← ask).params.followText "special-get-raises" then bind
      else bind.tryCatch fun _ => do rule "special.get-raises-dropped"; pure none) Q' E s := by
    intro Q' hq
    rw [hb]
    refine wpAny_bind (wpAny_askSetting ?_)
    split
    · exact wpAny_pure hq
    · exact wpAny_pure hq
  refine bnd _ ?_
  show wpAny _ A (if (Value.builtin "list.__iter__" == Value.none) = true then _ else _) _ _ _
  rw [if_neg (show ¬ ((Value.builtin "list.__iter__" == Value.none) = true) from Bool.false_ne_true)]
  refine wpAny_bind (acc_call (nm := "__iter__") X hm hg (.inl (by decide +kernel)) (by decide +kernel) PySem.F.slot_list_iter.plain PySem.F.entry_list_iter (PySem.F.args_list_iter_1 _) ?_)
  unfold Builtin.«list.__iter__»
  refine wpAny_bind (wpAny_of_eq (a := (Value.ref a, [])) rfl ?_)
  refine wpAny_bind (wpAny_newObj_type (wpAny_pure ⟨_, rfl, wpAny_pure ?_⟩))
  have hT : ({ s with heap := s.heap.push (liObj a 0) } : Shared).TypeIs (.ref s.heap.objs.size) "list_iterator" := ⟨_, Heap.get?_push_size _ rfl, rfl⟩
  exact wpAny_bind (wpAny_specialOf hT slot_listiter_next.lookup (wpAny_pure h))
end
end
section
-- B2
theorem fresh_B2 : True := by
  w_top off
  trivial
set_option maxHeartbeats 400000
/-- a sequence of whatever class -/
noncomputable def IsSq (h : Heap) (a : Addr) (items : Array Value) : Prop := ∃ o n, h.get? a = some o ∧ o.data = .seq items n
theorem IsSq.at {h h' : Heap} {a : Addr} {items : Array Value} (x : IsSq h a items) (e : ∀ o, h.get? a = some o → h'.get? a = some o) : IsSq h' a items := let ⟨o, n, ho, r⟩ := x; ⟨o, n, e o ho, r⟩
section
variable {prog : Program} {w : World} {A : Around} {E : Value → Shared → Prop} {s : Shared}
theorem sq_next {it l : Addr} {i : Nat} {items : Array Value} {x : Value} {Q : Option Value → Shared → Prop} (hit : s.heap.IsListIter it l i) (hl : IsSq s.heap l items) (hx : items[i]? = some x)
    (hQ : ∀ h', h'.IsListIter it l (i + 1) → Heap.SameBut it s.heap h' → Q (some x) { s with heap := h' }) : wpAny (model prog w) A (pyNext (.ref it)) Q E s := by
  obtain ⟨o, ho, hc, hd⟩ := id hit
  obtain ⟨ol, nl, hol, hdl⟩ := hl
  unfold pyNext
  refine wpAny_bind (wpAny_attempt (wpAny_callSpecial?_slot (name := Str.ofString "__next__") hit.typeIs slot_listiter_next (wpAny_call_entry slot_listiter_next hit.typeIs entry_listiter_next ?_ (args_listiter_next _))))
  show wpAny _ _ (field (.ref it) 0 >>= _) _ _ s
  refine wpAny_bind (wpAny_field ho hd (x := .ref l) rfl ?_)
  show wpAny _ _ (if (Value.ref l == Value.none) = true then _ else _) _ _ s
  rw [if_neg (show ¬ ((Value.ref l == Value.none) = true) from Bool.false_ne_true)]
  show wpAny _ _ (field (.ref it) 1 >>= _) _ _ s
  refine wpAny_bind (wpAny_field ho hd (x := .int i 0) rfl ?_)
  show wpAny _ _ (seqItems? (.ref l) >>= _) _ _ s
  refine wpAny_bind (wpAny_seqItems hol hdl ?_)
  simp only [Int.toNat_natCast, hx]
  refine wpAny_bind (wpAny_setField ho hd (by simp) (wpAny_pure ⟨x, rfl, wpAny_pure (hQ _ ?_ (Heap.SameBut.update ..))⟩))
  exact ⟨_, Heap.get?_update_self _ ho (Obj.isFreed_of_fields (Obj.data_mapFields hd _)), (Obj.cls_mapFields ..).trans hc, by rw [Obj.data_mapFields hd]; simp [rawInt]⟩
theorem sq_end {it l : Addr} {i : Nat} {items : Array Value} {Q : Option Value → Shared → Prop} (hh : A.handled = none) (hit : s.heap.IsListIter it l i) (hl : IsSq s.heap l items) (hx : items[i]? = none)
    (hQ : ∀ h', Heap.ExtBut it s.heap h' → Q none { s with heap := h' }) : wpAny (model prog w) A (pyNext (.ref it)) Q E s := by
  obtain ⟨o, ho, hc, hd⟩ := id hit
  obtain ⟨ol, nl, hol, hdl⟩ := hl
  unfold pyNext
  refine wpAny_bind (wpAny_attempt (wpAny_callSpecial?_slot (name := Str.ofString "__next__") hit.typeIs slot_listiter_next (wpAny_call_entry slot_listiter_next hit.typeIs entry_listiter_next ?_ (args_listiter_next _))))
  show wpAny _ _ (field (.ref it) 0 >>= _) _ _ s
  refine wpAny_bind (wpAny_field ho hd (x := .ref l) rfl ?_)
  show wpAny _ _ (if (Value.ref l == Value.none) = true then _ else _) _ _ s
  rw [if_neg (show ¬ ((Value.ref l == Value.none) = true) from Bool.false_ne_true)]
  show wpAny _ _ (field (.ref it) 1 >>= _) _ _ s
  refine wpAny_bind (wpAny_field ho hd (x := .int i 0) rfl ?_)
  show wpAny _ _ (seqItems? (.ref l) >>= _) _ _ s
  refine wpAny_bind (wpAny_seqItems hol hdl ?_)
  simp only [Int.toNat_natCast, hx]
  refine wpAny_bind (wpAny_rule (wpAny_bind (wpAny_setField ho hd (by simp) ?_)))
  show wpAny _ _ (newExc (.type "StopIteration") [] >>= _) _ _ _
  refine wpAny_bind ?_
  simp only [newExc, newTuple]
  refine wpAny_bind (wpAny_newObj_type ?_ (by size_fits))
  refine wpAny_bind (m := firstArgMember _ _) (wpAny_of_eq (a := Value.none) (by first | rfl | (simp only [firstArgMember]; rfl)) ?_)
  refine wpAny_newObj_type ?_ (by size_fits)
  simp only [raiseNew]
  refine wpAny_bind (wpAny_handled ?_)
  rw [show A.in1.handled = none from hh]
  refine wpAny_bind (wpAny_pure (wpAny_throw ?_))
  refine wpAny_bind (wpAny_isInstance (T := "StopIteration") (b := true) ⟨_, Heap.get?_push_size _ rfl, rfl⟩ isSubtype_stop ?_)
  exact wpAny_pure (hQ _ (((Heap.SameBut.update ..).extBut.push _).push _))
/-- the walk over a sequence of tuples -/
theorem sq_tuples (hh : A.handled = none) (I ax : Addr) (hne : ax ≠ I) (items : Array Value) (Ts : Nat → Addr) (vals : Nat → Array Value)
    (hit : ∀ j, j < items.size → items[j]? = some (.ref (Ts j))) (hTI : ∀ j, j < items.size → Ts j ≠ I) :
    WalksU prog w A I (I :: ax :: (List.range items.size).map Ts) [I] items.size (fun j v => v = vals j)
      (fun j h => h.IsListIter I ax j ∧ IsSq h ax items ∧ ∀ k, k < items.size → h.IsTuple (Ts k) (vals k))
      (fun j T h => (j < items.size ∧ T = Ts j) ∧ h.IsListIter I ax (j + 1) ∧ IsSq h ax items ∧ ∀ k, k < items.size → h.IsTuple (Ts k) (vals k)) where
  sub := fun b hb => by simp at hb; simp [hb]
  frame := fun _ _ _ st hk => ⟨st.1.at fun o e => hk I (by simp) o e, st.2.1.at fun o e => hk ax (by simp) o e,
    fun k hk' => (st.2.2 k hk').at fun o e => hk (Ts k) (List.mem_cons_of_mem _ (List.mem_cons_of_mem _ (List.mem_map.mpr ⟨k, List.mem_range.mpr hk', rfl⟩))) o e⟩
  item := fun i s Q E hi st hQ => by
    refine sq_next st.1 st.2.1 (x := .ref (Ts i)) (hit i hi) fun h' hit' hs' => ?_
    have tup : ∀ k, k < items.size → h'.IsTuple (Ts k) (vals k) := fun k hk' => (st.2.2 k hk').extBut hs'.extBut (hTI k hk')
    exact hQ (Ts i) (vals i) h' s.toks rfl (tup i hi) ⟨⟨hi, rfl⟩, hit', st.2.1.at fun o e => hs'.extBut _ o hne e, tup⟩ fun b o hb e => hs'.extBut b o (fun h => hb (by simp [h])) e
  go := fun _ _ _ _ _ s Q _ hm hQ => wpAny_letOwnedTupleGo_listiter hm.2.1 (hQ s.heap hm.2 fun _ _ _ e => e)
  apart := fun j T _ hm hmem => by
    rcases List.mem_cons.mp hmem with e | e
    · exact hTI j hm.1.1 (hm.1.2 ▸ e)
    · cases e
  done := fun s Q E st hQ => sq_end hh st.1 st.2.1 (by simp) fun h' he' => hQ h' s.toks fun b o hb e => he' b o (fun h => hb (by simp [h])) e
  self := fun _ _ _ _ st hQ => wpAny_pyIter_listiter st.1 hQ
end
end
section
-- B3
theorem fresh_B3 : True := by
  w_top off
  trivial
set_option maxHeartbeats 400000
theorem preSum_shift (z : Int) (val : Nat → Int) : ∀ n, preSum (fun i => match i with | 0 => z | i + 1 => val i) (n + 1) = z + preSum val n
  | 0 => by simp [preSum]
  | n + 1 => by
    show preSum _ (n + 1) + val n = z + (preSum val n + val n)
    rw [preSum_shift z val n]
    (first | exact om82 | omega)
section
variable {prog : Program} {w : World} {A : Around} {E : Value → Shared → Prop} {s : Shared} {I : Addr} {fp wr : List Addr} {G : Array GenState → Array GenState → Prop} {n : Nat} {P : Nat → Value → Prop} {St : Nat → Shared → Prop}
theorem walk_shift (Z : Value → Prop) (W : WalksS prog w A I fp wr G n P St) :
    WalksS prog w A I fp wr G (n + 1) (fun i v => match i with | 0 => Z v | i + 1 => P i v) (fun i s => match i with | 0 => False | i + 1 => St i s) where
  sub := W.sub
  grefl := W.grefl
  gtrans := W.gtrans
  frame := fun i s h' tk st ht hk => by
    cases i with
    | zero => exact st.elim
    | succ i => exact W.frame i s h' tk st ht hk
  item := fun i s Q E hi st hQ => by
    cases i with
    | zero => exact st.elim
    | succ i => exact W.item i s Q E (by (first | exact om83 hi | omega)) st fun v s' hP hs hm => hQ v s' hP hs hm
  done := fun s Q E st hQ => W.done s Q E st hQ
  self := fun i s Q E st hQ => by
    cases i with
    | zero => exact st.elim
    | succ i => exact W.self i s Q E st hQ
theorem args_sum2 (a b : Value) : argsOk "sum" ⟨[a, b], []⟩ := by unfold argsOk; kernel_rfl
theorem sum_start {x : Value} {z : Int} {t : Tok} {Q : Value → Shared → Prop}
    (h : wpAny (model prog w) A.in1 (pyIter x) (fun it s₂ => ∃ I fp wr G n P St val, it = .ref I ∧ WalksS prog w A.in1 I fp wr G n P St ∧ St 0 s₂ ∧ (∀ b ∈ fp, b < s₂.heap.objs.size) ∧
      (∀ i v, P i v → ∃ t, v = .int (val i) t) ∧
      ∀ s' t', Moved wr G s₂ s' → Q (.int (z + preSum val n) t') s') E s) :
    wpAny (model prog w) A (call (.builtin "sum") [x, .int z t]) Q E s := by
  refine call_function_tree PySem.F.kind_sum PySem.F.plain_sum PySem.F.entry_sum (args_sum2 _ _) ?_
  unfold Builtin.«sum»
  simp only [List.length_cons, List.length_nil]
  rw [if_neg (by decide)]
  refine wpAny_bind (wpAny_of_eq (show Builtin.Builtins.bindParams "sum" ["start"] 0 ⟨[.int z t], []⟩ = pure [some (.int z t)] from rfl) ?_)
  refine wpAny_bind (wpAny_mono h (fun it s₂ h₂ => ?_) fun _ _ e => e)
  obtain ⟨I, fp, wr, G, n, P, St, val, rfl, W, hst, hfp, hval, hQ⟩ := h₂
  dsimp only
  have W' := walk_shift (fun v => ∃ t, v = .int z t) W
  have hSf : s₂.heap.objs.size ∉ fp := fun hm => Nat.lt_irrefl _ (hfp _ hm)
  have h0 : z + preSum val 0 = z := by simp [preSum]
  split
  · refine wpAny_bind (wpAny_rule (wpAny_bind (wpAny_mkInt (wpAny_bind (wpAny_pure ?_)))))
    simp only [List.forIn_cons, List.forIn_nil]
    refine wpAny_bind (wpAny_bind (wpAny_bind (wpAny_isInstance (T := "int") (b := false) (typeIs_int _ _ _) PySem.sub_int_str ?_)))
    simp only [Bool.false_eq_true, if_false]
    refine wpAny_pure (wpAny_bind (wpAny_bind (wpAny_isInstance (T := "int") (b := false) (typeIs_int _ _ _) PySem.sub_int_bytes ?_)))
    simp only [Bool.false_eq_true, if_false]
    refine wpAny_pure (wpAny_bind (wpAny_bind (wpAny_isInstance (T := "int") (b := false) (typeIs_int _ _ _) PySem.sub_int_bytearray ?_)))
    simp only [Bool.false_eq_true, if_false]
    refine wpAny_pure (wpAny_pure ?_)
    refine wpAny_bind (wpAny_newObj_type ?_)
    refine wpAny_pure ⟨plainId_quiet PySem.F.plain_sum_loop _, codeAny_sum_loopAnyS W' (fun i => match i with | 0 => z | i + 1 => val i) (fun i v hP => ?_) s₂.heap.objs.size hSf n 1 _ s₂.toks 0 0 (.inl rfl) (by (first | exact om84 | omega)) (by (first | exact om85 | omega))
      (W.frame 0 s₂ _ _ hst (Nat.le_succ _) fun b _ o e => Heap.get?_push_of_some _ e) ?_ fun s' t' hm => ?_⟩
    · cases i with
      | zero => exact hP
      | succ i => exact hval i v hP
    · rw [preSum_shift, h0]
      exact Heap.get?_push_size _ rfl
    · rw [preSum_shift]
      exact hQ s' t' (hm.drop_new (Nat.le_succ _))
  · refine wpAny_bind (wpAny_pure ?_)
    simp only [List.forIn_cons, List.forIn_nil]
    refine wpAny_bind (wpAny_bind (wpAny_bind (wpAny_isInstance (T := "int") (b := false) (typeIs_int _ _ _) PySem.sub_int_str ?_)))
    simp only [Bool.false_eq_true, if_false]
    refine wpAny_pure (wpAny_bind (wpAny_bind (wpAny_isInstance (T := "int") (b := false) (typeIs_int _ _ _) PySem.sub_int_bytes ?_)))
    simp only [Bool.false_eq_true, if_false]
    refine wpAny_pure (wpAny_bind (wpAny_bind (wpAny_isInstance (T := "int") (b := false) (typeIs_int _ _ _) PySem.sub_int_bytearray ?_)))
    simp only [Bool.false_eq_true, if_false]
    refine wpAny_pure (wpAny_pure ?_)
    refine wpAny_bind (wpAny_newObj_type ?_)
    refine wpAny_pure ⟨plainId_quiet PySem.F.plain_sum_loop _, codeAny_sum_loopAnyS W' (fun i => match i with | 0 => z | i + 1 => val i) (fun i v hP => ?_) s₂.heap.objs.size hSf n 1 _ t 0 2 (.inr rfl) (by (first | exact om84 | omega)) (by (first | exact om85 | omega))
      (W.frame 0 s₂ _ _ hst (Nat.le_refl _) fun b _ o e => Heap.get?_push_of_some _ e) ?_ fun s' t' hm => ?_⟩
    · cases i with
      | zero => exact hP
      | succ i => exact hval i v hP
    · rw [preSum_shift, h0]
      exact Heap.get?_push_size _ rfl
    · rw [preSum_shift]
      exact hQ s' t' (hm.drop_new (Nat.le_refl _))
end
end
section
-- B4
theorem fresh_B4 : True := by
  w_top off
  trivial
set_option maxHeartbeats 400000
noncomputable abbrev tabObj (ps : Array Value) : Obj := { cls := .none, data := .fields ps }
noncomputable abbrev tupObj (v u : Value) (n : Nat) : Obj := { cls := .type "tuple", data := .seq #[v, u] n }
/-- the items of an accumulator: pairs of texts -/
inductive Parts (news : List (Addr × Obj)) : List Value → List (Str × Str) → Prop where
  | nil : Parts news [] []
  | cons {T : Addr} {f x : Str} {t u : Tok} {n : Nat} {vs : List Value} {ps : List (Str × Str)} : (T, tupObj (.str f t) (.str x u) n) ∈ news → Parts news vs ps → Parts news (.ref T :: vs) ((f, x) :: ps)
theorem Parts.length {news : List (Addr × Obj)} {vs : List Value} {ps : List (Str × Str)} (h : Parts news vs ps) : vs.length = ps.length := by
  induction h with
  | nil => rfl
  | cons _ _ ih => simp [ih]
theorem Parts.mono {news news' : List (Addr × Obj)} {vs : List Value} {ps : List (Str × Str)} (h : Parts news vs ps) (hs : ∀ q ∈ news, q ∈ news') : Parts news' vs ps := by
  induction h with
  | nil => exact .nil
  | cons hm _ ih => exact .cons (hs _ hm) ih
theorem Parts.at {news : List (Addr × Obj)} {vs : List Value} {ps : List (Str × Str)} (h : Parts news vs ps) :
    ∃ (Ts : Nat → Addr) (vals : Nat → Array Value), ∀ j, j < vs.length → vs.toArray[j]? = some (.ref (Ts j)) ∧ (∃ n t u, (Ts j, tupObj (.str (ps.getD j default).1 t) (.str (ps.getD j default).2 u) n) ∈ news ∧ vals j = #[.str (ps.getD j default).1 t, .str (ps.getD j default).2 u]) := by
  induction h with
  | nil => exact ⟨fun _ => 0, fun _ => #[], fun j hj => absurd hj (Nat.not_lt_zero _)⟩
  | @cons T f x t u n vs ps hm r ih =>
    obtain ⟨Ts, vals, h⟩ := ih
    refine ⟨fun j => match j with | 0 => T | j + 1 => Ts j, fun j => match j with | 0 => #[.str f t, .str x u] | j + 1 => vals j, fun j hj => ?_⟩
    cases j with
    | zero => exact ⟨rfl, n, t, u, hm, rfl⟩
    | succ j =>
      obtain ⟨h1, n', t', u', h2, h3⟩ := h j (by simpa using hj)
      exact ⟨by simpa using h1, n', t', u', h2, h3⟩
/-- a code table: not yet written, or with the one entry for the generator at pos -/
noncomputable def TabOk (pos : Pos) (ps : Array Value) : Prop := ps = #[] ∨ ∃ c' : Addr, ps = #[rawInt pos.line, rawInt pos.col, .ref c']
section
variable {prog : Program} {w : World} {A : Around} {E : Value → Shared → Prop} {s : Shared} {h₀ : Heap} {L : Addr} {m mg mb : Str → Option Value} {p : Program} {loose : List Str} {mean : ExcName → Option Value}
theorem walkS_mono {I : Addr} {fp wr : List Addr} {G : Array GenState → Array GenState → Prop} {n : Nat} {P P' : Nat → Value → Prop} {St : Nat → Shared → Prop} (W : WalksS prog w A I fp wr G n P St) (hP : ∀ i v, P i v → P' i v) :
    WalksS prog w A I fp wr G n P' St where
  sub := W.sub
  grefl := W.grefl
  gtrans := W.gtrans
  frame := W.frame
  item := fun i s Q E hi st hQ => W.item i s Q E hi st fun v s' h => hQ v s' (hP i v h)
  done := W.done
  self := W.self
/-- what the two generators hand on: a walk over the parts -/
structure GenP (prog : Program) (w : World) (A : Around) (lo g : Addr) (n : Nat) (Fy : Nat → Value → Prop) (s : Shared) : Prop where
  go : ∃ fp wr q St, WalksS prog w A.in4 g fp wr (GenOnlyQ q) n Fy St ∧ St 0 s ∧ (∀ b ∈ fp, b < s.heap.objs.size) ∧ (∀ b ∈ wr, lo ≤ b) ∧ (∀ i s', St i s' → s'.TypeIs (.ref g) "generator") ∧ g ∈ fp
theorem gen_acc {K : Frag} {env : Env} {elt iter : Expr} {xa xb : Str} {pa pb pt pos : Pos} {kt : Nat} {scope : Scope} {c P a da : Addr} {ps : Array Value} {items : List Value} {n : Nat} {news : List (Addr × Obj)} {parts : List (Str × Str)} {Fy : Nat → Value → Prop} {Q : Value → Shared → Prop}
    (hh : A.handled = none) (hroom : A.depth < recursionLimit) (F : Fr h₀ L s.heap m) (N : News h₀ L s.heap ((P, tabObj ps) :: (a, accObj da items n) :: news)) (X₀ : K.In h₀) (T : Top p loose mean mg mb h₀) (G : AllBare s.gens)
    (hps : TabOk pos ps) (hPa : ∀ q ∈ (a, accObj da items n) :: news, q.1 ≠ P) (hparts : Parts news items parts)
    (hev : ∀ Q : Value → Shared → Prop, Q (.ref a) s → wpAny (model prog w) A (eval iter env) Q E s)
    (hm : mroIn K 220 (.type "list") = some true) (hi : findIn K (.ref 220) "__iter__" = some (some (.builtin "list.__iter__")))
    (hcode : env.code = .ref c) (hIs : ∀ (h : Heap) (qs : Array Value), K.In h → h.get? P = some (tabObj qs) → TriplesOk qs.toList → h.IsCode c P qs ∧ h.TableAt c P qs)
    (hglob : env.globals = mainGlobals)
    (hco : scope.isCoroutine = false) (hclos : closureFor scope env = pure []) (hcell : ∀ y ∈ scope.names, y.2 ≠ .cell) (h0 : scope.names.lookup (".0" : Str) = some NameKind.local)
    (hxa : scope.names.lookup xa = some .local) (hxb : scope.names.lookup xb = some .local) (hab : xa ≠ xb) (hkind : scope.kind = .function)
    (hq : ∀ (C I : Addr) (code : Value) (href : Heap) (Pt : Nat → Array Value → Prop) (fp : List Addr), h₀.objs.size ≤ C → (∀ b o, h₀.get? b = some o → b ∈ fp ∧ b ≠ I ∧ href.get? b = some o) →
      (∀ i v, Pt i v → i < parts.length ∧ ∃ t u, v = #[.str (parts.getD i default).1 t, .str (parts.getD i default).2 u]) →
      QuietGenT prog w (genEnv scope [] C code builtinsNs env) xa xb [] elt fp [I] Pt (fun _ => true) Fy href)
    (h : ∀ g h' tk gs ps', Fr h₀ L h' m → News h₀ L h' ((P, tabObj ps') :: (a, accObj da items n) :: news) → TabOk pos ps' → AllBare gs →
      GenP prog w A s.heap.objs.size g items.length Fy { s with heap := h', toks := tk, gens := gs } → Q (.ref g) { s with heap := h', toks := tk, gens := gs })
    (hs : ∀ x, genFold iter env x = pure x) :
    wpAny (model prog w) A (eval (.GeneratorExp elt [⟨.Tuple [.Name xa pa, .Name xb pb] kt pt, iter, [], 0⟩] scope pos) env) Q E s := by
  have ha := (N _ (.tail _ (.head _))).1
  have hX : K.In s.heap := X₀.keeps F.keep
  refine wpAny_GeneratorExp_walksQT hh hco hclos hcell h0 hxa hxb hab hkind hroom (hev _ (acc_iter hX hm hi ha ⟨?_, ?_⟩)) hs
  · exact (T.nolimit.keeps F.keep).push _
  have F1 := F.push (liObj a 0)
  have N1 := N.push F (liObj a 0)
  have hIlt : s.heap.objs.size < (s.heap.push (liObj a 0)).objs.size := by rw [Heap.size_push]; exact Nat.lt_succ_self _
  have hlow : ∀ q ∈ (P, tabObj ps) :: (a, accObj da items n) :: news, q.1 < s.heap.objs.size := fun q hq => Heap.lt_size (N q hq).1
  have hI0 : h₀.get? s.heap.objs.size = none := (N1 _ (.head _)).2.2
  generalize hI : s.heap.objs.size = I at *
  generalize s.heap.push (liObj a 0) = h1 at *
  obtain ⟨bm, ob, BM⟩ := bmod_of_top T
  have tail : ∀ (code : Value) (h4 : Heap) (tk : Nat) (ps' : Array Value), Fr h₀ L h4 m → News h₀ L h4 ((I, liObj a 0) :: (P, tabObj ps') :: (a, accObj da items n) :: news) → TabOk pos ps' →
      wpAny (model prog w) A (builtinsFor env.globals env.builtins) (fun bi s₄ => ∃ I' fp wr n₀ Pt St₀ Mid pz F, Value.ref I = .ref I' ∧ (∀ A' : Around, A'.handled = none → WalksU prog w A' I' fp wr n₀ Pt St₀ Mid) ∧ (∀ i vals, Pt i vals → ∃ va vb, vals = #[va, vb]) ∧ St₀ 0 s₄.heap ∧ (∀ b ∈ fp, b < s₄.heap.objs.size) ∧ s₄.heap.NoLimit ∧ cStatics ∉ wr ∧
          (∀ href : Heap, (∀ b o, s₄.heap.get? b = some o → href.get? b = some o) →
            QuietGenT prog w (genEnv scope [] s₄.heap.objs.size code bi env) xa xb [] elt (List.range s₄.heap.objs.size) wr Pt pz F href) ∧
          (∀ a h₅ tk gs, gs.bare = true → s₄.heap.objs.size < a → h₅.objs.size = a + 1 → (∀ b o, s₄.heap.get? b = some o → h₅.get? b = some o) →
            WalksS prog w A.in4 a (a :: s₄.heap.objs.size :: List.range s₄.heap.objs.size) (s₄.heap.objs.size :: wr) (GenOnlyQ s₄.gens.size) (passing pz n₀ 0).length
              (fun j y => ∃ i, (passing pz n₀ 0)[j]? = some i ∧ F i y) (GenAt prog w A.in4 a s₄.gens.size s₄.heap.objs.size (List.range s₄.heap.objs.size) wr pz n₀ F) →
            GenAt prog w A.in4 a s₄.gens.size s₄.heap.objs.size (List.range s₄.heap.objs.size) wr pz n₀ F 0 { s₄ with gens := s₄.gens.push gs, toks := tk, heap := h₅ } →
            Q (.ref a) { s₄ with gens := s₄.gens.push gs, toks := tk, heap := h₅ })) E { s with heap := h4, toks := tk } := by
    intro code h4 tk ps' F4 N4 hps'
    have M4 := BM.keeps F4.keep
    rw [hglob]
    refine wpAny_builtinsFor M4.ns M4.name M4.ne M4.obj M4.cls M4.dict M4.data ?_
    obtain ⟨Ts, vals, hT⟩ := hparts.at
    have hsz : items.toArray.size = items.length := by simp
    have hI4 := (N4 _ (.head _)).1
    have ha4 := (N4 _ (.tail _ (.tail _ (.head _)))).1
    have haI : a ≠ I := Nat.ne_of_lt (hlow _ (.tail _ (.head _)))
    have hTm : ∀ j, j < items.toArray.size → ∃ n t u, (Ts j, tupObj (.str (parts.getD j default).1 t) (.str (parts.getD j default).2 u) n) ∈ news ∧ vals j = #[.str (parts.getD j default).1 t, .str (parts.getD j default).2 u] := fun j hj => (hT j (by (first | exact om25 hsz hj | omega))).2
    have hTlt : ∀ j, j < items.toArray.size → Ts j < I := fun j hj => by
      obtain ⟨n', t, u, hmem, _⟩ := hTm j hj
      exact hlow _ (.tail _ (.tail _ hmem))
    refine ⟨I, _, [I], _, fun j v => j < items.toArray.size ∧ v = vals j, _, _, fun _ => true, Fy, rfl, fun A' hA' => (sq_tuples hA' I a haI items.toArray Ts vals (fun j hj => (hT j (by (first | exact om25 hsz hj | omega))).1) (fun j hj => Nat.ne_of_lt (hTlt j hj))).bound, ?_, ?_, ?_, ?_, ?_, ?_, ?_⟩
    · rintro i v ⟨hi', rfl⟩
      obtain ⟨n', t, u, _, e⟩ := hTm i hi'
      exact ⟨_, _, e⟩
    · refine ⟨⟨_, hI4, rfl, rfl⟩, ⟨_, _, ha4, rfl⟩, fun k hk => ?_⟩
      obtain ⟨n', t, u, hmem, e⟩ := hTm k hk
      rw [e]
      exact ⟨_, (N4 _ (.tail _ (.tail _ (.tail _ hmem)))).1, rfl, _, rfl⟩
    · intro b hb
      rcases List.mem_cons.mp hb with rfl | hb
      · exact Heap.lt_size hI4
      · rcases List.mem_cons.mp hb with rfl | hb
        · exact Heap.lt_size ha4
        · obtain ⟨k, hk, rfl⟩ := List.mem_map.mp hb
          exact Nat.lt_trans (hTlt k (List.mem_range.mp hk)) (Heap.lt_size hI4)
    · exact T.nolimit.keeps F4.keep
    · intro hmem
      have e := List.mem_singleton.mp hmem
      obtain ⟨mc, hns, _⟩ := T.nolimit
      obtain ⟨o, es, ep, ho, _⟩ := hns
      rw [e, hI0] at ho
      cases ho
    · intro href hk
      refine hq _ I code href _ _ (Nat.le_trans F4.above (Nat.le_of_lt F4.ns.lt)) ?_ ?_
      · intro b o e
        refine ⟨List.mem_range.mpr (Heap.lt_size (F4.keep b o e)), ?_, hk b o (F4.keep b o e)⟩
        rintro rfl
        rw [hI0] at e; cases e
      · rintro i v ⟨hi', rfl⟩
        obtain ⟨n', t, u, _, e⟩ := hTm i hi'
        exact ⟨by rw [← hparts.length]; (first | exact om25 hsz hi' | omega), t, u, e⟩
    · intro g h5 tk5 gs hgb hlt hsz5 hk5 W hat
      have F5 := F4.keeps hk5
      have N5 : News h₀ L h5 ((P, tabObj ps') :: (a, accObj da items n) :: news) := fun q hq => ⟨hk5 _ _ (N4 q (.tail _ hq)).1, (N4 q (.tail _ hq)).2⟩
      have e1 : passing (fun _ => true) items.toArray.size 0 = List.range items.length := by unfold passing; simp
      rw [e1, List.length_range] at W
      have W' := walkS_mono (P' := Fy) W (fun i v hv => by
        obtain ⟨k, hk, hF⟩ := hv
        have hlt' : i < items.length := by
          rcases Nat.lt_or_ge i items.length with h' | h'
          · exact h'
          · rw [List.getElem?_eq_none (by simpa using h')] at hk; cases hk
        rw [List.getElem?_range hlt'] at hk
        cases hk; exact hF)
      refine h g h5 tk5 _ ps' F5 N5 hps' (G.push hgb) ⟨⟨_, _, _, _, W', hat, ?_, ?_, fun i s' st => st.1.typeIs, List.mem_cons_self⟩⟩
      · intro b hb
        show b < h5.objs.size
        rw [hsz5]
        dsimp only at hlt hb
        rcases List.mem_cons.mp hb with rfl | hb
        · exact Nat.lt_succ_self _
        · rcases List.mem_cons.mp hb with rfl | hb
          · exact Nat.lt_succ_of_lt hlt
          · exact Nat.lt_succ_of_lt (Nat.lt_trans (List.mem_range.mp hb) hlt)
      · intro b hb
        rcases List.mem_cons.mp hb with rfl | hb
        · exact Nat.le_of_lt (Heap.lt_size hI4)
        · rw [List.mem_singleton.mp hb]; exact Nat.le_refl _
  rcases hps with rfl | ⟨c', rfl⟩
  · have hP1 : h1.get? P = some (tabObj #[]) := (N1 _ (.tail _ (.head _))).1
    obtain ⟨k1, k2⟩ := hIs h1 #[] (X₀.keeps F1.keep) hP1 trivial
    refine wpAny_genexprCodeX hcode k1 k2 rfl fun c' h4 tk hx hge hlt hcode' _ htab' _ => ?_
    have hPL : P ≠ L := (N1 _ (.tail _ (.head _))).2.1
    have hP0 : h₀.get? P = none := (N1 _ (.tail _ (.head _))).2.2
    have F4 : Fr h₀ L h4 m := ⟨F1.ns.at' fun o e => hx L o (Ne.symm hPL) e, fun b o e => hx b o (fun e' => by rw [e', hP0] at e; cases e) (F1.keep b o e), F1.above⟩
    refine tail _ h4 tk _ F4 (fun q hq => ?_) (.inr ⟨c', rfl⟩)
    rcases List.mem_cons.mp hq with rfl | hq
    · have z := N1 _ (.head _)
      exact ⟨hx _ _ (Ne.symm (Nat.ne_of_lt (hlow _ (.head _)))) z.1, z.2⟩
    · rcases List.mem_cons.mp hq with rfl | hq
      · exact ⟨by rw [htab'.2]; rfl, hPL, hP0⟩
      · have z := N1 _ (.tail _ (.tail _ hq))
        exact ⟨hx _ _ (hPa _ hq) z.1, z.2⟩
  · have hP1 := (N1 _ (.tail _ (.head _))).1
    obtain ⟨k1, k2⟩ := hIs h1 _ (X₀.keeps F1.keep) hP1 trivial
    refine wpAny_genexprCode_hit hcode k1 (c' := .ref c') ?_ ?_
    · show (if ((pos.line : Int) == (pos.line : Int) && (pos.col : Int) == (pos.col : Int)) = true then some (Value.ref c') else _) = some (Value.ref c')
      rw [if_pos (by simp)]
    · exact tail _ h1 s.toks _ F1 N1 (.inr ⟨c', rfl⟩)
end
end
section
-- B5
theorem fresh_B5 : True := by
  w_top off
  trivial
set_option maxHeartbeats 400000
section
variable {prog : Program} {w : World} {A : Around} {E : Value → Shared → Prop} {s : Shared} {h₀ : Heap} {mg mb : Str → Option Value} {p : Program} {loose : List Str} {mean : ExcName → Option Value}
theorem keeps_toks {s : Shared} {k : Nat} : Keeps s { s with toks := k } := ⟨s.heap, k, rfl, fun _ _ e => e⟩
theorem len_local {env : Env} {x : Str} {v : Str} {t : Tok} {m₂ : Str → Option Value} {p1 p2 p3 : Pos} {Q : Value → Shared → Prop} (hk : env.scope.kind = .function) (hg : env.globals = mainGlobals) (hbi : env.builtins = builtinsNs)
    (hlen : env.kindOf (Str.ofString "len") = some .globalImplicit) (hx : env.kindOf x = some .local) (hdx : (x == ("__debug__" : Str)) = false) (T : Top p loose mean mg mb h₀) (hmiss : mg (Str.ofString "len") = none) (hkeep : ∀ b o, h₀.get? b = some o → s.heap.get? b = some o)
    (hn : s.heap.Ns env.locals m₂) (hv : m₂ x = some (.str v t)) (hfit : v.length < 2 ^ 40) (h : ∀ k t, Q (.int v.length t) { s with toks := k }) :
    wpAny (model prog w) A (eval (.Call (.Name (Str.ofString "len") p1) [.Name x p2] [] p3) env) Q E s := by
  refine Call_Name1 ?_ rfl
  have Tg : s.heap.Ns env.globals mg := by rw [hg]; exact T.g.keeps hkeep
  have Tb : s.heap.Ns env.builtins mb := by rw [hbi]; exact T.b.keeps hkeep
  refine wpAny_Name (ks_loadName_global hk hlen (loadGlobal_builtin Tg hmiss Tb ((T.builtins _ (by decide +kernel)).trans boot_len) ?_)) (by decide)
  refine callWith_builtin1 (wpAny_Name (wpAny_loadName_local hk hx hn hv ?_) hdx)
  exact PyProof.Rows.len_str (by (first | exact om86 hfit | omega)) (h _ _)
theorem len_elt {env : Env} {scope : Scope} {xa xb : Str} {C I : Addr} {code : Value} {href : Heap} {Pt : Nat → Array Value → Prop} {fp : List Addr} {parts : List (Str × Str)} {p1 p2 p3 p4 p5 p6 p7 : Pos}
    (hk : scope.kind = .function) (hg : env.globals = mainGlobals) (hlen : scope.names.lookup (Str.ofString "len") = some .globalImplicit) (hxa : scope.names.lookup xa = some .local) (hxb : scope.names.lookup xb = some .local)
    (hda : (xa == ("__debug__" : Str)) = false) (hdb : (xb == ("__debug__" : Str)) = false)
    (T : Top p loose mean mg mb h₀) (hmiss : mg (Str.ofString "len") = none) (hkeep : ∀ b o, h₀.get? b = some o → b ∈ fp ∧ b ≠ I ∧ href.get? b = some o)
    (hPt : ∀ i v, Pt i v → i < parts.length ∧ ∃ t u, v = #[.str (parts.getD i default).1 t, .str (parts.getD i default).2 u]) (hfit : ∀ q ∈ parts, q.1.length < 2 ^ 40 ∧ q.2.length < 2 ^ 40) :
    QuietGenT prog w (genEnv scope [] C code builtinsNs env) xa xb [] (.BinOp (.Call (.Name (Str.ofString "len") p1) [.Name xa p2] [] p3) .Add (.Call (.Name (Str.ofString "len") p4) [.Name xb p5] [] p6) p7) fp [I] Pt (fun _ => true)
      (fun i y => ∃ t, y = .int ((parts.getD i default).1.length + (parts.getD i default).2.length : Nat) t) href where
  tests := fun A' E' i va vb s₂ m₂ _ _ _ _ _ _ => by
    rw [List.forIn_nil]
    exact wpAny_pure ⟨rfl, ⟨s₂.heap, s₂.toks, rfl, fun _ _ e => e⟩⟩
  elt := fun A' E' i va vb s₂ m₂ _ hP _ hn h1 h2 hk2 => by
    obtain ⟨hi, t, u, e⟩ := hPt i _ hP
    have e1 : va = .str (parts.getD i default).1 t := by have := congrArg (fun z => z[0]?) e; simpa using this
    have e2 : vb = .str (parts.getD i default).2 u := by have := congrArg (fun z => z[1]?) e; simpa using this
    subst e1 e2
    have hmem : parts.getD i default ∈ parts := by
      rw [List.getD_eq_getElem?_getD, List.getElem?_eq_getElem hi]; exact List.getElem_mem hi
    have hkp : ∀ b o, h₀.get? b = some o → s₂.heap.get? b = some o := fun b o e => by
      obtain ⟨a1, a2, a3⟩ := hkeep b o e
      exact hk2 b a1 (fun hm => a2 (List.mem_singleton.mp hm)) o a3
    refine wpAny_BinOp (len_local (env := genEnv scope [] C code builtinsNs env) hk hg rfl hlen hxa hda T hmiss hkp hn h1 (hfit _ hmem).1 fun k t1 => ?_)
    refine len_local (s := { s₂ with toks := k }) (env := genEnv scope [] C code builtinsNs env) hk hg rfl hlen hxb hdb T hmiss hkp hn h2 (hfit _ hmem).2 fun k' t2 => ?_
    refine add_int ?_
    exact ⟨⟨_, by rfl⟩, ⟨s₂.heap, _, rfl, fun _ _ e => e⟩⟩
end
end
section
-- B5b
theorem fresh_B5b : True := by
  w_top off
  trivial
set_option maxHeartbeats 400000
section
variable {prog : Program} {w : World} {A : Around} {E : Value → Shared → Prop} {s : Shared} {K : Frag} {x C : Addr} {ox : Obj} {od : Option Obj} {name : Str} {expr : Bool} {Q : Value → Shared → Prop}
theorem acc_get {a da : Addr} {items : List Value} {n : Nat} {v : Value} (X : K.In s.heap) (hm : mroIn K 220 (.type "list") = some true) (I : InstAt s.heap a (accObj da items n) 220 od) (hga : findIn K (.ref 220) "__getattribute__" = some (some (.builtin "list.__getattribute__")))
    (hgt : findIn K (.ref 220) "__getattr__" = some none) (hf : findObj K 220 od name = some (.value v)) (hh : handedIn v = true) (h : Q v { s with toks := s.toks + 1 }) : wpAny (model prog w) A (getAttr (.ref a) name expr) Q E s := by
  obtain ⟨hp, g, d, t, os⟩ := s
  have L0 := I.type (M := model prog w)
  have L1 := looks_findIn (M := model prog w) X hga
  have L2 := looks_findIn (M := model prog w) X hgt
  have L3 := looks_find (M := model prog w) X I hf
  unfold getAttr getAttrBy
  refine wpAny_bind (wpAny_mkText (wpAny_holding (wpAny_bind (L0.at (wpAny_bind (L1.at ?_))))))
  show wpAny _ _ (getAttrByItsOwn _ _ _ _ _ _) _ _ _
  unfold getAttrByItsOwn hookBefore
  refine wpAny_bind (L2.at ?_)
  refine wpAny_bind (wpAny_attempt (wpAny_holding ?_))
  have e0 : callGetattribute (.ref a) (.str name t) (.builtin "list.__getattribute__") expr = boundAndCalled (.builtin "list.__getattribute__") (.ref a) (.str name t) := by
    unfold callGetattribute; cases expr <;> rfl
  show wpAny _ _ (callGetattribute (.ref a) (.str name t) (.builtin "list.__getattribute__") expr) _ _ _
  rw [e0]
  unfold boundAndCalled
  refine wpAny_bind (wpAny_of_eq (PySem.F.slot_list_getattribute.bind _) ?_)
  refine acc_call (nm := "__getattribute__") (s := ⟨hp, g, d, t + 1, os⟩) X hm I.at_ (.inl (by decide +kernel)) (by decide +kernel) PySem.F.slot_list_getattribute.plain am_entry_list_getattribute (PySem.F.args_list_getattribute_2 _ _) ?_
  unfold Builtin.«object.__getattribute__»
  refine wpAny_bind (wpAny_of_eq (a := (Value.ref a, [.str name t])) rfl ?_)
  refine wpAny_bind (wpAny_pure (wpAny_bind (L0.at (wpAny_bind (L3.at ?_)))))
  refine wpAny_pure ⟨_, rfl, ?_⟩
  show wpAny _ _ (handedOut v) _ _ _
  rw [handedOut_of hh]; exact wpAny_pure h
end
end
-- B6
theorem fresh_B6 : True := by
  w_top off
  trivial
set_option maxHeartbeats 1000000
local macro_rules | `(tactic| k_inst) => `(tactic| (refine' InstAt.of_acc ?N ?h1 ?h2; (case N => k_asm); (case h1 => k_mem); (case h2 => k_mem)))
/-- how long the parts are together -/
noncomputable def plen (parts : List (Str × Str)) : Nat := (parts.map fun q => q.1.length + q.2.length).sum
theorem plen_pre (parts : List (Str × Str)) : ∀ k, k ≤ parts.length → preSum (fun i => (((parts.getD i default).1.length + (parts.getD i default).2.length : Nat) : Int)) k = (plen (parts.take k) : Nat)
  | 0, _ => rfl
  | k + 1, h => by
    show preSum _ k + _ = _
    rw [plen_pre parts k (by (first | exact om87 h | omega))]
    have : parts.take (k + 1) = parts.take k ++ [parts.getD k default] := by
      rw [List.take_succ, List.getD_eq_getElem?_getD, List.getElem?_eq_getElem (by (first | exact om88 h | omega))]; rfl
    rw [this]
    simp [plen]
theorem acclen_ok {w : World} {A A₀ : Around} {env : Env} {outer : List Env} {base h₀ : Heap} {L : Addr} {m : Str → Option Value} {news : List (Addr × Obj)} {s : Shared}
    {p : Program} {loose : List Str} {mean : ExcName → Option Value} {mg mb : Str → Option Value}
    {a da : Addr} {items : List Value} {n k : Nat} {z : Int} {t tz : Tok} {hs : Int} {ps : Array Value} {parts : List (Str × Str)} {Q E : Value → Shared → Prop}
    (B : Below A₀ base outer h₀) (F : Fr h₀ L s.heap m) (X : (hd.heap_39 w.params).In h₀) (N : News h₀ L s.heap ((182, tabObj ps) :: (a, accObj da items n) :: news)) (T : Top p loose mean mg mb h₀)
    (hA : A.frames = some (env :: outer)) (hf : env.frame = some L) (hke : env.scope.kind = .function)
    (hH : A.handled = none) (hroom : A.depth + 1 < recursionLimit) (hu : A.units + 40 < cLine) (G : AllBare s.gens)
    (hdd : (da, dictOf [⟨hs, .str (Str.ofString "_initial_size") t, .int z tz⟩] k) ∈ news) (hps : TabOk ⟨139, 19, 139, 63⟩ ps) (hPa : ∀ q ∈ (a, accObj da items n) :: news, q.1 ≠ 182) (hparts : Parts news items parts)
    (hfit : ∀ q ∈ parts, q.1.length < 2 ^ 40 ∧ q.2.length < 2 ^ 40)
    (ret : ∀ h' tk' gs' ps' t', Fr h₀ L h' m → News h₀ L h' ((182, tabObj ps') :: (a, accObj da items n) :: news) → TabOk ⟨139, 19, 139, 63⟩ ps' → AllBare gs' → Q (.int (z + (plen parts : Nat)) t') { s with heap := h', toks := tk', gens := gs' }) :
    wpAny (model Challenge.rw_nb0237_01.row.prog w) A (call (.ref 187) [.ref a]) Q E s := by
  revert X; k_fill; intro X
  refine wpAny_call ?_
  refine code_def (binds := [(Str.ofString "self", .ref a)]) B F X N T hA hf hke (by k_is) (by k_is) (by (first | exact om31 hroom | omega)) (BindsTo.of_eq rfl) (locs rfl) ?_ rfl rfl rfl (by decide)
  intro g' L' h' FG' F' N' B' X' T'
  try dsimp only
  walk_at "my go"
  have hmiss : mg (Str.ofString "len") = none := mg_none_of X' T'.g (by k_is)
  refine gen_acc (c := 186) (P := 182) (parts := parts) (Fy := fun i y => ∃ t, y = .int ((parts.getD i default).1.length + (parts.getD i default).2.length : Nat) t) hH (by show A.depth + 1 < recursionLimit; exact hroom) F' N' X' T' G hps hPa hparts ?_ (by k_is) (by k_is) rfl ?_ rfl rfl ?_ (by decide) rfl rfl rfl (by decide) rfl ?_ ?_ ?_
  · intro Q' hQ'
    exact ld F' rfl hQ'
  · intro h qs Xh hP htr
    have hc := Xh 186 _ (by k_is)
    exact ⟨⟨_, _, _, _, _, _, _, _, _, _, hc, rfl, rfl, rfl, rfl, rfl, rfl, hP, rfl, htr, by decide⟩, ⟨⟨_, _, hc, rfl, rfl, rfl⟩, hP⟩⟩
  · rfl
  · intro C I code href Pt fp hC hkp hPt
    exact len_elt rfl rfl rfl rfl rfl (by decide) (by decide) T' hmiss hkp hPt hfit
  · intro g h1 tk1 gs ps' F1 N1 hps' G1 GP
    dsimp only
    walk_at "my go"
    refine acc_get (X'.keeps F1.keep) (by k_is) (InstAt.of_acc N1 (.tail _ (.head _)) (.tail _ (.tail _ hdd))) (by k_is) (by k_is) (findObj_own (attr := none) (by k_is) (by k_is) (by k_is) rfl) rfl ?_
    walk_at "my go"
    obtain ⟨⟨fp, wr, q, St, W, hst, hfp, hwr, -, -⟩⟩ := GP
    have W1 := W.in4_1
    have hst1 : St 0 { s with heap := h1, gens := gs, toks := tk1 + 1 } := W.frame 0 _ _ _ hst (Nat.le_succ _) fun _ _ _ e => e
    refine sum_start (W1.self 0 _ _ _ hst1 ⟨g, _, _, _, _, _, _, _, rfl, W1, hst1, hfp, fun i v hv => hv, fun s' t' hm => ?_⟩)
    have hlow : ∀ q ∈ (182, tabObj ps) :: (a, accObj da items n) :: news, q.1 < h'.objs.size := fun q hq => Heap.lt_size (N' q hq).1
    have hL : L' < h'.objs.size := F'.ns.lt
    have F2 : Fr g' L' s'.heap _ := ⟨F1.ns.at' fun o e => hm.heap L' o (fun hb => Nat.lt_irrefl _ (Nat.lt_of_lt_of_le hL (hwr _ hb))) e, fun b o e => hm.heap b o (fun hb => Nat.lt_irrefl _ (Nat.lt_of_lt_of_le (Nat.lt_of_lt_of_le (Heap.lt_size e) (Nat.le_trans F'.above (Nat.le_of_lt hL))) (hwr _ hb))) (F1.keep b o e), F1.above⟩
    have N2 : News g' L' s'.heap ((182, tabObj ps') :: (a, accObj da items n) :: news) := by
      intro q hq
      refine ⟨hm.heap _ _ (fun hb => ?_) (N1 q hq).1, (N1 q hq).2⟩
      have h3 : q.1 < h'.objs.size := by
        rcases List.mem_cons.mp hq with rfl | hq
        · exact hlow (182, tabObj ps) (.head _)
        · exact hlow _ (.tail _ hq)
      exact Nat.lt_irrefl _ (Nat.lt_of_lt_of_le h3 (hwr _ hb))
    have G2 : AllBare s'.gens := G1.moved hm.gens
    obtain ⟨hp, gg, d, tt, oo⟩ := s'
    have e1 : d = s.drawn := hm.drawn
    have e2 : oo = s.os := hm.os
    subst e1 e2
    have e3 : preSum (fun i => (((parts.getD i default).1.length + (parts.getD i default).2.length : Nat) : Int)) items.length = (plen parts : Nat) := by
      rw [hparts.length, plen_pre parts _ (Nat.le_refl _), List.take_length]
    rw [e3]
    walk_at "my go"
    rename Fr h₀ L _ _ => F8
    rename News h₀ L _ _ => N8
    exact ret hp tt gg ps' t' F8 N8 hps' G2
  · intro _; rfl

section
-- B7
theorem fresh_B7 : True := by
  w_top off
  trivial
set_option maxHeartbeats 400000
section
variable {prog : Program} {w : World} {A : Around} {E : Value → Shared → Prop} {s : Shared} {K : Frag} {a da : Addr} {items : List Value} {n k : Nat} {es : List DictEntry} {name : Str}
theorem acc_method {f tf : Value} {pl : Sem Bool} {Q : Value × List Value → Shared → Prop} (X : K.In s.heap) (I : InstAt s.heap a (accObj da items n) 220 (some (dictOf es k)))
    (hga : findIn K (.ref 220) "__getattribute__" = some (some (.builtin "list.__getattribute__"))) (hgt : findIn K (.ref 220) "__getattr__" = some none) (hf : findIn K (.ref 220) name = some (some f))
    (ht : Looks (model prog w) s.heap (typeOf f) tf) (htf : tf = .type "function" ∨ tf = .type "method_descriptor" ∨ tf = .type "wrapper_descriptor") (hno : getL name es = some none) (h : Q (f, [.ref a]) s) :
    wpAny (model prog w) A (getMethod (.ref a) name pl) Q E s := by
  unfold getMethod specialOf
  refine wpAny_bind (wpAny_bind (I.type.here ((looks_findIn X hga).here ?_)))
  dsimp only
  rw [canon_list_getattribute, if_neg (by decide)]
  refine wpAny_bind (wpAny_bind (I.type.here ((looks_findIn X hgt).here ?_)))
  refine wpAny_bind (wpAny_bind (I.type.here ((looks_findIn X hf).here (wpAny_bind (ht.here ?_)))))
  rw [if_neg (by rcases htf with rfl | rfl | rfl <;> decide +kernel)]
  refine wpAny_bind (wpAny_loadPart I.at_ ?_)
  refine wpAny_bind (wpAny_bind (wpAny_loadPart I.dict ?_))
  rw [nsLook_of (show lookIn name (dictOf es k) = some none from hno)]
  refine wpAny_pure ?_
  exact wpAny_bind (wpAny_rule (wpAny_pure h))
end
section
variable {prog : Program} {w : World} {A : Around} {E : Value → Shared → Prop} {s : Shared} {K : Frag} {h₀ : Heap} {L a da : Addr} {m : Str → Option Value} {items items' : List Value} {n n' : Nat} {news : List (Addr × Obj)} {Q : Value → Shared → Prop}
theorem acc_turn (f : Array Value → Array Value) (F : Fr h₀ L s.heap m) (N : News h₀ L s.heap ((a, accObj da items n) :: news)) (hw : ∀ q ∈ news, q.1 ≠ a) (he : f items.toArray = items'.toArray) (hn : (if items'.length == items.length then n else n + 1) = n') :
    Fr h₀ L (s.heap.update a (Obj.mapSeq f)) m ∧ News h₀ L (s.heap.update a (Obj.mapSeq f)) ((a, accObj da items' n') :: news) := by
  have z := N _ (.head _)
  refine ⟨F.change (Heap.SameBut.update ..) z.2.1 z.2.2, fun q hq => ?_⟩
  have hs : Heap.SameBut a s.heap (s.heap.update a (Obj.mapSeq f)) := Heap.SameBut.update ..
  have eo : Obj.mapSeq f (accObj da items n) = accObj da items' n' := by
    unfold Obj.mapSeq
    dsimp only
    rw [he, ← hn]
    simp
  rcases List.mem_cons.mp hq with rfl | hq
  · refine ⟨?_, z.2⟩
    rw [Heap.get?_update_self _ z.1 (by rw [eo]; rfl), eo]
  · exact ⟨(hs.2 _ (hw q hq)).trans (N q (.tail _ hq)).1, (N q (.tail _ hq)).2⟩
theorem acc_append {v : Value} (X : K.In s.heap) (hm : mroIn K 220 (.type "list") = some true) (F : Fr h₀ L s.heap m) (N : News h₀ L s.heap ((a, accObj da items n) :: news)) (hw : ∀ q ∈ news, q.1 ≠ a) (hz : items.length < 1000)
    (h : ∀ h', Fr h₀ L h' m → News h₀ L h' ((a, accObj da (items ++ [v]) (n + 1)) :: news) → Q .none { s with heap := h' }) : wpAny (model prog w) A (call (.builtin "list.append") [.ref a, v]) Q E s := by
  have z := N _ (.head _)
  refine acc_call (nm := "append") X hm z.1 (.inr (by decide +kernel)) (by decide +kernel) slot_list_append.plain entry_list_append (args_list_append _ _) ?_
  show wpAny _ _ (updateSeq a (·.push v) >>= fun _ => ret .none) _ _ s
  refine wpAny_bind ?_
  obtain ⟨F', N'⟩ := acc_turn (items' := items ++ [v]) (n' := n + 1) (·.push v) F N hw (by simp) (by simp)
  exact wpAny_updateSeq z.1 rfl (wpAny_pure ⟨.none, rfl, h _ F' N'⟩) (by simp [sizeLine_eq]; (first | exact om65 hz | omega))
end
set_option maxHeartbeats 1000000
/-- the dict of an accumulator -/
noncomputable abbrev accDict (hs : Int) (t : Tok) (z : Int) (tz : Tok) (k : Nat) : Obj := dictOf [⟨hs, .str (Str.ofString "_initial_size") t, .int z tz⟩] k
theorem push_code {w : World} {A A₀ : Around} {env : Env} {outer : List Env} {base h₀ : Heap} {L : Addr} {m : Str → Option Value} {news : List (Addr × Obj)} {s : Shared}
    {p : Program} {loose : List Str} {mean : ExcName → Option Value} {mg mb : Str → Option Value}
    {a da : Addr} {items : List Value} {n k : Nat} {z : Int} {t tz : Tok} {hs : Int} {u v : Value} {Q E : Value → Shared → Prop}
    (B : Below A₀ base outer h₀) (F : Fr h₀ L s.heap m) (X : (hd.heap_39 w.params).In h₀) (N : News h₀ L s.heap ((a, accObj da items n) :: news)) (T : Top p loose mean mg mb h₀)
    (hA : A.frames = some (env :: outer)) (hf : env.frame = some L) (hke : env.scope.kind = .function)
    (hroom : A.depth + 1 < recursionLimit) (hu : A.units + 40 < cLine)
    (hdd : (da, accDict hs t z tz k) ∈ news) (hw : ∀ q ∈ news, q.1 ≠ a) (h3 : items.length < 900)
    (ret : ∀ h' tk' T, Fr h₀ L h' m → News h₀ L h' ((a, accObj da (items ++ [.ref T]) (n + 1)) :: (T, tupObj u v 0) :: news) → (∀ q ∈ (a, accObj da items n) :: news, q.1 < T) → Q .none { s with heap := h', toks := tk' }) :
    codeAny (model Challenge.rw_nb0237_01.row.prog w) A (.call (.ref 164) ⟨[.ref a, u, v], []⟩) (fun r s' => match r with | .ok (.ret v) => Q v s' | .ok _ => False | .error e => E e s') s := by
  revert X; k_fill; intro X
  refine code_def (binds := [(Str.ofString "self", .ref a), (Str.ofString "fws", u), (Str.ofString "string", v)]) B F X N T hA hf hke (by k_is) (by k_is) (by (first | exact om31 hroom | omega)) (BindsTo.of_eq rfl) (locs rfl) ?_ rfl rfl rfl (by decide)
  intro g' L' h' FG' F' N' B' X' T'
  try dsimp only
  iterate 5 walk1
  refine acc_method (X'.keeps F'.keep) (InstAt.of_acc N' (.head _) (.tail _ hdd)) (by k_is) (by k_is) (by k_is) (looks_typeIn (X'.keeps F'.keep) (by k_is)) (.inr (.inl rfl)) rfl ?_
  iterate 10 walk1
  rename Fr g' L' _ _ => F1
  rename News g' L' _ _ => N1
  rename _ ∧ AllLt _ _ => l1
  have hlt := ktn_ltOf (l := (a, accObj da items n) :: news) l1
  refine acc_append (X'.keeps F1.keep) (by k_is) F1 (news_swap N1) ?_ (by (first | exact om68 h3 | omega)) ?_
  · intro q hq
    rcases List.mem_cons.mp hq with rfl | hq
    · exact Nat.ne_of_gt (hlt _ (.head _))
    · exact hw q hq
  intro h2 F2 N2
  walk_at "my go"
  rename Fr h₀ L _ _ => F8
  rename News h₀ L _ _ => N8
  exact ret _ _ _ F8 N8 hlt

theorem push_ok {w : World} {A A₀ : Around} {env : Env} {outer : List Env} {base h₀ : Heap} {L : Addr} {m : Str → Option Value} {news : List (Addr × Obj)} {s : Shared}
    {p : Program} {loose : List Str} {mean : ExcName → Option Value} {mg mb : Str → Option Value}
    {a da : Addr} {items : List Value} {n k : Nat} {z : Int} {t tz : Tok} {hs : Int} {u v : Value} {Q E : Value → Shared → Prop}
    (B : Below A₀ base outer h₀) (F : Fr h₀ L s.heap m) (X : (hd.heap_39 w.params).In h₀) (N : News h₀ L s.heap ((a, accObj da items n) :: news)) (T : Top p loose mean mg mb h₀)
    (hA : A.frames = some (env :: outer)) (hf : env.frame = some L) (hke : env.scope.kind = .function)
    (hroom : A.depth + 1 < recursionLimit) (hu : A.units + 40 < cLine)
    (hdd : (da, accDict hs t z tz k) ∈ news) (hw : ∀ q ∈ news, q.1 ≠ a) (h3 : items.length < 900)
    (ret : ∀ h' tk' T, Fr h₀ L h' m → News h₀ L h' ((a, accObj da (items ++ [.ref T]) (n + 1)) :: (T, tupObj u v 0) :: news) → (∀ q ∈ (a, accObj da items n) :: news, q.1 < T) → Q .none { s with heap := h', toks := tk' }) :
    wpAny (model Challenge.rw_nb0237_01.row.prog w) A (call (.ref 164) [.ref a, u, v]) Q E s :=
  wpAny_call (push_code B F X N T hA hf hke hroom hu hdd hw h3 ret)
end
section
-- B8
theorem fresh_B8 : True := by
  w_top off
  trivial
set_option maxHeartbeats 400000
section
variable {prog : Program} {w : World} {A : Around} {E : Value → Shared → Prop} {s : Shared} {h₀ : Heap} {mg mb : Str → Option Value} {p : Program} {loose : List Str} {mean : ExcName → Option Value}
theorem join_two (f x : Str) : Txt.join (Str.ofString "") [f, x] = f ++ x := by
  have e : Str.ofString "" = Str.empty := by decide
  rw [e]
  show f ++ Str.empty ++ x = f ++ x
  rw [Str.append_empty]
theorem str_elt {env : Env} {scope : Scope} {xa xb : Str} {C I : Addr} {code : Value} {href : Heap} {Pt : Nat → Array Value → Prop} {fp : List Addr} {parts : List (Str × Str)} {te : Tok} {p1 p2 p3 p4 p5 p6 : Pos} {kt : Nat}
    (hk : scope.kind = .function) (hg : env.globals = mainGlobals) (hemp : scope.names.lookup (Str.ofString "EMPTYSTRING") = some .globalImplicit) (hxa : scope.names.lookup xa = some .local) (hxb : scope.names.lookup xb = some .local)
    (hda : (xa == ("__debug__" : Str)) = false) (hdb : (xb == ("__debug__" : Str)) = false) (hline : (p2.endLine == p6.line) = true)
    (T : Top p loose mean mg mb h₀) (hmg : mg (Str.ofString "EMPTYSTRING") = some (.str (Str.ofString "") te)) (hkeep : ∀ b o, h₀.get? b = some o → b ∈ fp ∧ b ≠ I ∧ href.get? b = some o)
    (hPt : ∀ i v, Pt i v → i < parts.length ∧ ∃ t u, v = #[.str (parts.getD i default).1 t, .str (parts.getD i default).2 u]) (hfit : ∀ q ∈ parts, q.1.length < 2 ^ 20 ∧ q.2.length < 2 ^ 20) :
    QuietGenT prog w (genEnv scope [] C code builtinsNs env) xa xb [] (.Call (.Attribute (.Name (Str.ofString "EMPTYSTRING") p1) (Str.ofString "join") p2) [.Tuple [.Name xa p3, .Name xb p4] kt p5] [] p6) fp [I] Pt (fun _ => true)
      (fun i y => ∃ t, y = .str ((parts.getD i default).1 ++ (parts.getD i default).2) t) href where
  tests := fun A' E' i va vb s₂ m₂ _ _ _ _ _ _ => by
    rw [List.forIn_nil]
    exact wpAny_pure ⟨rfl, ⟨s₂.heap, s₂.toks, rfl, fun _ _ e => e⟩⟩
  elt := fun A' E' i va vb s₂ m₂ _ hP _ hn h1 h2 hk2 => by
    obtain ⟨hi, t, u, e⟩ := hPt i _ hP
    have e1 : va = .str (parts.getD i default).1 t := by have := congrArg (fun z => z[0]?) e; simpa using this
    have e2 : vb = .str (parts.getD i default).2 u := by have := congrArg (fun z => z[1]?) e; simpa using this
    subst e1 e2
    have hmem : parts.getD i default ∈ parts := by
      rw [List.getD_eq_getElem?_getD, List.getElem?_eq_getElem hi]; exact List.getElem_mem hi
    have hkp : ∀ b o, h₀.get? b = some o → s₂.heap.get? b = some o := fun b o e => by
      obtain ⟨a1, a2, a3⟩ := hkeep b o e
      exact hk2 b a1 (fun hm => a2 (List.mem_singleton.mp hm)) o a3
    have Tg : s₂.heap.Ns (genEnv scope [] C code builtinsNs env).globals mg := by
      show s₂.heap.Ns env.globals mg
      rw [hg]; exact T.g.keeps hkp
    refine Call_method1 rfl rfl hline ?_
    refine wpAny_Name (ks_loadName_global (env := genEnv scope [] C code builtinsNs env) hk hemp (loadGlobal_global Tg hmg ?_)) (by decide)
    refine ⟨"str", "str.join", PySem.F.plainAttrs_str, PySem.F.slot_str_join, PySem.F.type_str_join, typeIs_str _ _ _, (fun _ e => nomatch e), ?_⟩
    refine Calls.callWith_builtin rfl (Calls.evalArgs_plain (Calls.spliced_cons (Tuple_ ?_)))
    refine Calls.spliced_cons (wpAny_Name (wpAny_loadName_local hk hxa hn h1 ?_) hda)
    refine Calls.spliced_cons (wpAny_Name (wpAny_loadName_local hk hxb hn h2 ?_) hdb)
    refine Calls.spliced_nil ?_
    refine wpAny_newObj_type ?_
    refine Calls.spliced_nil ?_
    refine join_tuple (items := #[.str (parts.getD i default).1 t, .str (parts.getD i default).2 u]) (ys := [(parts.getD i default).1, (parts.getD i default).2]) ⟨_, Heap.get?_push_size _ rfl, rfl, _, rfl⟩ (.cons _ _ (.cons _ _ .nil)) ?_ ?_
    · have h8 := hfit _ hmem
      have h9 : (Str.ofString "").length = 0 := by decide
      simp only [List.map_cons, List.map_nil, List.sum_cons, List.sum_nil, List.length_cons, List.length_nil, h9]
      omega
    · intro t' k
      rw [join_two]
      exact ⟨⟨_, rfl⟩, ⟨_, _, rfl, fun b o e => Heap.get?_push_of_some _ e⟩⟩
end
end
section
-- B9
theorem fresh_B9 : True := by
  w_top off
  trivial
set_option maxHeartbeats 1000000
/-- the parts' text -/
noncomputable def ptext (parts : List (Str × Str)) : Str := Txt.join (Str.ofString "") (parts.map fun q => q.1 ++ q.2)
theorem items_text {parts : List (Str × Str)} {l : List (Str × Tok)} {n : Nat} (hn : n = parts.length)
    (h : ItemsOf (fun i y => ∃ t, y = Value.str ((parts.getD i default).1 ++ (parts.getD i default).2) t) (strValues l).toArray n) : l.map (·.1) = parts.map fun q => q.1 ++ q.2 := by
  obtain ⟨h1, h2⟩ := h
  have hl : l.length = parts.length := by
    rw [← hn, ← h1]; simp [strValues]
  apply List.ext_getElem
  · simpa using hl
  · intro j a1 a2
    simp only [List.length_map] at a1 a2
    have h3 : (strValues l).toArray[j]? = some (.str l[j].1 l[j].2) := by simp [strValues, a1]
    obtain ⟨t, e⟩ := h2 j _ h3
    have e1 := (Value.str.inj e).1
    have e2 : parts.getD j default = parts[j] := by rw [List.getD_eq_getElem?_getD, List.getElem?_eq_getElem a2]; rfl
    rw [e2] at e1
    simp only [List.getElem_map]
    exact e1
theorem accstr_ok {w : World} {A A₀ : Around} {env : Env} {outer : List Env} {base h₀ : Heap} {L : Addr} {m : Str → Option Value} {news : List (Addr × Obj)} {s : Shared}
    {p : Program} {loose : List Str} {mean : ExcName → Option Value} {mg mb : Str → Option Value}
    {a da : Addr} {items : List Value} {n : Nat} {ps : Array Value} {parts : List (Str × Str)} {Q E : Value → Shared → Prop}
    (B : Below A₀ base outer h₀) (F : Fr h₀ L s.heap m) (X : (hd.heap_39 w.params).In h₀) (N : News h₀ L s.heap ((189, tabObj ps) :: (a, accObj da items n) :: news)) (T : Top p loose mean mg mb h₀)
    (hA : A.frames = some (env :: outer)) (hf : env.frame = some L) (hke : env.scope.kind = .function)
    (hH : A.handled = none) (hroom : A.depth + 1 < recursionLimit) (G : AllBare s.gens)
    (hps : TabOk ⟨142, 32, 142, 85⟩ ps) (hPa : ∀ q ∈ (a, accObj da items n) :: news, q.1 ≠ 189) (hparts : Parts news items parts)
    (hfit : ∀ q ∈ parts, q.1.length < 2 ^ 10 ∧ q.2.length < 2 ^ 10) (hmany : parts.length < 1000)
    (ret : ∀ h' tk' gs' ps' t', Fr h₀ L h' m → News h₀ L h' ((189, tabObj ps') :: (a, accObj da items n) :: news) → TabOk ⟨142, 32, 142, 85⟩ ps' → AllBare gs' → Q (.str (ptext parts) t') { s with heap := h', toks := tk', gens := gs' }) :
    wpAny (model Challenge.rw_nb0237_01.row.prog w) A (call (.ref 194) [.ref a]) Q E s := by
  revert X; k_fill; intro X
  refine wpAny_call ?_
  refine code_def (binds := [(Str.ofString "self", .ref a)]) B F X N T hA hf hke (by k_is) (by k_is) (by (first | exact om31 hroom | omega)) (BindsTo.of_eq rfl) (locs rfl) ?_ rfl rfl rfl (by decide)
  intro g' L' h' FG' F' N' B' X' T'
  try dsimp only
  walk_at "my go"
  refine gen_acc (c := 193) (P := 189) (parts := parts) (Fy := fun i y => ∃ t, y = .str ((parts.getD i default).1 ++ (parts.getD i default).2) t) hH (by show A.depth + 1 < recursionLimit; exact hroom) F' N' X' T' G hps hPa hparts ?_ (by k_is) (by k_is) rfl ?_ rfl rfl ?_ (by decide) rfl rfl rfl (by decide) rfl ?_ ?_ ?_
  · intro Q' hQ'
    exact ld F' rfl hQ'
  · intro h qs Xh hP htr
    have hc := Xh 193 _ (by k_is)
    exact ⟨⟨_, _, _, _, _, _, _, _, _, _, hc, rfl, rfl, rfl, rfl, rfl, rfl, hP, rfl, htr, by decide⟩, ⟨⟨_, _, hc, rfl, rfl, rfl⟩, hP⟩⟩
  · rfl
  · intro C I code href Pt fp hC hkp hPt
    refine str_elt rfl rfl rfl rfl rfl (by decide) (by decide) rfl T' (mg_of X' T'.g (by k_is)) hkp hPt fun q hq => ⟨Nat.lt_trans (hfit q hq).1 (by decide), Nat.lt_trans (hfit q hq).2 (by decide)⟩
  · intro g h1 tk1 gs ps' F1 N1 hps' G1 GP
    dsimp only
    walk_at "my go"
    obtain ⟨⟨fp, wr, q, St, W, hst, hfp, hwr, hTg, hgf⟩⟩ := GP
    refine SC.joinGen W.in4_2 hTg hst hfp hgf (fun i v hv => by obtain ⟨t, e⟩ := hv; exact ⟨_, _, e⟩) (fun s' l hm hit => ?_) (by rw [sizeLine_eq, hparts.length]; (first | exact om65 hmany | omega))
    rw [items_text hparts.length hit]
    refine ⟨?_, fun t' k => ?_⟩
    · refine joinOk_of ?_
      have h9 : (Str.ofString "").length = 0 := by decide
      rw [h9, Nat.mul_zero, Nat.add_zero]
      have h8 := StrLaws.sumLen_le (B := 2048) (parts.map fun q => q.1 ++ q.2) (fun y hy => by
        obtain ⟨q, hq, rfl⟩ := List.mem_map.mp hy
        rw [Str.length_append]
        have := hfit q hq
        (first | exact om90 this | omega))
      rw [List.length_map] at h8
      omega
    have hlow : ∀ q ∈ (189, tabObj ps) :: (a, accObj da items n) :: news, q.1 < h'.objs.size := fun q hq => Heap.lt_size (N' q hq).1
    have hL : L' < h'.objs.size := F'.ns.lt
    have F2 : Fr g' L' s'.heap _ := ⟨F1.ns.at' fun o e => hm.heap L' o (fun hb => Nat.lt_irrefl _ (Nat.lt_of_lt_of_le hL (hwr _ hb))) e, fun b o e => hm.heap b o (fun hb => Nat.lt_irrefl _ (Nat.lt_of_lt_of_le (Nat.lt_of_lt_of_le (Heap.lt_size e) (Nat.le_trans F'.above (Nat.le_of_lt hL))) (hwr _ hb))) (F1.keep b o e), F1.above⟩
    have N2 : News g' L' s'.heap ((189, tabObj ps') :: (a, accObj da items n) :: news) := by
      intro q hq
      refine ⟨hm.heap _ _ (fun hb => ?_) (N1 q hq).1, (N1 q hq).2⟩
      have h3 : q.1 < h'.objs.size := by
        rcases List.mem_cons.mp hq with rfl | hq
        · exact hlow (189, tabObj ps) (.head _)
        · exact hlow _ (.tail _ hq)
      exact Nat.lt_irrefl _ (Nat.lt_of_lt_of_le h3 (hwr _ hb))
    have G2 : AllBare s'.gens := G1.moved hm.gens
    obtain ⟨hp, gg, d, tt, oo⟩ := s'
    have e1 : d = s.drawn := hm.drawn
    have e2 : oo = s.os := hm.os
    subst e1 e2
    walk_at "my go"
    rename Fr h₀ L _ _ => F8
    rename News h₀ L _ _ => N8
    exact ret hp k gg ps' t' F8 N8 hps' G2
  · intro _; rfl
end
section
-- C0
theorem fresh_C0 : True := by
  w_top off
  trivial
set_option maxHeartbeats 400000
theorem sl_mdget : Slot "method_descriptor" "__get__" "method_descriptor.__get__" :=
  .of (owner := "method_descriptor") (n := "__get__") (by rw [typeLookup_type, builtinLookup_eq_fast]; kernel_rfl) (by decide +kernel) (by decide +kernel) (by decide +kernel)
    (by first | exact .inl (by decide +kernel) | exact .inr (by decide +kernel)) (by rw [isSubtype_type]; kernel_rfl)
theorem en_mdget : entryFor table "method_descriptor.__get__" = some Builtin.«method_descriptor.__get__» := entryFor_of_tree (by kernel_rfl)
theorem ar_mdget (a b c : Value) : argsOk "method_descriptor.__get__" ⟨[a, b, c], []⟩ := by unfold argsOk; kernel_rfl
theorem sl_wdget : Slot "wrapper_descriptor" "__get__" "wrapper_descriptor.__get__" :=
  .of (owner := "wrapper_descriptor") (n := "__get__") (by rw [typeLookup_type, builtinLookup_eq_fast]; kernel_rfl) (by decide +kernel) (by decide +kernel) (by decide +kernel)
    (by first | exact .inl (by decide +kernel) | exact .inr (by decide +kernel)) (by rw [isSubtype_type]; kernel_rfl)
theorem en_wdget : entryFor table "wrapper_descriptor.__get__" = some Builtin.«wrapper_descriptor.__get__» := entryFor_of_tree (by kernel_rfl)
theorem ar_wdget (a b c : Value) : argsOk "wrapper_descriptor.__get__" ⟨[a, b, c], []⟩ := by unfold argsOk; kernel_rfl
theorem ty_pop : typeOf (.builtin "list.pop") = pure (.type "method_descriptor") := by show builtinType _ = _; rw [builtinType_eq_fast]; kernel_rfl
theorem ty_len : typeOf (.builtin "list.__len__") = pure (.type "wrapper_descriptor") := by show builtinType _ = _; rw [builtinType_eq_fast]; kernel_rfl
theorem ty_init : typeOf (.builtin "list.__init__") = pure (.type "wrapper_descriptor") := by show builtinType _ = _; rw [builtinType_eq_fast]; kernel_rfl
noncomputable abbrev bfObj (id : String) (a : Addr) : Obj := { cls := .type "builtin_function_or_method", data := .fields #[.builtin id, .ref a] }
noncomputable abbrev mwObj (id : String) (a : Addr) : Obj := { cls := .type "method-wrapper", data := .fields #[.builtin id, .ref a] }
section
variable {prog : Program} {w : World} {A : Around} {E : Value → Shared → Prop} {s : Shared} {K : Frag} {a da : Addr} {items : List Value} {n : Nat} {Q : Fin → Shared → Prop}
theorem md_pop (hi : Looks (model prog w) s.heap (isInstance (.ref a) (.type "list")) true) (h : Q (.done (.ret (.ref s.heap.objs.size))) { s with heap := s.heap.push (bfObj "list.pop" a) }) :
    wpAny (model prog w) A (Builtin.«method_descriptor.__get__» ⟨[.builtin "list.pop", .ref a, .ref 220], []⟩) Q E s := by
  unfold Builtin.«method_descriptor.__get__»
  refine wpAny_bind (wpAny_of_eq (a := (Value.builtin "list.pop", some (.ref a), some (.ref 220))) rfl ?_)
  dsimp only
  rw [if_neg (by decide +kernel)]
  refine wpAny_bind (wpAny_bind (wpAny_of_eq (a := (Str.ofString "pop", Value.type "list")) (by kernel_rfl) (wpAny_bind (hi.here ?_))))
  exact wpAny_pure (wpAny_bind (wpAny_newObj_type (wpAny_pure h)))
theorem wd_len (hi : Looks (model prog w) s.heap (isInstance (.ref a) (.type "list")) true) (h : Q (.done (.ret (.ref s.heap.objs.size))) { s with heap := s.heap.push (mwObj "list.__len__" a) }) :
    wpAny (model prog w) A (Builtin.«wrapper_descriptor.__get__» ⟨[.builtin "list.__len__", .ref a, .ref 220], []⟩) Q E s := by
  unfold Builtin.«wrapper_descriptor.__get__»
  refine wpAny_bind (wpAny_of_eq (a := (Value.builtin "list.__len__", some (.ref a), some (.ref 220))) rfl ?_)
  dsimp only
  refine wpAny_bind (wpAny_bind (wpAny_of_eq (a := (Str.ofString "__len__", Value.type "list")) (by kernel_rfl) (wpAny_bind (hi.here ?_))))
  exact wpAny_pure (wpAny_bind (wpAny_newObj_type (wpAny_pure h)))
theorem wd_init (hi : Looks (model prog w) s.heap (isInstance (.ref a) (.type "list")) true) (h : Q (.done (.ret (.ref s.heap.objs.size))) { s with heap := s.heap.push (mwObj "list.__init__" a) }) :
    wpAny (model prog w) A (Builtin.«wrapper_descriptor.__get__» ⟨[.builtin "list.__init__", .ref a, .ref 220], []⟩) Q E s := by
  unfold Builtin.«wrapper_descriptor.__get__»
  refine wpAny_bind (wpAny_of_eq (a := (Value.builtin "list.__init__", some (.ref a), some (.ref 220))) rfl ?_)
  dsimp only
  refine wpAny_bind (wpAny_bind (wpAny_of_eq (a := (Str.ofString "__init__", Value.type "list")) (by kernel_rfl) (wpAny_bind (hi.here ?_))))
  exact wpAny_pure (wpAny_bind (wpAny_newObj_type (wpAny_pure h)))
end
end
section
-- C1
theorem fresh_C1 : True := by
  w_top off
  trivial
set_option maxHeartbeats 400000
section
variable {prog : Program} {w : World} {A : Around} {E : Value → Shared → Prop} {h : Heap} {g : Array GenState} {d : Drawn} {t : Nat} {os : OsState} {K : Frag}
theorem sup_ga {so a : Addr} {l₀ l : List Value} {name : Str} {tk : Tok} {id D gid : String} {B : Builtin} {bo : Obj} {Q : Fin → Shared → Prop}
    (hso : h.get? so = some (ks_superObj 220 a 220)) (hno : Looks (model prog w) h (opaqueClassAbove (.ref 220)) none)
    (hC : Looks (model prog w) h (mroOf (.ref 220)) l₀) (hl : (l₀.dropWhile (· != .ref 220)).drop 1 = l) (X : K.In h)
    (hf : alongIn K name l = some (some (.builtin id))) (hxC : a ≠ 220) (hn : (name == ("__class__" : Str)) = false)
    (ty : typeOf (.builtin id) = pure (.type D)) (sl : Slot D "__get__" gid) (en : entryFor table gid = some B) (ar : argsOk gid ⟨[.builtin id, .ref a, .ref 220], []⟩)
    (hB : ∀ (A' : Around) (Q' : Fin → Shared → Prop), Q' (.done (.ret (.ref h.objs.size))) ⟨h.push bo, g, d, t, os⟩ → wpAny (model prog w) A' (B ⟨[.builtin id, .ref a, .ref 220], []⟩) Q' (fun _ _ => False) ⟨h, g, d, t, os⟩)
    (hq : Q (.done (.ret (.ref h.objs.size))) ⟨h.push bo, g, d, t, os⟩) :
    wpAny (model prog w) A (Builtin.«super.__getattribute__» ⟨[.ref so, .str name tk], []⟩) Q (fun _ _ => False) ⟨h, g, d, t, os⟩ := by
  have hlk := sl.lookup
  have hne : (Value.ref a == Value.ref 220) = false := by simp [hxC]
  have hTf : (⟨h, g, d, t, os⟩ : Shared).TypeIs (.builtin id) D := ty
  have hdt : (ks_superObj 220 a 220).data = .fields #[.ref 220, .ref a, .ref 220] := rfl
  have f0 : (#[.ref 220, .ref a, .ref 220] : Array Value)[0]? = some (.ref 220) := rfl
  have f1 : (#[.ref 220, .ref a, .ref 220] : Array Value)[1]? = some (.ref a) := rfl
  have f2 : (#[.ref 220, .ref a, .ref 220] : Array Value)[2]? = some (.ref 220) := rfl
  unfold Builtin.«super.__getattribute__»
  repeat (first
    | (with_reducible refine wpAny_field hso hdt f0 ?_) | (with_reducible refine wpAny_field hso hdt f1 ?_) | (with_reducible refine wpAny_field hso hdt f2 ?_)
    | (with_reducible refine ks_wpAny_notOpaque hno ?_)
    | (with_reducible refine Looks.at hC ?_; rw [hl])
    | (refine ks_forIn_along X (fun _ _ => rfl) rfl ?_ hf)
    | (with_reducible refine wpAny_typeOf hTf ?_)
    | (with_reducible refine wpAny_call_entry sl hTf en ?_ ar)
    | (with_reducible refine hB _ _ ?_)
    | (with_reducible refine ⟨_, rfl, ?_⟩)
    | (simp only [hn, hne, Bool.or_false, Bool.false_eq_true, if_false])
    | wp_step
    | dsimp only)
  all_goals exact hq
theorem sup_method {so a : Addr} {l₀ l : List Value} {name : Str} {pl : Sem Bool} {id D gid : String} {B : Builtin} {bo : Obj} {Q : Value × List Value → Shared → Prop}
    (hso : h.get? so = some (ks_superObj 220 a 220)) (hno : Looks (model prog w) h (opaqueClassAbove (.ref 220)) none)
    (hC : Looks (model prog w) h (mroOf (.ref 220)) l₀) (hl : (l₀.dropWhile (· != .ref 220)).drop 1 = l) (X : K.In h)
    (hf : alongIn K name l = some (some (.builtin id))) (hxC : a ≠ 220) (hn : (name == ("__class__" : Str)) = false)
    (ty : typeOf (.builtin id) = pure (.type D)) (sl : Slot D "__get__" gid) (en : entryFor table gid = some B) (ar : argsOk gid ⟨[.builtin id, .ref a, .ref 220], []⟩)
    (hB : ∀ (A' : Around) (Q' : Fin → Shared → Prop), Q' (.done (.ret (.ref h.objs.size))) ⟨h.push bo, g, d, t + 1, os⟩ → wpAny (model prog w) A' (B ⟨[.builtin id, .ref a, .ref 220], []⟩) Q' (fun _ _ => False) ⟨h, g, d, t + 1, os⟩)
    (hq : Q (.ref h.objs.size, []) ⟨h.push bo, g, d, t + 1, os⟩) :
    wpAny (model prog w) A (getMethod (.ref so) name pl) Q E ⟨h, g, d, t, os⟩ := by
  have hlk := PySem.F.ks_slot_super_ga.lookup
  have hcan := PySem.F.ks_canon_super_ga
  have hT : ∀ t', (⟨h, g, d, t', os⟩ : Shared).TypeIs (.ref so) "super" := fun _ => ⟨_, hso, rfl⟩
  unfold getMethod
  refine wpAny_bind (wpAny_specialOf (hT _) hlk ?_)
  show wpAny _ _ (if (Manifest.canonical "super.__getattribute__" != "object.__getattribute__") = true then _ else _) _ _ _
  rw [if_pos hcan]
  unfold getAttr getAttrBy
  refine wpAny_bind (wpAny_bind (wpAny_mkText (wpAny_holding (wpAny_bind (wpAny_typeOf (hT _) (wpAny_bind (wpAny_of_eq hlk ?_)))))))
  show wpAny _ _ (getAttrByItsOwn (.ref so) (.str name t) (.type "super") (.builtin "super.__getattribute__") true false) _ _ _
  unfold getAttrByItsOwn hookBefore callGetattribute boundAndCalled
  refine wpAny_bind (wpAny_of_eq (show (if onTheHeap (.type "super") then typeLookup (.type "super") "__getattr__" else pure none) = pure none from rfl) ?_)
  refine wpAny_bind (wpAny_attempt (wpAny_holding ?_))
  show wpAny _ _ (bindSpecial (.builtin "super.__getattribute__") (.ref so) >>= _) _ _ _
  refine wpAny_bind (wpAny_of_eq (PySem.F.ks_slot_super_ga.bind _) ?_)
  refine wpAny_mono (Q := fun v s' => v = .ref h.objs.size ∧ s' = ⟨h.push bo, g, d, t + 1, os⟩) (E := fun _ _ => False)
    (wpAny_call_entry PySem.F.ks_slot_super_ga (hT _) PySem.F.ks_entry_super_ga (sup_ga hso hno hC hl X hf hxC hn ty sl en ar hB ⟨_, rfl, rfl, rfl⟩) (PySem.F.ks_gaArgs_super _ _)) (fun v s' hv => ?_) fun _ _ z => z.elim
  obtain ⟨rfl, rfl⟩ := hv
  exact wpAny_pure (wpAny_pure hq)
end
end
section
-- C2
theorem fresh_C2 : True := by
  w_top off
  trivial
set_option maxHeartbeats 400000
section
variable {prog : Program} {w : World} {A : Around} {E : Value → Shared → Prop} {s : Shared} {K : Frag} {a da b : Addr} {items : List Value} {n : Nat} {Q : Value → Shared → Prop}
theorem keeps_mw {M : Model} {id : String} (h : Heap) (X : h.get? b = some (mwObj id a)) : ∃ k, (k = Keeper.frame ∨ k = Keeper.machine ∨ k = Keeper.boundFrame) ∧ Looks M h (keeperOf (.ref b)) k :=
  ⟨.machine, .inr (.inl rfl), by
    intro A Q E s k q
    unfold keeperOf
    refine wpAny_bind (wpAny_load (k _ _ X) ?_)
    exact wpAny_pure q⟩
theorem keeps_bf {M : Model} {id : String} (h : Heap) (X : h.get? b = some (bfObj id a)) : ∃ k, (k = Keeper.frame ∨ k = Keeper.machine ∨ k = Keeper.boundFrame) ∧ Looks M h (keeperOf (.ref b)) k :=
  ⟨.machine, .inr (.inl rfl), by
    intro A Q E s k q
    unfold keeperOf
    refine wpAny_bind (wpAny_load (k _ _ X) ?_)
    exact wpAny_pure q⟩
/-- a method-wrapper is called: the slot is run on its object -/
theorem mw_call {id : String} {B : Builtin} {rest : List Value} (hb : s.heap.get? b = some (mwObj id a)) (hk : builtinKind id = some .slot) (hp : plainId id = true) (en : entryFor table id = some B) (ar : argsOk id ⟨.ref a :: rest, []⟩)
    (hc : wpAny (model prog w) A.in1 (B ⟨.ref a :: rest, []⟩) (fun fin s' => ∃ v, fin = .done (.ret v) ∧ Q v s') E s) : wpAny (model prog w) A (call (.ref b) rest) Q E s := by
  refine wpAny_call (codeAny_of_tree ?_)
  show wpAny _ A.in1 (callAny (.ref b) ⟨rest, []⟩) _ _ _
  unfold callAny
  refine wpAny_bind (wpAny_load hb ?_)
  show wpAny _ A.in1 (checkBoundCall id ⟨.ref a :: rest, []⟩ >>= fun _ => again (.builtin id ⟨.ref a :: rest, []⟩)) _ _ _
  have hcb : checkBoundCall id ⟨.ref a :: rest, []⟩ = pure () := by
    unfold checkBoundCall
    cases hsig : Manifest.signature? id with
    | none => rfl
    | some sig =>
      simp only [argsOk, hsig] at ar
      have h2 : Bind.checkArgs id sig ⟨.ref a :: rest, []⟩ = pure () := ar
      simp only [hk]
      rw [if_pos (by decide)]
      exact h2
  rw [hcb]
  refine wpAny_bind (wpAny_pure (wpAny_pure ⟨plainId_quiet hp _, codeAny_builtin en ?_⟩))
  rw [Around.under_plainId hp _]
  refine wpAny_mono hc (fun fin s' h' => ?_) fun _ _ h' => h'
  obtain ⟨v, rfl, hv⟩ := h'; exact hv
noncomputable abbrev popFull : String := toString (Str.ofString "_Accumulator").toString ++ toString "." ++ toString (Bind.lastOf "list.pop")
theorem pop_sig (v : Value) : (match Manifest.signature? "list.pop" with | none => pure () | some sig => Bind.checkArgs "list.pop" { sig with full := popFull } ⟨[v], []⟩) = pure () := by
  rw [PySem.signature?_of (id := "list.pop") (n := ['p', 'o', 'p']) (o := ['t', 's', 'i', 'l']) (by kernel_rfl) PySem.F.owner_list]; kernel_rfl
theorem isType_acc {M : Model} {h : Heap} (ha : h.get? a = some (accObj da items n)) : Looks M h (isType (.ref a)) false := by
  intro A Q E s k q
  unfold isType loadHead
  exact wpAny_bind (wpAny_loadPart (k _ _ ha) (wpAny_pure q))
/-- list.pop bound to an accumulator -/
theorem bf_pop {rest : List Value} {cd : ClassData} (hb : s.heap.get? b = some (bfObj "list.pop" a)) (X : K.In s.heap) (hcl : clsIn K 220 = some cd) (hq : cd.qualname = Str.ofString "_Accumulator") (hty : typeIn K (.ref 220) = some (.type "type")) (hmod : mroIn K 220 (.type "module") = some false)
    (ha : s.heap.get? a = some (accObj da items n))
    (hc : wpAny (model prog w) A.in1 (Builtin.«list.pop» ⟨[.ref a], []⟩) (fun fin s' => ∃ v, fin = .done (.ret v) ∧ Q v s') E s) : wpAny (model prog w) A (call (.ref b) []) Q E s := by
  have hp : plainId "list.pop" = true := by decide +kernel
  refine wpAny_call (codeAny_of_tree ?_)
  show wpAny _ A.in1 (callAny (.ref b) ⟨[], []⟩) _ _ _
  unfold callAny
  refine wpAny_bind (wpAny_load hb ?_)
  show wpAny _ A.in1 (checkBoundCall "list.pop" ⟨[.ref a], []⟩ >>= fun _ => again (.builtin "list.pop" ⟨[.ref a], []⟩)) _ _ _
  have fin : wpAny (model prog w) A.in1 (again (.builtin "list.pop" ⟨[.ref a], []⟩)) (fun fin s' => match fin with | .done f => wants Q E (.ok f) s' | .again c' => c'.quiet = true ∧ codeAny (model prog w) A c' (wants Q E) s') (fun e s' => E e s') s := by
    refine wpAny_pure ⟨plainId_quiet hp _, codeAny_builtin PySem.F.entry_list_pop ?_⟩
    rw [Around.under_plainId hp _]
    refine wpAny_mono hc (fun fin s' h' => ?_) fun _ _ h' => h'
    obtain ⟨v, rfl, hv⟩ := h'; exact hv
  refine wpAny_bind ?_
  unfold checkBoundCall
  have hsig := pop_sig (.ref a)
  cases hs : Manifest.signature? "list.pop" with
  | none => exact wpAny_pure fin
  | some sig =>
    rw [hs] at hsig
    dsimp only at hsig ⊢
    have hkd : builtinKind "list.pop" = some .method := by decide +kernel
    rw [hkd]
    dsimp only
    rw [if_neg (by decide)]
    have hnm : Looks (model prog w) s.heap (isInstance (.ref a) (.type "module")) false := (acc_type ha).andThen (looks_mroIn X hmod)
    refine wpAny_bind (hnm.here ?_)
    rw [if_neg (by decide +kernel)]
    refine wpAny_bind ((isType_acc ha).here ?_)
    rw [if_neg (by decide)]
    refine wpAny_bind ((acc_type ha).here ?_)
    dsimp only
    refine wpAny_bind ((looks_clsIn X hcl).here ?_)
    refine wpAny_bind ((looks_typeIn X hty).here ?_)
    rw [if_pos (by decide), hq]
    rw [hsig]
    exact wpAny_pure fin
end
end
section
-- C3
theorem fresh_C3 : True := by
  w_top off
  trivial
set_option maxHeartbeats 1000000
section
variable {prog : Program} {w : World} {A : Around} {E : Value → Shared → Prop} {s : Shared} {K : Frag} {h₀ : Heap} {L a so da : Addr} {m : Str → Option Value} {items : List Value} {n : Nat} {news : List (Addr × Obj)}
/-- super().name of an accumulator, name a builtin of list's: the bound builtin, a new object -/
theorem acc_super {name : Str} {pl : Sem Bool} {id D gid : String} {B : Builtin} {bo : Obj} {Q : Value × List Value → Shared → Prop} (F : Fr h₀ L s.heap m) (X₀ : K.In h₀) (N : News h₀ L s.heap news) (hso : (so, ks_superObj 220 a 220) ∈ news) (ha : (a, accObj da items n) ∈ news)
    (ho : nsIn K cStatics "thirdparty.any" = some none) (hm : ks_superIn K 220 220 name = some (some (.builtin id))) (hn : (name == ("__class__" : Str)) = false) (hmro : mroIn K 220 (.type "list") = some true)
    (ty : typeOf (.builtin id) = pure (.type D)) (sl : Slot D "__get__" gid) (en : entryFor table gid = some B) (ar : argsOk gid ⟨[.builtin id, .ref a, .ref 220], []⟩) (hfr : bo.isFreed = false)
    (hB : ∀ (A' : Around) (Q' : Fin → Shared → Prop) (s' : Shared), Looks (model prog w) s'.heap (isInstance (.ref a) (.type "list")) true → Q' (.done (.ret (.ref s'.heap.objs.size))) { s' with heap := s'.heap.push bo } → wpAny (model prog w) A' (B ⟨[.builtin id, .ref a, .ref 220], []⟩) Q' (fun _ _ => False) s')
    (h : ∀ q h', Fr h₀ L h' m → News h₀ L h' ((q, bo) :: news) → (∀ p ∈ news, p.1 < q) → Q (.ref q, []) { s with heap := h', toks := s.toks + 1 }) : wpAny (model prog w) A (getMethod (.ref so) name pl) Q E s := by
  have X : K.In s.heap := X₀.keeps F.keep
  have hai := acc_inst (M := model prog w) X hmro (N _ ha).1
  have F1 := F.push bo
  have N1 := N.push F bo hfr
  have lt : ∀ p ∈ news, p.1 < s.heap.objs.size := fun p hp => Heap.lt_size (N p hp).1
  obtain ⟨hh, g, d, t, os⟩ := s
  cases hc : clsIn K 220 with
  | none => unfold ks_superIn at hm; rw [hc] at hm; cases hm
  | some cd =>
    have I : W.InstAt hh a (accObj da items n) 220 (some (accObj da items n)) ∨ True := .inr trivial
    have hne : a ≠ 220 := by
      rintro rfl
      unfold clsIn at hc
      split at hc
      · rename_i ho'
        have e := X _ _ ho'
        have e2 := (N _ ha).1
        have e3 := e2.symm.trans e
        cases e3
      · cases hc
    unfold ks_superIn at hm
    rw [hc] at hm
    refine sup_method (l₀ := cd.mro) (bo := bo) (N _ hso).1 (looks_opaque X ho) (fun A Q E s k q => wpAny_bind ((looks_clsIn X hc) A _ E s k (wpAny_pure q))) rfl X hm hne hn ty sl en ar (fun A' Q' hq' => hB A' Q' ⟨hh, g, d, t + 1, os⟩ hai hq') ?_
    exact h _ _ F1 N1 lt
end
theorem partcount_ok {w : World} {A A₀ : Around} {env : Env} {outer : List Env} {base h₀ : Heap} {L : Addr} {m : Str → Option Value} {news : List (Addr × Obj)} {s : Shared}
    {p : Program} {loose : List Str} {mean : ExcName → Option Value} {mg mb : Str → Option Value}
    {a da : Addr} {items : List Value} {n : Nat} {od : Obj} {Q E : Value → Shared → Prop}
    (B : Below A₀ base outer h₀) (F : Fr h₀ L s.heap m) (X : (hd.heap_39 w.params).In h₀) (N : News h₀ L s.heap ((a, accObj da items n) :: news)) (T : Top p loose mean mg mb h₀)
    (hA : A.frames = some (env :: outer)) (hf : env.frame = some L) (hke : env.scope.kind = .function)
    (hroom : A.depth + 1 < recursionLimit) (hdd : (da, od) ∈ news)
    (ret : ∀ h' tk' t', Fr h₀ L h' m → News h₀ L h' ((a, accObj da items n) :: news) → Q (.int items.length t') { s with heap := h', toks := tk' }) :
    wpAny (model Challenge.rw_nb0237_01.row.prog w) A (call (.ref 217) [.ref a]) Q E s := by
  revert X; k_fill; intro X
  refine wpAny_call ?_
  refine ks_code_super (binds := [(Str.ofString "self", .ref a)]) B F X N T hA hf hke (by k_is) (by k_is) (by (first | exact om31 hroom | omega)) (BindsTo.of_eq rfl) (locs rfl) ?_ (by decide) rfl rfl rfl
  intro g' L' h' FG' F' N' B' X' T' l1
  try dsimp only
  iterate 3 walk1
  refine ks_node F' X' N' T' (by k_is) (by rfl) (by rfl) (InstAt.of_acc N' (.head _) (.tail _ hdd)) (by k_is) (by rfl) (by first | rfl | decide +kernel) (by k_is) (by k_is) (by k_is) (by k_is) (by decide) (by rfl) (by rfl) (by rfl) (by rfl) (by decide +kernel) (by first | boot_by_name | rfl | kernel_rfl) ?_
  intro so h1 F1 N1 l2
  refine acc_super F1 X' N1 (.head _) (.tail _ (.head _)) (by k_is) (by ks_is) (by decide) (by k_is) ty_len sl_wdget en_wdget (ar_wdget _ _ _) rfl (fun A' Q' s' hi hq => wd_len hi hq) ?_
  intro q h2 F2 N2 l3
  dsimp only
  refine callWith_of (P := fun h => h.get? q = some (mwObj "list.__len__" a)) rfl keeps_mw (evalArgs_nil3 ⟨(N2 _ (.head _)).1, ?_⟩)
  refine mw_call (rest := []) (N2 _ (.head _)).1 (by decide +kernel) (by decide +kernel) PySem.F.entry_list_len (PySem.F.args_list_len_1 _) ?_
  have ha2 := (N2 _ (.tail _ (.tail _ (.head _)))).1
  unfold Builtin.«list.__len__»
  refine wpAny_bind (wpAny_of_eq (a := (Value.ref a, [])) rfl ?_)
  dsimp only
  refine wpAny_bind ?_
  unfold seqSize
  refine wpAny_bind (wpAny_loadPart ha2 ?_)
  dsimp only
  refine wpAny_pure (wpAny_bind (wpAny_mkInt (wpAny_pure ⟨_, rfl, ?_⟩)))
  walk_at "my go"
  rename Fr h₀ L _ _ => F8
  rename News h₀ L _ _ => N8
  have e : (items.toArray.size : Int) = (items.length : Int) := by simp
  rw [e]
  exact ret _ _ _ F8 (fun q hq => N8 q (.tail _ (.tail _ hq)))
end
section
-- C4
theorem fresh_C4 : True := by
  w_top off
  trivial
set_option maxHeartbeats 1000000
section
open AutoSeq1 (wpAny_loadPart')
variable {prog : Program} {w : World} {A : Around} {E : Value → Shared → Prop} {s : Shared} {a da : Addr} {items : List Value} {v : Value} {n : Nat} {Q : Fin → Shared → Prop}
theorem pop_body (hl : s.heap.get? a = some (accObj da (items ++ [v]) n)) (hz : items.length < 1000)
    (h : Q (.done (.ret v)) { s with heap := s.heap.update a (Obj.mapSeq fun xs => xs.eraseIdxIfInBounds items.length) }) : wpAny (model prog w) A (Builtin.«list.pop» ⟨[.ref a], []⟩) Q E s := by
  obtain ⟨hp, g, d, tk, os⟩ := s
  have hsz : (items ++ [v]).toArray.size = items.length + 1 := by simp
  have hne : (items ++ [v]).toArray.isEmpty = false := by simp
  have hix : (seqIndex? (-1) (items ++ [v]).toArray.size).bind (fun k => (items ++ [v]).toArray[k]?.map (k, ·)) = some (items.length, v) := by
    rw [hsz]
    have : seqIndex? (-1) (items.length + 1) = some items.length := by
      unfold seqIndex?
      simp
      omega
    rw [this]
    simp
  unfold Builtin.«list.pop»
  wp_walk using wpAny_loadPart' hl
  rw [hix]
  show wpAny _ _ (updateSeq a (fun x => x.eraseIdxIfInBounds items.length) >>= fun _ => ret v) _ _ _
  refine wpAny_bind (wpAny_updateSeq hl rfl (wpAny_pure h) ?_ ?_)
  · rw [hsz, sizeLine_eq]; (first | exact om91 hz | omega)
  · rw [kl_erase (q := []), List.append_nil, sizeLine_eq, List.size_toArray]
    (first | exact om92 hz | omega)
end
theorem pop_ok {w : World} {A A₀ : Around} {env : Env} {outer : List Env} {base h₀ : Heap} {L : Addr} {m : Str → Option Value} {news : List (Addr × Obj)} {s : Shared}
    {p : Program} {loose : List Str} {mean : ExcName → Option Value} {mg mb : Str → Option Value}
    {a da : Addr} {items : List Value} {v : Value} {n k : Nat} {z : Int} {t tz : Tok} {hs : Int} {Q E : Value → Shared → Prop}
    (B : Below A₀ base outer h₀) (F : Fr h₀ L s.heap m) (X : (hd.heap_39 w.params).In h₀) (N : News h₀ L s.heap ((a, accObj da (items ++ [v]) n) :: news)) (T : Top p loose mean mg mb h₀)
    (hA : A.frames = some (env :: outer)) (hf : env.frame = some L) (hke : env.scope.kind = .function)
    (hroom : A.depth + 2 < recursionLimit) (hdd : (da, accDict hs t z tz k) ∈ news) (hw : ∀ q ∈ news, q.1 ≠ a) (hz : items.length < 900)
    (ret : ∀ h' tk', Fr h₀ L h' m → News h₀ L h' ((a, accObj da items (n + 1)) :: news) → Q v { s with heap := h', toks := tk' }) :
    wpAny (model Challenge.rw_nb0237_01.row.prog w) A (call (.ref 180) [.ref a]) Q E s := by
  revert X; k_fill; intro X
  refine wpAny_call ?_
  refine ks_code_super (binds := [(Str.ofString "self", .ref a)]) B F X N T hA hf hke (by k_is) (by k_is) (by (first | exact om71 hroom | omega)) (BindsTo.of_eq rfl) (locs rfl) ?_ (by decide) rfl rfl rfl
  intro g' L' h' FG' F' N' B' X' T' l1
  try dsimp only
  iterate 6 walk1
  refine acc_method (X'.keeps F'.keep) (InstAt.of_acc N' (.head _) (.tail _ hdd)) (by k_is) (by k_is) (by k_is) (looks_typeIn (X'.keeps F'.keep) (by k_is)) (.inl rfl) rfl ?_
  walk1
  refine partcount_ok B' F' X' N' T' (by show A.frames.map _ = _; rw [hA]; rfl) rfl rfl (by show A.depth + 1 + 1 < recursionLimit; exact hroom) hdd ?_
  intro h2 tk2 t2 F2 N2
  iterate 3 walk1
  walk1
  · rename ((List.length _ : Nat) : Int) = 0 => h0
    exfalso
    rw [List.length_append] at h0
    simp at h0
    omega
  iterate 3 walk1
  dsimp only
  refine ks_wpAt_execs_cons (ks_wpAt_Return_some (ks_wpAt_MethodCall ?_))
  refine ks_node F2 X' N2 T' (by k_is) (by rfl) (by rfl) (InstAt.of_acc N2 (.head _) (.tail _ hdd)) (by k_is) (by rfl) (by first | rfl | decide +kernel) (by k_is) (by k_is) (by k_is) (by k_is) (by decide) (by rfl) (by rfl) (by rfl) (by rfl) (by decide +kernel) (by first | boot_by_name | rfl | kernel_rfl) ?_
  intro so h3 F3 N3 l3
  refine acc_super F3 X' N3 (.head _) (.tail _ (.head _)) (by k_is) (by ks_is) (by decide) (by k_is) ty_pop sl_mdget en_mdget (ar_mdget _ _ _) rfl (fun A' Q' s' hi hq => md_pop hi hq) ?_
  intro q h4 F4 N4 l4
  dsimp only
  refine callWith_of (P := fun h => h.get? q = some (bfObj "list.pop" a)) rfl keeps_bf (evalArgs_nil3 ⟨(N4 _ (.head _)).1, ?_⟩)
  have ha4 := (N4 _ (.tail _ (.tail _ (.head _)))).1
  refine bf_pop (rest := []) (N4 _ (.head _)).1 (X'.keeps F4.keep) (by k_is) rfl (by k_is) (by k_is) ha4 ?_
  refine pop_body ha4 (by (first | exact om68 hz | omega)) ⟨_, rfl, ?_⟩
  have N5 : News g' L' h4 ((a, accObj da (items ++ [v]) n) :: news) := fun q hq => N4 q (.tail _ (.tail _ hq))
  obtain ⟨F6, N6⟩ := acc_turn (s := { s with heap := h4 }) (items' := items) (n' := n + 1) (fun xs => xs.eraseIdxIfInBounds items.length) F4 N5 hw (by rw [kl_erase (q := []), List.append_nil]) (by simp)
  dsimp only at F6 N6
  walk_at "my go"
  rename Fr h₀ L _ _ => F8
  rename News h₀ L _ _ => N8
  exact ret _ _ F8 N8
end
section
-- C5
theorem fresh_C5 : True := by
  w_top off
  trivial
set_option maxHeartbeats 1000000
theorem pop0_ok {w : World} {A A₀ : Around} {env : Env} {outer : List Env} {base h₀ : Heap} {L : Addr} {m : Str → Option Value} {news : List (Addr × Obj)} {s : Shared}
    {p : Program} {loose : List Str} {mean : ExcName → Option Value} {mg mb : Str → Option Value}
    {a da : Addr} {n k : Nat} {z : Int} {t tz : Tok} {hs : Int} {Q E : Value → Shared → Prop}
    (B : Below A₀ base outer h₀) (F : Fr h₀ L s.heap m) (X : (hd.heap_39 w.params).In h₀) (N : News h₀ L s.heap ((a, accObj da [] n) :: news)) (T : Top p loose mean mg mb h₀)
    (hA : A.frames = some (env :: outer)) (hf : env.frame = some L) (hke : env.scope.kind = .function)
    (hroom : A.depth + 2 < recursionLimit) (hdd : (da, accDict hs t z tz k) ∈ news)
    (ret : ∀ h' tk' T t1 t2, Fr h₀ L h' m → News h₀ L h' ((T, tupObj (.str (Str.ofString "") t1) (.str (Str.ofString "") t2) 0) :: (a, accObj da [] n) :: news) → (∀ q ∈ (a, accObj da [] n) :: news, q.1 < T) → Q (.ref T) { s with heap := h', toks := tk' }) :
    wpAny (model Challenge.rw_nb0237_01.row.prog w) A (call (.ref 180) [.ref a]) Q E s := by
  revert X; k_fill; intro X
  refine wpAny_call ?_
  refine ks_code_super (binds := [(Str.ofString "self", .ref a)]) B F X N T hA hf hke (by k_is) (by k_is) (by (first | exact om71 hroom | omega)) (BindsTo.of_eq rfl) (locs rfl) ?_ (by decide) rfl rfl rfl
  intro g' L' h' FG' F' N' B' X' T' l1
  try dsimp only
  iterate 6 walk1
  refine acc_method (X'.keeps F'.keep) (InstAt.of_acc N' (.head _) (.tail _ hdd)) (by k_is) (by k_is) (by k_is) (looks_typeIn (X'.keeps F'.keep) (by k_is)) (.inl rfl) rfl ?_
  walk1
  refine partcount_ok B' F' X' N' T' (by show A.frames.map _ = _; rw [hA]; rfl) rfl rfl (by show A.depth + 1 + 1 < recursionLimit; exact hroom) hdd ?_
  intro h2 tk2 t2 F2 N2
  walk_at "my go"
  rename Fr h₀ L _ _ => F8
  rename News h₀ L _ _ => N8
  rename _ ∧ AllLt _ _ => l8
  exact ret _ _ _ _ _ F8 N8 (ktn_ltOf (l := (a, accObj da [] n) :: news) l8)
end
section
-- C6a
theorem fresh_C6a : True := by
  w_top off
  trivial
set_option maxHeartbeats 400000
section
open AutoSeq1 (wpAny_loadPart')
variable {prog : Program} {w : World} {A : Around} {E : Value → Shared → Prop} {s : Shared} {K : Frag} {a da sl l : Addr} {items : List Value} {n : Nat}
noncomputable abbrev slObj : Obj := { cls := .type "slice", data := .fields #[.none, .none, .none] }
theorem acc_key {v : Value} {nm : Str} (X : K.In s.heap) (hs : seqItemTypes.all (fun t => mroIn K 220 (.type t) == some false) = true) (ha : s.heap.get? a = some (accObj da items n)) : Looks (model prog w) s.heap (sequenceKey (.ref a) v nm) v := by
  unfold sequenceKey
  refine (acc_type ha).andThen ?_
  dsimp only
  have hany : ∀ (ts : List String), ts.all (fun t => mroIn K 220 (.type t) == some false) = true → Looks (model prog w) s.heap (ts.anyM fun n => isSubtype (.ref 220) (.type n)) false := by
    intro ts
    induction ts with
    | nil => intro _; exact Looks.of_pure rfl
    | cons t ts ih =>
      intro h
      simp only [List.all_cons, Bool.and_eq_true, beq_iff_eq] at h
      rw [List.anyM_cons]
      refine (looks_mroIn X h.1).andThen ?_
      exact ih h.2
  exact (hany _ hs).andThen (Looks.of_pure rfl)
theorem setslice_body (ha : s.heap.get? a = some (accObj da items n)) (hsl : s.heap.get? sl = some slObj) (hl : s.heap.get? l = some (listOf #[] 0)) (hla : l ≠ a) (hz : items.length < 1000) {Q : Fin → Shared → Prop}
    (h : ∀ f : Array Value → Array Value, f items.toArray = #[] → Q (.done (.ret .none)) { s with heap := s.heap.update a (Obj.mapSeq f) }) : wpAny (model prog w) A (Builtin.«list.__setitem__» ⟨[.ref a, .ref sl, .ref l], []⟩) Q E s := by
  obtain ⟨hp, g, d, tk, os⟩ := s
  have hT : (⟨hp, g, d, tk, os⟩ : Shared).TypeIs (.ref sl) "slice" := ⟨_, hsl, rfl⟩
  have hTl : (⟨hp, g, d, tk, os⟩ : Shared).TypeIs (.ref l) "list" := ⟨_, hl, rfl⟩
  have hne : Builtin.List.listSameRef (.ref a) (.ref l) = false := by
    unfold Builtin.List.listSameRef
    simpa using fun e => hla e.symm
  unfold Builtin.«list.__setitem__»
  refine wpAny_bind (wpAny_of_eq (a := (Value.ref a, [.ref sl, .ref l])) rfl ?_)
  dsimp only
  refine wpAny_bind ?_
  unfold Builtin.List.listSubscript?
  refine wpAny_bind (wpAny_specialOf hT slice_no_index ?_)
  simp only [Option.isNone_none, if_true]
  refine wpAny_pure ?_
  refine wpAny_bind (wpAny_typeOf hT ?_)
  rw [if_neg (by decide), listSliceParts_eq]
  refine wpAny_bind (wpAny_bind (wpAny_field hsl rfl (x := .none) rfl (wpAny_bind (wpAny_listPart .none ?_))))
  rw [if_neg (by decide)]
  refine wpAny_bind (wpAny_field hsl rfl (x := .none) rfl (wpAny_bind (wpAny_listPart .none ?_)))
  refine wpAny_bind (wpAny_field hsl rfl (x := .none) rfl (wpAny_bind (wpAny_listPart .none (wpAny_pure ?_))))
  dsimp only
  rw [hne]
  refine wpAny_bind ?_
  unfold Builtin.List.listAllItems
  refine wpAny_bind (wpAny_typeOf hTl ?_)
  rw [if_pos (by decide)]
  unfold Builtin.List.listItems
  refine wpAny_bind (wpAny_seqItems hl rfl (wpAny_pure ?_))
  refine wpAny_bind (wpAny_bind (wpAny_seqItems ha rfl (wpAny_pure ?_)))
  refine wpAny_bind (wpAny_of_eq (sliceIndices_raw none none none _ (by simp)) ?_)
  rw [if_pos (by rfl)]
  refine wpAny_bind (wpAny_rule ?_)
  have hsz : Builtin.List.listTooLong (items.toArray.size + (#[] : Array Value).size) = false := by
    simp [Builtin.List.listTooLong, sizeLine]; (first | exact om65 hz | omega)
  rw [hsz]
  refine wpAny_bind ?_
  unfold Builtin.List.listUpdate
  refine wpAny_updateSeq ha rfl ?_ (by simp [sizeLine]; (first | exact om65 hz | omega)) (by simp [sliceBounds, sizeLine])
  refine wpAny_bind (wpAny_letGo (wpAny_pure (h _ ?_)))
  simp [sliceBounds]
end
section
variable {prog : Program} {w : World} {A : Around} {E : Value → Shared → Prop} {s : Shared} {K : Frag} {h₀ : Heap} {L a da sl l : Addr} {m : Str → Option Value} {items : List Value} {n : Nat} {news : List (Addr × Obj)}
theorem acc_setslice {Q : Unit → Shared → Prop} (X : K.In s.heap) (hs : mroIn K 220 (.type "collections.deque") = some false) (hm : mroIn K 220 (.type "list") = some true)
    (hi : findIn K (.ref 220) "__setitem__" = some (some (.builtin "list.__setitem__"))) (F : Fr h₀ L s.heap m) (N : News h₀ L s.heap ((a, accObj da items n) :: news)) (hw : ∀ q ∈ news, q.1 ≠ a) (hsl : s.heap.get? sl = some slObj) (hl : s.heap.get? l = some (listOf #[] 0)) (hz : items.length < 1000)
    (h : ∀ h' n', Fr h₀ L h' m → News h₀ L h' ((a, accObj da [] n') :: news) → Q () { s with heap := h' }) : wpAny (model prog w) A (setItem (.ref a) (.ref sl) (.ref l)) Q E s := by
  have hg := (N _ (.head _)).1
  have hla : l ≠ a := by
    rintro rfl
    have e := hg.symm.trans hl
    cases e
  have hlo : Looks (model prog w) s.heap (specialOf (.ref a) "__setitem__") (some (.builtin "list.__setitem__")) := (acc_type hg).andThen (looks_findIn X hi)
  have hb : bindSpecial (.builtin "list.__setitem__") (.ref a) = pure (.builtin "list.__setitem__", [.ref a]) := PySem.F.slot_list_setitem.bind _
  unfold setItem
  refine wpAny_holding (wpAny_bind ((acc_key X (by show List.all ["collections.deque"] _ = true; simp [hs]) hg).here ?_))
  unfold callSpecial?
  refine wpAny_bind (wpAny_bind (hlo.here (wpAny_holding ?_)))
  rw [hb]
  refine wpAny_bind (wpAny_pure ?_)
  refine wpAny_bind (acc_call (nm := "__setitem__") X hm hg (.inl (by decide +kernel)) (by decide +kernel) PySem.F.slot_list_setitem.plain PySem.F.entry_list_setitem (PySem.F.args_list_setitem_3 _ _ _) ?_)
  refine setslice_body hg hsl hl hla hz fun f hf => ⟨_, rfl, wpAny_pure (wpAny_pure ?_)⟩
  obtain ⟨F', N'⟩ := acc_turn (items' := []) (n' := _) f F N hw (by rw [hf]) rfl
  exact h _ _ F' N'
end
end
section
-- C6b
theorem fresh_C6b : True := by
  w_top off
  trivial
set_option maxHeartbeats 400000
theorem refuse_acc (self : Value) : refuseLoop self "__setattr__" [.ref 220, .type "list", .type "object"] = pure () := by
  rw [refuseLoop_ref]
  kernel_rfl
section
variable {prog : Program} {w : World} {A : Around} {E : Value → Shared → Prop} {s : Shared} {K : Frag} {h₀ : Heap} {L a da : Addr} {m : Str → Option Value} {items : List Value} {n k k' : Nat} {news : List (Addr × Obj)} {es es' : List DictEntry} {name : Str} {v : Value} {cd : ClassData}
theorem acc_setattr {Q : Unit → Shared → Prop} (F : Fr h₀ L s.heap m) (X₀ : K.In h₀) (N : News h₀ L s.heap ((a, accObj da items n) :: (da, dictOf es k) :: news)) (hda : da ≠ a) (hw : ∀ q ∈ news, q.1 ≠ da)
    (hs : findIn K (.ref 220) "__setattr__" = some (some (.builtin "object.__setattr__"))) (hn : findIn K (.ref 220) name = some none) (hc : clsIn K 220 = some cd) (hmro : cd.mro = [.ref 220, .type "list", .type "object"]) (hhd : cd.hasDict = true)
    (hl : aRefKeyMayBeTheName name es.toArray = false) (e : Obj.putName name (PyData.keyHash w.params name) (.str name (s.toks + 1)) v (dictOf es k) = dictOf es' k') (hz : es'.length ≤ 1000)
    (h : ∀ h', Fr h₀ L h' m → News h₀ L h' ((a, accObj da items n) :: (da, dictOf es' k') :: news) → Q () { s with heap := h', toks := s.toks + 2 }) : wpAny (model prog w) A (setAttr (.ref a) name v) Q E s := by
  obtain ⟨hp, g, d, tk, os⟩ := s
  dsimp only at F N e h
  have X : K.In hp := X₀.keeps F.keep
  have I := InstAt.of_acc N (.head _) (.tail _ (.head _))
  have SF := PySem.F.store_object
  have hg := (N _ (.head _)).1
  have hD := (N _ (.tail _ (.head _))).1
  have sub : Looks (model prog w) hp (isInstance (.ref a) (.type "object")) true := I.type.andThen (looks_mroIn X (by unfold mroIn; rw [hc, Option.bind_some, hmro]; rfl))
  have hm : Looks (model prog w) hp (mroOf (.ref 220)) cd.mro := (looks_clsIn X hc).andThen .now
  refine set_plain (s := ⟨hp, g, d, tk, os⟩) X I hs ?_
  refine codeAny_call_builtin SF.slot.plain SF.entry (@check_slot (model prog w) _ _ _ "object.__setattr__" "object" "__setattr__" (.ref a) [.str name tk, v] [] _ SF.kind SF.split sub (SF.args (.ref a) (.str name tk) v) ?_)
  rw [osa_eq, refuse_eq]
  refine wpAny_bind (wpAny_bind (I.type.here (wpAny_bind (hm.here ?_))))
  rw [hmro, refuse_acc]
  refine wpAny_pure (wpAny_bind (I.type.here (wpAny_bind ((looks_findIn X hn).here ?_))))
  refine wpAny_bind (wpAny_of_eq (a := (none : Option Value)) rfl ?_)
  dsimp only
  obtain ⟨U1, U2⟩ := news_upd (pre := [(a, accObj da items n)]) (post := news) (f := Obj.putName name (PyData.keyHash w.params name) (.str name (tk + 1)) v) F N (by simpa using fun e => hda e.symm) hw e rfl
  have D' := (U2 (da, dictOf es' k') (by simp)).1
  unfold Builtin.ObjectAttr.storeInOwnDict
  refine wpAny_bind (wpAny_of_eq (a := ()) rfl ?_)
  rw [if_neg (by decide)]
  unfold Builtin.ObjectAttr.ownDictForStores
  dsimp only
  refine wpAny_bind ?_
  have hid : ∀ (Q : Option Addr → Shared → Prop) (E : Value → Shared → Prop), Q (some da) ⟨hp, g, d, tk + 1, os⟩ → wpAny (model prog w) A.in1 (instanceDict a true) Q E ⟨hp, g, d, tk + 1, os⟩ := by
    intro Q E q
    unfold instanceDict
    refine wpAny_bind (wpAny_loadPart hg ?_)
    refine wpAny_bind ((looks_clsIn X hc).here ?_)
    rw [hhd]
    exact wpAny_pure q
  refine hid _ _ ?_
  dsimp only
  unfold Builtin.ObjectAttr.storeInDict Builtin.ObjectAttr.newKeyGuard
  refine wpAny_bind (wpAny_pure (wpAny_bind ?_))
  unfold nsSet
  refine wpAny_bind (wpAny_bind (wpAny_askSetting (wpAny_pure (wpAny_bind (wpAny_mkText (wpAny_bind (wpAny_loadPart hD ?_)))))))
  dsimp only
  rw [hl]
  refine wpAny_updatePart hD ?_
  refine wpAny_bind (wpAny_lookBehind D' (pastItsLine_dict (by rw [List.size_toArray, sizeLine_eq]; (first | exact om93 hz | omega))) ?_)
  exact wpAny_pure (h _ U1 U2)
end
end
section
-- C6
theorem fresh_C6 : True := by
  w_top off
  trivial
set_option maxHeartbeats 1000000
theorem news_rot {h₀ h : Heap} {L : Addr} {p q r : Addr × Obj} {l : List (Addr × Obj)} (N : News h₀ L h (p :: q :: r :: l)) : News h₀ L h (r :: p :: q :: l) := by
  intro x hx
  rcases List.mem_cons.mp hx with rfl | hx
  · exact N _ (.tail _ (.tail _ (.head _)))
  rcases List.mem_cons.mp hx with rfl | hx
  · exact N _ (.head _)
  rcases List.mem_cons.mp hx with rfl | hx
  · exact N _ (.tail _ (.head _))
  · exact N _ (.tail _ (.tail _ (.tail _ hx)))
theorem news_rot' {h₀ h : Heap} {L : Addr} {x p q r : Addr × Obj} {l : List (Addr × Obj)} (N : News h₀ L h (x :: p :: q :: r :: l)) : News h₀ L h (x :: r :: p :: q :: l) := by
  intro y hy
  rcases List.mem_cons.mp hy with rfl | hy
  · exact N _ (.head _)
  · exact news_rot (fun z hz => N z (.tail _ hz)) y hy
theorem reset_ok {w : World} {A A₀ : Around} {env : Env} {outer : List Env} {base h₀ : Heap} {L : Addr} {m : Str → Option Value} {news : List (Addr × Obj)} {s : Shared}
    {p : Program} {loose : List Str} {mean : ExcName → Option Value} {mg mb : Str → Option Value}
    {a da : Addr} {items : List Value} {n k : Nat} {z : Int} {t tz : Tok} {hs : Int} {Q E : Value → Shared → Prop}
    (B : Below A₀ base outer h₀) (F : Fr h₀ L s.heap m) (X : (hd.heap_39 w.params).In h₀) (N : News h₀ L s.heap ((a, accObj da items n) :: (da, accDict hs t z tz k) :: news)) (T : Top p loose mean mg mb h₀)
    (hA : A.frames = some (env :: outer)) (hf : env.frame = some L) (hke : env.scope.kind = .function)
    (hroom : A.depth + 2 < recursionLimit) (hw : ∀ q ∈ news, q.1 ≠ a ∧ q.1 ≠ da) (hda : da ≠ a) (hz : items.length < 900)
    (ret : ∀ h' tk' n' tz', Fr h₀ L h' m → News h₀ L h' ((a, accObj da [] n') :: (da, accDict hs t 0 tz' k) :: news) → Q .none { s with heap := h', toks := tk' }) :
    wpAny (model Challenge.rw_nb0237_01.row.prog w) A (call (.ref 202) [.ref a]) Q E s := by
  revert X; k_fill; intro X
  refine wpAny_call ?_
  refine code_def (binds := [(Str.ofString "self", .ref a), (Str.ofString "startval", .none)]) B F X N T hA hf hke (by k_is) (by k_is) (by (first | exact om71 hroom | omega)) (by exact binds_K (by k_in) rfl (by k_is) rfl rfl rfl) (locs rfl) ?_ rfl rfl rfl (by decide)
  intro g' L' h' FG' F' N' B' X' T'
  try dsimp only
  walk_at "my go"
  rename Fr g' L' _ _ => F1
  rename News g' L' _ _ => N1
  rename _ ∧ _ ∧ AllLt _ _ => l1
  have hlt := ktn_ltOf (l := (a, accObj da items n) :: (da, accDict hs t z tz k) :: news) l1
  have F2 := F1.push slObj
  have N2 := N1.push F1 slObj rfl
  have lt2 := fun q hq => Heap.lt_size (N1 q hq).1
  refine acc_setslice (X'.keeps F2.keep) (by k_is) (by k_is) (by k_is) F2 (news_rot N2) ?_ (N2 _ (.head _)).1 (N2 _ (.tail _ (.head _))).1 (by (first | exact om68 hz | omega)) ?_
  · intro q hq
    rcases List.mem_cons.mp hq with rfl | hq
    · exact Nat.ne_of_gt (lt2 _ (.tail _ (.head _)))
    rcases List.mem_cons.mp hq with rfl | hq
    · exact Nat.ne_of_gt (hlt _ (.head _))
    rcases List.mem_cons.mp hq with rfl | hq
    · exact hda
    · exact (hw q hq).1
  intro h3 n3 F3 N3
  dsimp only
  iterate 4 walk1
  refine acc_setattr F3 X' (news_rot' N3) hda ?_ (by k_is) (by k_is) (by k_is) rfl rfl rfl rfl (by show (1 : Nat) ≤ 1000; decide) ?_
  · intro q hq
    rcases List.mem_cons.mp hq with rfl | hq
    · exact Nat.ne_of_gt (lt2 _ (.tail _ (.tail _ (.head _))))
    rcases List.mem_cons.mp hq with rfl | hq
    · exact Nat.ne_of_gt (hlt _ (.tail _ (.head _)))
    · exact (hw q hq).2
  intro h4 F4 N4
  dsimp only
  walk_at "my go"
  rename Fr h₀ L _ _ => F8
  rename News h₀ L _ _ => N8
  exact ret _ _ _ _ F8 fun q hq => N8 q (by
    rcases List.mem_cons.mp hq with rfl | hq
    · exact .head _
    rcases List.mem_cons.mp hq with rfl | hq
    · exact .tail _ (.head _)
    · exact .tail _ (.tail _ (.tail _ (.tail _ hq))))
end
section
-- C7
theorem fresh_C7 : True := by
  w_top off
  trivial
set_option maxHeartbeats 1000000
noncomputable def nthL {α : Type} : List α → Nat → Option α
  | [], _ => none
  | a :: _, 0 => some a
  | _ :: l, n + 1 => nthL l n
theorem mem_ix {α : Type} {a : α} : ∀ {l : List α} (i : Nat), nthL l i = some a → a ∈ l
  | [], i, h => nomatch h
  | b :: l, 0, h => Option.some.inj h ▸ List.Mem.head _
  | b :: l, i + 1, h => List.Mem.tail _ (mem_ix (l := l) i h)
noncomputable def pickL {α : Type} (l : List α) : List Nat → List α → List α
  | [], r => r
  | i :: is, r => match nthL l i with | some a => a :: pickL l is r | none => pickL l is r
theorem sub_pick {α : Type} {l r : List α} (hr : ∀ q ∈ r, q ∈ l) : ∀ is : List Nat, ∀ q ∈ pickL l is r, q ∈ l
  | [] => hr
  | i :: is => by
    intro q hq
    unfold pickL at hq
    split at hq
    · rename_i a e
      rcases List.mem_cons.mp hq with rfl | hq
      · exact mem_ix i e
      · exact sub_pick hr is q hq
    · exact sub_pick hr is q hq
theorem sub_ix {α : Type} {l l' : List α} (is : List Nat) (h : pickL l is [] = l') : ∀ q ∈ l', q ∈ l := by
  subst h
  exact sub_pick (fun _ h => by cases h) is
theorem sub_ixr {α : Type} {l l' : List α} (is : List Nat) (k : Nat) (h : pickL l is (l.drop k) = l') : ∀ q ∈ l', q ∈ l := by
  subst h
  exact sub_pick (fun _ h => List.mem_of_mem_drop h) is
theorem sub_cons {α : Type} {x : α} {t l : List α} (h1 : x ∈ l) (h2 : ∀ q ∈ t, q ∈ l) : ∀ q ∈ x :: t, q ∈ l := by
  intro q hq
  rcases List.mem_cons.mp hq with rfl | hq
  · exact h1
  · exact h2 q hq
theorem News.reord {h₀ h : Heap} {L : Addr} {l l' : List (Addr × Obj)} (N : News h₀ L h l) (hs : ∀ q ∈ l', q ∈ l) : News h₀ L h l' := fun q hq => N q (hs q hq)
theorem all_cons {α : Type} {P : α → Prop} {x : α} {t : List α} (h1 : P x) (h2 : ∀ q ∈ t, P q) : ∀ q ∈ x :: t, P q := by
  intro q hq
  rcases List.mem_cons.mp hq with rfl | hq
  · exact h1
  · exact h2 q hq
section
variable {prog : Program} {w : World} {A : Around} {E : Value → Shared → Prop} {s : Shared} {K : Frag} {h₀ : Heap} {L x C f : Addr} {m : Str → Option Value} {ox : Obj} {od : Option Obj}
theorem truthy_len {Q : Bool → Shared → Prop} (F : Fr h₀ L s.heap m) (X₀ : K.In h₀) (I : InstAt s.heap x ox C od) (hb : findIn K (.ref C) "__bool__" = some none) (hs : findIn K (.ref C) "__len__" = some (some (.ref f))) (hf : isFn K (.ref f) = true)
    (h : wpAny (model prog w) A.in1 (call (.ref f) [.ref x]) (PySem.W.LenBack fun v s' => ∃ z t, v = .int z t ∧ Q (z != 0) s') E s) : wpAny (model prog w) A (truthy (.ref x)) Q E s := by
  have X := X₀.keeps F.keep
  have key : wpAny (model prog w) A (runValue (.builtin "len" ⟨[.ref x], []⟩)) (fun r s' => ∃ z t, r = .int z t ∧ Q (z != 0) s') E s := by
    refine wpAny_runValue (codeAny_builtin entry_len ?_)
    rw [Around.under_plainId plain_len _]
    unfold Builtin.«len»
    refine wpAny_bind (m := oneArg "len" _) (wpAny_pure ?_)
    refine wpAny_bind (m := callSpecial? (.ref x) (Str.ofString "__len__")) (special_fn X I hs (beq_iff_eq.mp hf) (wpAny_mono h (fun r s' hr => ?_) fun _ _ y => y))
    cases r <;> first | exact hr.elim | skip
    rename_i n u
    obtain ⟨⟨h0, h1⟩, z, t, e, hq⟩ := hr
    cases e
    refine wpAny_bind (wpAny_holding (wpAny_pure ?_))
    refine wpAny_bind (wpAny_letGo ?_)
    show wpAny _ _ (if n < 0 then _ else _) _ _ _
    rw [if_neg (by (first | exact om94 h0 | omega))]
    show wpAny _ _ (if n ≥ 2 ^ 63 then _ else _) _ _ _
    rw [if_neg (by (first | exact om95 h1 | omega))]
    exact wpAny_bind (wpAny_mkInt (wpAny_pure ⟨_, _, rfl, hq⟩))
  unfold truthy
  refine wpAny_bind (m := callSpecial? (.ref x) (Str.ofString "__bool__")) (wpAny_bind (wpAny_bind (I.type.here ((looks_findIn X hb).here (wpAny_pure ?_)))))
  refine wpAny_bind (wpAny_bind (I.type.here ((looks_findIn X hs).here ?_)))
  refine wpAny_bind (wpAny_mono key (fun r s' h' => ?_) fun _ _ y => y)
  obtain ⟨z, t, rfl, hq⟩ := h'
  exact wpAny_pure hq
end
end
section
-- C8
theorem fresh_C8 : True := by
  w_top off
  trivial
set_option maxHeartbeats 1000000
theorem plen_le : ∀ (parts : List (Str × Str)) (b : Nat), (∀ q ∈ parts, q.1.length + q.2.length ≤ b) → plen parts ≤ parts.length * b
  | [], b, _ => by simp [plen]
  | q :: r, b, h => by
    have h1 := plen_le r b fun q hq => h q (.tail _ hq)
    have h2 := h q (.head _)
    have e : (q :: r).length * b = r.length * b + b := by rw [List.length_cons, Nat.succ_mul]
    have e2 : plen (q :: r) = q.1.length + q.2.length + plen r := by simp [plen]
    (first | exact om96 h1 h2 e e2 | omega)
theorem onlyws_ok {w : World} {A A₀ : Around} {env : Env} {outer : List Env} {base h₀ : Heap} {L : Addr} {m : Str → Option Value} {news : List (Addr × Obj)} {s : Shared}
    {p : Program} {loose : List Str} {mean : ExcName → Option Value} {mg mb : Str → Option Value}
    {a da : Addr} {items : List Value} {n k : Nat} {z : Int} {t tz : Tok} {hs : Int} {ps qs : Array Value} {parts : List (Str × Str)} {Q E : Value → Shared → Prop}
    (B : Below A₀ base outer h₀) (F : Fr h₀ L s.heap m) (X : (hd.heap_39 w.params).In h₀) (N : News h₀ L s.heap ((182, tabObj ps) :: (189, tabObj qs) :: (a, accObj da items n) :: news)) (T : Top p loose mean mg mb h₀)
    (hA : A.frames = some (env :: outer)) (hf : env.frame = some L) (hke : env.scope.kind = .function)
    (hH : A.handled = none) (hroom : A.depth + 2 < recursionLimit) (hu : A.units + 60 < cLine) (G : AllBare s.gens)
    (hdd : (da, accDict hs t z tz k) ∈ news) (hps : TabOk ⟨139, 19, 139, 63⟩ ps) (hqs : TabOk ⟨142, 32, 142, 85⟩ qs) (hPa : ∀ q ∈ (a, accObj da items n) :: news, q.1 ≠ 182 ∧ q.1 ≠ 189) (hparts : Parts news items parts)
    (hfit : ∀ q ∈ parts, q.1.length < 2 ^ 10 ∧ q.2.length < 2 ^ 10) (hmany : parts.length < 1000) (hz : 0 ≤ z) (hns : z = 0 → 0 < plen parts ∧ Txt.isspace (ptext parts) = false)
    (ret : ∀ h' tk' gs' ps' qs', Fr h₀ L h' m → News h₀ L h' ((182, tabObj ps') :: (189, tabObj qs') :: (a, accObj da items n) :: news) → TabOk ⟨139, 19, 139, 63⟩ ps' → TabOk ⟨142, 32, 142, 85⟩ qs' → AllBare gs' → Q (.bool false) { s with heap := h', toks := tk', gens := gs' }) :
    wpAny (model Challenge.rw_nb0237_01.row.prog w) A (call (.ref 209) [.ref a]) Q E s := by
  revert X; k_fill; intro X
  refine wpAny_call ?_
  refine code_def (binds := [(Str.ofString "self", .ref a)]) B F X N T hA hf hke (by k_is) (by k_is) (by (first | exact om71 hroom | omega)) (BindsTo.of_eq rfl) (locs rfl) ?_ rfl rfl rfl (by decide)
  intro g' L' h' FG' F' N' B' X' T'
  try dsimp only
  walk_at "my go"
  refine acc_get (X'.keeps F'.keep) (by k_is) (InstAt.of_acc N' (.tail _ (.tail _ (.head _))) (.tail _ (.tail _ (.tail _ hdd)))) (by k_is) (by k_is) (findObj_own (attr := none) (by k_is) (by k_is) (by k_is) rfl) rfl ?_
  walk_at "my go"
  · rename z = 0 => h0
    subst h0
    obtain ⟨hpl, hsp⟩ := hns rfl
    refine truthy_len F' X' (InstAt.of_acc N' (.tail _ (.tail _ (.head _))) (.tail _ (.tail _ (.tail _ hdd)))) (by k_is) (by k_is) (by k_is) ?_
    refine acclen_ok B' F' X' (News.reord N' (l' := (182, tabObj ps) :: (a, accObj da items n) :: (189, tabObj qs) :: news) (by exact sub_ixr [0, 2, 1] 3 rfl)) T' (by show A.frames.map _ = _; rw [hA]; rfl) rfl rfl hH (by show A.depth + 1 + 1 < recursionLimit; exact hroom) (by show A.units + 3 + 1 + 40 < cLine; (first | exact om97 hu | omega)) G (.tail _ hdd) hps ?_ (Parts.mono hparts (by exact sub_ixr [] 1 rfl)) ?_ ?_
    · exact all_cons (hPa _ (.head _)).1 (all_cons (by show (189 : Nat) ≠ 182; decide) fun q hq => (hPa q (.tail _ hq)).1)
    · intro q hq
      have := hfit q hq
      (first | exact om98 this | omega)
    intro h1 tk1 gs1 ps1 t1 F1 N1 hps1 G1
    refine ⟨⟨by (first | exact om99 | omega), ?_⟩, _, _, rfl, ?_⟩
    · have := plen_le parts (2 ^ 11) (fun q hq => by have := hfit q hq; (first | exact om100 this | omega))
      have h3 : parts.length * 2 ^ 11 < 1000 * 2 ^ 11 := Nat.mul_lt_mul_of_pos_right hmany (by decide)
      omega
    have hb : (((0 : Int) + (plen parts : Nat)) != 0) = true := by
      rw [bne_iff_ne]; (first | exact om101 hpl | omega)
    rw [hb]
    walk_at "my go"
    refine kso_call (by show A.units + 3 + 1 + 1 < cLine; (first | exact om102 hu | omega)) (X'.keeps F1.keep) (InstAt.of_acc N1 (.tail _ (.head _)) (.tail _ (.tail _ (.tail _ hdd)))) (by k_is) (by k_is) ?_
    refine accstr_ok B' F1 X' (News.reord N1 (l' := (189, tabObj qs) :: (a, accObj da items n) :: (182, tabObj ps1) :: news) (by exact sub_ixr [2, 1, 0] 3 rfl)) T' (by show A.frames.map _ = _; rw [hA]; rfl) rfl rfl hH (by show A.depth + 1 + 1 < recursionLimit; exact hroom) G1 hqs ?_ (Parts.mono hparts (by exact sub_ixr [] 1 rfl)) hfit hmany ?_
    · exact all_cons (hPa _ (.head _)).2 (all_cons (by show (182 : Nat) ≠ 189; decide) fun q hq => (hPa q (.tail _ hq)).2)
    intro h2 tk2 gs2 qs2 t2 F2 N2 hqs2 G2
    dsimp only [PySem.W.StrBack]
    iterate 2 walk1
    refine SC.isspace ?_
    rw [hsp]
    walk_at "my go"
    rename News h₀ L _ _ => N8
    rename Fr h₀ L _ _ => F8
    exact ret _ _ _ _ _ F8 (News.reord N8 (by exact sub_ixr [2, 0, 1] 3 rfl)) hps1 hqs2 G2
  · rename News h₀ L _ _ => N8
    rename Fr h₀ L _ _ => F8
    have hb : (z == 0) = false := by
      rw [beq_eq_false_iff_ne]; assumption
    rw [hb]
    exact ret _ _ _ _ _ F8 N8 hps hqs G
end
section
-- D1
theorem fresh_D1 : True := by
  w_top off
  trivial
set_option maxHeartbeats 1000000
/-- the dict of a _ValueFormatter made with (head, 80, ' ', ' ') -/
noncomputable abbrev vfDict (kh : Nat → Int) (kt vt : Nat → Tok) (ln a : Addr) (k : Nat) : Obj := dictOf [⟨kh 0, .str (Str.ofString "_maxlen") (kt 0), .int 80 (vt 0)⟩, ⟨kh 1, .str (Str.ofString "_continuation_ws") (kt 1), .str (Str.ofString " ") (vt 1)⟩, ⟨kh 2, .str (Str.ofString "_continuation_ws_len") (kt 2), .int 1 (vt 2)⟩,
  ⟨kh 3, .str (Str.ofString "_splitchars") (kt 3), .str (Str.ofString " ") (vt 3)⟩, ⟨kh 4, .str (Str.ofString "_lines") (kt 4), .ref ln⟩, ⟨kh 5, .str (Str.ofString "_current_line") (kt 5), .ref a⟩] k
theorem Parts.snoc {news : List (Addr × Obj)} {vs : List Value} {ps : List (Str × Str)} {T : Addr} {f x : Str} {t u : Tok} {n : Nat} (h : Parts news vs ps) (hT : (T, tupObj (.str f t) (.str x u) n) ∈ news) : Parts news (vs ++ [.ref T]) (ps ++ [(f, x)]) := by
  induction h with
  | nil => exact .cons hT .nil
  | cons h1 _ ih => exact .cons h1 ih
theorem append_ok {w : World} {A A₀ : Around} {env : Env} {outer : List Env} {base h₀ : Heap} {L : Addr} {m : Str → Option Value} {news : List (Addr × Obj)} {s : Shared}
    {p : Program} {loose : List Str} {mean : ExcName → Option Value} {mg mb : Str → Option Value}
    {v d ln a da : Addr} {kh : Nat → Int} {kt vt : Nat → Tok} {items : List Value} {n k kd : Nat} {z : Int} {t tz tf tx : Tok} {hs : Int} {ps : Array Value} {parts : List (Str × Str)} {x : Str} {Q E : Value → Shared → Prop}
    (B : Below A₀ base outer h₀) (F : Fr h₀ L s.heap m) (X : (hd.heap_39 w.params).In h₀) (N : News h₀ L s.heap ((182, tabObj ps) :: (a, accObj da items n) :: (v, instObj 136 d) :: (d, vfDict kh kt vt ln a kd) :: (da, accDict hs t z tz k) :: news)) (T : Top p loose mean mg mb h₀)
    (hA : A.frames = some (env :: outer)) (hf : env.frame = some L) (hke : env.scope.kind = .function)
    (hH : A.handled = none) (hroom : A.depth + 3 < recursionLimit) (hu : A.units + 80 < cLine) (G : AllBare s.gens)
    (hps : TabOk ⟨139, 19, 139, 63⟩ ps) (hPa : ∀ q ∈ (a, accObj da items n) :: (v, instObj 136 d) :: (d, vfDict kh kt vt ln a kd) :: (da, accDict hs t z tz k) :: news, q.1 ≠ 182)
    (hw : ∀ q ∈ (v, instObj 136 d) :: (d, vfDict kh kt vt ln a kd) :: (da, accDict hs t z tz k) :: news, q.1 ≠ a) (hparts : Parts news items parts)
    (hfit : ∀ q ∈ parts, q.1.length < 2 ^ 10 ∧ q.2.length < 2 ^ 10) (hx : x.length < 2 ^ 10) (hmany : parts.length < 900) (hz : 0 ≤ z) (hle : z + (plen parts + 1 + x.length : Nat) ≤ 80)
    (ret : ∀ h' tk' gs' ps' T tf' tx', Fr h₀ L h' m → News h₀ L h' ((182, tabObj ps') :: (a, accObj da (items ++ [.ref T]) (n + 1)) :: (v, instObj 136 d) :: (d, vfDict kh kt vt ln a kd) :: (da, accDict hs t z tz k) :: (T, tupObj (.str (Str.ofString " ") tf') (.str x tx') 0) :: news) →
      TabOk ⟨139, 19, 139, 63⟩ ps' → AllBare gs' → (∀ q ∈ (182, tabObj ps) :: (a, accObj da items n) :: (v, instObj 136 d) :: (d, vfDict kh kt vt ln a kd) :: (da, accDict hs t z tz k) :: news, q.1 < T) → Q .none { s with heap := h', toks := tk', gens := gs' }) :
    wpAny (model Challenge.rw_nb0237_01.row.prog w) A (call (.ref 133) [.ref v, .str (Str.ofString " ") tf, .str x tx]) Q E s := by
  revert X; k_fill; intro X
  refine wpAny_call ?_
  refine code_def (binds := [(Str.ofString "self", .ref v), (Str.ofString "fws", .str (Str.ofString " ") tf), (Str.ofString "string", .str x tx)]) B F X N T hA hf hke (by k_is) (by k_is) (by (first | exact om103 hroom | omega)) (BindsTo.of_eq rfl) (locs rfl) ?_ rfl rfl rfl (by decide)
  intro g' L' h' FG' F' N' B' X' T'
  try dsimp only
  iterate 7 walk1
  refine acc_method (X'.keeps F'.keep) (InstAt.of_acc N' (.tail _ (.head _)) (.tail _ (.tail _ (.tail _ (.tail _ (.head _)))))) (by k_is) (by k_is) (by k_is) (looks_typeIn (X'.keeps F'.keep) (by k_is)) (.inl rfl) rfl ?_
  iterate 6 walk1
  refine ⟨X'.keeps F'.keep, ?_⟩
  refine push_ok B' F' X' (News.reord N' (l' := (a, accObj da items n) :: (182, tabObj ps) :: (v, instObj 136 d) :: (d, vfDict kh kt vt ln a kd) :: (da, accDict hs t z tz k) :: news) (by exact sub_ixr [1, 0] 2 rfl)) T' (by show A.frames.map _ = _; rw [hA]; rfl) rfl rfl (by show A.depth + 1 + 1 < recursionLimit; (first | exact om104 hroom | omega)) (by show A.units + 3 + 40 < cLine; (first | exact om105 hu | omega)) (.tail _ (.tail _ (.tail _ (.head _)))) (all_cons (Ne.symm (hPa _ (.head _))) hw) (by have := hparts.length; (first | exact om106 hmany this | omega)) ?_
  intro h1 tk1 T1 F1 N1 lt1
  walk_at "my go"
  have hP1 : ∀ q ∈ (a, accObj da (items ++ [.ref T1]) (n + 1)) :: (T1, tupObj (.str (Str.ofString " ") tf) (.str x tx) 0) :: (v, instObj 136 d) :: (d, vfDict kh kt vt ln a kd) :: (da, accDict hs t z tz k) :: news, q.1 ≠ 182 :=
    all_cons (hPa (a, accObj da items n) (.head _)) (all_cons (Nat.ne_of_gt (lt1 (182, tabObj ps) (.tail _ (.head _)))) fun q hq => hPa q (.tail _ hq))
  refine acclen_ok (parts := parts ++ [(Str.ofString " ", x)]) B' F1 X' (News.reord N1 (l' := (182, tabObj ps) :: (a, accObj da (items ++ [.ref T1]) (n + 1)) :: (T1, tupObj (.str (Str.ofString " ") tf) (.str x tx) 0) :: (v, instObj 136 d) :: (d, vfDict kh kt vt ln a kd) :: (da, accDict hs t z tz k) :: news) (by exact sub_ixr [2, 0, 1] 3 rfl)) T' (by show A.frames.map _ = _; rw [hA]; rfl) rfl rfl hH (by show A.depth + 1 + 1 < recursionLimit; (first | exact om104 hroom | omega)) (by show A.units + 3 + 1 + 40 < cLine; (first | exact om107 hu | omega)) G (.tail _ (.tail _ (.tail _ (.head _)))) hps hP1 (Parts.snoc (Parts.mono hparts (by exact sub_ixr [] 4 rfl)) (.head _)) ?_ ?_
  · intro q hq
    rcases List.mem_append.mp hq with hq | hq
    · have := hfit q hq; (first | exact om98 this | omega)
    · rw [List.mem_singleton.mp hq]
      exact ⟨by show (Str.ofString " ").length < 2 ^ 40; decide, by show x.length < 2 ^ 40; (first | exact om108 hx | omega)⟩
  intro h2 tk2 gs2 ps2 t2 F2 N2 hps2 G2
  have e : plen (parts ++ [(Str.ofString " ", x)]) = plen parts + 1 + x.length := by
    have : (Str.ofString " ").length = 1 := by decide
    simp [plen, this]
    (first | exact om109 | omega)
  rw [e]
  refine ⟨⟨by (first | exact om110 hz | omega), by (first | exact om111 hle | omega)⟩, ?_⟩
  walk_at "my go"
  rename News h₀ L _ _ => N8
  rename Fr h₀ L _ _ => F8
  exact ret _ _ _ _ _ _ _ F8 (News.reord N8 (by exact sub_ixr [0, 1, 3, 4, 5, 2] 6 rfl)) hps2 G2 (all_cons (lt1 _ (.tail _ (.head _))) (all_cons (lt1 _ (.head _)) fun q hq => lt1 q (.tail _ (.tail _ hq))))
end
section
-- D2a
theorem fresh_D2a : True := by
  w_top off
  trivial
set_option maxHeartbeats 1000000
section
variable {prog : Program} {w : World} {A : Around} {E : Value → Shared → Prop} {s : Shared} {K : Frag} {a da f L : Addr} {name : Str} {expr : Bool} {h₀ : Heap} {m : Str → Option Value} {news : List (Addr × Obj)} {Q : Value → Shared → Prop}
/-- a method of an accumulator, fetched as a value: a bound method is made -/
theorem acc_bound {items : List Value} {n k : Nat} {es : List DictEntry} (F : Fr h₀ L s.heap m) (N : News h₀ L s.heap news) (X : K.In s.heap) (hm : mroIn K 220 (.type "list") = some true) (I : InstAt s.heap a (accObj da items n) 220 (some (dictOf es k))) (hga : findIn K (.ref 220) "__getattribute__" = some (some (.builtin "list.__getattribute__")))
    (hgt : findIn K (.ref 220) "__getattr__" = some none) (hh : hasDictIn K 220 = true) (hf : findIn K (.ref 220) name = some (some (.ref f))) (hfn : isFn K (.ref f) = true)
    (hgf : specialIn K (.ref f) "__get__" = some (some (.builtin "function.__get__"))) (ht : takesIn K (.ref f) = some false) (hc : copiedNames.contains name = false) (hl : getL name es = some none)
    (h : ∀ q h', Fr h₀ L h' m → News h₀ L h' ((q, methodObj (.ref f) (.ref a)) :: news) → (∀ p ∈ news, p.1 < q) → Q (.ref q) { s with heap := h', toks := s.toks + 1 }) : wpAny (model prog w) A (getAttr (.ref a) name expr) Q E s := by
  have hfo := findObj_fn hh hf hgf ht hc (by show lookIn name (dictOf es k) = _; rw [lookIn_dict, hl])
  obtain ⟨hp, g, d, t, os⟩ := s
  have L0 := I.type (M := model prog w)
  have L1 := looks_findIn (M := model prog w) X hga
  have L2 := looks_findIn (M := model prog w) X hgt
  have L3 := looks_find (M := model prog w) X I hfo
  unfold getAttr getAttrBy
  refine wpAny_bind (wpAny_mkText (wpAny_holding (wpAny_bind (L0.at (wpAny_bind (L1.at ?_))))))
  show wpAny _ _ (getAttrByItsOwn _ _ _ _ _ _) _ _ _
  unfold getAttrByItsOwn hookBefore
  refine wpAny_bind (L2.at ?_)
  refine wpAny_bind (wpAny_attempt (wpAny_holding ?_))
  have e0 : callGetattribute (.ref a) (.str name t) (.builtin "list.__getattribute__") expr = boundAndCalled (.builtin "list.__getattribute__") (.ref a) (.str name t) := by
    unfold callGetattribute; cases expr <;> rfl
  show wpAny _ _ (callGetattribute (.ref a) (.str name t) (.builtin "list.__getattribute__") expr) _ _ _
  rw [e0]
  unfold boundAndCalled
  refine wpAny_bind (wpAny_of_eq (PySem.F.slot_list_getattribute.bind _) ?_)
  refine acc_call (nm := "__getattribute__") (s := ⟨hp, g, d, t + 1, os⟩) X hm I.at_ (.inl (by decide +kernel)) (by decide +kernel) PySem.F.slot_list_getattribute.plain am_entry_list_getattribute (PySem.F.args_list_getattribute_2 _ _) ?_
  unfold Builtin.«object.__getattribute__»
  refine wpAny_bind (wpAny_of_eq (a := (Value.ref a, [.str name t])) rfl ?_)
  refine wpAny_bind (wpAny_pure (wpAny_bind (L0.at (wpAny_bind (L3.at ?_)))))
  show wpAny _ _ (holding _ (call (.builtin "function.__get__") [.ref f, .ref a, .ref 220]) >>= _) _ _ _
  refine wpAny_bind (wpAny_holding (wpAny_call (fn_get X (beq_iff_eq.mp hfn) ?_)))
  refine wpAny_pure ⟨_, rfl, ?_⟩
  exact handed_on rfl (h hp.objs.size _ (F.push _) (N.push F _) fun p hp' => Heap.lt_size (N p hp').1)
end
section
variable {M : Model} {A : Around} {E : Value → Shared → Prop} {s : Shared} {env : Env}
theorem star_method {o : Expr} {name : Str} {apos pos p : Pos} {e : Expr} {Q : Value → Shared → Prop}
    (h : wpAny M A (eval o env) (fun ov s₁ => wpAny M A (getAttr ov name true) (fun f s₂ => wpAny M A (callWith pos f [] (backTo pos (starEach [.Starred e p] env)) []) Q E s₂) E s₁) E s)
    (he : eval (.Call (.Attribute o name apos) [.Starred e p] [] pos) env = (do
      let ov ← eval o env
      standAt apos.atName
      methodCall o name apos pos env ov 1 (backTo pos (starEach [.Starred e p] env)) []) := by rfl) (hst : starEach [.Starred e p] env = [(true, eval e env)] := by rfl) :
    wpAny M A (eval (.Call (.Attribute o name apos) [.Starred e p] [] pos) env) Q E s := by
  rw [he]
  refine wpAny_bind (wpAny_mono h (fun ov s₁ h₁ => wpAny_bind (wpAny_standAt ?_)) fun _ _ x => x)
  unfold methodCall
  rw [hst] at h₁ ⊢
  have e1 : methodCallForm 1 (backTo pos [(true, eval e env)]) [] = false := rfl
  rw [e1]
  refine wpAny_bind (wpAny_holding ?_)
  unfold calleeOf
  rw [if_neg Bool.false_ne_true]
  refine wpAny_bind (wpAny_mono h₁ (fun f s₂ h₂ => wpAny_pure ?_) fun _ _ x => x)
  refine wpAny_bind (wpAny_of_eq (a := pos) rfl h₂)
theorem callWith_MS {prog : Program} {w : World} {K : Frag} {h₀ : Heap} {L : Addr} {news : List (Addr × Obj)} {q g : Addr} {self : Value} {e : Expr} {pos p : Pos} {Q : Value → Shared → Prop} (_X : K.In h₀) (_N : News h₀ L s.heap news) (_q : (q, methodObj (.ref g) self) ∈ news) (hf : fnIn K g = true)
    (h : wpAny (model prog w) A (eval e env) (fun v s₁ => StarOf (model prog w) A E v (fun vs s₂ => MethP K q g self s₂.heap ∧ wpAny (model prog w) A (call (.ref q) vs) Q E s₂) s₁) E s)
    (he : starEach [.Starred e p] env = [(true, eval e env)] := by rfl) :
    wpAny (model prog w) A (callWith pos (.ref q) [] (backTo pos (starEach [.Starred e p] env)) []) Q E s := by
  rw [he]
  exact ks_call rfl (keeps_M hf) (ks_lone h)
end
end
section
-- D2
theorem fresh_D2 : True := by
  w_top off
  trivial
set_option maxHeartbeats 1000000
theorem newline_ok {w : World} {A A₀ : Around} {env : Env} {outer : List Env} {base h₀ : Heap} {L : Addr} {m : Str → Option Value} {news : List (Addr × Obj)} {s : Shared}
    {p : Program} {loose : List Str} {mean : ExcName → Option Value} {mg mb : Str → Option Value}
    {v d ln a da T1 : Addr} {kh : Nat → Int} {kt vt : Nat → Tok} {items : List Value} {n k kd nl : Nat} {z : Int} {t tz tf tx : Tok} {hs : Int} {ps qs : Array Value} {parts : List (Str × Str)} {x : Str} {Q E : Value → Shared → Prop}
    (B : Below A₀ base outer h₀) (F : Fr h₀ L s.heap m) (X : (hd.heap_39 w.params).In h₀) (N : News h₀ L s.heap ((182, tabObj ps) :: (189, tabObj qs) :: (a, accObj da (items ++ [.ref T1]) n) :: (v, instObj 136 d) :: (d, vfDict kh kt vt ln a kd) :: (da, accDict hs t z tz k) :: (ln, listOf #[] nl) :: (T1, tupObj (.str (Str.ofString " ") tf) (.str x tx) 0) :: news)) (T : Top p loose mean mg mb h₀)
    (hA : A.frames = some (env :: outer)) (hf : env.frame = some L) (hke : env.scope.kind = .function)
    (hH : A.handled = none) (hroom : A.depth + 4 < recursionLimit) (hu : A.units + 100 < cLine) (G : AllBare s.gens)
    (hps : TabOk ⟨139, 19, 139, 63⟩ ps) (hqs : TabOk ⟨142, 32, 142, 85⟩ qs)
    (hPa : ∀ q ∈ (a, accObj da (items ++ [.ref T1]) n) :: (v, instObj 136 d) :: (d, vfDict kh kt vt ln a kd) :: (da, accDict hs t z tz k) :: (ln, listOf #[] nl) :: (T1, tupObj (.str (Str.ofString " ") tf) (.str x tx) 0) :: news, q.1 ≠ 182 ∧ q.1 ≠ 189)
    (hw : ∀ q ∈ (v, instObj 136 d) :: (d, vfDict kh kt vt ln a kd) :: (da, accDict hs t z tz k) :: (ln, listOf #[] nl) :: (T1, tupObj (.str (Str.ofString " ") tf) (.str x tx) 0) :: news, q.1 ≠ a)
    (hw2 : ∀ q ∈ (v, instObj 136 d) :: (d, vfDict kh kt vt ln a kd) :: (ln, listOf #[] nl) :: (T1, tupObj (.str (Str.ofString " ") tf) (.str x tx) 0) :: news, q.1 ≠ da)
    (hw3 : ∀ q ∈ (v, instObj 136 d) :: (d, vfDict kh kt vt ln a kd) :: (da, accDict hs t z tz k) :: (T1, tupObj (.str (Str.ofString " ") tf) (.str x tx) 0) :: news, q.1 ≠ ln)
    (hparts : Parts news items parts)
    (hfit : ∀ q ∈ parts, q.1.length < 2 ^ 9 ∧ q.2.length < 2 ^ 9) (hx : x.length < 2 ^ 9) (hx0 : 0 < x.length) (hxo : PyData.strOk x = true) (hmany : parts.length < 800) (hz : 0 ≤ z) (hz1 : z < 2 ^ 20) (hns : Txt.isspace (ptext (parts ++ [(Str.ofString " ", x)])) = false)
    (ret : ∀ h' tk' gs' ps' qs' n' tz' nl' tl, Fr h₀ L h' m → News h₀ L h' ((182, tabObj ps') :: (189, tabObj qs') :: (a, accObj da [] n') :: (v, instObj 136 d) :: (d, vfDict kh kt vt ln a kd) :: (da, accDict hs t 0 tz' k) :: (ln, listOf #[.str (ptext (parts ++ [(Str.ofString " ", x)])) tl] nl') :: news) →
      TabOk ⟨139, 19, 139, 63⟩ ps' → TabOk ⟨142, 32, 142, 85⟩ qs' → AllBare gs' → Q .none { s with heap := h', toks := tk', gens := gs' }) :
    wpAny (model Challenge.rw_nb0237_01.row.prog w) A (call (.ref 98) [.ref v]) Q E s := by
  revert X; k_fill; intro X
  refine wpAny_call ?_
  refine code_def (binds := [(Str.ofString "self", .ref v)]) B F X N T hA hf hke (by k_is) (by k_is) (by (first | exact om113 hroom | omega)) (BindsTo.of_eq rfl) (locs rfl) ?_ rfl rfl rfl (by decide)
  intro g' L' h' FG' F' N' B' X' T'
  try dsimp only
  iterate 7 walk1
  refine acc_method (X'.keeps F'.keep) (InstAt.of_acc N' (.tail _ (.tail _ (.head _))) (.tail _ (.tail _ (.tail _ (.tail _ (.tail _ (.head _))))))) (by k_is) (by k_is) (by k_is) (looks_typeIn (X'.keeps F'.keep) (by k_is)) (.inl rfl) rfl ?_
  walk1
  refine pop_ok B' F' X' (News.reord N' (l' := (a, accObj da (items ++ [.ref T1]) n) :: (182, tabObj ps) :: (189, tabObj qs) :: (v, instObj 136 d) :: (d, vfDict kh kt vt ln a kd) :: (da, accDict hs t z tz k) :: (ln, listOf #[] nl) :: (T1, tupObj (.str (Str.ofString " ") tf) (.str x tx) 0) :: news) (by exact sub_ixr [2, 0, 1] 3 rfl)) T' (by show A.frames.map _ = _; rw [hA]; rfl) rfl rfl (by show A.depth + 1 + 2 < recursionLimit; (first | exact om114 hroom | omega)) (.tail _ (.tail _ (.tail _ (.tail _ (.head _))))) (all_cons (Ne.symm (hPa (a, accObj da (items ++ [.ref T1]) n) (.head _)).1) (all_cons (Ne.symm (hPa (a, accObj da (items ++ [.ref T1]) n) (.head _)).2) hw)) (by have := hparts.length; (first | exact om115 hmany this | omega)) ?_
  intro h1 tk1 F1 N1
  walk_at "my go"
  rename Fr g' L' _ _ => F2
  rename News g' L' _ _ => N2
  have r1 := reads_tuple_at (N2.get (.tail _ (.tail _ (.tail _ (.tail _ (.tail _ (.tail _ (.tail _ (.tail _ (.head _)))))))))) rfl rfl (.cons (.str (Str.ofString " ") tf) (.cons (.str x tx) .nil))
  have r2 := reads_tuple_at (N2.get (.head _)) rfl rfl (.cons (.str (Str.ofString " ") _) (.cons (.str (Str.ofString "") _) .nil))
  refine ne_dataH r1 r2 (by simp [SeqAt.shaped, PyData.canLay0, PyData.canLayAll0, PyData.depth, PyData.depthAll, hxo]; decide +kernel) (by simp [SeqAt.shaped, PyData.canLay0, PyData.canLayAll0, PyData.depth, PyData.depthAll]; decide +kernel) (by show A.units + 3 + 64 < cLine; (first | exact om116 hu | omega)) ?_
  have hne : (!PyData.eqv (.tuple [.str (Str.ofString " "), .str x]) (.tuple [.str (Str.ofString " "), .str (Str.ofString "")])) = true := by
    have hxe : (x == Str.ofString "") = false := by
      rw [beq_eq_false_iff_ne]
      rintro rfl
      exact absurd hx0 (by decide)
    simp [PyData.eqv, PyData.eqvAll, hxe]
  rw [hne]
  walk_at "my go"
  refine star_method ?_
  iterate 3 walk1
  refine acc_bound (f := 164) F2 N2 (X'.keeps F2.keep) (by k_is) (InstAt.of_acc N2 (.tail _ (.head _)) (.tail _ (.tail _ (.tail _ (.tail _ (.tail _ (.tail _ (.head _)))))))) (by k_is) (by k_is) (by k_is) (by k_is) (by k_is) (by k_is) (by k_is) (by decide +kernel) rfl ?_
  intro q3 h3 F3 N3 lt3
  refine callWith_MS (g := 164) X' N3 (.head _) (by k_is) ?_
  walk_at "my go"
  rename Fr g' L' _ _ => F4
  rename News g' L' _ _ => N4
  refine call_meth N4 (.head _) ?_
  refine push_code B' F4 X' (News.reord N4 (l' := (a, accObj da items (n + 1)) :: (182, tabObj ps) :: (189, tabObj qs) :: (v, instObj 136 d) :: (d, vfDict kh kt vt ln a kd) :: (da, accDict hs t z tz k) :: (ln, listOf #[] nl) :: (T1, tupObj (.str (Str.ofString " ") tf) (.str x tx) 0) :: news) (by exact sub_ixr [] 2 rfl)) T' (by show A.frames.map _ = _; rw [hA]; rfl) rfl rfl (by show A.depth + 1 + 1 < recursionLimit; (first | exact om117 hroom | omega)) (by show A.units + 3 + 40 < cLine; (first | exact om118 hu | omega)) (.tail _ (.tail _ (.tail _ (.tail _ (.head _))))) (all_cons (Ne.symm (hPa (a, accObj da (items ++ [.ref T1]) n) (.head _)).1) (all_cons (Ne.symm (hPa (a, accObj da (items ++ [.ref T1]) n) (.head _)).2) hw)) (by have := hparts.length; (first | exact om115 hmany this | omega)) ?_
  intro h5 tk5 T2 F5 N5 lt5
  walk_at "my go"
  have hwT : ∀ q ∈ (v, instObj 136 d) :: (d, vfDict kh kt vt ln a kd) :: (da, accDict hs t z tz k) :: (ln, listOf #[] nl) :: (T2, tupObj (.str (Str.ofString " ") tf) (.str x tx) 0) :: news, q.1 ≠ 182 ∧ q.1 ≠ 189 := by
    intro q hq
    rcases List.mem_cons.mp hq with rfl | hq
    · exact hPa (v, instObj 136 d) (.tail _ (.head _))
    rcases List.mem_cons.mp hq with rfl | hq
    · exact hPa (d, vfDict kh kt vt ln a kd) (.tail _ (.tail _ (.head _)))
    rcases List.mem_cons.mp hq with rfl | hq
    · exact hPa (da, accDict hs t z tz k) (.tail _ (.tail _ (.tail _ (.head _))))
    rcases List.mem_cons.mp hq with rfl | hq
    · exact hPa (ln, listOf #[] nl) (.tail _ (.tail _ (.tail _ (.tail _ (.head _)))))
    rcases List.mem_cons.mp hq with rfl | hq
    · exact ⟨Nat.ne_of_gt (lt5 (182, tabObj ps) (.tail _ (.head _))), Nat.ne_of_gt (lt5 (189, tabObj qs) (.tail _ (.tail _ (.head _))))⟩
    · exact hPa q (.tail _ (.tail _ (.tail _ (.tail _ (.tail _ (.tail _ hq))))))
  have hPa2 : ∀ q ∈ (a, accObj da (items ++ [.ref T2]) (n + 1 + 1)) :: (v, instObj 136 d) :: (d, vfDict kh kt vt ln a kd) :: (da, accDict hs t z tz k) :: (ln, listOf #[] nl) :: (T2, tupObj (.str (Str.ofString " ") tf) (.str x tx) 0) :: news, q.1 ≠ 182 ∧ q.1 ≠ 189 := all_cons (hPa (a, accObj da (items ++ [.ref T1]) n) (.head _)) hwT
  have hpt : Parts ((v, instObj 136 d) :: (d, vfDict kh kt vt ln a kd) :: (da, accDict hs t z tz k) :: (ln, listOf #[] nl) :: (T2, tupObj (.str (Str.ofString " ") tf) (.str x tx) 0) :: news) (items ++ [.ref T2]) (parts ++ [(Str.ofString " ", x)]) := Parts.snoc (Parts.mono hparts (by exact sub_ixr [] 5 rfl)) (.tail _ (.tail _ (.tail _ (.tail _ (.head _)))))
  have hft : ∀ q ∈ parts ++ [(Str.ofString " ", x)], q.1.length < 2 ^ 10 ∧ q.2.length < 2 ^ 10 := by
    intro q hq
    rcases List.mem_append.mp hq with hq | hq
    · have := hfit q hq; (first | exact om119 this | omega)
    · rw [List.mem_singleton.mp hq]
      exact ⟨by show (Str.ofString " ").length < 2 ^ 10; decide, by show x.length < 2 ^ 10; (first | exact om120 hx | omega)⟩
  have hpl : plen (parts ++ [(Str.ofString " ", x)]) = plen parts + 1 + x.length := by
    have : (Str.ofString " ").length = 1 := by decide
    simp [plen, this]
    (first | exact om109 | omega)
  have hple := plen_le parts (2 ^ 10) (fun q hq => by have := hfit q hq; (first | exact om121 this | omega))
  refine acclen_ok (parts := parts ++ [(Str.ofString " ", x)]) B' F5 X' (News.reord N5 (l' := (182, tabObj ps) :: (a, accObj da (items ++ [.ref T2]) (n + 1 + 1)) :: (189, tabObj qs) :: (v, instObj 136 d) :: (d, vfDict kh kt vt ln a kd) :: (da, accDict hs t z tz k) :: (ln, listOf #[] nl) :: (T2, tupObj (.str (Str.ofString " ") tf) (.str x tx) 0) :: news) (by exact sub_ixr [2, 0, 3, 4, 5, 6, 7, 1] 9 rfl)) T' (by show A.frames.map _ = _; rw [hA]; rfl) rfl rfl hH (by show A.depth + 1 + 1 < recursionLimit; (first | exact om117 hroom | omega)) (by show A.units + 3 + 1 + 40 < cLine; (first | exact om122 hu | omega)) G (.tail _ (.tail _ (.tail _ (.head _)))) hps (all_cons (hPa2 _ (.head _)).1 (all_cons (by show (189 : Nat) ≠ 182; decide) fun q hq => (hwT q hq).1)) (Parts.mono hpt (by exact sub_ixr [] 1 rfl)) (fun q hq => by have := hft q hq; (first | exact om98 this | omega)) ?_
  intro h6 tk6 gs6 ps6 t6 F6 N6 hps6 G6
  rw [hpl]
  refine ⟨⟨by (first | exact om110 hz | omega), by omega⟩, ?_⟩
  iterate 13 walk1
  rename Fr g' L' _ _ => F6
  rename News g' L' _ _ => N6
  refine acc_method (X'.keeps F6.keep) (InstAt.of_acc N6 (.tail _ (.head _)) (.tail _ (.tail _ (.tail _ (.tail _ (.tail _ (.head _))))))) (by k_is) (by k_is) (by k_is) (looks_typeIn (X'.keeps F6.keep) (by k_is)) (.inl rfl) rfl ?_
  walk1
  refine onlyws_ok (parts := parts ++ [(Str.ofString " ", x)]) B' F6 X' (News.reord N6 (l' := (182, tabObj ps6) :: (189, tabObj qs) :: (a, accObj da (items ++ [.ref T2]) (n + 1 + 1)) :: (v, instObj 136 d) :: (d, vfDict kh kt vt ln a kd) :: (da, accDict hs t z tz k) :: (ln, listOf #[] nl) :: (T2, tupObj (.str (Str.ofString " ") tf) (.str x tx) 0) :: news) (by exact sub_ixr [0, 2, 1] 3 rfl)) T' (by show A.frames.map _ = _; rw [hA]; rfl) rfl rfl hH (by show A.depth + 1 + 2 < recursionLimit; (first | exact om114 hroom | omega)) (by show A.units + 3 + 60 < cLine; (first | exact om124 hu | omega)) G6 (.tail _ (.tail _ (.head _))) hps6 hqs hPa2 hpt hft (by simp; (first | exact om125 hmany | omega)) hz (fun _ => ⟨by (first | exact om126 hpl | omega), hns⟩) ?_
  intro h7 tk7 gs7 ps7 qs7 F7 N7 hps7 hqs7 G7
  walk_at "my go"
  rename Fr g' L' _ _ => F7
  rename News g' L' _ _ => N7
  refine kso_call (by show A.units + 3 + 1 + 1 < cLine; (first | exact om127 hu | omega)) (X'.keeps F7.keep) (InstAt.of_acc N7 (.tail _ (.tail _ (.head _))) (.tail _ (.tail _ (.tail _ (.tail _ (.tail _ (.head _))))))) (by k_is) (by k_is) ?_
  refine accstr_ok (parts := parts ++ [(Str.ofString " ", x)]) B' F7 X' (News.reord N7 (l' := (189, tabObj qs7) :: (a, accObj da (items ++ [.ref T2]) (n + 1 + 1)) :: (182, tabObj ps7) :: (v, instObj 136 d) :: (d, vfDict kh kt vt ln a kd) :: (da, accDict hs t z tz k) :: (ln, listOf #[] nl) :: (T2, tupObj (.str (Str.ofString " ") tf) (.str x tx) 0) :: news) (by exact sub_ixr [1, 2, 0] 3 rfl)) T' (by show A.frames.map _ = _; rw [hA]; rfl) rfl rfl hH (by show A.depth + 1 + 1 < recursionLimit; (first | exact om117 hroom | omega)) G7 hqs7 (all_cons (hPa2 _ (.head _)).2 (all_cons (by show (182 : Nat) ≠ 189; decide) fun q hq => (hwT q hq).2)) (Parts.mono hpt (by exact sub_ixr [] 1 rfl)) hft (by simp; (first | exact om125 hmany | omega)) ?_
  intro h8 tk8 gs8 qs8 t8 F8 N8 hqs8 G8
  dsimp only [PySem.W.StrBack]
  walk1
  have hlnT : ln ≠ T2 := Nat.ne_of_lt (lt5 (ln, listOf #[] nl) (.tail _ (.tail _ (.tail _ (.tail _ (.tail _ (.tail _ (.head _))))))))
  refine r_append (xs := []) F8 (News.reord N8 (l' := (ln, listOf #[] nl) :: (182, tabObj ps7) :: (189, tabObj qs8) :: (a, accObj da (items ++ [.ref T2]) (n + 1 + 1)) :: (v, instObj 136 d) :: (d, vfDict kh kt vt ln a kd) :: (da, accDict hs t z tz k) :: (T2, tupObj (.str (Str.ofString " ") tf) (.str x tx) 0) :: news) (by exact sub_ixr [6, 2, 0, 1, 3, 4, 5] 7 rfl)) ?_ (by decide) ?_
  · have h1 := hPa2 (ln, listOf #[] nl) (.tail _ (.tail _ (.tail _ (.tail _ (.head _)))))
    have h2 := hw (ln, listOf #[] nl) (.tail _ (.tail _ (.tail _ (.head _))))
    exact all_cons h1.1.symm (all_cons h1.2.symm (all_cons (Ne.symm h2) (all_cons (hw3 _ (.head _)) (all_cons (hw3 (d, vfDict kh kt vt ln a kd) (.tail _ (.head _))) (all_cons (hw3 (da, accDict hs t z tz k) (.tail _ (.tail _ (.head _)))) (all_cons hlnT.symm fun q hq => hw3 q (.tail _ (.tail _ (.tail _ (.tail _ hq))))))))))
  intro h9 F9 N9
  iterate 9 walk1
  rename Fr g' L' _ _ => F9
  rename News g' L' _ _ => N9
  refine acc_method (X'.keeps F9.keep) (InstAt.of_acc N9 (.tail _ (.tail _ (.tail _ (.head _)))) (.tail _ (.tail _ (.tail _ (.tail _ (.tail _ (.tail _ (.head _)))))))) (by k_is) (by k_is) (by k_is) (looks_typeIn (X'.keeps F9.keep) (by k_is)) (.inl rfl) rfl ?_
  walk1
  refine reset_ok B' F9 X' (News.reord N9 (l' := (a, accObj da (items ++ [.ref T2]) (n + 1 + 1)) :: (da, accDict hs t z tz k) :: (182, tabObj ps7) :: (189, tabObj qs8) :: (v, instObj 136 d) :: (d, vfDict kh kt vt ln a kd) :: (ln, listOf #[.str (ptext (parts ++ [(Str.ofString " ", x)])) t8] (nl + 1)) :: news) (by exact sub_ixr [3, 6, 1, 2, 4, 5, 0] 8 rfl)) T' (by show A.frames.map _ = _; rw [hA]; rfl) rfl rfl (by show A.depth + 1 + 2 < recursionLimit; (first | exact om114 hroom | omega)) ?_ (hw (da, accDict hs t z tz k) (.tail _ (.tail _ (.head _)))) (by have := hparts.length; simp; (first | exact om128 hmany this | omega)) ?_
  · have h1 := hPa2 (a, accObj da (items ++ [.ref T2]) (n + 1 + 1)) (.head _)
    have h2 := hPa2 (da, accDict hs t z tz k) (.tail _ (.tail _ (.tail _ (.head _))))
    refine all_cons ⟨h1.1.symm, h2.1.symm⟩ (all_cons ⟨h1.2.symm, h2.2.symm⟩ (all_cons ⟨hw _ (.head _), hw2 _ (.head _)⟩ (all_cons ⟨hw (d, vfDict kh kt vt ln a kd) (.tail _ (.head _)), hw2 (d, vfDict kh kt vt ln a kd) (.tail _ (.head _))⟩ (all_cons ⟨hw (ln, listOf #[] nl) (.tail _ (.tail _ (.tail _ (.head _)))), hw2 (ln, listOf #[] nl) (.tail _ (.tail _ (.head _)))⟩ fun q hq => ⟨hw q (.tail _ (.tail _ (.tail _ (.tail _ (.tail _ hq))))), hw2 q (.tail _ (.tail _ (.tail _ (.tail _ hq))))⟩))))
  intro h10 tk10 n10 tz10 F10 N10
  walk_at "my go"
  rename Fr h₀ L _ _ => F11
  rename News h₀ L _ _ => N11
  exact ret _ _ _ _ _ _ _ _ _ F11 (News.reord N11 (by exact sub_ixr [2, 3, 0, 4, 5, 1] 6 rfl)) hps7 hqs8 G8
end
section
-- D3
theorem fresh_D3 : True := by
  w_top off
  trivial
set_option maxHeartbeats 1000000
theorem newline0_ok {w : World} {A A₀ : Around} {env : Env} {outer : List Env} {base h₀ : Heap} {L : Addr} {m : Str → Option Value} {news : List (Addr × Obj)} {s : Shared}
    {p : Program} {loose : List Str} {mean : ExcName → Option Value} {mg mb : Str → Option Value}
    {v d ln a da : Addr} {kh : Nat → Int} {kt vt : Nat → Tok} {lns : List Value} {n k kd nl : Nat} {z : Int} {t tz : Tok} {hs : Int} {ps qs : Array Value} {Q E : Value → Shared → Prop}
    (B : Below A₀ base outer h₀) (F : Fr h₀ L s.heap m) (X : (hd.heap_39 w.params).In h₀) (N : News h₀ L s.heap ((182, tabObj ps) :: (189, tabObj qs) :: (a, accObj da [] n) :: (v, instObj 136 d) :: (d, vfDict kh kt vt ln a kd) :: (da, accDict hs t z tz k) :: (ln, listOf lns.toArray nl) :: news)) (T : Top p loose mean mg mb h₀)
    (hA : A.frames = some (env :: outer)) (hf : env.frame = some L) (hke : env.scope.kind = .function)
    (hH : A.handled = none) (hroom : A.depth + 4 < recursionLimit) (hu : A.units + 100 < cLine) (G : AllBare s.gens)
    (hps : TabOk ⟨139, 19, 139, 63⟩ ps) (hqs : TabOk ⟨142, 32, 142, 85⟩ qs)
    (hPa : ∀ q ∈ (a, accObj da [] n) :: (v, instObj 136 d) :: (d, vfDict kh kt vt ln a kd) :: (da, accDict hs t z tz k) :: (ln, listOf lns.toArray nl) :: news, q.1 ≠ 182 ∧ q.1 ≠ 189)
    (hw : ∀ q ∈ (v, instObj 136 d) :: (d, vfDict kh kt vt ln a kd) :: (da, accDict hs t z tz k) :: (ln, listOf lns.toArray nl) :: news, q.1 ≠ a)
    (hw2 : ∀ q ∈ (v, instObj 136 d) :: (d, vfDict kh kt vt ln a kd) :: (ln, listOf lns.toArray nl) :: news, q.1 ≠ da)
    (hw3 : ∀ q ∈ (v, instObj 136 d) :: (d, vfDict kh kt vt ln a kd) :: (da, accDict hs t z tz k) :: news, q.1 ≠ ln)
    (hln : lns.length < 900) (hz : 0 ≤ z) (hz1 : z < 2 ^ 20)
    (ret : ∀ h' tk' gs' ps' qs' n' tz' nl' lns', Fr h₀ L h' m → News h₀ L h' ((182, tabObj ps') :: (189, tabObj qs') :: (a, accObj da [] n') :: (v, instObj 136 d) :: (d, vfDict kh kt vt ln a kd) :: (da, accDict hs t 0 tz' k) :: (ln, listOf lns'.toArray nl') :: news) →
      TabOk ⟨139, 19, 139, 63⟩ ps' → TabOk ⟨142, 32, 142, 85⟩ qs' → AllBare gs' → (lns' = lns ∧ z = 0 ∨ z ≠ 0 ∧ ∃ tl, lns' = lns ++ [.str (Str.ofString "") tl]) → Q .none { s with heap := h', toks := tk', gens := gs' }) :
    wpAny (model Challenge.rw_nb0237_01.row.prog w) A (call (.ref 98) [.ref v]) Q E s := by
  revert X; k_fill; intro X
  refine wpAny_call ?_
  refine code_def (binds := [(Str.ofString "self", .ref v)]) B F X N T hA hf hke (by k_is) (by k_is) (by (first | exact om113 hroom | omega)) (BindsTo.of_eq rfl) (locs rfl) ?_ rfl rfl rfl (by decide)
  intro g' L' h' FG' F' N' B' X' T'
  try dsimp only
  iterate 7 walk1
  refine acc_method (X'.keeps F'.keep) (InstAt.of_acc N' (.tail _ (.tail _ (.head _))) (.tail _ (.tail _ (.tail _ (.tail _ (.tail _ (.head _))))))) (by k_is) (by k_is) (by k_is) (looks_typeIn (X'.keeps F'.keep) (by k_is)) (.inl rfl) rfl ?_
  walk1
  refine pop0_ok B' F' X' (News.reord N' (l' := (a, accObj da [] n) :: (182, tabObj ps) :: (189, tabObj qs) :: (v, instObj 136 d) :: (d, vfDict kh kt vt ln a kd) :: (da, accDict hs t z tz k) :: (ln, listOf lns.toArray nl) :: news) (by exact sub_ixr [2, 0, 1] 3 rfl)) T' (by show A.frames.map _ = _; rw [hA]; rfl) rfl rfl (by show A.depth + 1 + 2 < recursionLimit; (first | exact om114 hroom | omega)) (.tail _ (.tail _ (.tail _ (.tail _ (.head _))))) ?_
  intro h1 tk1 T1 t1 t2 F1 N1 lt1
  walk_at "my go"
  rename Fr g' L' _ _ => F2
  rename News g' L' _ _ => N2
  refine star_method ?_
  iterate 3 walk1
  refine acc_bound (f := 164) F2 N2 (X'.keeps F2.keep) (by k_is) (InstAt.of_acc N2 (.tail _ (.tail _ (.head _))) (.tail _ (.tail _ (.tail _ (.tail _ (.tail _ (.tail _ (.tail _ (.head _))))))))) (by k_is) (by k_is) (by k_is) (by k_is) (by k_is) (by k_is) (by k_is) (by decide +kernel) rfl ?_
  intro q3 h3 F3 N3 lt3
  refine callWith_MS (g := 164) X' N3 (.head _) (by k_is) ?_
  walk_at "my go"
  rename Fr g' L' _ _ => F4
  rename News g' L' _ _ => N4
  refine call_meth N4 (.head _) ?_
  refine push_code B' F4 X' (News.reord N4 (l' := (a, accObj da [] n) :: (182, tabObj ps) :: (189, tabObj qs) :: (v, instObj 136 d) :: (d, vfDict kh kt vt ln a kd) :: (da, accDict hs t z tz k) :: (ln, listOf lns.toArray nl) :: news) (by exact sub_ixr [] 3 rfl)) T' (by show A.frames.map _ = _; rw [hA]; rfl) rfl rfl (by show A.depth + 1 + 1 < recursionLimit; (first | exact om117 hroom | omega)) (by show A.units + 3 + 40 < cLine; (first | exact om118 hu | omega)) (.tail _ (.tail _ (.tail _ (.tail _ (.head _))))) (all_cons (Ne.symm (hPa (a, accObj da [] n) (.head _)).1) (all_cons (Ne.symm (hPa (a, accObj da [] n) (.head _)).2) hw)) (by decide) ?_
  intro h5 tk5 T2 F5 N5 lt5
  walk_at "my go"
  rename Fr g' L' _ _ => F5
  rename News g' L' _ _ => N5
  have hwT : ∀ q ∈ (v, instObj 136 d) :: (d, vfDict kh kt vt ln a kd) :: (da, accDict hs t z tz k) :: (ln, listOf lns.toArray nl) :: (T2, tupObj (.str (Str.ofString "") t1) (.str (Str.ofString "") t2) 0) :: news, q.1 ≠ 182 ∧ q.1 ≠ 189 := by
    intro q hq
    rcases List.mem_cons.mp hq with rfl | hq
    · exact hPa (v, instObj 136 d) (.tail _ (.head _))
    rcases List.mem_cons.mp hq with rfl | hq
    · exact hPa (d, vfDict kh kt vt ln a kd) (.tail _ (.tail _ (.head _)))
    rcases List.mem_cons.mp hq with rfl | hq
    · exact hPa (da, accDict hs t z tz k) (.tail _ (.tail _ (.tail _ (.head _))))
    rcases List.mem_cons.mp hq with rfl | hq
    · exact hPa (ln, listOf lns.toArray nl) (.tail _ (.tail _ (.tail _ (.tail _ (.head _)))))
    rcases List.mem_cons.mp hq with rfl | hq
    · exact ⟨Nat.ne_of_gt (lt5 (182, tabObj ps) (.tail _ (.head _))), Nat.ne_of_gt (lt5 (189, tabObj qs) (.tail _ (.tail _ (.head _))))⟩
    · exact hPa q (.tail _ (.tail _ (.tail _ (.tail _ (.tail _ hq)))))
  have hPa2 : ∀ q ∈ (a, accObj da [.ref T2] (n + 1)) :: (v, instObj 136 d) :: (d, vfDict kh kt vt ln a kd) :: (da, accDict hs t z tz k) :: (ln, listOf lns.toArray nl) :: (T2, tupObj (.str (Str.ofString "") t1) (.str (Str.ofString "") t2) 0) :: news, q.1 ≠ 182 ∧ q.1 ≠ 189 := all_cons (hPa (a, accObj da [] n) (.head _)) hwT
  have hpt : Parts ((v, instObj 136 d) :: (d, vfDict kh kt vt ln a kd) :: (da, accDict hs t z tz k) :: (ln, listOf lns.toArray nl) :: (T2, tupObj (.str (Str.ofString "") t1) (.str (Str.ofString "") t2) 0) :: news) [.ref T2] [(Str.ofString "", Str.ofString "")] := Parts.snoc .nil (.tail _ (.tail _ (.tail _ (.tail _ (.head _)))))
  have hft : ∀ q ∈ [(Str.ofString "", Str.ofString "")], q.1.length < 2 ^ 10 ∧ q.2.length < 2 ^ 10 := by
    intro q hq
    rw [List.mem_singleton.mp hq]
    decide
  have hpl : plen [(Str.ofString "", Str.ofString "")] = 0 := by decide
  refine acclen_ok (parts := [(Str.ofString "", Str.ofString "")]) B' F5 X' (News.reord N5 (l' := (182, tabObj ps) :: (a, accObj da [.ref T2] (n + 1)) :: (189, tabObj qs) :: (v, instObj 136 d) :: (d, vfDict kh kt vt ln a kd) :: (da, accDict hs t z tz k) :: (ln, listOf lns.toArray nl) :: (T2, tupObj (.str (Str.ofString "") t1) (.str (Str.ofString "") t2) 0) :: news) (by exact sub_ixr [2, 0, 3, 4, 5, 6, 7, 1] 8 rfl)) T' (by show A.frames.map _ = _; rw [hA]; rfl) rfl rfl hH (by show A.depth + 1 + 1 < recursionLimit; (first | exact om117 hroom | omega)) (by show A.units + 3 + 1 + 40 < cLine; (first | exact om122 hu | omega)) G (.tail _ (.tail _ (.tail _ (.head _)))) hps (all_cons (hPa2 _ (.head _)).1 (all_cons (by show (189 : Nat) ≠ 182; decide) fun q hq => (hwT q hq).1)) (Parts.mono hpt (by exact sub_ixr [] 1 rfl)) (fun q hq => by have := hft q hq; (first | exact om98 this | omega)) ?_
  intro h6 tk6 gs6 ps6 t6 F6 N6 hps6 G6
  rw [hpl]
  refine ⟨⟨by (first | exact om129 hz | omega), by (first | exact om130 hz1 | omega)⟩, ?_⟩
  have hlnT : ln ≠ T2 := Nat.ne_of_lt (lt5 (ln, listOf lns.toArray nl) (.tail _ (.tail _ (.tail _ (.tail _ (.tail _ (.tail _ (.head _))))))))
  by_cases hzp : z = 0
  · subst hzp
    iterate 12 walk1
    rename Fr g' L' _ _ => F9
    rename News g' L' _ _ => N9
    refine acc_method (X'.keeps F9.keep) (InstAt.of_acc N9 (.tail _ (.head _)) (.tail _ (.tail _ (.tail _ (.tail _ (.tail _ (.head _))))))) (by k_is) (by k_is) (by k_is) (looks_typeIn (X'.keeps F9.keep) (by k_is)) (.inl rfl) rfl ?_
    walk1
    refine reset_ok B' F9 X' (News.reord N9 (l' := (a, accObj da [.ref T2] (n + 1)) :: (da, accDict hs t 0 tz k) :: (182, tabObj ps6) :: (189, tabObj qs) :: (v, instObj 136 d) :: (d, vfDict kh kt vt ln a kd) :: (ln, listOf lns.toArray nl) :: news) (by exact sub_ixr [1, 5, 0, 2, 3, 4, 6] 8 rfl)) T' (by show A.frames.map _ = _; rw [hA]; rfl) rfl rfl (by show A.depth + 1 + 2 < recursionLimit; (first | exact om114 hroom | omega)) (all_cons ⟨(hPa2 (a, accObj da [.ref T2] (n + 1)) (.head _)).1.symm, (hPa2 (da, accDict hs t 0 tz k) (.tail _ (.tail _ (.tail _ (.head _))))).1.symm⟩ (all_cons ⟨(hPa2 (a, accObj da [.ref T2] (n + 1)) (.head _)).2.symm, (hPa2 (da, accDict hs t 0 tz k) (.tail _ (.tail _ (.tail _ (.head _))))).2.symm⟩ (all_cons ⟨hw _ (.head _), hw2 _ (.head _)⟩ (all_cons ⟨hw (d, vfDict kh kt vt ln a kd) (.tail _ (.head _)), hw2 (d, vfDict kh kt vt ln a kd) (.tail _ (.head _))⟩ (all_cons ⟨hw (ln, listOf lns.toArray nl) (.tail _ (.tail _ (.tail _ (.head _)))), hw2 (ln, listOf lns.toArray nl) (.tail _ (.tail _ (.head _)))⟩ fun q hq => ⟨hw q (.tail _ (.tail _ (.tail _ (.tail _ hq)))), hw2 q (.tail _ (.tail _ (.tail _ hq)))⟩))))) (hw (da, accDict hs t 0 tz k) (.tail _ (.tail _ (.head _)))) (by simp) ?_
    intro h10 tk10 n10 tz10 F10 N10
    walk_at "my go"
    rename Fr h₀ L _ _ => F11
    rename News h₀ L _ _ => N11
    exact ret _ _ _ _ _ _ _ _ _ F11 (News.reord N11 (by exact sub_ixr [2, 3, 0, 4, 5, 1] 6 rfl)) hps6 hqs G6 (.inl ⟨rfl, rfl⟩)
  · have hzq : 0 < z := by (first | exact om131 hz hzp | omega)
    iterate 13 walk1
    rename Fr g' L' _ _ => F6
    rename News g' L' _ _ => N6
    refine acc_method (X'.keeps F6.keep) (InstAt.of_acc N6 (.tail _ (.head _)) (.tail _ (.tail _ (.tail _ (.tail _ (.tail _ (.head _))))))) (by k_is) (by k_is) (by k_is) (looks_typeIn (X'.keeps F6.keep) (by k_is)) (.inl rfl) rfl ?_
    walk1
    refine onlyws_ok (parts := [(Str.ofString "", Str.ofString "")]) B' F6 X' (News.reord N6 (l' := (182, tabObj ps6) :: (189, tabObj qs) :: (a, accObj da [.ref T2] (n + 1)) :: (v, instObj 136 d) :: (d, vfDict kh kt vt ln a kd) :: (da, accDict hs t z tz k) :: (ln, listOf lns.toArray nl) :: (T2, tupObj (.str (Str.ofString "") t1) (.str (Str.ofString "") t2) 0) :: news) (by exact sub_ixr [0, 2, 1] 3 rfl)) T' (by show A.frames.map _ = _; rw [hA]; rfl) rfl rfl hH (by show A.depth + 1 + 2 < recursionLimit; (first | exact om114 hroom | omega)) (by show A.units + 3 + 60 < cLine; (first | exact om124 hu | omega)) G6 (.tail _ (.tail _ (.head _))) hps6 hqs hPa2 hpt hft (by decide) hz (fun e => absurd e hzp) ?_
    intro h7 tk7 gs7 ps7 qs7 F7 N7 hps7 hqs7 G7
    walk_at "my go"
    rename Fr g' L' _ _ => F7
    rename News g' L' _ _ => N7
    refine kso_call (by show A.units + 3 + 1 + 1 < cLine; (first | exact om127 hu | omega)) (X'.keeps F7.keep) (InstAt.of_acc N7 (.tail _ (.tail _ (.head _))) (.tail _ (.tail _ (.tail _ (.tail _ (.tail _ (.head _))))))) (by k_is) (by k_is) ?_
    refine accstr_ok (parts := [(Str.ofString "", Str.ofString "")]) B' F7 X' (News.reord N7 (l' := (189, tabObj qs7) :: (a, accObj da [.ref T2] (n + 1)) :: (182, tabObj ps7) :: (v, instObj 136 d) :: (d, vfDict kh kt vt ln a kd) :: (da, accDict hs t z tz k) :: (ln, listOf lns.toArray nl) :: (T2, tupObj (.str (Str.ofString "") t1) (.str (Str.ofString "") t2) 0) :: news) (by exact sub_ixr [1, 2, 0] 3 rfl)) T' (by show A.frames.map _ = _; rw [hA]; rfl) rfl rfl hH (by show A.depth + 1 + 1 < recursionLimit; (first | exact om117 hroom | omega)) G7 hqs7 (all_cons (hPa2 _ (.head _)).2 (all_cons (by show (182 : Nat) ≠ 189; decide) fun q hq => (hwT q hq).2)) (Parts.mono hpt (by exact sub_ixr [] 1 rfl)) hft (by decide) ?_
    intro h8 tk8 gs8 qs8 t8 F8 N8 hqs8 G8
    dsimp only [PySem.W.StrBack]
    walk1
    refine r_append F8 (News.reord N8 (l' := (ln, listOf lns.toArray nl) :: (182, tabObj ps7) :: (189, tabObj qs8) :: (a, accObj da [.ref T2] (n + 1)) :: (v, instObj 136 d) :: (d, vfDict kh kt vt ln a kd) :: (da, accDict hs t z tz k) :: (T2, tupObj (.str (Str.ofString "") t1) (.str (Str.ofString "") t2) 0) :: news) (by exact sub_ixr [6, 2, 0, 1, 3, 4, 5] 7 rfl)) ?_ (by (first | exact om68 hln | omega)) ?_
    · have h1 := hPa2 (ln, listOf lns.toArray nl) (.tail _ (.tail _ (.tail _ (.tail _ (.head _)))))
      have h2 := hw (ln, listOf lns.toArray nl) (.tail _ (.tail _ (.tail _ (.head _))))
      exact all_cons h1.1.symm (all_cons h1.2.symm (all_cons (Ne.symm h2) (all_cons (hw3 _ (.head _)) (all_cons (hw3 (d, vfDict kh kt vt ln a kd) (.tail _ (.head _))) (all_cons (hw3 (da, accDict hs t z tz k) (.tail _ (.tail _ (.head _)))) (all_cons hlnT.symm fun q hq => hw3 q (.tail _ (.tail _ (.tail _ hq)))))))))
    intro h9 F9 N9
    iterate 9 walk1
    rename Fr g' L' _ _ => F9
    rename News g' L' _ _ => N9
    refine acc_method (X'.keeps F9.keep) (InstAt.of_acc N9 (.tail _ (.tail _ (.tail _ (.head _)))) (.tail _ (.tail _ (.tail _ (.tail _ (.tail _ (.tail _ (.head _)))))))) (by k_is) (by k_is) (by k_is) (looks_typeIn (X'.keeps F9.keep) (by k_is)) (.inl rfl) rfl ?_
    walk1
    have ept : ptext [(Str.ofString "", Str.ofString "")] = Str.ofString "" := by decide
    refine reset_ok B' F9 X' (News.reord N9 (l' := (a, accObj da [.ref T2] (n + 1)) :: (da, accDict hs t z tz k) :: (182, tabObj ps7) :: (189, tabObj qs8) :: (v, instObj 136 d) :: (d, vfDict kh kt vt ln a kd) :: (ln, listOf (lns ++ [Value.str (ptext [(Str.ofString "", Str.ofString "")]) t8]).toArray (nl + 1)) :: news) (by exact sub_ixr [3, 6, 1, 2, 4, 5, 0] 8 rfl)) T' (by show A.frames.map _ = _; rw [hA]; rfl) rfl rfl (by show A.depth + 1 + 2 < recursionLimit; (first | exact om114 hroom | omega)) (all_cons ⟨(hPa2 (a, accObj da [.ref T2] (n + 1)) (.head _)).1.symm, (hPa2 (da, accDict hs t z tz k) (.tail _ (.tail _ (.tail _ (.head _))))).1.symm⟩ (all_cons ⟨(hPa2 (a, accObj da [.ref T2] (n + 1)) (.head _)).2.symm, (hPa2 (da, accDict hs t z tz k) (.tail _ (.tail _ (.tail _ (.head _))))).2.symm⟩ (all_cons ⟨hw _ (.head _), hw2 _ (.head _)⟩ (all_cons ⟨hw (d, vfDict kh kt vt ln a kd) (.tail _ (.head _)), hw2 (d, vfDict kh kt vt ln a kd) (.tail _ (.head _))⟩ (all_cons ⟨hw (ln, listOf lns.toArray nl) (.tail _ (.tail _ (.tail _ (.head _)))), hw2 (ln, listOf lns.toArray nl) (.tail _ (.tail _ (.head _)))⟩ fun q hq => ⟨hw q (.tail _ (.tail _ (.tail _ (.tail _ hq)))), hw2 q (.tail _ (.tail _ (.tail _ hq)))⟩))))) (hw (da, accDict hs t z tz k) (.tail _ (.tail _ (.head _)))) (by simp) ?_
    intro h10 tk10 n10 tz10 F10 N10
    walk_at "my go"
    rename Fr h₀ L _ _ => F11
    rename News h₀ L _ _ => N11
    exact ret _ _ _ _ _ _ _ _ _ F11 (News.reord N11 (by exact sub_ixr [2, 3, 0, 4, 5, 1] 6 rfl)) hps7 hqs8 G8 (.inr ⟨hzp, t8, by rw [ept]⟩)
end
section
-- D4
theorem fresh_D4 : True := by
  w_top off
  trivial
set_option maxHeartbeats 1000000
theorem txt_join_one (sep x : Str) : Txt.join sep [x] = x := by
  show Builtin.Str.glued sep [x] = x
  rw [StrLaws.glued_eq_join]; rfl
theorem txt_join_none (sep : Str) : Txt.join sep [] = Str.ofString "" := by
  show Builtin.Str.glued sep [] = _
  rw [StrLaws.glued_eq_join]; show Str.empty = Str.ofString ""; decide
theorem ptext_len (parts : List (Str × Str)) : (ptext parts).length = plen parts := by
  unfold ptext plen
  show (Builtin.Str.glued (Str.ofString "") (parts.map fun q => q.1 ++ q.2)).length = _
  rw [StrLaws.glued_eq_join]
  cases parts with
  | nil => rfl
  | cons q r =>
    have z : (Str.ofString "").length = 0 := by decide
    rw [List.map_cons, len_join_cons, z]
    simp [Str.length_append, Function.comp_def]
theorem str84_ok {w : World} {A A₀ : Around} {env : Env} {outer : List Env} {base h₀ : Heap} {L : Addr} {m : Str → Option Value} {news : List (Addr × Obj)} {s : Shared}
    {p : Program} {loose : List Str} {mean : ExcName → Option Value} {mg mb : Str → Option Value}
    {v d ln a da T1 : Addr} {kh : Nat → Int} {kt vt : Nat → Tok} {items : List Value} {n k kd nl : Nat} {z : Int} {t tz tf tx : Tok} {hs : Int} {ps qs : Array Value} {parts : List (Str × Str)} {x : Str} {sep : Str} {ts : Tok} {Q E : Value → Shared → Prop}
    (B : Below A₀ base outer h₀) (F : Fr h₀ L s.heap m) (X : (hd.heap_39 w.params).In h₀) (N : News h₀ L s.heap ((182, tabObj ps) :: (189, tabObj qs) :: (a, accObj da (items ++ [.ref T1]) n) :: (v, instObj 136 d) :: (d, vfDict kh kt vt ln a kd) :: (da, accDict hs t z tz k) :: (ln, listOf #[] nl) :: (T1, tupObj (.str (Str.ofString " ") tf) (.str x tx) 0) :: news)) (T : Top p loose mean mg mb h₀)
    (hA : A.frames = some (env :: outer)) (hf : env.frame = some L) (hke : env.scope.kind = .function)
    (hH : A.handled = none) (hroom : A.depth + 5 < recursionLimit) (hu : A.units + 110 < cLine) (G : AllBare s.gens)
    (hps : TabOk ⟨139, 19, 139, 63⟩ ps) (hqs : TabOk ⟨142, 32, 142, 85⟩ qs)
    (hPa : ∀ q ∈ (a, accObj da (items ++ [.ref T1]) n) :: (v, instObj 136 d) :: (d, vfDict kh kt vt ln a kd) :: (da, accDict hs t z tz k) :: (ln, listOf #[] nl) :: (T1, tupObj (.str (Str.ofString " ") tf) (.str x tx) 0) :: news, q.1 ≠ 182 ∧ q.1 ≠ 189)
    (hw : ∀ q ∈ (v, instObj 136 d) :: (d, vfDict kh kt vt ln a kd) :: (da, accDict hs t z tz k) :: (ln, listOf #[] nl) :: (T1, tupObj (.str (Str.ofString " ") tf) (.str x tx) 0) :: news, q.1 ≠ a)
    (hw2 : ∀ q ∈ (v, instObj 136 d) :: (d, vfDict kh kt vt ln a kd) :: (ln, listOf #[] nl) :: (T1, tupObj (.str (Str.ofString " ") tf) (.str x tx) 0) :: news, q.1 ≠ da)
    (hw3 : ∀ q ∈ (v, instObj 136 d) :: (d, vfDict kh kt vt ln a kd) :: (da, accDict hs t z tz k) :: (T1, tupObj (.str (Str.ofString " ") tf) (.str x tx) 0) :: news, q.1 ≠ ln)
    (hparts : Parts news items parts)
    (hfit : ∀ q ∈ parts, q.1.length < 2 ^ 9 ∧ q.2.length < 2 ^ 9) (hx : x.length < 2 ^ 9) (hx0 : 0 < x.length) (hxo : PyData.strOk x = true) (hmany : parts.length < 800) (hz : 0 ≤ z) (hz1 : z < 2 ^ 20) (hsep : sep.length ≤ 64) (hns : Txt.isspace (ptext (parts ++ [(Str.ofString " ", x)])) = false)
    (ret : ∀ h' tk' gs' ps' qs' n' tz' nl' tl tr, Fr h₀ L h' m → News h₀ L h' ((182, tabObj ps') :: (189, tabObj qs') :: (a, accObj da [] n') :: (v, instObj 136 d) :: (d, vfDict kh kt vt ln a kd) :: (da, accDict hs t 0 tz' k) :: (ln, listOf #[.str (ptext (parts ++ [(Str.ofString " ", x)])) tl] nl') :: news) →
      TabOk ⟨139, 19, 139, 63⟩ ps' → TabOk ⟨142, 32, 142, 85⟩ qs' → AllBare gs' → Q (.str (ptext (parts ++ [(Str.ofString " ", x)])) tr) { s with heap := h', toks := tk', gens := gs' }) :
    wpAny (model Challenge.rw_nb0237_01.row.prog w) A (call (.ref 84) [.ref v, .str sep ts]) Q E s := by
  revert X; k_fill; intro X
  refine wpAny_call ?_
  refine code_def (binds := [(Str.ofString "self", .ref v), (Str.ofString "linesep", .str sep ts)]) B F X N T hA hf hke (by k_is) (by k_is) (by (first | exact om133 hroom | omega)) (BindsTo.of_eq rfl) (locs rfl) ?_ rfl rfl rfl (by decide)
  intro g' L' h' FG' F' N' B' X' T'
  try dsimp only
  walk_at "my go"
  refine newline_ok B' F' X' N' T' (by show A.frames.map _ = _; rw [hA]; rfl) rfl rfl hH (by show A.depth + 1 + 4 < recursionLimit; (first | exact om134 hroom | omega)) (by show A.units + 3 + 100 < cLine; (first | exact om135 hu | omega)) G hps hqs hPa hw hw2 hw3 hparts hfit hx hx0 hxo hmany hz hz1 hns ?_
  intro h1 tk1 gs1 ps1 qs1 n1 tz1 nl1 tl1 F1 N1 hps1 hqs1 G1
  walk_at "my go"
  rename Fr g' L' _ _ => F2
  rename News g' L' _ _ => N2
  have hple := plen_le parts (2 ^ 10) (fun q hq => by have := hfit q hq; (first | exact om121 this | omega))
  have hpl : plen (parts ++ [(Str.ofString " ", x)]) = plen parts + 1 + x.length := by
    have : (Str.ofString " ").length = 1 := by decide
    simp [plen, this]
    (first | exact om109 | omega)
  refine join_listC (items := #[.str (ptext (parts ++ [(Str.ofString " ", x)])) tl1]) (ys := [ptext (parts ++ [(Str.ofString " ", x)])]) (News.isList N2 (.tail _ (.tail _ (.tail _ (.tail _ (.tail _ (.tail _ (.head _)))))))) (.cons _ _ .nil) hsep ?_ ?_
  · simp only [List.map_cons, List.map_nil, List.sum_cons, List.sum_nil, List.length_cons, List.length_nil, ptext_len, hpl]
    omega
  intro t3 k3
  rw [txt_join_one]
  walk_at "my go"
  rename Fr h₀ L _ _ => F8
  rename News h₀ L _ _ => N8
  exact ret _ _ _ _ _ _ _ _ _ _ F8 N8 hps1 hqs1 G1
/-- what _lines shows -/
noncomputable def Shows (lns : List Value) (txt : Str) : Prop := (lns = [] ∧ txt = Str.ofString "") ∨ ∃ t, lns = [.str txt t]
theorem str840_ok {w : World} {A A₀ : Around} {env : Env} {outer : List Env} {base h₀ : Heap} {L : Addr} {m : Str → Option Value} {news : List (Addr × Obj)} {s : Shared}
    {p : Program} {loose : List Str} {mean : ExcName → Option Value} {mg mb : Str → Option Value}
    {v d ln a da : Addr} {kh : Nat → Int} {kt vt : Nat → Tok} {lns : List Value} {n k kd nl : Nat} {z : Int} {t tz : Tok} {hs : Int} {ps qs : Array Value} {sep : Str} {ts : Tok} {txt : Str} {Q E : Value → Shared → Prop}
    (B : Below A₀ base outer h₀) (F : Fr h₀ L s.heap m) (X : (hd.heap_39 w.params).In h₀) (N : News h₀ L s.heap ((182, tabObj ps) :: (189, tabObj qs) :: (a, accObj da [] n) :: (v, instObj 136 d) :: (d, vfDict kh kt vt ln a kd) :: (da, accDict hs t z tz k) :: (ln, listOf lns.toArray nl) :: news)) (T : Top p loose mean mg mb h₀)
    (hA : A.frames = some (env :: outer)) (hf : env.frame = some L) (hke : env.scope.kind = .function)
    (hH : A.handled = none) (hroom : A.depth + 5 < recursionLimit) (hu : A.units + 110 < cLine) (G : AllBare s.gens)
    (hps : TabOk ⟨139, 19, 139, 63⟩ ps) (hqs : TabOk ⟨142, 32, 142, 85⟩ qs)
    (hPa : ∀ q ∈ (a, accObj da [] n) :: (v, instObj 136 d) :: (d, vfDict kh kt vt ln a kd) :: (da, accDict hs t z tz k) :: (ln, listOf lns.toArray nl) :: news, q.1 ≠ 182 ∧ q.1 ≠ 189)
    (hw : ∀ q ∈ (v, instObj 136 d) :: (d, vfDict kh kt vt ln a kd) :: (da, accDict hs t z tz k) :: (ln, listOf lns.toArray nl) :: news, q.1 ≠ a)
    (hw2 : ∀ q ∈ (v, instObj 136 d) :: (d, vfDict kh kt vt ln a kd) :: (ln, listOf lns.toArray nl) :: news, q.1 ≠ da)
    (hw3 : ∀ q ∈ (v, instObj 136 d) :: (d, vfDict kh kt vt ln a kd) :: (da, accDict hs t z tz k) :: news, q.1 ≠ ln)
    (hsep : sep.length ≤ 64) (htx : txt.length < 2 ^ 20) (hsh : Shows lns txt) (hz0 : z ≠ 0 → lns = []) (hz : 0 ≤ z) (hz1 : z < 2 ^ 20)
    (ret : ∀ h' tk' gs' ps' qs' n' tz' nl' lns' tr, Fr h₀ L h' m → News h₀ L h' ((182, tabObj ps') :: (189, tabObj qs') :: (a, accObj da [] n') :: (v, instObj 136 d) :: (d, vfDict kh kt vt ln a kd) :: (da, accDict hs t 0 tz' k) :: (ln, listOf lns'.toArray nl') :: news) →
      TabOk ⟨139, 19, 139, 63⟩ ps' → TabOk ⟨142, 32, 142, 85⟩ qs' → AllBare gs' → Shows lns' txt → Q (.str txt tr) { s with heap := h', toks := tk', gens := gs' }) :
    wpAny (model Challenge.rw_nb0237_01.row.prog w) A (call (.ref 84) [.ref v, .str sep ts]) Q E s := by
  revert X; k_fill; intro X
  refine wpAny_call ?_
  refine code_def (binds := [(Str.ofString "self", .ref v), (Str.ofString "linesep", .str sep ts)]) B F X N T hA hf hke (by k_is) (by k_is) (by (first | exact om133 hroom | omega)) (BindsTo.of_eq rfl) (locs rfl) ?_ rfl rfl rfl (by decide)
  intro g' L' h' FG' F' N' B' X' T'
  try dsimp only
  walk_at "my go"
  refine newline0_ok B' F' X' N' T' (by show A.frames.map _ = _; rw [hA]; rfl) rfl rfl hH (by show A.depth + 1 + 4 < recursionLimit; (first | exact om134 hroom | omega)) (by show A.units + 3 + 100 < cLine; (first | exact om135 hu | omega)) G hps hqs hPa hw hw2 hw3 (by rcases hsh with ⟨rfl, _⟩ | ⟨_, rfl⟩ <;> simp) hz hz1 ?_
  intro h1 tk1 gs1 ps1 qs1 n1 tz1 nl1 lns1 F1 N1 hps1 hqs1 G1 hl1
  have hsh1 : Shows lns1 txt := by
    rcases hl1 with ⟨rfl, _⟩ | ⟨hne, tl, rfl⟩
    · exact hsh
    · have e := hz0 hne
      subst e
      rcases hsh with ⟨_, e⟩ | ⟨_, e⟩
      · rw [e]; exact .inr ⟨tl, rfl⟩
      · cases e
  walk_at "my go"
  rename Fr g' L' _ _ => F2
  rename News g' L' _ _ => N2
  have hys : ∃ ys, StrsAre lns1 ys ∧ Txt.join sep ys = txt ∧ (ys.map (·.length)).sum + ys.length * 64 ≤ 16777216 := by
    rcases hsh1 with ⟨rfl, rfl⟩ | ⟨tl, rfl⟩
    · exact ⟨[], .nil, txt_join_none sep, by simp⟩
    · exact ⟨[txt], .cons _ _ .nil, txt_join_one sep txt, by simp; (first | exact om136 htx | omega)⟩
  obtain ⟨ys, hy1, hy2, hy3⟩ := hys
  refine join_listC (items := lns1.toArray) (ys := ys) (News.isList N2 (.tail _ (.tail _ (.tail _ (.tail _ (.tail _ (.tail _ (.head _)))))))) hy1 hsep hy3 ?_
  intro t3 k3
  rw [hy2]
  walk_at "my go"
  rename Fr h₀ L _ _ => F8
  rename News h₀ L _ _ => N8
  exact ret _ _ _ _ _ _ _ _ _ _ F8 N8 hps1 hqs1 G1 hsh1
end
section
-- D5
theorem fresh_D5 : True := by
  w_top off
  trivial
set_option maxHeartbeats 1000000
theorem str91_ok {w : World} {A A₀ : Around} {env : Env} {outer : List Env} {base h₀ : Heap} {L : Addr} {m : Str → Option Value} {news : List (Addr × Obj)} {s : Shared}
    {p : Program} {loose : List Str} {mean : ExcName → Option Value} {mg mb : Str → Option Value}
    {v d ln a da T1 : Addr} {kh : Nat → Int} {kt vt : Nat → Tok} {items : List Value} {n k kd nl : Nat} {z : Int} {t tz tf tx : Tok} {hs : Int} {ps qs : Array Value} {parts : List (Str × Str)} {x : Str} {Q E : Value → Shared → Prop}
    (B : Below A₀ base outer h₀) (F : Fr h₀ L s.heap m) (X : (hd.heap_39 w.params).In h₀) (N : News h₀ L s.heap ((182, tabObj ps) :: (189, tabObj qs) :: (a, accObj da (items ++ [.ref T1]) n) :: (v, instObj 136 d) :: (d, vfDict kh kt vt ln a kd) :: (da, accDict hs t z tz k) :: (ln, listOf #[] nl) :: (T1, tupObj (.str (Str.ofString " ") tf) (.str x tx) 0) :: news)) (T : Top p loose mean mg mb h₀)
    (hA : A.frames = some (env :: outer)) (hf : env.frame = some L) (hke : env.scope.kind = .function)
    (hH : A.handled = none) (hroom : A.depth + 6 < recursionLimit) (hu : A.units + 120 < cLine) (G : AllBare s.gens)
    (hps : TabOk ⟨139, 19, 139, 63⟩ ps) (hqs : TabOk ⟨142, 32, 142, 85⟩ qs)
    (hPa : ∀ q ∈ (a, accObj da (items ++ [.ref T1]) n) :: (v, instObj 136 d) :: (d, vfDict kh kt vt ln a kd) :: (da, accDict hs t z tz k) :: (ln, listOf #[] nl) :: (T1, tupObj (.str (Str.ofString " ") tf) (.str x tx) 0) :: news, q.1 ≠ 182 ∧ q.1 ≠ 189)
    (hw : ∀ q ∈ (v, instObj 136 d) :: (d, vfDict kh kt vt ln a kd) :: (da, accDict hs t z tz k) :: (ln, listOf #[] nl) :: (T1, tupObj (.str (Str.ofString " ") tf) (.str x tx) 0) :: news, q.1 ≠ a)
    (hw2 : ∀ q ∈ (v, instObj 136 d) :: (d, vfDict kh kt vt ln a kd) :: (ln, listOf #[] nl) :: (T1, tupObj (.str (Str.ofString " ") tf) (.str x tx) 0) :: news, q.1 ≠ da)
    (hw3 : ∀ q ∈ (v, instObj 136 d) :: (d, vfDict kh kt vt ln a kd) :: (da, accDict hs t z tz k) :: (T1, tupObj (.str (Str.ofString " ") tf) (.str x tx) 0) :: news, q.1 ≠ ln)
    (hparts : Parts news items parts)
    (hfit : ∀ q ∈ parts, q.1.length < 2 ^ 9 ∧ q.2.length < 2 ^ 9) (hx : x.length < 2 ^ 9) (hx0 : 0 < x.length) (hxo : PyData.strOk x = true) (hmany : parts.length < 800) (hz : 0 ≤ z) (hz1 : z < 2 ^ 20) (hns : Txt.isspace (ptext (parts ++ [(Str.ofString " ", x)])) = false)
    (ret : ∀ h' tk' gs' ps' qs' n' tz' nl' tl tr, Fr h₀ L h' m → News h₀ L h' ((182, tabObj ps') :: (189, tabObj qs') :: (a, accObj da [] n') :: (v, instObj 136 d) :: (d, vfDict kh kt vt ln a kd) :: (da, accDict hs t 0 tz' k) :: (ln, listOf #[.str (ptext (parts ++ [(Str.ofString " ", x)])) tl] nl') :: news) →
      TabOk ⟨139, 19, 139, 63⟩ ps' → TabOk ⟨142, 32, 142, 85⟩ qs' → AllBare gs' → Q (.str (ptext (parts ++ [(Str.ofString " ", x)])) tr) { s with heap := h', toks := tk', gens := gs' }) :
    wpAny (model Challenge.rw_nb0237_01.row.prog w) A (call (.ref 91) [.ref v]) Q E s := by
  revert X; k_fill; intro X
  refine wpAny_call ?_
  refine code_def (binds := [(Str.ofString "self", .ref v)]) B F X N T hA hf hke (by k_is) (by k_is) (by (first | exact om137 hroom | omega)) (BindsTo.of_eq rfl) (locs rfl) ?_ rfl rfl rfl (by decide)
  intro g' L' h' FG' F' N' B' X' T'
  try dsimp only
  walk_at "my go"
  rename Fr g' L' _ _ => F1
  rename News g' L' _ _ => N1
  refine str84_ok B' F1 X' N1 T' (by show A.frames.map _ = _; rw [hA]; rfl) rfl rfl hH (by show A.depth + 1 + 5 < recursionLimit; (first | exact om138 hroom | omega)) (by show A.units + 3 + 110 < cLine; (first | exact om139 hu | omega)) G hps hqs hPa hw hw2 hw3 hparts hfit hx hx0 hxo hmany hz hz1 (by decide) hns ?_
  intro h1 tk1 gs1 ps1 qs1 n1 tz1 nl1 tl1 tr1 F1 N1 hps1 hqs1 G1
  walk_at "my go"
  rename Fr h₀ L _ _ => F8
  rename News h₀ L _ _ => N8
  exact ret _ _ _ _ _ _ _ _ _ _ F8 N8 hps1 hqs1 G1
theorem str910_ok {w : World} {A A₀ : Around} {env : Env} {outer : List Env} {base h₀ : Heap} {L : Addr} {m : Str → Option Value} {news : List (Addr × Obj)} {s : Shared}
    {p : Program} {loose : List Str} {mean : ExcName → Option Value} {mg mb : Str → Option Value}
    {v d ln a da : Addr} {kh : Nat → Int} {kt vt : Nat → Tok} {lns : List Value} {n k kd nl : Nat} {z : Int} {t tz : Tok} {hs : Int} {ps qs : Array Value} {txt : Str} {Q E : Value → Shared → Prop}
    (B : Below A₀ base outer h₀) (F : Fr h₀ L s.heap m) (X : (hd.heap_39 w.params).In h₀) (N : News h₀ L s.heap ((182, tabObj ps) :: (189, tabObj qs) :: (a, accObj da [] n) :: (v, instObj 136 d) :: (d, vfDict kh kt vt ln a kd) :: (da, accDict hs t z tz k) :: (ln, listOf lns.toArray nl) :: news)) (T : Top p loose mean mg mb h₀)
    (hA : A.frames = some (env :: outer)) (hf : env.frame = some L) (hke : env.scope.kind = .function)
    (hH : A.handled = none) (hroom : A.depth + 6 < recursionLimit) (hu : A.units + 120 < cLine) (G : AllBare s.gens)
    (hps : TabOk ⟨139, 19, 139, 63⟩ ps) (hqs : TabOk ⟨142, 32, 142, 85⟩ qs)
    (hPa : ∀ q ∈ (a, accObj da [] n) :: (v, instObj 136 d) :: (d, vfDict kh kt vt ln a kd) :: (da, accDict hs t z tz k) :: (ln, listOf lns.toArray nl) :: news, q.1 ≠ 182 ∧ q.1 ≠ 189)
    (hw : ∀ q ∈ (v, instObj 136 d) :: (d, vfDict kh kt vt ln a kd) :: (da, accDict hs t z tz k) :: (ln, listOf lns.toArray nl) :: news, q.1 ≠ a)
    (hw2 : ∀ q ∈ (v, instObj 136 d) :: (d, vfDict kh kt vt ln a kd) :: (ln, listOf lns.toArray nl) :: news, q.1 ≠ da)
    (hw3 : ∀ q ∈ (v, instObj 136 d) :: (d, vfDict kh kt vt ln a kd) :: (da, accDict hs t z tz k) :: news, q.1 ≠ ln)
    (htx : txt.length < 2 ^ 20) (hsh : Shows lns txt) (hz0 : z ≠ 0 → lns = []) (hz : 0 ≤ z) (hz1 : z < 2 ^ 20)
    (ret : ∀ h' tk' gs' ps' qs' n' tz' nl' lns' tr, Fr h₀ L h' m → News h₀ L h' ((182, tabObj ps') :: (189, tabObj qs') :: (a, accObj da [] n') :: (v, instObj 136 d) :: (d, vfDict kh kt vt ln a kd) :: (da, accDict hs t 0 tz' k) :: (ln, listOf lns'.toArray nl') :: news) →
      TabOk ⟨139, 19, 139, 63⟩ ps' → TabOk ⟨142, 32, 142, 85⟩ qs' → AllBare gs' → Shows lns' txt → Q (.str txt tr) { s with heap := h', toks := tk', gens := gs' }) :
    wpAny (model Challenge.rw_nb0237_01.row.prog w) A (call (.ref 91) [.ref v]) Q E s := by
  revert X; k_fill; intro X
  refine wpAny_call ?_
  refine code_def (binds := [(Str.ofString "self", .ref v)]) B F X N T hA hf hke (by k_is) (by k_is) (by (first | exact om137 hroom | omega)) (BindsTo.of_eq rfl) (locs rfl) ?_ rfl rfl rfl (by decide)
  intro g' L' h' FG' F' N' B' X' T'
  try dsimp only
  walk_at "my go"
  rename Fr g' L' _ _ => F1
  rename News g' L' _ _ => N1
  refine str840_ok B' F1 X' N1 T' (by show A.frames.map _ = _; rw [hA]; rfl) rfl rfl hH (by show A.depth + 1 + 5 < recursionLimit; (first | exact om138 hroom | omega)) (by show A.units + 3 + 110 < cLine; (first | exact om139 hu | omega)) G hps hqs hPa hw hw2 hw3 (by decide) htx hsh hz0 hz hz1 ?_
  intro h1 tk1 gs1 ps1 qs1 n1 tz1 nl1 lns1 tr1 F1 N1 hps1 hqs1 G1 hsh1
  walk_at "my go"
  rename Fr h₀ L _ _ => F8
  rename News h₀ L _ _ => N8
  exact ret _ _ _ _ _ _ _ _ _ _ F8 N8 hps1 hqs1 G1 hsh1
end
section
-- E1
theorem fresh_E1 : True := by
  w_top off
  trivial
set_option maxHeartbeats 1000000
/-- a class over list, made by list.__new__ -/
noncomputable def okL (C : Addr) : Obj → Bool
  | ⟨_, _, .cls cd, sl⟩ => !cd.hasDel && (sl.toList[4]?).join == some (.builtin "list.__new__") && !cd.mro.isEmpty && cd.mro.contains (.ref C) && cd.mro.contains (.type "list")
  | _ => false
structure MakesL (M : Model) (h : Heap) (C : Addr) : Prop where
  obj : ∃ oc od cd sl, h.get? C = some ⟨oc, od, .cls cd, sl⟩ ∧ cd.hasDel = false ∧ cd.mro.isEmpty = false
  made : Looks M h (Bind.madeBy (.ref C)) (some "list.__new__")
  base : Looks M h (Bind.staticBase (.ref C)) (.ref C)
  self : Looks M h (isSubtype (.ref C) (.ref C)) true
  top : Looks M h (isSubtype (.ref C) (.type "list")) true
  call : Looks M h (specialOf (.ref C) "__call__") (some (.builtin "type.__call__"))
  typ : Looks M h (isInstance (.ref C) (.type "type")) true
theorem makesL_of {K : Frag} {M : Model} {h : Heap} (X : K.In h) {C : Addr} {o : Obj} (ho : K.lookup C = some o) (e : okL C o = true) (e7 : specialIn K (.ref C) "__call__" = some (some (.builtin "type.__call__"))) (e8 : instIn K (.ref C) (.type "type") = some true) : MakesL M h C := by
  unfold okL at e
  split at e
  · rename_i oc od cd sl
    simp only [Bool.and_eq_true, Bool.not_eq_true', beq_iff_eq] at e
    obtain ⟨⟨⟨⟨e2, e3⟩, e4⟩, e5⟩, e6⟩ := e
    have hc : clsIn K C = some cd := by unfold clsIn; rw [ho]
    have hm : Looks M h (mroOf (.ref C)) cd.mro := (looks_clsIn X hc).andThen .now
    obtain ⟨c, l, hl⟩ : ∃ c l, cd.mro = c :: l := by cases q : cd.mro with | nil => rw [q] at e4; cases e4 | cons c l => exact ⟨c, l, rfl⟩
    have made : Looks M h (Bind.madeBy (.ref C)) (some "list.__new__") := by
      intro A Q E s k q
      unfold Bind.madeBy
      refine wpAny_bind (hm A _ E s k ?_)
      rw [hl, List.forIn_cons]
      refine wpAny_bind (wpAny_bind (wpAny_bind (wpAny_bind (wpAny_loadPart (k _ _ (X _ _ ho)) (wpAny_pure ?_)))))
      dsimp only
      rw [← Array.getElem?_toList, e3]
      exact wpAny_pure (wpAny_pure (wpAny_pure q))
    refine ⟨⟨oc, od, cd, sl, X _ _ ho, e2, e4⟩, made, ?_, looks_mroIn X ?_, looks_mroIn X ?_, looks_specialIn X e7, looks_instIn X e8⟩
    · intro A Q E s k q
      unfold Bind.staticBase
      refine wpAny_bind (hm A _ E s k ?_)
      rw [hl, List.forIn_cons]
      exact wpAny_bind (wpAny_bind (wpAny_bind (made A _ E s k (wpAny_pure (wpAny_pure (wpAny_pure q))))))
    · unfold mroIn; rw [hc, Option.bind_some, if_neg (by rw [e4]; decide), e5]
    · unfold mroIn; rw [hc, Option.bind_some, if_neg (by rw [e4]; decide), e6]
  · cases e
theorem ln_kind : builtinKind "list.__new__" = some .builtinFn := by decide +kernel
theorem ln_split : splitId "list.__new__" = some ("list", "__new__") := by decide +kernel
theorem ln_row : Manifest.signature? "list.__new__" = some ⟨.any, "list", "list", .cls, [⟨"args", .varPos, false⟩, ⟨"kwargs", .varKw, false⟩]⟩ := by kernel_rfl
theorem ln_args (C : Addr) (v : Value) : Bind.checkArgs "list.__new__" ⟨.any, "list", "list", .cls, [⟨"args", .varPos, false⟩, ⟨"kwargs", .varKw, false⟩]⟩ ⟨[.ref C, v], []⟩ = pure () := by kernel_rfl
section
variable {prog : Program} {w : World} {A : Around} {K : Frag} {C : Addr} {R : Result → Shared → Prop} {h : Heap} {g : Array GenState} {d : Drawn} {t : Nat} {os : OsState}
theorem newL_K {v : Value} (Y : MakesL (model prog w) h C)
    (hq : R (.ok (.ret (.ref (h.objs.size + 1)))) ⟨(h.push emptyDict).push ⟨.ref C, some h.objs.size, .seq #[] 0, #[]⟩, g, d, t, os⟩) :
    codeAny (model prog w) A (.call (.builtin "list.__new__") ⟨[.ref C, v], []⟩) R ⟨h, g, d, t, os⟩ := by
  obtain ⟨⟨oc, od, cd, sl, hC, e2, e4⟩, made, base, self, top, call, typ⟩ := Y
  refine codeAny_call_builtin_code (plainId_quiet PySem.F.plain_list_new _) ?_
  simp only [checkBuiltinCall, ln_kind, ln_split, ln_row]
  have args := ln_args C v
  rw [args]
  repeat (first | simp only [bne_self_eq_false, Bool.false_eq_true, if_false] | lk)
  refine codeAny_builtin_stack PySem.F.entry_list_new rfl fun p st => ?_
  rw [Around.under_plainId PySem.F.plain_list_new _]
  have hown := owner_list_new
  simp only [hown]
  refine wpAny_bind (wpAny_bind (wpAny_load hC (wpAny_pure ?_)))
  refine wpAny_bind (top.at ?_)
  refine wpAny_bind (wpAny_pure ?_)
  show wpAny _ _ (newDict >>= _) _ _ _
  refine wpAny_bind (wpAny_newObj_type ?_)
  refine wpAny_bind ?_
  show wpAny _ _ (newObjAsIs _ _ _) _ _ _
  unfold newObjAsIs classHasDel
  refine wpAny_bind (wpAny_alloc (wpAny_bind (wpAny_bind (wpAny_load (Heap.get?_push_of_some _ (Heap.get?_push_of_some _ hC)) (wpAny_pure ?_)))))
  rw [e2]
  refine wpAny_pure (wpAny_pure ?_)
  show R _ _
  rw [Heap.size_push]
  exact hq
end
end
section
-- E2
theorem fresh_E2 : True := by
  w_top off
  trivial
set_option maxHeartbeats 1000000
section
variable {prog : Program} {w : World} {A : Around} {K : Frag} {R : Result → Shared → Prop} {h : Heap} {g : Array GenState} {d : Drawn} {t : Nat} {os : OsState}
theorem makeL_core {v init : Value} (Y : MakesL (model prog w) h 220) (hi : Looks (model prog w) h (typeLookup (.ref 220) "__init__") (some init))
    (hb : ∀ self, Looks (model prog w) h (bindSpecial init self) (init, [self]))
    (hq : codeAny (model prog w) (A.under (.builtin "type.__call__" ⟨[.ref 220, v], []⟩)) (.call init ⟨[.ref (h.objs.size + 1), v], []⟩) (InitBack (h.objs.size + 1) R) ⟨(h.push emptyDict).push (accObj h.objs.size [] 0), g, d, t, os⟩) :
    codeAny (model prog w) A (.call (.ref 220) ⟨[v], []⟩) R ⟨h, g, d, t, os⟩ := by
  have Y' := Y
  obtain ⟨⟨oc, od, cd, sl, hC, e2, e4⟩, made, base, self, top, call, typ⟩ := Y
  refine codeAny_of_tree ?_
  show wpAny _ _ (callAny (.ref 220) _) _ _ _
  refine nd_load hC ?_
  show wpAny _ _ (callAny.viaDunder (.ref 220) _) _ _ _
  unfold callAny.viaDunder
  refine wpAny_bind (call.at ?_)
  dsimp only
  rw [tc_bind]
  refine wpAny_bind (wpAny_pure (wpAny_bind (wpAny_pure ?_)))
  refine wpAny_pure (a := Fin.again (.call (.builtin "type.__call__") ⟨[.ref 220, v], []⟩)) (And.intro rfl ?_)
  refine codeAny_call_builtin_at (Code.quiet_builtin _ (by decide +kernel)) entry_typeCall (check_slot tc_kind tc_split typ (tc_args _ _ _) ?_)
  unfold Builtin.«type.__call__»
  have hm : Looks (model prog w) h (mroOf (.ref 220)) cd.mro := ((Looks.ld (part := none) hC).andThen .now).andThen .now
  repeat (first | simp only [e4, Bool.false_eq_true, if_false] | with_reducible refine wpAny_call ?_ | lk)
  refine newL_K Y' ?_
  have k : ∀ b o, h.get? b = some o → ((h.push emptyDict).push (accObj h.objs.size [] 0)).get? b = some o := fun b o e => Heap.get?_push_of_some _ (Heap.get?_push_of_some _ e)
  have hx : ((h.push emptyDict).push (accObj h.objs.size [] 0)).get? (h.objs.size + 1) = some (accObj h.objs.size [] 0) := by heap_get
  have t1 : Looks (model prog w) ((h.push emptyDict).push (accObj h.objs.size [] 0)) (typeOf (.ref (h.objs.size + 1))) (.ref 220) := (Looks.ld hx).andThen .now
  have s1 := self.keeps k
  have i1 := hi.keeps k
  have b1 := (hb (.ref (h.objs.size + 1))).keeps k
  unfold isInstance callSpecial? specialOf
  repeat (first | with_reducible refine wpAny_call ?_ | lk)
  refine codeAny_mono hq fun r s' z => ?_
  rcases r with e | (v | _ | _ | _) <;> first | exact z | exact z.elim | skip
  obtain ⟨rfl, z⟩ := z
  exact wpAny_pure (wpAny_pure z)
end
section
open AutoSeq1 (wpAny_loadPart')
variable {prog : Program} {w : World} {A : Around} {E : Value → Shared → Prop} {s : Shared} {a da : Addr} {items : List Value} {v : Value} {n : Nat} {Q : Fin → Shared → Prop}
theorem init_body (hl : s.heap.get? a = some (accObj da [] n)) 
    (h : Q (.done (.ret .none)) { s with heap := s.heap.update a (Obj.mapSeq fun _ => #[]) }) : wpAny (model prog w) A (Builtin.«list.__init__» ⟨[.ref a], []⟩) Q E s := by
  obtain ⟨hp, g, d, tk, os⟩ := s
  unfold Builtin.«list.__init__»
  wp_walk using wpAny_loadPart' hl
  exact h
end
theorem accmake_ok {w : World} {A A₀ : Around} {env : Env} {outer : List Env} {base h₀ : Heap} {L : Addr} {m : Str → Option Value} {news : List (Addr × Obj)} {s : Shared}
    {p : Program} {loose : List Str} {mean : ExcName → Option Value} {mg mb : Str → Option Value}
    {z : Int} {tz : Tok} {Q E : Value → Shared → Prop}
    (B : Below A₀ base outer h₀) (F : Fr h₀ L s.heap m) (X : (hd.heap_39 w.params).In h₀) (N : News h₀ L s.heap news) (T : Top p loose mean mg mb h₀)
    (hA : A.frames = some (env :: outer)) (hf : env.frame = some L) (hke : env.scope.kind = .function)
    (hroom : A.depth + 2 < recursionLimit)
    (ret : ∀ h' tk' a da hs t k n, Fr h₀ L h' m → News h₀ L h' ((a, accObj da [] n) :: (da, accDict hs t z tz k) :: news) → (∀ q ∈ news, q.1 < da) → da < a → Q (.ref a) { s with heap := h', toks := tk' }) :
    wpAny (model Challenge.rw_nb0237_01.row.prog w) A (call (.ref 220) [.int z tz]) Q E s := by
  revert X; k_fill; intro X
  refine wpAny_call ?_
  obtain ⟨hh, g, d, tk, os⟩ := s
  refine makeL_core (init := .ref 157) (makesL_of (X.keeps F.keep) (by k_is) (by decide +kernel) (by k_is) (by k_is)) (looks_findIn (X.keeps F.keep) (by k_is)) (fun self => bind_fn (X.keeps F.keep) self (by k_is)) ?_
  have F0 : Fr h₀ L ((hh.push emptyDict).push (accObj hh.objs.size [] 0)) m := (F.push _).push _
  have N0 := (N.push F emptyDict).push (F.push _) (accObj hh.objs.size [] 0)
  rw [Heap.size_push] at N0
  have lt0 : ∀ q ∈ news, q.1 < hh.objs.size := fun q hq => Heap.lt_size (N q hq).1
  generalize hda : hh.objs.size = da at N0 lt0 F0 ⊢
  generalize hxa : da + 1 = a at N0 ⊢
  have hfr : (A.under (Code.builtin "type.__call__" ⟨[.ref 220, .int z tz], []⟩)).frames = some (env :: outer) := by
    unfold Around.under
    dsimp only
    rw [hA]
    first | rfl | kernel_rfl
  have hdp : (A.under (Code.builtin "type.__call__" ⟨[.ref 220, .int z tz], []⟩)).depth = A.depth + 1 := by simp only [depth_under_make]
  have hdaa : da ≠ a := by (first | exact om141 hxa | omega)
  have hltda : da < a := by (first | exact om142 hxa | omega)
  refine ks_code_super (s := ⟨(hh.push emptyDict).push (accObj da [] 0), g, d, tk, os⟩) (binds := [(Str.ofString "self", .ref a), (Str.ofString "initial_size", .int z tz)]) B F0 X N0 T hfr hf hke (by k_is) (by k_is) (by rw [hdp]; (first | exact om143 hroom | omega)) (by exact binds_K (by k_in) rfl (by k_is) rfl rfl rfl) (locs rfl) ?_ (by decide) rfl rfl rfl
  intro g' L' h' FG' F' N' B' X' T' l1
  try dsimp only
  iterate 5 walk1
  refine acc_setattr F' X' N' hdaa (fun q hq => Nat.ne_of_lt (lt0 q hq)) (by k_is) (by k_is) (by k_is) rfl rfl rfl rfl (by show (1 : Nat) ≤ 1000; decide) ?_
  intro h1 F1 N1
  dsimp only
  walk1
  refine ks_wpAt_Expr_any ?_
  refine ks_wpAt_MethodCall ?_
  refine ks_node F1 X' N1 T' (by k_is) (by rfl) (by rfl) (InstAt.of_acc N1 (.head _) (.tail _ (.head _))) (by k_is) (by rfl) (by first | rfl | decide +kernel) (by k_is) (by k_is) (by k_is) (by k_is) (by decide) (by rfl) (by rfl) (by rfl) (by rfl) (by decide +kernel) (by first | boot_by_name | rfl | kernel_rfl) ?_
  intro so h2 F2 N2 l2
  refine acc_super F2 X' N2 (.head _) (.tail _ (.head _)) (by k_is) (by ks_is) (by decide) (by k_is) ty_init sl_wdget en_wdget (ar_wdget _ _ _) rfl (fun A' Q' s' hi hq => wd_init hi hq) ?_
  intro q h3 F3 N3 l3
  dsimp only
  refine callWith_of (P := fun h => h.get? q = some (mwObj "list.__init__" a)) rfl keeps_mw (evalArgs_nil3 ⟨(N3 _ (.head _)).1, ?_⟩)
  refine mw_call (rest := []) (N3 _ (.head _)).1 (by decide +kernel) (by decide +kernel) PySem.F.entry_list_init (by unfold argsOk; kernel_rfl) ?_
  refine init_body (N3 _ (.tail _ (.tail _ (.head _)))).1 ?_
  refine ⟨_, rfl, ?_⟩
  have Nr := News.reord N3 (l' := (a, accObj da [] 0) :: (da, accDict (PyData.keyHash w.params (Str.ofString "_initial_size")) (tk + 2 + 1) z tz 1) :: news) (by
    refine sub_cons (.tail _ (.tail _ (.head _))) (sub_cons (.tail _ (.tail _ (.tail _ (.head _)))) fun q hq => .tail _ (.tail _ (.tail _ (.tail _ hq)))))
  obtain ⟨F4, N4⟩ := acc_turn (s := ⟨h3, g, d, tk, os⟩) (items' := []) (n' := 0) (fun _ => #[]) F3 Nr (all_cons hdaa fun q hq => Nat.ne_of_lt (Nat.lt_trans (lt0 q hq) (by (first | exact om142 hxa | omega)))) rfl rfl
  dsimp only at F4 N4 ⊢
  walk_at "my go"
  rename Fr h₀ L _ _ => F8
  rename News h₀ L _ _ => N8
  exact ret _ _ _ _ _ _ _ _ F8 N8 lt0 hltda
end
section
-- E3
theorem fresh_E3 : True := by
  w_top off
  trivial
set_option maxHeartbeats 1000000
local macro_rules | `(tactic| k_all) => `(tactic| (intro q hq; exact Nat.ne_of_lt ((by assumption : ∀ p ∈ _, p.1 < _) q hq)))
theorem vf_news {h₀ h : Heap} {L a da v d ln : Addr} {n k kd nl : Nat} {hs z : Int} {t tz : Tok} {news : List (Addr × Obj)} {h0 h1 h2 h3 h4 h5 : Int} {k0 k1 k2 k3 k4 k5 v0 v1 v2 v3 : Tok}
    (N : News h₀ L h ((a, accObj da [] n) :: (da, accDict hs t z tz k) :: (ln, listOf #[] nl) :: (v, instObj 136 d) :: (d, dictOf [⟨h0, .str (Str.ofString "_maxlen") k0, .int 80 v0⟩, ⟨h1, .str (Str.ofString "_continuation_ws") k1, .str (Str.ofString " ") v1⟩, ⟨h2, .str (Str.ofString "_continuation_ws_len") k2, .int 1 v2⟩,
      ⟨h3, .str (Str.ofString "_splitchars") k3, .str (Str.ofString " ") v3⟩, ⟨h4, .str (Str.ofString "_lines") k4, .ref ln⟩, ⟨h5, .str (Str.ofString "_current_line") k5, .ref a⟩] kd) :: news)) :
    ∃ kh kt vt, News h₀ L h ((a, accObj da [] n) :: (v, instObj 136 d) :: (d, vfDict kh kt vt ln a kd) :: (da, accDict hs t z tz k) :: (ln, listOf #[] nl) :: news) :=
  ⟨fun i => [h0, h1, h2, h3, h4, h5].getD i 0, fun i => [k0, k1, k2, k3, k4, k5].getD i 0, fun i => [v0, v1, v2, v3].getD i 0, News.reord N (by exact sub_ixr [0, 3, 4, 1, 2] 5 rfl)⟩
theorem vfmake_ok {w : World} {A A₀ : Around} {env : Env} {outer : List Env} {base h₀ : Heap} {L : Addr} {m : Str → Option Value} {news : List (Addr × Obj)} {s : Shared}
    {p : Program} {loose : List Str} {mean : ExcName → Option Value} {mg mb : Str → Option Value}
    {z : Int} {tz t1 t2 t3 : Tok} {Q E : Value → Shared → Prop}
    (B : Below A₀ base outer h₀) (F : Fr h₀ L s.heap m) (X : (hd.heap_39 w.params).In h₀) (N : News h₀ L s.heap news) (T : Top p loose mean mg mb h₀)
    (hA : A.frames = some (env :: outer)) (hf : env.frame = some L) (hke : env.scope.kind = .function)
    (hroom : A.depth + 5 < recursionLimit)
    (ret : ∀ h' tk' v d ln a da kh kt vt kd hs t k n nl, Fr h₀ L h' m → News h₀ L h' ((a, accObj da [] n) :: (v, instObj 136 d) :: (d, vfDict kh kt vt ln a kd) :: (da, accDict hs t z tz k) :: (ln, listOf #[] nl) :: news) → (∀ q ∈ news, q.1 < d) → d < v → v < ln → ln < da → da < a → Q (.ref v) { s with heap := h', toks := tk' }) :
    wpAny (model Challenge.rw_nb0237_01.row.prog w) A (call (.ref 136) [.int z tz, .int 80 t1, .str (Str.ofString " ") t2, .str (Str.ofString " ") t3]) Q E s := by
  revert X; k_fill; intro X
  refine wpAny_call (make_K F N (X.keeps F.keep) (by k_is) (by k_is) (by k_is) ?_)
  intro v d h1 F1 N1 lt1 ltd
  k_lt2 ltd
  have hfr : (A.under (Code.builtin "type.__call__" ⟨.ref 136 :: [.int z tz, .int 80 t1, .str (Str.ofString " ") t2, .str (Str.ofString " ") t3], []⟩)).frames = some (env :: outer) := by
    unfold Around.under
    dsimp only
    rw [hA]
    first | rfl | kernel_rfl
  have hdp : (A.under (Code.builtin "type.__call__" ⟨.ref 136 :: [.int z tz, .int 80 t1, .str (Str.ofString " ") t2, .str (Str.ofString " ") t3], []⟩)).depth = A.depth + 1 := by simp only [depth_under_make]
  refine code_def (s := { s with heap := h1 }) (binds := [(Str.ofString "self", .ref v), (Str.ofString "headerlen", .int z tz), (Str.ofString "maxlen", .int 80 t1), (Str.ofString "continuation_ws", .str (Str.ofString " ") t2), (Str.ofString "splitchars", .str (Str.ofString " ") t3)]) B F1 X N1 T hfr hf hke (by k_is) (by k_is) (by rw [hdp]; (first | exact om144 hroom | omega)) (BindsTo.of_eq rfl) (locs rfl) ?_ rfl rfl rfl (by decide)
  intro g' L' h' FG' F' N' B' X' T'
  try dsimp only
  walk_at "my go"
  rename Fr g' L' _ _ => F2
  rename News g' L' _ _ => N2
  rename _ ∧ _ ∧ AllLt _ _ => l2
  refine accmake_ok B' F2 X' N2 T' (by show (A.under _).frames.map _ = _; rw [hfr]; rfl) rfl rfl (by show (A.under _).depth + 1 + 2 < recursionLimit; rw [hdp]; (first | exact om145 hroom | omega)) ?_
  intro h3 tk3 a da hs t k n F3 N3 lt3 lta
  have lt3c := lt3
  k_lt lt3
  k_lt2 lta
  walk_at "my go"
  rename Fr h₀ L _ _ => F8
  rename News h₀ L _ _ => N8
  obtain ⟨kh, kt, vt, N9⟩ := vf_news N8
  exact ret _ _ _ _ _ _ _ _ _ _ _ _ _ _ _ _ F8 N9 lt1 ltd l2.1 lt3.1 lta
end
section
-- F1
theorem fresh_F1 : True := by
  w_top off
  trivial
set_option maxHeartbeats 1000000
theorem fm6 (x : Int) : 0 ≤ x.fmod 6 ∧ x.fmod 6 < 6 := ⟨Int.fmod_nonneg_of_pos x (by decide), Int.fmod_lt_of_pos x (by decide)⟩
theorem heads_ok {w : World} {A A₀ : Around} {env : Env} {outer : List Env} {base h₀ : Heap} {L : Addr} {m : Str → Option Value} {news : List (Addr × Obj)} {s : Shared}
    {p : Program} {loose : List Str} {mean : ExcName → Option Value} {mg mb : Str → Option Value}
    {nb : Addr} {vs : List Value} {ns : List Int} {n : Nat} {Q E : Value → Shared → Prop}
    (B : Below A₀ base outer h₀) (F : Fr h₀ L s.heap m) (X : (hd.heap_39 w.params).In h₀) (N : News h₀ L s.heap ((nb, listOf vs.toArray n) :: news)) (T : Top p loose mean mg mb h₀)
    (hA : A.frames = some (env :: outer)) (hf : env.frame = some L) (hke : env.scope.kind = .function)
    (hH : A.handled = none) (hroom : A.depth + 2 < recursionLimit) (hi : IntsAre vs ns)
    (ret : ∀ h' tk' hl z0 z1 z2 t1 t2 t3 n', 0 ≤ z0 ∧ z0 < 6 → 0 ≤ z1 ∧ z1 < 6 → 0 ≤ z2 ∧ z2 < 6 → Fr h₀ L h' m → News h₀ L h' ((hl, listOf #[.int z0 t1, .int z1 t2, .int z2 t3] n') :: (nb, listOf vs.toArray n) :: news) → (∀ q ∈ (nb, listOf vs.toArray n) :: news, q.1 < hl) → Q (.ref hl) { s with heap := h', toks := tk' }) :
    wpAny (model Challenge.rw_nb0237_01.row.prog w) A (call (.ref 231) [.ref nb]) Q E s := by
  revert X; k_fill; intro X
  refine wpAny_call ?_
  refine code_def (binds := [(Str.ofString "numbers", .ref nb)]) B F X N T hA hf hke (by k_is) (by k_is) (by (first | exact om71 hroom | omega)) (BindsTo.of_eq rfl) (locs rfl) ?_ rfl rfl rfl (by decide)
  intro g' L' h' FG' F' N' B' X' T'
  try dsimp only
  walk_at "my go"
  refine sumK hH F' N' (News.isList N' (.head _)) hi ?_
  intro h1 tk1 t1 F1 N1
  walk_at "my go"
  rename Fr h₀ L _ _ => F8
  rename News h₀ L _ _ => N8
  rename _ ∧ AllLt _ _ => l1
  exact ret _ _ _ _ _ _ _ _ _ _ (fm6 _) (fm6 _) (fm6 _) F8 N8 (ktn_ltOf (l := (nb, listOf vs.toArray n) :: news) l1)
end
section
-- A5
theorem fresh_A5 : True := by
  w_top off
  trivial
set_option maxHeartbeats 1000000
section
variable {prog : Program} {w : World} {A : Around} {E : Value → Shared → Prop} {s : Shared}
theorem call_range_reversed01 {r : Addr} {t u v : Tok} {Q : Value → Shared → Prop} (hr : IsRange s.heap r 0 1 1 t u v)
    (h : Q (.ref s.heap.objs.size) { s with heap := s.heap.push { cls := .type "range_iterator", data := .fields #[rawInt 0, rawInt 1, rawInt (-1)] } }) :
    wpAny (model prog w) A (call (.builtin "range.__reversed__") [.ref r]) Q E s := by
  have hT : s.TypeIs (.ref r) "range" := ⟨_, hr, rfl⟩
  refine wpAny_call_entry PySem.F.slot_range_reversed hT PySem.F.entry_range_reversed ?_ (PySem.F.args_range_reversed_1 _)
  unfold Builtin.«range.__reversed__»
  refine wpAny_bind (wpAny_of_eq (a := Value.ref r) rfl ?_)
  have : IsRange s.heap r 0 1 1 t u v := hr
  repeat (any_goals (first | assumption | wp_step))
  exact ⟨_, rfl, h⟩
theorem sub_ri_reversed : isSubtype (.type "range_iterator") (.type "reversed") = pure false := by rw [isSubtype_type]; kernel_rfl
theorem code_reversed_range01 {r : Addr} {t u v : Tok} {Q₁ : Value → Shared → Prop} (hr : IsRange s.heap r 0 1 1 t u v)
    (h : Q₁ (.ref s.heap.objs.size) { s with heap := s.heap.push { cls := .type "range_iterator", data := .fields #[rawInt 0, rawInt 1, rawInt (-1)] } }) :
    codeAny (model prog w) A (.call (.builtin "reversed.__new__") ⟨[.type "reversed", .ref r], []⟩) (wants Q₁ E) s := by
  have hT : s.TypeIs (.ref r) "range" := ⟨_, hr, rfl⟩
  refine codeAny_of_tree ?_
  show wpAny _ A.in1 (do checkBuiltinCall "reversed.__new__" ⟨[.type "reversed", .ref r], []⟩; again (.builtin "reversed.__new__" ⟨[.type "reversed", .ref r], []⟩)) _ _ s
  refine wpAny_bind (wpAny_of_eq (PySem.F.newCall_reversed_1 _) (wpAny_pure ⟨plainId_quiet PySem.F.plain_reversed_new _, codeAny_builtin PySem.F.entry_reversed_new ?_⟩))
  rw [Around.under_plainId PySem.F.plain_reversed_new _]
  unfold Builtin.«reversed.__new__»
  refine wpAny_bind (wpAny_of_eq (newClass_reversed _) ?_)
  try dsimp only
  refine wpAny_bind (wpAny_of_eq (a := ()) (by first | rfl | kernel_rfl) ?_)
  refine wpAny_bind (wpAny_of_eq (a := ()) (by first | rfl | kernel_rfl) ?_)
  try dsimp only
  refine wpAny_bind (wpAny_specialOf hT PySem.F.slot_range_reversed.lookup ?_)
  try dsimp only
  refine wpAny_bind (wpAny_of_eq (PySem.F.slot_range_reversed.bind _) ?_)
  try dsimp only
  (first | rw [if_neg (show ¬ ((Value.builtin "range.__reversed__" == Value.none) = true) from Bool.false_ne_true)] | (show wpAny _ _ (if (Value.builtin "range.__reversed__" == Value.none) = true then _ else _) _ _ _; rw [if_neg (show ¬ ((Value.builtin "range.__reversed__" == Value.none) = true) from Bool.false_ne_true)]))
  refine wpAny_bind (wpAny_rule ?_)
  refine wpAny_bind (m := runValue (.call (.builtin "range.__reversed__") ⟨[.ref r], []⟩)) (show wpAny _ _ (call (.builtin "range.__reversed__") [.ref r]) _ _ _ from call_range_reversed01 hr ?_)
  first
  | exact wpAny_pure h
  | exact wpAny_bind (wpAny_pure (wpAny_pure h))
theorem call_reversed_range01 {r : Addr} {t u v : Tok} {Q : Value → Shared → Prop} (hr : IsRange s.heap r 0 1 1 t u v)
    (h : Q (.ref s.heap.objs.size) { s with heap := s.heap.push { cls := .type "range_iterator", data := .fields #[rawInt 0, rawInt 1, rawInt (-1)] } }) :
    wpAny (model prog w) A (call (.type "reversed") [.ref r]) Q E s := by
  refine callType_other (U := "range_iterator") (Q₁ := fun obj s₁ => obj = .ref s.heap.objs.size ∧ s₁ = { s with heap := s.heap.push { cls := .type "range_iterator", data := .fields #[rawInt 0, rawInt 1, rawInt (-1)] } }) (by decide +kernel) PySem.F.create_reversed ⟨_, _, PySem.F.mro_reversed⟩ PySem.F.made_reversed sub_ri_reversed (PySem.F.typeCall_reversed_1 _) (code_reversed_range01 hr ⟨rfl, rfl⟩) ?_
  rintro obj s₁ ⟨rfl, rfl⟩
  exact ⟨⟨_, Heap.get?_push_size _ rfl, rfl⟩, h⟩
end
theorem heapify_ok {w : World} {A A₀ : Around} {env : Env} {outer : List Env} {base h₀ : Heap} {L : Addr} {m : Str → Option Value} {news : List (Addr × Obj)} {s : Shared}
    {p : Program} {loose : List Str} {mean : ExcName → Option Value} {mg mb : Str → Option Value}
    {wl : Addr} {x y z : Value} {n : Nat} {Q E : Value → Shared → Prop} (κ : Value → Int × Int)
    (B : Below A₀ base outer h₀) (F : Fr h₀ L s.heap m) (X : (hd.heap_39 w.params).In h₀) (N : News h₀ L s.heap ((wl, listOf [x, y, z].toArray n) :: news)) (T : Top p loose mean mg mb h₀)
    (hA : A.frames = some (env :: outer)) (hf : env.frame = some L) (hke : env.scope.kind = .function)
    (hH : A.handled = none) (hroom : A.depth + 2 < recursionLimit) (hu : A.units + 40 < cLine)
    (hw : ∀ q ∈ news, q.1 ≠ wl) (hI : ∀ v ∈ [x, y, z], ItemAt news v (κ v))
    (hne : ∀ i j, i < 3 → j < 3 → i ≠ j → (κ ([x, y, z].getD i .none)).2 ≠ (κ ([x, y, z].getD j .none)).2)
    (ret : ∀ h' tk', Fr h₀ L h' m → News h₀ L h' ((wl, listOf (siftup κ 0 [x, y, z]).toArray n) :: news) → Q .none { s with heap := h', toks := tk' }) :
    wpAny (model Challenge.rw_nb0237_01.row.prog w) A (call (.ref 49) [.ref wl]) Q E s := by
  revert X; k_fill; intro X
  refine wpAny_call ?_
  refine code_def (binds := [(Str.ofString "x", .ref wl)]) B F X N T hA hf hke (by k_is) (by k_is) (by (first | exact om71 hroom | omega)) (BindsTo.of_eq rfl) (locs rfl) ?_ rfl rfl rfl (by decide)
  intro g' L' h' FG' F' N' B' X' T'
  try dsimp only
  walk_at "my go"
  rename IsRange _ _ _ _ _ _ _ _ => hR
  rename Fr g' L' _ _ => F3
  rename News g' L' _ _ => N3
  refine call_reversed_range01 hR ?_
  dsimp only
  generalize hIx : Array.size _ = I
  have F4 := Fr.push F3 { cls := .type "range_iterator", data := .fields #[rawInt 0, rawInt 1, rawInt (-1)] }
  have N4 := News.push F3 N3 { cls := .type "range_iterator", data := .fields #[rawInt 0, rawInt 1, rawInt (-1)] }
  rw [hIx] at N4
  generalize Heap.push _ _ = h4 at *
  have hit := (N4 _ (.head _)).1
  have W : ∀ e', Walks Challenge.rw_nb0237_01.row.prog w (A.deeper e') I (I :: ([] : List (Addr × Obj)).map (·.1)) [I] 1 _ _ := fun e' => Walks.range (by exact hH) I 0 (-1) 1
  have hoff : ∀ q ∈ (wl, listOf [x, y, z].toArray n) :: news, q.1 ≠ I := by
    intro q hq e
    have h2 := (N3 q hq).1
    rw [e, ← hIx] at h2
    exact absurd (Heap.lt_size h2) (Nat.lt_irrefl _)
  refine (W _).self 0 _ _ _ hit ?_
  refine loopW (keep := []) (W _) hit (fun i h st => ⟨_, st⟩) F4 N4 hoff (fun _ h => nomatch h)
    (fun i mm nn => mm (Str.ofString "x") = some (.ref wl) ∧ nn = (wl, listOf (if i = 0 then [x, y, z] else siftup κ 0 [x, y, z]).toArray n) :: news) ⟨rfl, rfl⟩ ?_ ?_
  · rintro i v m₁ news₁ io h tk hi ⟨t, rfl⟩ ⟨hx, rfl⟩ ho - F5 N5
    have hi0 : i = 0 := by (first | exact om81 hi | omega)
    subst hi0
    rw [if_pos rfl] at ho N5
    replace F5 : Fr g' L' h (kstB _ [(Str.ofString "i", .int ((0 : Nat) : Int) t), (Str.ofString "x", .ref wl)]) := fr_kst _ (by
      intro q hq
      rcases List.mem_cons.mp hq with rfl | hq
      · rfl
      · rw [List.mem_singleton.mp hq]; exact hx) F5
    have N6 := news_swap N5
    walk_at "my go"
    refine siftup_ok (xs := [x, y, z]) (pos := 0) κ B' F5 X' N6 T' (by show A.frames.map _ = _; rw [hA]; rfl) rfl rfl (by show A.depth + 1 + 1 < recursionLimit; exact hroom) (by show A.units + 3 + 30 < cLine; (first | exact om73 hu | omega)) ?_ (fun v hv => (hI v hv).mono fun _ => .tail _) (by simp) (by simp) hne ?_
    · intro q hq
      rcases List.mem_cons.mp hq with rfl | hq
      · exact (ho _ (.head _)).symm
      · exact hw q hq
    · intro h7 tk7 F7 N7
      walk_at "my go"
      refine LEnd.intro F7 (news_swap N7) ?_ (fun _ h => nomatch h) ⟨rfl, rfl⟩
      intro q hq
      rcases List.mem_cons.mp hq with rfl | hq
      · exact ho (wl, listOf [x, y, z].toArray n) (.head _)
      · exact ho _ (.tail _ hq)
  · rintro h' tk m' news' F5 N5 ⟨-, rfl⟩
    rw [if_neg (by decide)] at N5
    walk_at "my go"
    rename Fr h₀ L h' _ => F8
    rename News h₀ L h' _ => N8
    exact ret _ _ F8 N8
end
section
-- P1
theorem fresh_P1 : True := by
  w_top off
  trivial
set_option maxHeartbeats 400000
/-- heap order of a list, by keys -/
noncomputable def HeapAt (κ : Value → Int × Int) (xs : List Value) : Prop := ∀ i, 0 < i → i < xs.length → klt (κ (xs.getD i .none)) (κ (xs.getD ((i - 1) / 2) .none)) = false
theorem klt_tt {x y : Int × Int} : klt x y = true ↔ (x.1 < y.1 ∨ (x.1 = y.1 ∧ x.2 < y.2)) := by unfold klt; simp
theorem klt_ff {x y : Int × Int} : klt x y = false ↔ ¬ (x.1 < y.1 ∨ (x.1 = y.1 ∧ x.2 < y.2)) := by unfold klt; simp
theorem klt_trans {x y z : Int × Int} (h1 : klt y x = false) (h2 : klt z y = false) : klt z x = false := by
  rw [klt_ff] at *; (first | exact om229 h1 h2 | omega)
theorem klt_asymm {x y : Int × Int} (h : klt x y = true) : klt y x = false := by
  rw [klt_tt] at h; rw [klt_ff]; (first | exact om230 h | omega)
theorem klt_self (x : Int × Int) : klt x x = false := by rw [klt_ff]; (first | exact om231 | omega)
theorem set_swap_perm {xs : List Value} {i j : Nat} {x : Value} (hi : i < xs.length) (hj : j < xs.length) (hne : i ≠ j) : ((xs.set i (xs.getD j .none)).set j x).Perm (xs.set i x) := by
  have h := List.set_set_perm (as := xs.set i x) (i := i) (j := j) (by simpa using hi) (by simpa using hj)
  have e1 : (xs.set i x)[j]'(by simpa using hj) = xs.getD j .none := by
    rw [List.getElem_set_ne hne, List.getD_eq_getElem?_getD, List.getElem?_eq_getElem hj]; rfl
  have e2 : (xs.set i x)[i]'(by simpa using hi) = x := by simp
  rw [e1, e2, List.set_set] at h
  exact h
theorem sd_perm (κ : Value → Int × Int) (x : Value) (st : Nat) : ∀ (pos : Nat) (xs : List Value), pos < xs.length → (sd κ x st pos xs).Perm (xs.set pos x) := by
  intro pos
  induction pos using Nat.strongRecOn with
  | ind pos ih =>
    intro xs hp
    rw [sd_def]
    split
    · split
      · refine (ih ((pos - 1) / 2) (by (first | exact om1 (by assumption) | omega)) _ (by rw [List.length_set]; (first | exact om232 hp | omega))).trans ?_
        exact set_swap_perm hp (by (first | exact om232 hp | omega)) (by (first | exact om233 (by assumption) | omega))
      · exact .refl _
    · exact .refl _
theorem sd_length (κ : Value → Int × Int) (x : Value) (st pos : Nat) (xs : List Value) (hp : pos < xs.length) : (sd κ x st pos xs).length = xs.length := by
  rw [(sd_perm κ x st pos xs hp).length_eq, List.length_set]
/-- sifting towards the root mends a heap that is broken at pos alone -/
theorem sd_heap (κ : Value → Int × Int) (x : Value) : ∀ (pos : Nat) (xs : List Value), pos < xs.length →
    (∀ i, 0 < i → i < xs.length → i ≠ pos → klt (κ ((xs.set pos x).getD i .none)) (κ ((xs.set pos x).getD ((i - 1) / 2) .none)) = false) →
    (∀ i, 0 < i → i < xs.length → (i - 1) / 2 = pos → 0 < pos → klt (κ (xs.getD i .none)) (κ (xs.getD ((pos - 1) / 2) .none)) = false) →
    HeapAt κ (sd κ x 0 pos xs) := by
  intro pos
  induction pos using Nat.strongRecOn with
  | ind pos ih =>
    intro xs hp ha hb
    rw [sd_def]
    split
    · rename_i h0
      split
      · rename_i hlt
        refine ih ((pos - 1) / 2) (by (first | exact om234 h0 | omega)) _ (by rw [List.length_set]; (first | exact om232 hp | omega)) ?_ ?_
        · intro i h1 h2 h3
          rw [List.length_set] at h2
          by_cases hip : i = pos
          · subst hip
            rw [getD_set_ne (by (first | exact om235 h1 | omega)), getD_set_eq hp, getD_set_eq (by rw [List.length_set]; (first | exact om232 h2 | omega))]
            exact klt_asymm hlt
          · rw [getD_set_ne (by (first | exact om236 h3 | omega)), getD_set_ne (Ne.symm hip)]
            by_cases hq : (i - 1) / 2 = (pos - 1) / 2
            · rw [hq, getD_set_eq (by rw [List.length_set]; (first | exact om232 hp | omega))]
              have := ha i h1 h2 hip
              rw [getD_set_ne (Ne.symm hip), hq, getD_set_ne (by (first | exact om237 h0 | omega))] at this
              exact klt_trans (klt_asymm hlt) this
            · rw [getD_set_ne (Ne.symm hq)]
              by_cases hr : (i - 1) / 2 = pos
              · rw [hr, getD_set_eq hp]
                exact hb i h1 h2 hr h0
              · rw [getD_set_ne (Ne.symm hr)]
                have := ha i h1 h2 hip
                rwa [getD_set_ne (Ne.symm hip), getD_set_ne (Ne.symm hr)] at this
        · intro i h1 h2 h3 h4
          rw [List.length_set] at h2
          have hgp : klt (κ (xs.getD ((pos - 1) / 2) .none)) (κ (xs.getD (((pos - 1) / 2 - 1) / 2) .none)) = false := by
            have := ha ((pos - 1) / 2) h4 (by (first | exact om232 hp | omega)) (by (first | exact om238 h4 | omega))
            rwa [getD_set_ne (by (first | exact om239 h4 | omega)), getD_set_ne (by (first | exact om240 h0 | omega))] at this
          rw [getD_set_ne (i := pos) (j := ((pos - 1) / 2 - 1) / 2) (by (first | exact om240 h0 | omega))]
          by_cases hip : i = pos
          · subst hip
            rw [getD_set_eq hp]
            exact hgp
          · rw [getD_set_ne (Ne.symm hip)]
            have := ha i h1 h2 hip
            rw [getD_set_ne (Ne.symm hip), h3, getD_set_ne (by (first | exact om239 h4 | omega))] at this
            exact klt_trans hgp this
      · rename_i hlt
        intro i h1 h2
        rw [List.length_set] at h2
        by_cases hip : i = pos
        · subst hip
          rw [getD_set_eq hp, getD_set_ne (by (first | exact om237 h1 | omega))]
          simpa using hlt
        · exact ha i h1 h2 hip
    · intro i h1 h2
      rw [List.length_set] at h2
      exact ha i h1 h2 (by (first | exact om241 (by assumption) h1 | omega))
/-- a new item at the end, sifted: heap order, and the same items -/
theorem push_heap {κ : Value → Int × Int} {xs : List Value} {x : Value} (h : HeapAt κ xs) : HeapAt κ (sd κ x 0 xs.length (xs ++ [x])) := by
  refine sd_heap κ x _ _ (by simp) ?_ ?_
  · intro i h1 h2 h3
    rw [List.length_append, List.length_singleton] at h2
    have e : (xs ++ [x]).set xs.length x = xs ++ [x] := by simp
    rw [e, getD_append_lt (by (first | exact om242 h2 h3 | omega)), getD_append_lt (by (first | exact om243 h1 h2 | omega))]
    exact h i h1 (by (first | exact om242 h2 h3 | omega))
  · intro i h1 h2 h3 h4
    rw [List.length_append, List.length_singleton] at h2
    omega
theorem push_perm {κ : Value → Int × Int} {xs : List Value} {x : Value} : (sd κ x 0 xs.length (xs ++ [x])).Perm (x :: xs) := by
  refine (sd_perm κ x 0 _ _ (by simp)).trans ?_
  have e : (xs ++ [x]).set xs.length x = xs ++ [x] := by simp
  rw [e]
  exact List.perm_append_comm
theorem su_spec (κ : Value → Int × Int) : ∀ (k pos : Nat) (xs : List Value), xs.length - pos ≤ k → pos < xs.length →
    (∀ i, 0 < i → i < xs.length → i ≠ pos → (i - 1) / 2 ≠ pos → klt (κ (xs.getD i .none)) (κ (xs.getD ((i - 1) / 2) .none)) = false) →
    (∀ i, 0 < i → i < xs.length → (i - 1) / 2 = pos → 0 < pos → klt (κ (xs.getD i .none)) (κ (xs.getD ((pos - 1) / 2) .none)) = false) →
    (su κ pos xs).1 < xs.length ∧ (su κ pos xs).2.length = xs.length ∧ xs.length ≤ 2 * (su κ pos xs).1 + 1 ∧ (∀ x, ((su κ pos xs).2.set (su κ pos xs).1 x).Perm (xs.set pos x)) ∧
    (∀ i, 0 < i → i < xs.length → i ≠ (su κ pos xs).1 → klt (κ ((su κ pos xs).2.getD i .none)) (κ ((su κ pos xs).2.getD ((i - 1) / 2) .none)) = false) := by
  intro k
  induction k with
  | zero => intro pos xs h1 h2; omega
  | succ k ih =>
    intro pos xs hk hp ha hb
    rw [su_def]
    split
    · rename_i hc
      have g1 := pick_ge κ xs (2 * pos + 1)
      have g2 := pick_lt κ xs (2 * pos + 1) hc
      have hpk : pick κ xs (2 * pos + 1) = 2 * pos + 1 ∨ pick κ xs (2 * pos + 1) = 2 * pos + 2 := by unfold pick; split <;> (first | exact om244 | exact om245 | omega)
      have hmin : ∀ j, (j - 1) / 2 = pos → 0 < j → j < xs.length → klt (κ (xs.getD j .none)) (κ (xs.getD (pick κ xs (2 * pos + 1)) .none)) = false := by
        intro j hj hj0 hjl
        have hj' : j = 2 * pos + 1 ∨ j = 2 * pos + 2 := by (first | exact om246 hj hj0 | omega)
        unfold pick
        split
        · rename_i hh
          rcases hj' with rfl | rfl
          · exact hh.2
          · exact klt_self _
        · rename_i hh
          rcases hj' with rfl | rfl
          · exact klt_self _
          · have h3 : klt (κ (xs.getD (2 * pos + 1) .none)) (κ (xs.getD (2 * pos + 1 + 1) .none)) = true := by
              cases hq : klt (κ (xs.getD (2 * pos + 1) .none)) (κ (xs.getD (2 * pos + 1 + 1) .none)) with
              | true => rfl
              | false => exact absurd ⟨hjl, hq⟩ hh
            exact klt_asymm h3
      generalize pick κ xs (2 * pos + 1) = d at *
      have hd : (d - 1) / 2 = pos := by (first | exact om247 hpk | omega)
      have L := ih d (xs.set pos (xs.getD d .none)) (by rw [List.length_set]; (first | exact om248 hk g1 | omega)) (by rw [List.length_set]; (first | exact om22 g2 | omega)) ?_ ?_
      · rw [List.length_set] at L
        obtain ⟨q1, q2, q3, q4, q5⟩ := L
        refine ⟨q1, q2, q3, fun x => (q4 x).trans ?_, q5⟩
        exact set_swap_perm hp (by (first | exact om22 g2 | omega)) (by (first | exact om249 g1 | omega))
      · intro i h1 h2 h3 h4
        rw [List.length_set] at h2
        by_cases hip : i = pos
        · subst hip
          rw [getD_set_eq hp, getD_set_ne (by (first | exact om237 h1 | omega))]
          exact hb d (by (first | exact om250 g1 | omega)) (by (first | exact om22 g2 | omega)) hd h1
        · rw [getD_set_ne (Ne.symm hip)]
          by_cases hq : (i - 1) / 2 = pos
          · rw [hq, getD_set_eq hp]
            exact hmin i hq h1 h2
          · rw [getD_set_ne (Ne.symm hq)]
            exact ha i h1 h2 hip hq
      · intro i h1 h2 h3 h4
        rw [List.length_set] at h2
        rw [getD_set_ne (by (first | exact om251 g1 h3 | omega)), hd, getD_set_eq hp]
        have := ha i h1 h2 (by (first | exact om252 g1 h3 | omega)) (by (first | exact om253 g1 h3 | omega))
        rwa [h3] at this
    · rename_i hc
      refine ⟨hp, rfl, by (first | exact om254 hc | omega), fun x => .refl _, ?_⟩
      intro i h1 h2 h3
      exact ha i h1 h2 h3 (by (first | exact om255 hc h1 h2 | omega))
theorem siftup_spec {κ : Value → Int × Int} {xs : List Value} (h0 : 0 < xs.length) (h : ∀ i, 2 < i → i < xs.length → klt (κ (xs.getD i .none)) (κ (xs.getD ((i - 1) / 2) .none)) = false) :
    HeapAt κ (siftup κ 0 xs) ∧ (siftup κ 0 xs).Perm xs := by
  obtain ⟨q1, q2, q3, q4, q5⟩ := su_spec κ xs.length 0 xs (by (first | exact om256 | omega)) h0 (fun i h1 h2 h3 h4 => h i (by (first | exact om257 h4 | omega)) h2) (fun i h1 h2 h3 h4 => by omega)
  have ex : xs.set 0 (xs.getD 0 .none) = xs := by
    rw [List.getD_eq_getElem?_getD, List.getElem?_eq_getElem h0]
    simp
  unfold siftup
  refine ⟨sd_heap κ _ _ _ (by rw [List.length_set, q2]; exact q1) ?_ ?_, (sd_perm κ _ _ _ _ (by rw [List.length_set, q2]; exact q1)).trans ?_⟩
  · intro i h1 h2 h3
    rw [List.length_set, q2] at h2
    rw [List.set_set, getD_set_ne (Ne.symm h3), getD_set_ne (by (first | exact om258 q3 h1 h2 | omega))]
    exact q5 i h1 h2 h3
  · intro i h1 h2 h3 h4
    rw [List.length_set, q2] at h2
    omega
  · rw [List.set_set]
    exact (q4 _).trans (by rw [ex])
theorem heap_root {κ : Value → Int × Int} {xs : List Value} (h : HeapAt κ xs) : ∀ i, i < xs.length → klt (κ (xs.getD i .none)) (κ (xs.getD 0 .none)) = false := by
  intro i
  induction i using Nat.strongRecOn with
  | ind i ih =>
    intro hi
    by_cases h0 : i = 0
    · subst h0; exact klt_self _
    · exact klt_trans (ih ((i - 1) / 2) (by (first | exact om259 h0 | omega)) (by (first | exact om232 hi | omega))) (h i (by (first | exact om260 h0 | omega)) hi)
theorem HeapAt.congr {κ κ' : Value → Int × Int} {xs : List Value} (h : HeapAt κ xs) (e : ∀ v ∈ xs, κ' v = κ v) : HeapAt κ' xs := by
  intro i h1 h2
  rw [e _ (getD_mem h2), e _ (getD_mem (by (first | exact om232 h2 | omega)))]
  exact h i h1 h2
/-- taking the top -/
theorem hpop_spec {κ : Value → Int × Int} {xs : List Value} {l : Value} (h : HeapAt κ (xs ++ [l])) :
    HeapAt κ (hpop κ xs l).2 ∧ ((hpop κ xs l).1 :: (hpop κ xs l).2).Perm (xs ++ [l]) ∧ (hpop κ xs l).1 = (xs ++ [l]).getD 0 .none ∧ (hpop κ xs l).2.length = xs.length := by
  cases xs with
  | nil => exact ⟨fun i h1 h2 => by simp [hpop] at h2, .refl _, rfl, rfl⟩
  | cons y ys =>
    have S := siftup_spec (κ := κ) (xs := l :: ys) (by simp) (fun i h1 h2 => by
      have h3 := h i (by (first | exact om261 h1 | omega)) (by simp at h2 ⊢; (first | exact om262 h2 | omega))
      rw [getD_append_lt (by simpa using h2), getD_append_lt (by simp at h2 ⊢; (first | exact om263 h2 | omega))] at h3
      have e : ∀ j, 0 < j → (l :: ys).getD j .none = (y :: ys).getD j .none := by
        intro j hj
        cases j with
        | zero => omega
        | succ j => rfl
      rw [e i (by (first | exact om261 h1 | omega)), e _ (by (first | exact om264 h1 | omega))]
      exact h3)
    refine ⟨S.1, ?_, rfl, ?_⟩
    · show (y :: siftup κ 0 (l :: ys)).Perm (y :: (ys ++ [l]))
      exact .cons _ (S.2.trans (List.perm_append_comm (l₁ := [l]) (l₂ := ys)))
    · show (siftup κ 0 (l :: ys)).length = _
      rw [S.2.length_eq]; rfl
end
section
-- F2
theorem fresh_F2 : True := by
  w_top off
  trivial
set_option maxHeartbeats 1000000
section
variable {prog : Program} {w : World} {A : Around} {E : Value → Shared → Prop} {s : Shared} {env : Env} {h₀ : Heap} {x : Str} {body : List Stmt} {Q : Flow → Shared → Prop}
theorem loop_range {r : Addr} {n : Nat} {t u v : Tok} {m₀ : Str → Option Value} {news : List (Addr × Obj)} (hh : A.handled = none) (hr : IsRange s.heap r 0 (n : Int) 1 t u v) (hn : n ≤ 1000)
    (F : Fr h₀ env.locals s.heap m₀) (N : News h₀ env.locals s.heap news)
    (J : Nat → (Str → Option Value) → List (Addr × Obj) → Prop) (h0 : J 0 m₀ news)
    (step : ∀ i t m₁ news₁ I io h tk, i < n → J i m₁ news₁ → (∀ p ∈ news₁, p.1 ≠ I) → Fr h₀ env.locals h (fun y => if y = x then some (.int ((i : Nat) : Int) t) else m₁ y) → News h₀ env.locals h ((I, io) :: news₁) →
      wpAny (model prog w) A (execs body env) (LEnd h₀ env.locals { s with heap := h, toks := tk } I io [] (J (i + 1)) Q) E { s with heap := h, toks := tk })
    (fin : ∀ h' tk m' news', Fr h₀ env.locals h' m' → News h₀ env.locals h' news' → J n m' news' → Q .next { s with heap := h', toks := tk }) :
    wpAny (model prog w) A (pyIter (.ref r)) (fun it s₂ => LoopAtV prog w A h₀ env x body Q E it s₂) E s := by
  have hsz : Builtin.Range.rangeSize 0 (n : Int) 1 = (n : Int) := by
    rw [rangeSize_one]
    split <;> (first | exact om146 | exact om147 (by assumption) | omega)
  have fl : ∀ z : Int, 0 ≤ z → z ≤ 1000 → Builtin.Range.rangeFitsLong z = true := by
    intro z h1 h2
    unfold Builtin.Range.rangeFitsLong
    simp
    (first | exact om148 h1 h2 | omega)
  have hsm : Builtin.Range.small 0 (n : Int) 1 = true := by
    unfold Builtin.Range.small
    rw [hsz, fl 0 (by omega) (by omega), fl n (by (first | exact om2 | omega)) (by (first | exact om149 hn | omega)), fl 1 (by omega) (by omega)]
    simp [fl n (by (first | exact om2 | omega)) (by (first | exact om149 hn | omega))]
  refine wpAny_pyIter_range hr hsm ?_
  rw [hsz]
  have F4 := Fr.push F { cls := .type "range_iterator", data := .fields #[rawInt 0, rawInt (n : Int), rawInt 1] }
  have N4 := News.push F N { cls := .type "range_iterator", data := .fields #[rawInt 0, rawInt (n : Int), rawInt 1] }
  have hoff : ∀ q ∈ news, q.1 ≠ s.heap.objs.size := fun q hq => Nat.ne_of_lt (Heap.lt_size (N q hq).1)
  have hit := (N4 _ (.head _)).1
  generalize s.heap.objs.size = I at *
  have W : Walks prog w A I (I :: ([] : List (Addr × Obj)).map (·.1)) [I] n _ _ := Walks.range hh I 0 1 n
  refine loopW (s := { s with heap := s.heap.push { cls := .type "range_iterator", data := .fields #[rawInt 0, rawInt (n : Int), rawInt 1] } }) (keep := []) W (by show IsRangeIter _ I _ _ _; simpa using hit) (fun i h st => ⟨_, st⟩) F4 N4 hoff (fun _ h => nomatch h) J h0 ?_ ?_
  · rintro i vv m₁ news₁ io h tk hi ⟨t', rfl⟩ hJ ho - F5 N5
    have e : (0 : Int) + (i : Int) * 1 = (i : Int) := by omega
    rw [e] at F5
    exact step i t' m₁ news₁ I io h tk hi hJ ho F5 N5
  · intro h' tk m' news' F5 N5 hJ
    exact fin h' tk m' news' F5 N5 hJ
end
/-- a def's body and scope -/
noncomputable def fnOfObj : Obj → List Stmt × Scope
  | ⟨_, _, .func fd, _⟩ => ((match fd.body with | .stmts b => b | _ => []), fd.scope)
  | _ => ([], default)
/-- the law's body and scope, read off the written part -/
noncomputable def lawFn (w : World) : List Stmt × Scope := match (hd.heap_39 w.params).lookup 248 with
  | some o => fnOfObj o
  | none => ([], default)
noncomputable abbrev lawEnv (w : World) (L fa : Addr) (cd : Value) : Env := envOfC (Str.ofString "law") (lawFn w).2 L fa cd
theorem law_eq {w : World} {o : Obj} (hl : (hd.heap_39 w.params).lookup 248 = some o) : lawFn w = fnOfObj o := by
  unfold lawFn; rw [hl]
theorem law_open {w : World} {o : Obj} {P : List Stmt × Scope → Prop} (hl : (hd.heap_39 w.params).lookup 248 = some o) (h : P (fnOfObj o)) : P (lawFn w) := by
  unfold lawFn; rw [hl]; exact h
/-- the word's text: l signs, each the letter of its place -/
noncomputable def wtext (p l : Nat) : Str := Txt.mul ⟨#[97 + p]⟩ (l : Int)
noncomputable def WordAt (rest : List (Addr × Obj)) (v : Value) (p l : Nat) : Prop :=
  ∃ a t1 t2 t3 n, v = .ref a ∧ (a, listOf #[.int ((l : Int) + 1) t1, .int (p : Int) t2, .str (wtext p l) t3] n) ∈ rest
noncomputable def WordsOk (κ : Value → Int × Int) (rest : List (Addr × Obj)) (W : List Value) (n : Nat) : Prop :=
  W.length = n ∧ HeapAt κ W ∧ (∀ v ∈ W, ∃ p l, p < n ∧ 1 ≤ l ∧ l ≤ 6 ∧ WordAt rest v p l ∧ κ v = ((l : Int) + 1, (p : Int))) ∧ W.Pairwise (fun u v => (κ u).2 ≠ (κ v).2)
/-- a key more -/
noncomputable def kput (κ : Value → Int × Int) (q : Addr) (k : Int × Int) : Value → Int × Int
  | .ref a => if a = q then k else κ (.ref a)
  | v => κ v
theorem kput_self (κ : Value → Int × Int) (q : Addr) (k : Int × Int) : kput κ q k (.ref q) = k := by simp [kput]
theorem kput_ne (κ : Value → Int × Int) {q a : Addr} (k : Int × Int) (h : a ≠ q) : kput κ q k (.ref a) = κ (.ref a) := by simp [kput, h]
theorem WordAt.mono {rest rest' : List (Addr × Obj)} {v : Value} {p l : Nat} (h : WordAt rest v p l) (hs : ∀ q ∈ rest, q ∈ rest') : WordAt rest' v p l := by
  obtain ⟨a, t1, t2, t3, n, e, hm⟩ := h
  exact ⟨a, t1, t2, t3, n, e, hs _ hm⟩
theorem WordAt.item {rest : List (Addr × Obj)} {v : Value} {p l : Nat} (h : WordAt rest v p l) : ItemAt rest v ((l : Int) + 1, (p : Int)) := by
  obtain ⟨a, t1, t2, t3, n, e, hm⟩ := h
  exact ⟨a, _, n, t1, t2, e, hm, rfl, rfl⟩
/-- one word more in the heap -/
theorem WordsOk.push {κ : Value → Int × Int} {rest : List (Addr × Obj)} {W : List Value} {n l : Nat} {q : Addr} {t1 t2 t3 : Tok} {n' : Nat} (h : WordsOk κ rest W n) (hq : ∀ r ∈ rest, r.1 < q) (h1 : 1 ≤ l) (h6 : l ≤ 6) :
    let κ' := kput κ q ((l : Int) + 1, (n : Int))
    let rest' := (q, listOf #[.int ((l : Int) + 1) t1, .int (n : Int) t2, .str (wtext n l) t3] n') :: rest
    (∀ v ∈ W, κ' v = κ v) ∧ (∀ v ∈ W, ItemAt rest' v (κ' v)) ∧ ItemAt rest' (.ref q) (κ' (.ref q)) ∧ (∀ j, j < W.length → (κ' (.ref q)).2 ≠ (κ' (W.getD j .none)).2) ∧
    WordsOk κ' rest' (sd κ' (.ref q) 0 W.length (W ++ [.ref q])) (n + 1) := by
  intro κ' rest'
  obtain ⟨hl, hh, hm, hp⟩ := h
  have e1 : ∀ v ∈ W, κ' v = κ v := by
    intro v hv
    obtain ⟨p, l', _, _, _, ⟨a, _, _, _, _, rfl, ha⟩, _⟩ := hm v hv
    exact kput_ne κ _ (Nat.ne_of_lt (hq _ ha))
  have eq : κ' (.ref q) = ((l : Int) + 1, (n : Int)) := kput_self κ q _
  have hq' : WordAt rest' (.ref q) n l := ⟨q, t1, t2, t3, n', rfl, .head _⟩
  refine ⟨e1, ?_, ?_, ?_, ?_⟩
  · intro v hv
    obtain ⟨p, l', _, _, _, hw, hk⟩ := hm v hv
    rw [e1 v hv, hk]
    exact (hw.mono fun _ => .tail _).item
  · rw [eq]; exact hq'.item
  · intro j hj
    obtain ⟨p, l', hpn, _, _, hw, hk⟩ := hm _ (getD_mem hj)
    rw [e1 _ (getD_mem hj), hk, eq]
    show (n : Int) ≠ (p : Int)
    (first | exact om150 hpn | omega)
  · have P := push_perm (κ := κ') (xs := W) (x := .ref q)
    refine ⟨?_, push_heap (hh.congr e1), ?_, ?_⟩
    · rw [P.length_eq, List.length_cons, hl]
    · intro v hv
      rcases List.mem_cons.mp (P.mem_iff.mp hv) with rfl | hv
      · exact ⟨n, l, by (first | exact om151 | omega), h1, h6, hq', eq⟩
      · obtain ⟨p, l', h2, h3, h4, hw, hk⟩ := hm v hv
        exact ⟨p, l', by (first | exact om152 h2 | omega), h3, h4, hw.mono fun _ => .tail _, by rw [e1 v hv, hk]⟩
    · refine (P.pairwise_iff (fun {a b} h => Ne.symm h)).mpr (List.pairwise_cons.mpr ⟨?_, ?_⟩)
      · intro v hv
        obtain ⟨p, l', hpn, _, _, hw, hk⟩ := hm v hv
        rw [e1 v hv, hk, eq]
        show (n : Int) ≠ (p : Int)
        (first | exact om150 hpn | omega)
      · refine hp.imp_of_mem fun {a b} ha hb h => ?_
        rw [e1 a ha, e1 b hb]; exact h
theorem stage1b {w : World} {base h₀ : Heap} {L fa : Nat} {cd : Value} {m : Str → Option Value} {s : Shared} {oc oh : Obj}
    {p : Program} {loose : List Str} {mean : ExcName → Option Value} {mg mb : Str → Option Value} {nb hl wl : Nat} {vs : List Value} {ns : List Int} {nn : Nat}
    {Q : Flow → Shared → Prop}
    (B : Below callerA base [] h₀) (F : Fr h₀ L s.heap m) (X : (hd.heap_39 w.params).In h₀) (N : News h₀ L s.heap ((wl, listOf #[] 0) :: (hl, oh) :: (nb, listOf vs.toArray nn) :: (L + 1, oc) :: (182, tabObj #[]) :: (189, tabObj #[]) :: [])) (T : Top p loose mean mg mb h₀)
    (hm1 : m (Str.ofString "words") = some (.ref wl)) (hm2 : m (Str.ofString "heads") = some (.ref hl)) (hm3 : m (Str.ofString "numbers") = some (.ref nb)) (hi : IntsAre vs ns) (hlen : 4 ≤ ns.length ∧ ns.length ≤ 9)
    (hord : hl < wl ∧ nb < wl ∧ L + 1 < wl ∧ 182 < wl ∧ 189 < wl)
    (next : ∀ h' tk m' W nw rest κ n, Fr h₀ L h' m' → m' (Str.ofString "words") = some (.ref wl) → m' (Str.ofString "heads") = some (.ref hl) →
      News h₀ L h' ((wl, listOf W.toArray nw) :: (hl, oh) :: (L + 1, oc) :: (182, tabObj #[]) :: (189, tabObj #[]) :: rest) →
      (∀ q ∈ rest, wl < q.1) → WordsOk κ rest W n → 4 ≤ n ∧ n ≤ 9 →
      wpAny (model Challenge.rw_nb0237_01.row.prog w) (callerA.deeper (lawEnv w L fa cd)) (execs ((lawFn w).1.drop 4) (lawEnv w L fa cd)) Q (fun _ _ => False) { s with heap := h', toks := tk }) :
    wpAny (model Challenge.rw_nb0237_01.row.prog w) (callerA.deeper (lawEnv w L fa cd)) (execs ((lawFn w).1.drop 3) (lawEnv w L fa cd)) Q (fun _ _ => False) s := by
  revert X; k_fill; intro X
  revert next
  refine law_open (P := fun f => (∀ h' tk m' W nw rest κ n, Fr h₀ L h' m' → m' (Str.ofString "words") = some (.ref wl) → m' (Str.ofString "heads") = some (.ref hl) →
      News h₀ L h' ((wl, listOf W.toArray nw) :: (hl, oh) :: (L + 1, oc) :: (182, tabObj #[]) :: (189, tabObj #[]) :: rest) →
      (∀ q ∈ rest, wl < q.1) → WordsOk κ rest W n → 4 ≤ n ∧ n ≤ 9 →
      wpAny (model Challenge.rw_nb0237_01.row.prog w) (callerA.deeper (envOfC (Str.ofString "law") f.2 L fa cd)) (execs (f.1.drop 4) (envOfC (Str.ofString "law") f.2 L fa cd)) Q (fun _ _ => False) { s with heap := h', toks := tk }) → wpAny (model Challenge.rw_nb0237_01.row.prog w) (callerA.deeper (envOfC (Str.ofString "law") f.2 L fa cd)) (execs (f.1.drop 3) (envOfC (Str.ofString "law") f.2 L fa cd)) Q (fun _ _ => False) s) (by k_is) ?_
  dsimp only [fnOfObj, List.drop]
  intro next
  replace F := fr_kst [(Str.ofString "words", .ref wl), (Str.ofString "heads", .ref hl), (Str.ofString "numbers", .ref nb)] (all_cons (by assumption) (all_cons (by assumption) (all_cons (by assumption) (fun _ h => nomatch h)))) F
  walk_at "my go"
  rename IsRange _ _ _ _ _ _ _ _ => hR
  rename Fr h₀ L _ _ => F1
  rename News h₀ L _ _ => N1
  refine loop_range rfl hR (by (first | exact om156 hlen | omega)) F1 N1 (fun i mm nn' => mm (Str.ofString "words") = some (.ref wl) ∧ mm (Str.ofString "heads") = some (.ref hl) ∧ mm (Str.ofString "numbers") = some (.ref nb) ∧
    ∃ W nw rest κ, nn' = (wl, listOf W.toArray nw) :: (hl, oh) :: (nb, listOf vs.toArray nn) :: (L + 1, oc) :: (182, tabObj #[]) :: (189, tabObj #[]) :: rest ∧ (∀ q ∈ rest, wl < q.1) ∧ WordsOk κ rest W i) ⟨rfl, rfl, rfl, [], 0, [], fun _ => (0, 0), rfl, (fun _ h => nomatch h), rfl, (fun i h1 h2 => absurd h2 (Nat.not_lt_zero _)), (fun _ h => nomatch h), .nil⟩ ?_ ?_
  · rintro i t m₁ news₁ I io h tk hlt ⟨e1, e2, e3, W, nw, rest, κ, rfl, hoff, hW⟩ hI F5 N5
    replace F5 := fr_kst [(Str.ofString "place", .int ((i : Nat) : Int) t), (Str.ofString "words", .ref wl), (Str.ofString "heads", .ref hl), (Str.ofString "numbers", .ref nb)] (all_cons (by first | rfl | assumption) (all_cons (by first | rfl | assumption) (all_cons (by first | rfl | assumption) (all_cons (by first | rfl | assumption) (fun _ h => nomatch h))))) F5
    walk_at "my go"
    have hb := fm6 (ns.getD ((i : Nat) : Int).toNat 0)
    generalize hL : 1 + Int.fmod (ns.getD ((i : Nat) : Int).toNat 0) 6 = lv at *
    have hlv : 1 ≤ lv ∧ lv ≤ 6 := by (first | exact om160 hb hL | omega)
    refine SB.mul (mulOk_of 16 1048576 (by show (1 : Nat) ≤ 16; decide) (by (first | exact om161 hb hL | omega)) (by (first | exact om162 hb hL | omega)) (by decide) (by decide)) ?_
    intro tm km
    iterate 4 walk1
    rename Fr h₀ L _ _ => F6
    rename News h₀ L _ _ => N6
    rename_i q _ l1
    have hq := ktn_ltOf (l := (I, io) :: (wl, listOf W.toArray nw) :: (hl, oh) :: (nb, listOf vs.toArray nn) :: (L + 1, oc) :: (182, tabObj #[]) :: (189, tabObj #[]) :: rest) l1
    obtain ⟨l, rfl⟩ : ∃ l : Nat, lv = (l : Int) := ⟨lv.toNat, by omega⟩
    have e97 : (97 + ((i : Nat) : Int)).toNat = 97 + i := by omega
    rw [e97] at N6
    obtain ⟨k1, k2, k3, k4, k5⟩ := WordsOk.push (q := q) (t1 := tk + 1 + 1 + 1 + 1 + 1 + 1) (t2 := t) (t3 := tm) (n' := 0) (l := l) hW (fun r hr => hq r (.tail _ (.tail _ (.tail _ (.tail _ (.tail _ (.tail _ (.tail _ hr)))))))) (by (first | exact om163 hb hL | omega)) (by (first | exact om164 hb hL | omega))
    have sub : ∀ r ∈ (q, listOf #[.int ((l : Int) + 1) (tk + 1 + 1 + 1 + 1 + 1 + 1), .int ((i : Nat) : Int) t, .str (wtext i l) tm] 0) :: rest, r ∈ (q, listOf #[.int ((l : Int) + 1) (tk + 1 + 1 + 1 + 1 + 1 + 1), .int ((i : Nat) : Int) t, .str (wtext i l) tm] 0) :: (I, io) :: (hl, oh) :: (nb, listOf vs.toArray nn) :: (L + 1, oc) :: (182, tabObj #[]) :: (189, tabObj #[]) :: rest := by exact sub_ixr [0] 7 rfl
    refine heappush_ok (kput κ q ((l : Int) + 1, ((i : Nat) : Int))) B F6 X (News.reord N6 (l' := (wl, listOf W.toArray nw) :: (q, listOf #[.int ((l : Int) + 1) (tk + 1 + 1 + 1 + 1 + 1 + 1), .int ((i : Nat) : Int) t, .str (wtext i l) tm] 0) :: (I, io) :: (hl, oh) :: (nb, listOf vs.toArray nn) :: (L + 1, oc) :: (182, tabObj #[]) :: (189, tabObj #[]) :: rest) (by exact sub_ixr [2, 0, 1] 3 rfl)) T rfl rfl rfl (by show callerA.depth + 1 + 1 < recursionLimit; decide) (by show callerA.units + 3 + 30 < cLine; decide) ?_ (fun v hv => (k2 v hv).mono sub) (k3.mono sub) (by have := hW.1; (first | exact om165 hlen hlt this | omega)) k4 ?_
    · have hI2 := hI (wl, listOf W.toArray nw) (.head _)
      refine all_cons (Nat.ne_of_gt (hq _ (.tail _ (.head _)))) (all_cons (Ne.symm hI2) (all_cons (by show hl ≠ wl; (first | exact om166 hord | omega)) (all_cons (by show nb ≠ wl; (first | exact om167 hord | omega)) (all_cons (by show L + 1 ≠ wl; (first | exact om168 hord | omega)) (all_cons (by show 182 ≠ wl; (first | exact om169 hord | omega)) (all_cons (by show 189 ≠ wl; (first | exact om170 hord | omega)) fun r hr => Nat.ne_of_gt (hoff r hr)))))))
    intro h7 tk7 F7 N7
    walk_at "my go"
    rename Fr h₀ L _ _ => F8
    rename News h₀ L _ _ => N8
    refine LEnd.intro F8 (News.reord N8 (l' := (I, io) :: (wl, listOf (sd (kput κ q ((l : Int) + 1, ((i : Nat) : Int))) (.ref q) 0 W.length (W ++ [.ref q])).toArray (nw + 1)) :: (hl, oh) :: (nb, listOf vs.toArray nn) :: (L + 1, oc) :: (182, tabObj #[]) :: (189, tabObj #[]) :: (q, listOf #[.int ((l : Int) + 1) (tk + 1 + 1 + 1 + 1 + 1 + 1), .int ((i : Nat) : Int) t, .str (wtext i l) tm] 0) :: rest) (by exact sub_ixr [2, 0, 3, 4, 5, 6, 7, 1] 8 rfl)) ?_ (fun _ h => nomatch h) ⟨rfl, rfl, rfl, _, _, _, _, rfl, ?_, k5⟩
    · refine all_cons (hI (wl, listOf W.toArray nw) (.head _)) (all_cons (hI (hl, oh) (.tail _ (.head _))) (all_cons (hI (nb, listOf vs.toArray nn) (.tail _ (.tail _ (.head _)))) (all_cons (hI (L + 1, oc) (.tail _ (.tail _ (.tail _ (.head _))))) (all_cons (hI (182, tabObj #[]) (.tail _ (.tail _ (.tail _ (.tail _ (.head _)))))) (all_cons (hI (189, tabObj #[]) (.tail _ (.tail _ (.tail _ (.tail _ (.tail _ (.head _))))))) (all_cons (Nat.ne_of_gt (hq _ (.head _))) fun r hr => hI r (.tail _ (.tail _ (.tail _ (.tail _ (.tail _ (.tail _ hr))))))))))))
    · exact all_cons (hq _ (.tail _ (.head _))) hoff
  · rintro h' tk m' news' F5 N5 ⟨e1, e2, e3, W, nw, rest, κ, rfl, hoff, hW⟩
    exact next _ _ _ W nw rest κ ns.length F5 e1 e2 (fun q hq => N5 q (by
      rcases List.mem_cons.mp hq with rfl | hq
      · exact .head _
      rcases List.mem_cons.mp hq with rfl | hq
      · exact .tail _ (.head _)
      · exact .tail _ (.tail _ (.tail _ hq)))) hoff hW hlen
end
section
-- F3
theorem fresh_F3 : True := by
  w_top off
  trivial
set_option maxHeartbeats 1000000
theorem stage1 {w : World} {base h₀ : Heap} {L fa : Nat} {cd : Value} {m : Str → Option Value} {s : Shared} {oc : Obj}
    {p : Program} {loose : List Str} {mean : ExcName → Option Value} {mg mb : Str → Option Value} {sc : Addr} {vs : List Value} {ns : List Int}
    {Q : Flow → Shared → Prop}
    (B : Below callerA base [] h₀) (F : Fr h₀ L s.heap m) (X : (hd.heap_39 w.params).In h₀) (N : News h₀ L s.heap [(L + 1, oc), (182, tabObj #[]), (189, tabObj #[])]) (T : Top p loose mean mg mb h₀)
    (hm : m (Str.ofString "script") = some (.ref sc)) (hsc : h₀.IsList sc vs.toArray) (hi : IntsAre vs ns) (hlen : ns.length ≤ 63)
    (next : ∀ h' tk m' (wl hl : Nat) W nw n2 z0 z1 z2 t1 t2 t3 rest κ n, Fr h₀ L h' m' → m' (Str.ofString "words") = some (.ref wl) → m' (Str.ofString "heads") = some (.ref hl) →
      News h₀ L h' ((wl, listOf W.toArray nw) :: (hl, listOf #[.int z0 t1, .int z1 t2, .int z2 t3] n2) :: (L + 1, oc) :: (182, tabObj #[]) :: (189, tabObj #[]) :: rest) →
      L + 1 < hl ∧ 182 < hl ∧ 189 < hl ∧ hl < wl → (∀ q ∈ rest, wl < q.1) → WordsOk κ rest W n → 4 ≤ n ∧ n ≤ 9 → 0 ≤ z0 ∧ z0 < 6 → 0 ≤ z1 ∧ z1 < 6 → 0 ≤ z2 ∧ z2 < 6 →
      wpAny (model Challenge.rw_nb0237_01.row.prog w) (callerA.deeper (lawEnv w L fa cd)) (execs ((lawFn w).1.drop 4) (lawEnv w L fa cd)) Q (fun _ _ => False) { s with heap := h', toks := tk }) :
    wpAny (model Challenge.rw_nb0237_01.row.prog w) (callerA.deeper (lawEnv w L fa cd)) (execs (lawFn w).1 (lawEnv w L fa cd)) Q (fun _ _ => False) s := by
  revert X; k_fill; intro X
  have hfn := law_eq (w := w) (by k_is)
  unfold lawEnv at next ⊢
  have S := fun (hl wl nb : Nat) (oh : Obj) (s' : Shared) vs' ns' nn' m' => @stage1b w base h₀ L fa cd m' s' oc oh p loose mean mg mb nb hl wl vs' ns' nn' Q B
  unfold lawEnv at S
  rw [hfn] at next S ⊢
  dsimp only [fnOfObj, List.drop] at next S ⊢
  replace F := fr_kst [(Str.ofString "script", .ref sc)] (by intro q hq; rw [List.mem_singleton.mp hq]; exact hm) F
  iterate 34 walk1
  rename Fr h₀ L _ _ => F1
  rename IntsAre _ ([4, 0, 2, 9] ++ _) => hnum
  rename_i nb wsn _ l1 _ N1
  generalize hns : [4, 0, 2, 9] ++ List.take 5 ns = nums at hnum
  have hnl : 4 ≤ nums.length ∧ nums.length ≤ 9 := by rw [← hns]; simp; omega
  have l1c : L + 1 < nb ∧ 182 < nb ∧ 189 < nb := l1.2.2
  refine heads_ok B F1 X (News.reord N1 (l' := (nb, listOf wsn.toArray 0) :: [(L + 1, oc), (182, tabObj #[]), (189, tabObj #[])]) (by intro q hq; simp at hq ⊢; rcases hq with h | h | h | h <;> simp [h])) T rfl rfl rfl rfl (by show callerA.depth + 1 + 2 < recursionLimit; decide) hnum ?_
  intro h2 tk2 hl z0 z1 z2 t1 t2 t3 n2 hz0 hz1 hz2 F2 N2 l2
  k_lt l2
  iterate 8 walk1
  rename Fr h₀ L _ _ => F8
  rename News h₀ L _ _ => N8
  rename_i wl _ lw _
  refine S hl wl nb _ _ wsn nums 0 _ F8 X N8 T rfl rfl rfl hnum hnl ⟨lw.1, lw.2.1, lw.2.2.1, lw.2.2.2.1, lw.2.2.2.2⟩ ?_
  intro h' tk' m' W nw rest κ n F9 e1 e2 N9 hoff hW hn
  exact next h' tk' m' wl hl W nw _ _ _ _ _ _ _ rest κ n F9 e1 e2 N9 ⟨l2.2.1, l2.2.2.1, l2.2.2.2, lw.1⟩ hoff hW hn hz0 hz1 hz2
end
section
-- P3
theorem fresh_P3 : True := by
  w_top off
  trivial
set_option maxHeartbeats 400000
/-- the sort's tree, run by an oracle -/
noncomputable def trun {α : Type} (b : Nat → Nat → Bool) : KasT α → α
  | .ret a => a
  | .ask i j k => trun b (k (b i j))
theorem trun_ask {α : Type} (b : Nat → Nat → Bool) (i j : Nat) (k : Bool → KasT α) : trun b (.ask i j k) = trun b (k (b i j)) := rfl
theorem trun_ret {α : Type} (b : Nat → Nat → Bool) (a : α) : trun b (.ret a) = a := rfl
theorem trun_bind {α β : Type} (b : Nat → Nat → Bool) (f : α → KasT β) : ∀ t : KasT α, trun b (t.bind f) = trun b (f (trun b t))
  | .ret _ => rfl
  | .ask i j k => trun_bind b f (k (b i j))
section
variable (f : Nat → Int × Int)
noncomputable abbrev ob (i j : Nat) : Bool := klt (f i) (f j)
noncomputable def gk (p : Array Nat) (i : Nat) : Int × Int := f (p.getD i 0)
noncomputable def UpTo (p : Array Nat) (m : Nat) : Prop := ∀ i j, i ≤ j → j < m → klt (gk f p j) (gk f p i) = false
noncomputable def DownTo (p : Array Nat) (m : Nat) : Prop := ∀ i j, i < j → j < m → klt (gk f p j) (gk f p i) = true
noncomputable def Dist (p : Array Nat) : Prop := ∀ i j, i < p.size → j < p.size → i ≠ j → klt (gk f p i) (gk f p j) = true ∨ klt (gk f p j) (gk f p i) = true
variable {f}
theorem klt_ttrans {x y z : Int × Int} (h1 : klt y x = true) (h2 : klt z y = true) : klt z x = true := by
  rw [klt_tt] at *; (first | exact om313 h1 h2 | omega)
theorem UpTo.one (p : Array Nat) : UpTo f p 1 := by
  intro i j h1 h2
  have e : i = j := by (first | exact om314 h1 h2 | omega)
  subst e
  exact klt_self _
theorem UpTo.succ {p : Array Nat} {n : Nat} (h : UpTo f p n) (h1 : 1 ≤ n) (h2 : klt (gk f p n) (gk f p (n - 1)) = false) : UpTo f p (n + 1) := by
  intro i j hij hj
  by_cases e : j = n
  · subst e
    by_cases e2 : i = j
    · subst e2; exact klt_self _
    · exact klt_trans (h i (j - 1) (by (first | exact om315 hij e2 | omega)) (by (first | exact om316 h1 | omega))) h2
  · exact h i j hij (by (first | exact om217 hj e | omega))
theorem asc_spec (p : Array Nat) : ∀ (fu n : Nat), 1 ≤ n → UpTo f p n → n ≤ trun (ob f) (kas_asc p fu n) ∧ trun (ob f) (kas_asc p fu n) ≤ n + fu ∧ UpTo f p (trun (ob f) (kas_asc p fu n)) ∧
      (trun (ob f) (kas_asc p fu n) < n + fu → klt (gk f p (trun (ob f) (kas_asc p fu n))) (gk f p (trun (ob f) (kas_asc p fu n) - 1)) = true)
  | 0, n, h1, h => ⟨Nat.le_refl _, Nat.le_refl _, h, fun h => absurd h (Nat.lt_irrefl _)⟩
  | fu + 1, n, h1, h => by
    unfold kas_asc
    rw [trun_ask]
    by_cases hc : ob f (p.getD n 0) (p.getD (n - 1) 0) = true
    · rw [hc]
      simp only [if_true, trun_ret]
      exact ⟨Nat.le_refl _, Nat.le_add_right _ _, h, fun _ => hc⟩
    · have hc' : ob f (p.getD n 0) (p.getD (n - 1) 0) = false := by simpa using hc
      rw [hc']
      simp only [Bool.false_eq_true, if_false]
      obtain ⟨q1, q2, q3, q4⟩ := asc_spec p fu (n + 1) (by (first | exact om85 | omega)) (h.succ h1 hc')
      exact ⟨by (first | exact om87 q1 | omega), by (first | exact om317 q2 | omega), q3, fun h => q4 (by (first | exact om318 h | omega))⟩
theorem desc_spec (p : Array Nat) (hd : Dist f p) : ∀ (fu n : Nat), 2 ≤ n → n + fu ≤ p.size → DownTo f p n → ∃ m, trun (ob f) (kas_desc fu p n 0) = (p, m, 0) ∧ n ≤ m ∧ m ≤ n + fu ∧ DownTo f p m
  | 0, n, h2, _, h => ⟨n, rfl, Nat.le_refl _, Nat.le_refl _, h⟩
  | fu + 1, n, h2, hs, h => by
    unfold kas_desc
    rw [trun_ask]
    by_cases hc : ob f (p.getD n 0) (p.getD (n - 1) 0) = true
    · rw [hc]
      simp only [if_true, gt_iff_lt, Nat.lt_irrefl, if_false]
      obtain ⟨m, e, q1, q2, q3⟩ := desc_spec p hd fu (n + 1) (by (first | exact om319 h2 | omega)) (by (first | exact om320 hs | omega)) (by
        intro i j hij hj
        by_cases e : j = n
        · subst e
          by_cases e2 : i = j - 1
          · subst e2; exact hc
          · exact klt_ttrans (h i (j - 1) (by (first | exact om321 hij e2 | omega)) (by (first | exact om322 h2 | omega))) hc
        · exact h i j hij (by (first | exact om217 hj e | omega)))
      exact ⟨m, e, by (first | exact om87 q1 | omega), by (first | exact om317 q2 | omega), q3⟩
    · have hc' : ob f (p.getD n 0) (p.getD (n - 1) 0) = false := by simpa using hc
      rw [hc']
      simp only [Bool.false_eq_true, if_false]
      have hd' : ob f (p.getD (n - 1) 0) (p.getD n 0) = true := by
        rcases hd n (n - 1) (by (first | exact om323 hs | omega)) (by (first | exact om324 hs | omega)) (by (first | exact om325 h2 | omega)) with h3 | h3
        · exact absurd h3 (by show ¬ klt (gk f p n) (gk f p (n - 1)) = true; exact hc)
        · exact h3
      rw [trun_ask, hd']
      simp only [if_true, trun_ret]
      exact ⟨n, rfl, Nat.le_refl _, by (first | exact om326 | omega), h⟩
theorem getD_getElem? (p : Array Nat) (i : Nat) : p.getD i 0 = (p[i]?).getD 0 := by simp [Array.getD_eq_getD_getElem?]
theorem rev_get {p : Array Nat} {m k : Nat} (hm : m ≤ p.size) (hk : k < m) : gk f (kas_rev p 0 m) k = gk f p (m - 1 - k) := by
  unfold gk kas_rev
  rw [getD_getElem?, getD_getElem?, getElem?_mirror_all hm]
  have e : 0 + (m - 1) - k = m - 1 - k := by (first | exact om327 | omega)
  simp [hk]
theorem rev_get' {p : Array Nat} {m k : Nat} (hm : m ≤ p.size) (hk : m ≤ k) : gk f (kas_rev p 0 m) k = gk f p k := by
  unfold gk kas_rev
  rw [getD_getElem?, getD_getElem?, getElem?_mirror_all hm]
  have : ¬ k < m := by (first | exact om328 hk | omega)
  simp [this]
theorem DownTo.rev {p : Array Nat} {m : Nat} (hm : m ≤ p.size) (h : DownTo f p m) : UpTo f (kas_rev p 0 m) m := by
  intro i j hij hj
  rw [rev_get hm hj, rev_get hm (by (first | exact om329 hij hj | omega))]
  by_cases e : i = j
  · subst e; exact klt_self _
  · exact klt_asymm (h (m - 1 - j) (m - 1 - i) (by (first | exact om330 hij hj e | omega)) (by (first | exact om331 hj | omega)))
theorem count_spec (p : Array Nat) (hd : Dist f p) (hs : 2 ≤ p.size) : ∃ m q, trun (ob f) (kas_count p.size p) = (m, q) ∧ 1 ≤ m ∧ m ≤ p.size ∧ UpTo f q m ∧ q.Perm p := by
  unfold kas_count
  rw [trun_bind]
  obtain ⟨a1, a2, a3, a4⟩ := asc_spec p (p.size - 1) 1 (Nat.le_refl _) (UpTo.one p)
  generalize trun (ob f) (kas_asc p (p.size - 1) 1) = n at a1 a2 a3 a4
  by_cases h1 : n = p.size
  · have e : (n == p.size) = true := by simpa using h1
    rw [e, if_pos rfl]
    exact ⟨n, p, rfl, by (first | exact om332 hs h1 | omega), by (first | exact om333 h1 | omega), a3, .refl _⟩
  · have e : (n == p.size) = false := by simpa using h1
    rw [e, if_neg (by simp)]
    have hlt := a4 (by (first | exact om334 hs a2 h1 | omega))
    by_cases h2 : n > 1
    · rw [if_pos h2]
      rw [trun_ask]
      have hc : ob f (p.getD 0 0) (p.getD (n - 1) 0) = true := by
        rcases hd 0 (n - 1) (by (first | exact om335 hs | omega)) (by (first | exact om336 hs a2 | omega)) (by (first | exact om337 h2 | omega)) with h3 | h3
        · exact h3
        · have := a3 0 (n - 1) (by (first | exact om338 | omega)) (by (first | exact om339 h2 | omega))
          rw [this] at h3; cases h3
      rw [hc]
      simp only [if_true, trun_ret]
      exact ⟨n, p, rfl, by (first | exact om340 h2 | omega), by (first | exact om341 hs a2 | omega), a3, .refl _⟩
    · rw [if_neg h2]
      have en : n = 1 := by (first | exact om342 a1 h2 | omega)
      subst en
      unfold kas_descPart
      rw [trun_bind]
      obtain ⟨m, em, q1, q2, q3⟩ := desc_spec p hd (p.size - (1 + 1)) 2 (Nat.le_refl _) (by (first | exact om343 hs | omega)) (by
        intro i j hij hj
        have e1 : i = 0 := by (first | exact om344 hij hj | omega)
        have e2 : j = 1 := by (first | exact om345 hij hj | omega)
        subst e1; subst e2
        exact hlt)
      rw [em]
      simp only [gt_iff_lt, Nat.lt_irrefl, if_false]
      unfold kas_tail3
      rw [trun_bind]
      have hmp : m ≤ p.size := by (first | exact om346 hs q2 | omega)
      obtain ⟨b1, b2, b3, b4⟩ := asc_spec (kas_rev p 0 m) (p.size - m) m (by (first | exact om347 q1 | omega)) (q3.rev hmp)
      exact ⟨trun (ob f) (kas_asc (kas_rev p 0 m) (p.size - m) m), kas_rev p 0 m, rfl, by (first | exact om348 q1 b1 | omega), by (first | exact om349 hmp b2 | omega), b3, mirror_perm _ _ _ _⟩
theorem place_spec (p : Array Nat) (k : Nat) (hu : UpTo f p k) : ∀ (fu l r : Nat), l ≤ r → r ≤ k → r - l ≤ fu → (∀ i, i < l → klt (gk f p k) (gk f p i) = false) → (∀ i, r ≤ i → i < k → klt (gk f p k) (gk f p i) = true) →
    trun (ob f) (kas_place p k fu l r) ≤ k ∧ (∀ i, i < trun (ob f) (kas_place p k fu l r) → klt (gk f p k) (gk f p i) = false) ∧ (∀ i, trun (ob f) (kas_place p k fu l r) ≤ i → i < k → klt (gk f p k) (gk f p i) = true)
  | 0, l, r, h1, h2, h3, ha, hb => by
    have e : l = r := by (first | exact om350 h1 h3 | omega)
    subst e
    exact ⟨h2, ha, hb⟩
  | fu + 1, l, r, h1, h2, h3, ha, hb => by
    unfold kas_place
    by_cases hlr : l ≥ r
    · rw [if_pos hlr]
      have e : l = r := by (first | exact om351 h1 hlr | omega)
      subst e
      exact ⟨h2, ha, hb⟩
    · rw [if_neg hlr]
      rw [trun_ask]
      by_cases hc : ob f (p.getD k 0) (p.getD ((l + r) / 2) 0) = true
      · rw [hc]
        simp only [if_true]
        refine place_spec p k hu fu l ((l + r) / 2) (by (first | exact om352 hlr | omega)) (by (first | exact om353 h2 hlr | omega)) (by (first | exact om354 h3 | omega)) ha fun i h4 h5 => ?_
        have h6 := hu ((l + r) / 2) i h4 h5
        have hc' : klt (gk f p k) (gk f p ((l + r) / 2)) = true := hc
        rw [klt_tt] at hc' ⊢
        rw [klt_ff] at h6
        (first | exact om355 h6 hc' | omega)
      · have hc' : ob f (p.getD k 0) (p.getD ((l + r) / 2) 0) = false := by simpa using hc
        rw [hc']
        simp only [Bool.false_eq_true, if_false]
        refine place_spec p k hu fu ((l + r) / 2 + 1) r (by (first | exact om356 hlr | omega)) h2 (by (first | exact om357 h3 | omega)) (fun i h4 => ?_) hb
        have hc2 : klt (gk f p k) (gk f p ((l + r) / 2)) = false := hc'
        exact klt_trans (hu i ((l + r) / 2) (by (first | exact om358 h4 | omega)) (by (first | exact om359 h2 hlr | omega))) hc2
theorem bubble_get {p : Array Nat} {src d k : Nat} (hs : src < p.size) (hd : d ≤ src) : gk f (bubble p src d) k = if k = src - d then gk f p src else if src - d < k ∧ k ≤ src then gk f p (k - 1) else gk f p k := by
  unfold gk
  rw [getD_getElem?, getElem?_bubble hs d hd]
  by_cases h1 : k = src - d
  · simp [h1, getD_getElem?]
  · by_cases h2 : src - d < k ∧ k ≤ src
    · simp [h1, h2, getD_getElem?]
    · simp [h1, h2, getD_getElem?]
theorem bin_spec : ∀ (fu : Nat) (p : Array Nat) (k : Nat), 1 ≤ k → k + fu = p.size → UpTo f p k → UpTo f (trun (ob f) (kas_bin fu p k)) p.size ∧ (trun (ob f) (kas_bin fu p k)).Perm p
  | 0, p, k, h1, h2, h => by
    have e : k = p.size := by (first | exact om360 h2 | omega)
    subst e
    exact ⟨h, .refl _⟩
  | fu + 1, p, k, h1, h2, h => by
    unfold kas_bin
    rw [trun_bind]
    obtain ⟨q1, q2, q3⟩ := place_spec p k h k 0 k (by (first | exact om361 | omega)) (Nat.le_refl _) (by (first | exact om256 | omega)) (fun i h => absurd h (Nat.not_lt_zero _)) (fun i h4 h5 => by omega)
    generalize trun (ob f) (kas_place p k k 0 k) = l at q1 q2 q3
    have hsz : (bubble p k (k - l)).size = p.size := bubble_size _ _ _
    obtain ⟨r1, r2⟩ := bin_spec fu (bubble p k (k - l)) (k + 1) (by (first | exact om85 | omega)) (by rw [hsz]; (first | exact om362 h2 | omega)) (by
      intro i j hij hj
      rw [bubble_get (by (first | exact om363 h2 | omega)) (by (first | exact om364 | omega)), bubble_get (by (first | exact om363 h2 | omega)) (by (first | exact om364 | omega))]
      have e : k - (k - l) = l := by (first | exact om365 q1 | omega)
      rw [e]
      by_cases hj1 : j = l
      · rw [if_pos hj1]
        by_cases hi1 : i = l
        · rw [if_pos hi1]; exact klt_self _
        · rw [if_neg hi1, if_neg (by (first | exact om366 hij hj1 | omega))]
          exact q2 i (by (first | exact om367 hij hj1 hi1 | omega))
      · rw [if_neg hj1]
        by_cases hj2 : l < j ∧ j ≤ k
        · rw [if_pos hj2]
          by_cases hi1 : i = l
          · rw [if_pos hi1]
            exact klt_asymm (q3 (j - 1) (by (first | exact om368 hj2 | omega)) (by (first | exact om369 hj2 | omega)))
          · rw [if_neg hi1]
            by_cases hi2 : l < i ∧ i ≤ k
            · rw [if_pos hi2]; exact h (i - 1) (j - 1) (by (first | exact om370 hij | omega)) (by (first | exact om369 hj2 | omega))
            · rw [if_neg hi2]; exact h i (j - 1) (by (first | exact om371 hij hj2 hi2 | omega)) (by (first | exact om369 hj2 | omega))
        · rw [if_neg hj2, if_neg (by (first | exact om372 hij hj hj1 hj2 | omega)), if_neg (by (first | exact om373 hij hj hj2 | omega))]
          exact h i j hij (by (first | exact om374 q1 hj hj1 hj2 | omega)))
    rw [hsz] at r1
    exact ⟨r1, r2.trans (bubble_perm _ _ _)⟩
theorem sort_spec (n : Nat) (h2 : 2 ≤ n) (hd : ∀ i j, i < n → j < n → i ≠ j → klt (f i) (f j) = true ∨ klt (f j) (f i) = true) :
    (trun (ob f) (kas_sort n)).Perm (List.toArray (List.range n)) ∧ UpTo f (trun (ob f) (kas_sort n)) n := by
  have hsz : (List.toArray (List.range n)).size = n := by simp
  have hD : Dist f (List.toArray (List.range n)) := by
    intro i j hi hj hne
    rw [hsz] at hi hj
    have e : ∀ k, k < n → (List.toArray (List.range n)).getD k 0 = k := by
      intro k hk
      simp [hk]
    unfold gk
    rw [e i hi, e j hj]
    exact hd i j hi hj hne
  unfold kas_sort
  rw [trun_bind]
  obtain ⟨m, q, e, h1, h3, h4, h5⟩ := count_spec (List.toArray (List.range n)) hD (by (first | exact om375 h2 hsz | omega))
  rw [hsz] at e h3
  rw [e]
  have hq : q.size = n := by rw [h5.size_eq, hsz]
  dsimp only
  by_cases hm : m < n
  · rw [if_pos hm]
    have em : max m 1 = m := by omega
    rw [em]
    obtain ⟨r1, r2⟩ := bin_spec (n - m) q m h1 (by (first | exact om376 hq hm | omega)) h4
    rw [hq] at r1
    exact ⟨r2.trans h5, r1⟩
  · rw [if_neg hm]
    have em : m = n := by (first | exact om377 h3 hm | omega)
    subst em
    exact ⟨h5, h4⟩
end
end
section
-- P4
theorem fresh_P4 : True := by
  w_top off
  trivial
set_option maxHeartbeats 400000
/-- what is asked along the oracle's way lies in the range, two places at a time -/
noncomputable def Okp {α : Type} (b : Nat → Nat → Bool) (n : Nat) : KasT α → Prop
  | .ret _ => True
  | .ask i j k => i < n ∧ j < n ∧ i ≠ j ∧ Okp b n (k (b i j))
theorem Okp.bind {α β : Type} {b : Nat → Nat → Bool} {n : Nat} {f : α → KasT β} : ∀ {t : KasT α}, Okp b n t → Okp b n (f (trun b t)) → Okp b n (t.bind f)
  | .ret _, _, h => h
  | .ask _ _ _, h1, h2 => ⟨h1.1, h1.2.1, h1.2.2.1, Okp.bind h1.2.2.2 h2⟩
noncomputable def Pm (n : Nat) (p : Array Nat) : Prop := p.size = n ∧ (∀ i, i < n → p.getD i 0 < n) ∧ ∀ i j, i < n → j < n → i ≠ j → p.getD i 0 ≠ p.getD j 0
theorem Pm.of_perm {n : Nat} {p : Array Nat} (h : p.Perm (List.toArray (List.range n))) : Pm n p := by
  have hl : p.toList.Perm (List.range n) := by simpa using h.toList
  have hs : p.size = n := by rw [h.size_eq]; simp
  have hg : ∀ i (hi : i < n), p.getD i 0 = p.toList[i]'(by simpa [hs] using hi) := by
    intro i hi
    simp [hs, hi]
  refine ⟨hs, fun i hi => ?_, fun i j hi hj hne e => ?_⟩
  · rw [hg i hi]
    have := hl.mem_iff.mp (List.getElem_mem (l := p.toList) (n := i) (by simpa [hs] using hi))
    simpa using this
  · rw [hg i hi, hg j hj] at e
    have hn : p.toList.Nodup := hl.nodup_iff.mpr List.nodup_range
    exact hne ((List.getElem_inj hn).mp e)
section
variable {f : Nat → Int × Int} {n : Nat}
theorem asc_ok {p : Array Nat} (hp : Pm n p) : ∀ (fu m : Nat), 1 ≤ m → m + fu ≤ n → Okp (ob f) n (kas_asc p fu m)
  | 0, m, _, _ => trivial
  | fu + 1, m, h1, h2 => by
    unfold kas_asc
    refine ⟨hp.2.1 _ (by (first | exact om323 h2 | omega)), hp.2.1 _ (by (first | exact om324 h2 | omega)), hp.2.2 _ _ (by (first | exact om323 h2 | omega)) (by (first | exact om324 h2 | omega)) (by (first | exact om378 h1 | omega)), ?_⟩
    dsimp only
    split
    · trivial
    · exact asc_ok hp fu (m + 1) (by (first | exact om85 | omega)) (by (first | exact om320 h2 | omega))
theorem desc_ok {p : Array Nat} (hp : Pm n p) (hd : Dist f p) : ∀ (fu m : Nat), 1 ≤ m → m + fu ≤ n → Okp (ob f) n (kas_desc fu p m 0)
  | 0, m, _, _ => trivial
  | fu + 1, m, h1, h2 => by
    unfold kas_desc
    refine ⟨hp.2.1 _ (by (first | exact om323 h2 | omega)), hp.2.1 _ (by (first | exact om324 h2 | omega)), hp.2.2 _ _ (by (first | exact om323 h2 | omega)) (by (first | exact om324 h2 | omega)) (by (first | exact om378 h1 | omega)), ?_⟩
    dsimp only
    split
    · simp only [gt_iff_lt, Nat.lt_irrefl, if_false]
      exact desc_ok hp hd fu (m + 1) (by (first | exact om85 | omega)) (by (first | exact om320 h2 | omega))
    · rename_i hc
      refine ⟨hp.2.1 _ (by (first | exact om324 h2 | omega)), hp.2.1 _ (by (first | exact om323 h2 | omega)), hp.2.2 _ _ (by (first | exact om324 h2 | omega)) (by (first | exact om323 h2 | omega)) (by (first | exact om379 h1 | omega)), ?_⟩
      have hd' : ob f (p.getD (m - 1) 0) (p.getD m 0) = true := by
        have hs := hp.1
        rcases hd m (m - 1) (by (first | exact om380 h2 hs | omega)) (by (first | exact om381 h2 hs | omega)) (by (first | exact om378 h1 | omega)) with h3 | h3
        · exact absurd h3 hc
        · exact h3
      dsimp only
      rw [if_pos hd']
      trivial
theorem place_ok {p : Array Nat} (hp : Pm n p) {k : Nat} (hk : k < n) : ∀ (fu l r : Nat), r ≤ k → Okp (ob f) n (kas_place p k fu l r)
  | 0, l, r, _ => trivial
  | fu + 1, l, r, h2 => by
    unfold kas_place
    split
    · trivial
    · refine ⟨hp.2.1 _ (by (first | exact om22 hk | omega)), hp.2.1 _ (by (first | exact om382 hk h2 (by assumption) | omega)), hp.2.2 _ _ (by (first | exact om22 hk | omega)) (by (first | exact om382 hk h2 (by assumption) | omega)) (by (first | exact om383 h2 (by assumption) | omega)), ?_⟩
      dsimp only
      split
      · exact place_ok hp hk fu l _ (by (first | exact om353 h2 (by assumption) | omega))
      · exact place_ok hp hk fu _ r h2
theorem bin_ok : ∀ (fu : Nat) (p : Array Nat) (k : Nat), Pm n p → p.Perm (List.toArray (List.range n)) → 1 ≤ k → k + fu = n → Okp (ob f) n (kas_bin fu p k)
  | 0, p, k, _, _, _, _ => trivial
  | fu + 1, p, k, hp, hpp, h1, h2 => by
    unfold kas_bin
    refine Okp.bind (place_ok hp (by (first | exact om363 h2 | omega)) k 0 k (Nat.le_refl _)) ?_
    have hq := (bubble_perm p k (k - trun (ob f) (kas_place p k k 0 k))).trans hpp
    exact bin_ok fu _ (k + 1) (Pm.of_perm hq) hq (by (first | exact om85 | omega)) (by (first | exact om362 h2 | omega))
theorem sort_ok (h2 : 2 ≤ n) (hd : ∀ i j, i < n → j < n → i ≠ j → klt (f i) (f j) = true ∨ klt (f j) (f i) = true) : Okp (ob f) n (kas_sort n) := by
  have hsz : (List.toArray (List.range n)).size = n := by simp
  have hp0 : Pm n (List.toArray (List.range n)) := Pm.of_perm (.refl _)
  have hD : Dist f (List.toArray (List.range n)) := by
    intro i j hi hj hne
    rw [hsz] at hi hj
    have e : ∀ k, k < n → (List.toArray (List.range n)).getD k 0 = k := by
      intro k hk
      simp [hk]
    unfold gk
    rw [e i hi, e j hj]
    exact hd i j hi hj hne
  unfold kas_sort
  refine Okp.bind ?_ ?_
  · unfold kas_count
    refine Okp.bind (asc_ok hp0 (n - 1) 1 (Nat.le_refl _) (by (first | exact om384 h2 | omega))) ?_
    obtain ⟨a1, a2, a3, a4⟩ := asc_spec (f := f) (List.toArray (List.range n)) (n - 1) 1 (Nat.le_refl _) (UpTo.one _)
    generalize trun (ob f) (kas_asc (List.toArray (List.range n)) (n - 1) 1) = m at a1 a2 a3 a4
    split
    · trivial
    · rename_i hne
      have hne' : m ≠ n := by simpa using hne
      split
      · rename_i hgt
        refine ⟨hp0.2.1 _ (by (first | exact om335 h2 | omega)), hp0.2.1 _ (by (first | exact om336 h2 a2 | omega)), hp0.2.2 _ _ (by (first | exact om335 h2 | omega)) (by (first | exact om336 h2 a2 | omega)) (by (first | exact om337 hgt | omega)), ?_⟩
        have hc : ob f ((List.toArray (List.range n)).getD 0 0) ((List.toArray (List.range n)).getD (m - 1) 0) = true := by
          rcases hD 0 (m - 1) (by (first | exact om385 h2 hsz | omega)) (by (first | exact om386 h2 hsz a2 | omega)) (by (first | exact om337 hgt | omega)) with h3 | h3
          · exact h3
          · have := a3 0 (m - 1) (by (first | exact om338 | omega)) (by (first | exact om339 hgt | omega))
            rw [this] at h3; cases h3
        dsimp only
        rw [if_pos hc]
        trivial
      · have em : m = 1 := by (first | exact om342 a1 (by assumption) | omega)
        subst em
        unfold kas_descPart
        refine Okp.bind (desc_ok hp0 hD (n - (1 + 1)) 2 (by omega) (by (first | exact om343 h2 | omega))) ?_
        obtain ⟨m, em, q1, q2, q3⟩ := desc_spec (f := f) (List.toArray (List.range n)) hD (n - (1 + 1)) 2 (Nat.le_refl _) (by (first | exact om387 h2 hsz | omega)) (by
          intro i j hij hj
          have e1 : i = 0 := by (first | exact om344 hij hj | omega)
          have e2 : j = 1 := by (first | exact om345 hij hj | omega)
          subst e1; subst e2
          exact a4 (by (first | exact om388 h2 | omega)))
        rw [em]
        simp only [gt_iff_lt, Nat.lt_irrefl, if_false]
        unfold kas_tail3
        exact Okp.bind (asc_ok (Pm.of_perm (mirror_perm _ _ _ _)) (n - m) m (by (first | exact om347 q1 | omega)) (by (first | exact om389 h2 q2 | omega))) trivial
  · obtain ⟨m, q, e, h1, h3, h4, h5⟩ := count_spec (f := f) (List.toArray (List.range n)) hD (by (first | exact om375 h2 hsz | omega))
    rw [hsz] at e h3
    rw [e]
    dsimp only
    split
    · have em : max m 1 = m := by omega
      rw [em]
      exact bin_ok (n - m) q m (Pm.of_perm h5) h5 h1 (by (first | exact om390 (by assumption) | omega))
    · trivial
end
/-- the tree's weakest precondition, where every ask is answered by the oracle and leaves the state -/
theorem wp_of_ok {α : Type} {cmp : Nat → Nat → (Bool → Shared → Prop) → Shared → Prop} {b : Nat → Nat → Bool} {n : Nat} {G : α → Shared → Prop} {s : Shared}
    (hc : ∀ i j (C : Bool → Shared → Prop), i < n → j < n → i ≠ j → C (b i j) s → cmp i j C s) : ∀ {t : KasT α}, Okp b n t → G (trun b t) s → t.kasWp cmp G s
  | .ret _, _, h => h
  | .ask i j _, ⟨h1, h2, h3, h4⟩, h => hc i j _ h1 h2 h3 (wp_of_ok hc h4 h)
section
variable {prog : Program} {w : World} {A : Around} {E : Value → Shared → Prop} {s : Shared} {h₀ : Heap} {L l : Addr} {m : Str → Option Value} {news : List (Addr × Obj)} {vs : List Value} {κ : Value → Int × Int} {Q : Value → Shared → Prop}
theorem sorted_items (F : Fr h₀ L s.heap m) (N : News h₀ L s.heap news) (hl : s.heap.IsList l vs.toArray) (h2 : 2 ≤ vs.length) (h64 : vs.length < 64) (hu : A.units + 4 < cLine)
    (hI : ∀ v ∈ vs, ItemAt news v (κ v)) (hne : vs.Pairwise fun u v => (κ u).2 ≠ (κ v).2)
    (h : ∀ D c h' (out : List Value), Fr h₀ L h' m → News h₀ L h' ((D, listOf out.toArray c) :: news) → (∀ q ∈ news, q.1 < D) → out.Perm vs → out.Pairwise (fun u v => klt (κ v) (κ u) = false) → Q (.ref D) { s with heap := h' }) :
    wpAny (model prog w) A (call (.builtin "sorted") [.ref l]) Q E s := by
  have hnd : ∀ i j, i < vs.length → j < vs.length → i ≠ j → (κ (vs.getD i .none)).2 ≠ (κ (vs.getD j .none)).2 := by
    intro i j hi hj hij
    have e : ∀ k (hk : k < vs.length), vs.getD k .none = vs[k] := fun k hk => by simp [hk]
    rw [e i hi, e j hj]
    rcases Nat.lt_or_gt_of_ne hij with h3 | h3
    · exact List.pairwise_iff_getElem.mp hne i j hi hj h3
    · exact (List.pairwise_iff_getElem.mp hne j i hj hi h3).symm
  have hd : ∀ i j, i < vs.length → j < vs.length → i ≠ j → klt (κ (vs.getD i .none)) (κ (vs.getD j .none)) = true ∨ klt (κ (vs.getD j .none)) (κ (vs.getD i .none)) = true := by
    intro i j hi hj hij
    have := hnd i j hi hj hij
    rw [klt_tt, klt_tt]
    (first | exact om391 this | omega)
  refine kas_sorted (T := .type "list") F N hl h2 h64 ?_ (by decide) ?_
  · intro hp F' N' v hv
    obtain ⟨a, its, k, t1, t2, rfl, hm, _, _⟩ := hI v hv
    exact (Looks.ld (N' _ hm).1).andThen .now
  · intro D e1 h' F' N' lt
    obtain ⟨sp1, sp2⟩ := sort_spec (f := fun i => κ (vs.getD i .none)) vs.length h2 hd
    refine wp_of_ok (b := ob fun i => κ (vs.getD i .none)) (n := vs.length) ?_ (sort_ok h2 hd) ?_
    · intro i j C hi hj hij hC
      unfold kas_ask
      rw [keyLt'_oneType, oneLt'_eq]
      simp only [if_true]
      refine wpAny_bind (wpAny_cRoomFor (by show A.units + 1 + 1 < cLine; (first | exact om117 hu | omega)) ?_)
      obtain ⟨a, i1, n1, t1, t2, e1', hm1, g1, g2⟩ := hI _ (getD_mem hi)
      obtain ⟨b, i2, n2, u1, u2, e2', hm2, g3, g4⟩ := hI _ (getD_mem hj)
      have hnn := hnd i j hi hj hij
      unfold ob at hC
      dsimp only at hC
      generalize κ (vs.getD i .none) = k1 at *
      generalize κ (vs.getD j .none) = k2 at *
      rw [e1', e2']
      have hl1 : ({ s with heap := h' } : Shared).heap.get? a = some (listOf i1 n1) := (N' _ (.tail _ hm1)).1
      have hb1 : ({ s with heap := h' } : Shared).heap.get? b = some (listOf i2 n2) := (N' _ (.tail _ hm2)).1
      have T1 : ({ s with heap := h' } : Shared).TypeIs (.ref a) "list" := (show ({ s with heap := h' } : Shared).heap.IsList a i1 from ⟨_, hl1, rfl, n1, rfl⟩).typeIs
      refine wpAny_bind (wpAny_callSpecialIfBound?_slot T1 PySem.F.slot_list_lt (call_meets PySem.F.slot_list_lt T1 PySem.F.entry_list_lt (PySem.F.args_list_lt_2 _ _) (list_lt a b i1 i2 n1 n2 k1.1 k1.2 k2.1 k2.2 t1 t2 u1 u2 g1 g2 g3 g4 hnn) ⟨hl1, hb1, ?_⟩))
      exact wpAny_truthy_bool hC
    · generalize trun (ob fun i => κ (vs.getD i .none)) (kas_sort vs.length) = p at sp1 sp2
      refine KasFin.intro F' N' (UpdF.head fun q hq => Nat.ne_of_lt (lt q hq)) ?_
      intro h'' c F'' N''
      have hpl : p.toList.Perm (List.range vs.length) := by simpa using sp1.toList
      refine h D c h'' _ F'' N'' lt ?_ ?_
      · refine (hpl.map _).trans ?_
        have e : (List.range vs.length).map (fun i => vs.getD i .none) = vs := by
          apply List.ext_getElem (by simp)
          intro i h1 h2
          simp
          simp at h1
          simp [h1]
        rw [e]
      · have hsz : p.size = vs.length := by rw [sp1.size_eq]; simp
        rw [List.pairwise_map, List.pairwise_iff_getElem]
        intro i j hi hj hij
        have := sp2 i j (by (first | exact om175 hij | omega)) (by simpa [hsz] using hj)
        unfold gk at this
        simpa [hsz, show i < vs.length by simpa [hsz] using hi, show j < vs.length by simpa [hsz] using hj] using this
end
end
section
-- F4
theorem fresh_F4 : True := by
  w_top off
  trivial
set_option maxHeartbeats 1000000
/-- one line maker's parts -/
structure MkD where
  v : Nat
  d : Nat
  ln : Nat
  a : Nat
  da : Nat
  kh : Nat → Int
  kt : Nat → Tok
  vt : Nat → Tok
  kd : Nat
  hs : Int
  t : Tok
  k : Nat
noncomputable def MkD.ord (M : MkD) : Prop := M.d < M.v ∧ M.v < M.ln ∧ M.ln < M.da ∧ M.da < M.a
/-- its five objects, ahead of a ledger -/
noncomputable abbrev mk5 (M : MkD) (items : List Value) (n : Nat) (z : Int) (tz : Tok) (lns : List Value) (nl : Nat) (tail : List (Addr × Obj)) : List (Addr × Obj) :=
  (M.a, accObj M.da items n) :: (M.v, instObj 136 M.d) :: (M.d, vfDict M.kh M.kt M.vt M.ln M.a M.kd) :: (M.da, accDict M.hs M.t z tz M.k) :: (M.ln, listOf lns.toArray nl) :: tail
theorem off1_mem {D : Addr} : ∀ {l : List (Addr × Obj)}, LCg.Off1 D l → ∀ p ∈ l, p.1 ≠ D
  | [], _, _, h => nomatch h
  | _ :: _, x, p, h => by
    rcases List.mem_cons.mp h with rfl | h
    · exact x.1
    · exact off1_mem x.2 p h
theorem off_mk {I C D : Addr} {x : Nat} (hI : I < x) (hC : C < x) (hD : D < x) {y : Nat} (h : x ≤ y) : (@Ne Nat y I) ∧ (@Ne Nat y C) ∧ (@Ne Nat y D) :=
  ⟨Nat.ne_of_gt (Nat.lt_of_lt_of_le hI h), Nat.ne_of_gt (Nat.lt_of_lt_of_le hC h), Nat.ne_of_gt (Nat.lt_of_lt_of_le hD h)⟩
theorem stage2a {w : World} {base h₀ : Heap} {L fa : Nat} {cd : Value} {m : Str → Option Value} {s : Shared} {oc : Obj}
    {p : Program} {loose : List Str} {mean : ExcName → Option Value} {mg mb : Str → Option Value} {wl hl : Nat} {W : List Value} {nw n2 n : Nat} {z0 z1 z2 : Int} {t1 t2 t3 : Tok} {rest : List (Addr × Obj)} {κ : Value → Int × Int} {v₀ : Option Value}
    {Q : Flow → Shared → Prop}
    (B : Below callerA base [] h₀) (F : Fr h₀ L s.heap m) (X : (hd.heap_39 w.params).In h₀) (T : Top p loose mean mg mb h₀) (hcl : oc.data = .cell v₀)
    (N : News h₀ L s.heap ((wl, listOf W.toArray nw) :: (hl, listOf #[.int z0 t1, .int z1 t2, .int z2 t3] n2) :: (L + 1, oc) :: (182, tabObj #[]) :: (189, tabObj #[]) :: rest))
    (hm1 : m (Str.ofString "words") = some (.ref wl)) (hm2 : m (Str.ofString "heads") = some (.ref hl))
    (hLL : 182 < L ∧ 189 < L) (hord : L + 1 < hl ∧ 182 < hl ∧ 189 < hl ∧ hl < wl) (hoff : ∀ q ∈ rest, wl < q.1) (hW : WordsOk κ rest W n) (hn : 4 ≤ n ∧ n ≤ 9) (hz0 : 0 ≤ z0 ∧ z0 < 6) (hz1 : 0 ≤ z1 ∧ z1 < 6) (hz2 : 0 ≤ z2 ∧ z2 < 6)
    (next : ∀ h' tk m' (M0 M1 M2 : MkD) (mk du : Nat) (due : List Value) nd oc' nk0 nk1 nk2 nl0 nl1 nl2, Fr h₀ L h' m' → m' (Str.ofString "words") = some (.ref wl) → m' (Str.ofString "heads") = some (.ref hl) → m' (Str.ofString "due") = some (.ref du) →
      News h₀ L h' ((mk, listOf [.ref M0.v, .ref M1.v, .ref M2.v].toArray 3) :: mk5 M2 [] nk2 z2 t3 [] nl2 (mk5 M1 [] nk1 z1 t2 [] nl1 (mk5 M0 [] nk0 z0 t1 [] nl0 ((du, listOf due.toArray nd) :: (wl, listOf W.toArray nw) :: (hl, listOf #[.int z0 t1, .int z1 t2, .int z2 t3] n2) :: (L + 1, oc') :: (182, tabObj #[]) :: (189, tabObj #[]) :: rest)))) →
      oc'.data = .cell (some (.ref mk)) → (∀ q ∈ (wl, listOf W.toArray nw) :: (hl, listOf #[.int z0 t1, .int z1 t2, .int z2 t3] n2) :: (L + 1, oc) :: (182, tabObj #[]) :: (189, tabObj #[]) :: rest, q.1 < du) → du < M0.d → M0.ord → M0.a < M1.d → M1.ord → M1.a < M2.d → M2.ord →
      (∀ q ∈ mk5 M2 [] nk2 z2 t3 [] nl2 (mk5 M1 [] nk1 z1 t2 [] nl1 (mk5 M0 [] nk0 z0 t1 [] nl0 ((du, listOf due.toArray nd) :: (wl, listOf W.toArray nw) :: (hl, listOf #[.int z0 t1, .int z1 t2, .int z2 t3] n2) :: (L + 1, oc) :: (182, tabObj #[]) :: (189, tabObj #[]) :: rest))), q.1 ≠ mk) →
      due.Perm W → due.Pairwise (fun u v => klt (κ v) (κ u) = false) →
      wpAny (model Challenge.rw_nb0237_01.row.prog w) (callerA.deeper (lawEnv w L fa cd)) (execs ((lawFn w).1.drop 6) (lawEnv w L fa cd)) Q (fun _ _ => False) { s with heap := h', toks := tk }) :
    wpAny (model Challenge.rw_nb0237_01.row.prog w) (callerA.deeper (lawEnv w L fa cd)) (execs ((lawFn w).1.drop 4) (lawEnv w L fa cd)) Q (fun _ _ => False) s := by
  revert X; k_fill; intro X
  have hfn := law_eq (w := w) (by k_is)
  unfold lawEnv at next ⊢
  rw [hfn] at next ⊢
  dsimp only [fnOfObj, List.drop] at next ⊢
  replace F := fr_kst [(Str.ofString "words", .ref wl), (Str.ofString "heads", .ref hl)] (all_cons (by assumption) (all_cons (by assumption) (fun _ h => nomatch h))) F
  walk_at "my go"
  rename Fr h₀ L _ _ => F1
  rename News h₀ L _ _ => N1
  have hWl := hW.1
  refine sorted_items (κ := κ) F1 N1 (News.isList N1 (.head _)) (by (first | exact om172 hn hWl | omega)) (by (first | exact om173 hn hWl | omega)) (by show callerA.units + 3 + 4 < cLine; decide) ?_ hW.2.2.2 ?_
  · intro v hv
    obtain ⟨p, l, _, _, _, hw, hk⟩ := hW.2.2.1 v hv
    rw [hk]
    exact hw.item.mono (by exact sub_ixr [] 5 rfl)
  intro du nd h3 due F3 N3 l3 hdp hds
  iterate 4 walk1
  rename Fr h₀ L _ _ => F4
  rename News h₀ L _ _ => N4
  refine LCg.ListComp_U (F₀ := F4) (by with_unfolding_all rfl) (by decide) (by rfl) (by decide) (by rfl) ?_
  walk1
  refine LCg.CompSrc.ledger rfl F4 N4 (.tail _ (.tail _ (.head _))) (by show (3 : Nat) ≤ sizeLine; decide) ?_
  intro g4
  show LCg.CompRest _ _ _ _ _ _ _ _ _ _ _ _ _ _ _ 3 0 [] _
  refine LCg.CompRest.succ ?_
  intro v5 I0 oI0 C0 oC0 D0 m0' h5 tk5 E5 hP5 hn5 hx5 F5 N5 of0 ne0
  obtain rfl : v5 = .int z0 t1 := (Option.some.inj hP5).symm
  iterate 13 walk1
  rename Fr h₀ L _ _ => F5
  rename News h₀ L _ _ => N5
  refine ⟨X.keeps F5.keep, ?_⟩
  refine vfmake_ok B F5 X N5 T rfl rfl rfl (by show callerA.depth + 1 + 5 < recursionLimit; decide) ?_
  intro h6 tk6 v0 d0 ln0 a0 da0 kh0 kt0 vt0 kd0 hs0 tt0 kk0 nk0 nl0 F6 N6 lt0 o10 o20 o30 o40
  replace o10 := ltN o10
  replace o20 := ltN o20
  replace o30 := ltN o30
  replace o40 := ltN o40
  have hI0 := lt0 _ (.head _)
  have hC0 := lt0 _ (.tail _ (.head _))
  have hD0 := lt0 _ (.tail _ (.tail _ (.head _)))
  refine LCg.CompEnd.intro F6 N6 ((a0, accObj da0 [] nk0) :: (v0, instObj 136 d0) :: (d0, vfDict kh0 kt0 vt0 ln0 a0 kd0) :: (da0, accDict hs0 tt0 z0 t1 kk0) :: (ln0, listOf #[] nl0) :: (du, listOf due.toArray nd) :: (wl, listOf W.toArray nw) :: (hl, listOf #[.int z0 t1, .int z1 t2, .int z2 t3] n2) :: (L + 1, oc) :: (182, tabObj #[]) :: (189, tabObj #[]) :: rest) (by exact sub_ixr [5, 6, 7, 0, 1, 2, 3, 4] 8 rfl) ?_ (.inr ⟨_, by repeat (first | exact List.Mem.head _ | apply List.Mem.tail), rfl, _, rfl⟩) ?_
  · exact ⟨off_mk hI0 hC0 hD0 (by (first | exact om174 o10 o20 o30 o40 | omega)), off_mk hI0 hC0 hD0 (by (first | exact om175 o10 | omega)), off_mk hI0 hC0 hD0 (by (first | exact om21 | omega)), off_mk hI0 hC0 hD0 (by (first | exact om176 o10 o20 o30 | omega)), off_mk hI0 hC0 hD0 (by (first | exact om177 o10 o20 | omega)), of0⟩
  refine LCg.CompRest.succ ?_
  intro v5 I1 oI1 C1 oC1 D1 m1' h5 tk5 E5 hP5 hn5 hx5 F5 N5 of1 ne1
  obtain rfl : v5 = .int z1 t2 := (Option.some.inj hP5).symm
  iterate 13 walk1
  rename Fr h₀ L _ _ => F5
  rename News h₀ L _ _ => N5
  refine ⟨X.keeps F5.keep, ?_⟩
  refine vfmake_ok B F5 X N5 T rfl rfl rfl (by show callerA.depth + 1 + 5 < recursionLimit; decide) ?_
  intro h6 tk6 v1 d1 ln1 a1 da1 kh1 kt1 vt1 kd1 hs1 tt1 kk1 nk1 nl1 F6 N6 lt1 o11 o21 o31 o41
  replace o11 := ltN o11
  replace o21 := ltN o21
  replace o31 := ltN o31
  replace o41 := ltN o41
  have hI1 := lt1 _ (.head _)
  have hC1 := lt1 _ (.tail _ (.head _))
  have hD1 := lt1 _ (.tail _ (.tail _ (.head _)))
  refine LCg.CompEnd.intro F6 N6 ((a1, accObj da1 [] nk1) :: (v1, instObj 136 d1) :: (d1, vfDict kh1 kt1 vt1 ln1 a1 kd1) :: (da1, accDict hs1 tt1 z1 t2 kk1) :: (ln1, listOf #[] nl1) :: (a0, accObj da0 [] nk0) :: (v0, instObj 136 d0) :: (d0, vfDict kh0 kt0 vt0 ln0 a0 kd0) :: (da0, accDict hs0 tt0 z0 t1 kk0) :: (ln0, listOf #[] nl0) :: (du, listOf due.toArray nd) :: (wl, listOf W.toArray nw) :: (hl, listOf #[.int z0 t1, .int z1 t2, .int z2 t3] n2) :: (L + 1, oc) :: (182, tabObj #[]) :: (189, tabObj #[]) :: rest) (by exact sub_ixr [5, 6, 7, 0, 1, 2, 3, 4] 8 rfl) ?_ (.inr ⟨_, by repeat (first | exact List.Mem.head _ | apply List.Mem.tail), rfl, _, rfl⟩) ?_
  · exact ⟨off_mk hI1 hC1 hD1 (by (first | exact om174 o11 o21 o31 o41 | omega)), off_mk hI1 hC1 hD1 (by (first | exact om175 o11 | omega)), off_mk hI1 hC1 hD1 (by (first | exact om21 | omega)), off_mk hI1 hC1 hD1 (by (first | exact om176 o11 o21 o31 | omega)), off_mk hI1 hC1 hD1 (by (first | exact om177 o11 o21 | omega)), of1⟩
  refine LCg.CompRest.succ ?_
  intro v5 I2 oI2 C2 oC2 D2 m2' h5 tk5 E5 hP5 hn5 hx5 F5 N5 of2 ne2
  obtain rfl : v5 = .int z2 t3 := (Option.some.inj hP5).symm
  iterate 13 walk1
  rename Fr h₀ L _ _ => F5
  rename News h₀ L _ _ => N5
  refine ⟨X.keeps F5.keep, ?_⟩
  refine vfmake_ok B F5 X N5 T rfl rfl rfl (by show callerA.depth + 1 + 5 < recursionLimit; decide) ?_
  intro h6 tk6 v2 d2 ln2 a2 da2 kh2 kt2 vt2 kd2 hs2 tt2 kk2 nk2 nl2 F6 N6 lt2 o12 o22 o32 o42
  replace o12 := ltN o12
  replace o22 := ltN o22
  replace o32 := ltN o32
  replace o42 := ltN o42
  have hI2 := lt2 _ (.head _)
  have hC2 := lt2 _ (.tail _ (.head _))
  have hD2 := lt2 _ (.tail _ (.tail _ (.head _)))
  refine LCg.CompEnd.intro F6 N6 ((a2, accObj da2 [] nk2) :: (v2, instObj 136 d2) :: (d2, vfDict kh2 kt2 vt2 ln2 a2 kd2) :: (da2, accDict hs2 tt2 z2 t3 kk2) :: (ln2, listOf #[] nl2) :: (a1, accObj da1 [] nk1) :: (v1, instObj 136 d1) :: (d1, vfDict kh1 kt1 vt1 ln1 a1 kd1) :: (da1, accDict hs1 tt1 z1 t2 kk1) :: (ln1, listOf #[] nl1) :: (a0, accObj da0 [] nk0) :: (v0, instObj 136 d0) :: (d0, vfDict kh0 kt0 vt0 ln0 a0 kd0) :: (da0, accDict hs0 tt0 z0 t1 kk0) :: (ln0, listOf #[] nl0) :: (du, listOf due.toArray nd) :: (wl, listOf W.toArray nw) :: (hl, listOf #[.int z0 t1, .int z1 t2, .int z2 t3] n2) :: (L + 1, oc) :: (182, tabObj #[]) :: (189, tabObj #[]) :: rest) (by exact sub_ixr [5, 6, 7, 0, 1, 2, 3, 4] 8 rfl) ?_ (.inr ⟨_, by repeat (first | exact List.Mem.head _ | apply List.Mem.tail), rfl, _, rfl⟩) ?_
  · exact ⟨off_mk hI2 hC2 hD2 (by (first | exact om174 o12 o22 o32 o42 | omega)), off_mk hI2 hC2 hD2 (by (first | exact om175 o12 | omega)), off_mk hI2 hC2 hD2 (by (first | exact om21 | omega)), off_mk hI2 hC2 hD2 (by (first | exact om176 o12 o22 o32 | omega)), off_mk hI2 hC2 hD2 (by (first | exact om177 o12 o22 | omega)), of2⟩
  refine LCg.CompRest.zero ?_
  intro mk h7 tk7 F7 N7 o7
  dsimp only at F7 N7 ⊢
  have q0 := ltN (lt0 (du, listOf due.toArray nd) (by exact mem_ix 3 rfl))
  have q1 := ltN (lt1 (a0, accObj da0 [] nk0) (by exact mem_ix 3 rfl))
  have q2 := ltN (lt2 (a1, accObj da1 [] nk1) (by exact mem_ix 3 rfl))
  have q3 := ltN (l3 (wl, listOf W.toArray nw) (.head _))
  have o7' := o7
  simp only [LCg.Off1] at o7'
  refine storeX_C (c := L + 1) F7 (News.reord N7 (l' := (L + 1, oc) :: (mk, listOf [.ref v0, .ref v1, .ref v2].toArray 3) :: (a2, accObj da2 [] nk2) :: (v2, instObj 136 d2) :: (d2, vfDict kh2 kt2 vt2 ln2 a2 kd2) :: (da2, accDict hs2 tt2 z2 t3 kk2) :: (ln2, listOf #[] nl2) :: (a1, accObj da1 [] nk1) :: (v1, instObj 136 d1) :: (d1, vfDict kh1 kt1 vt1 ln1 a1 kd1) :: (da1, accDict hs1 tt1 z1 t2 kk1) :: (ln1, listOf #[] nl1) :: (a0, accObj da0 [] nk0) :: (v0, instObj 136 d0) :: (d0, vfDict kh0 kt0 vt0 ln0 a0 kd0) :: (da0, accDict hs0 tt0 z0 t1 kk0) :: (ln0, listOf #[] nl0) :: (du, listOf due.toArray nd) :: (wl, listOf W.toArray nw) :: (hl, listOf #[.int z0 t1, .int z1 t2, .int z2 t3] n2) :: (182, tabObj #[]) :: (189, tabObj #[]) :: rest) (by exact sub_ixr [19, 0, 1, 2, 3, 4, 5, 6, 7, 8, 9, 10, 11, 12, 13, 14, 15, 16, 17, 18] 20 rfl)) rfl (UpdF.head ?_) hcl ?_
  · have hmk : mk ≠ L + 1 := Ne.symm (off1_mem o7 (L + 1, oc) (by exact mem_ix 18 rfl))
    refine all_cons hmk ?_
    have lw := Nat.lt_trans hord.1 hord.2.2.2
    have lu := Nat.lt_trans lw q3
    have ld0 := Nat.lt_trans lu q0
    have lv0 := Nat.lt_trans ld0 o10
    have ln0 := Nat.lt_trans lv0 o20
    have le0 := Nat.lt_trans ln0 o30
    have la0 := Nat.lt_trans le0 o40
    have ld1 := Nat.lt_trans la0 q1
    have lv1 := Nat.lt_trans ld1 o11
    have ln1 := Nat.lt_trans lv1 o21
    have le1 := Nat.lt_trans ln1 o31
    have la1 := Nat.lt_trans le1 o41
    have ld2 := Nat.lt_trans la1 q2
    have lv2 := Nat.lt_trans ld2 o12
    have ln2 := Nat.lt_trans lv2 o22
    have le2 := Nat.lt_trans ln2 o32
    have la2 := Nat.lt_trans le2 o42
    exact (all_cons (Nat.ne_of_gt la2) (all_cons (Nat.ne_of_gt lv2) (all_cons (Nat.ne_of_gt ld2) (all_cons (Nat.ne_of_gt le2) (all_cons (Nat.ne_of_gt ln2) (all_cons (Nat.ne_of_gt la1) (all_cons (Nat.ne_of_gt lv1) (all_cons (Nat.ne_of_gt ld1) (all_cons (Nat.ne_of_gt le1) (all_cons (Nat.ne_of_gt ln1) (all_cons (Nat.ne_of_gt la0) (all_cons (Nat.ne_of_gt lv0) (all_cons (Nat.ne_of_gt ld0) (all_cons (Nat.ne_of_gt le0) (all_cons (Nat.ne_of_gt ln0) (all_cons (Nat.ne_of_gt lu) (all_cons (Nat.ne_of_gt lw) (all_cons (Nat.ne_of_gt hord.1) (all_cons (Nat.ne_of_lt (Nat.lt_succ_of_lt hLL.1)) (all_cons (Nat.ne_of_lt (Nat.lt_succ_of_lt hLL.2)) (fun q hq => Nat.ne_of_gt (Nat.lt_trans lw (ltN (hoff q hq))))))))))))))))))))))))
  intro h8 oc' F8 N8 hoc'
  dsimp only
  refine next h8 tk7 _ ⟨v0, d0, ln0, a0, da0, kh0, kt0, vt0, kd0, hs0, tt0, kk0⟩ ⟨v1, d1, ln1, a1, da1, kh1, kt1, vt1, kd1, hs1, tt1, kk1⟩ ⟨v2, d2, ln2, a2, da2, kh2, kt2, vt2, kd2, hs2, tt2, kk2⟩ mk du due nd oc' nk0 nk1 nk2 nl0 nl1 nl2 F8 rfl rfl rfl (News.reord N8 (by exact sub_ixr [1, 2, 3, 4, 5, 6, 7, 8, 9, 10, 11, 12, 13, 14, 15, 16, 17, 18, 19, 0] 20 rfl)) hoc' l3 q0 ⟨o10, o20, o30, o40⟩ q1 ⟨o11, o21, o31, o41⟩ q2 ⟨o12, o22, o32, o42⟩ ?_ hdp hds
  exact off1_mem o7
end
section
-- G1
theorem fresh_G1 : True := by
  w_top off
  trivial
set_option maxHeartbeats 1000000
open PyProof.Rows.LCg (NsObj lst Off3 Off1 SrcAt)
/-- what a turn of a comprehension leaves (the generators may have grown) -/
noncomputable def CEndG (Gp : Array GenState → Prop) (h₀ : Heap) (L : Addr) (m : Str → Option Value) (s : Shared) (I : Addr) (oI : Obj) (C : Addr) (oC : Obj) (D : Addr) (oD : Obj) (S : List (Addr × Obj) → Prop) (J : Value → List (Addr × Obj) → Prop) (y : Value) (s₂ : Shared) : Prop :=
  ∃ h' tk gs news', s₂ = { s with heap := h', toks := tk, gens := gs } ∧ Gp gs ∧ Fr h₀ L h' m ∧ News h₀ L h' ((I, oI) :: (C, oC) :: (D, oD) :: news') ∧ Off3 I C D news' ∧ S news' ∧ J y news'
section
variable {prog : Program} {w : World} {A : Around} {E : Value → Shared → Prop} {s : Shared} {h₀ : Heap} {L : Addr} {m : Str → Option Value} {env : Env}
theorem CEndG.intro {Gp : Array GenState → Prop} {I C D : Addr} {oI oC oD : Obj} {S : List (Addr × Obj) → Prop} {J : Value → List (Addr × Obj) → Prop} {y : Value} {h' : Heap} {tk : Nat} {gs : Array GenState} {all : List (Addr × Obj)}
    (F : Fr h₀ L h' m) (N : News h₀ L h' all) (G : Gp gs) (news' : List (Addr × Obj)) (sub : ∀ p ∈ (I, oI) :: (C, oC) :: (D, oD) :: news', p ∈ all) (off : Off3 I C D news') (hS : S news') (r : J y news') :
    CEndG Gp h₀ L m s I oI C oC D oD S J y { s with heap := h', toks := tk, gens := gs } := ⟨h', tk, gs, news', rfl, G, F, fun p hp => N p (sub p hp), off, hS, r⟩
inductive BInv (Gp : Array GenState → Prop) (J : Nat → List Value → List (Addr × Obj) → Prop) (S : List (Addr × Obj) → Prop) (St : Nat → Heap → Prop) (h₀ : Heap) (L : Addr) (m : Str → Option Value) (C D I : Addr) (n : Nat) (s : Shared) (k : Nat) : Shared → Prop
  | mk (h' : Heap) (tk : Nat) (gs : Array GenState) (i : Nat) (ys : List Value) (m' : Str → Option Value) (news' : List (Addr × Obj)) (a1 : i ≤ n) (a2 : k = n + 1 - i) (a3 : ys.length = i) (a4 : Gp gs) (a5 : St i h') (a6 : Fr h₀ L h' m) (a7 : h'.Ns C m') (a8 : News h₀ L h' ((D, lst ys) :: news'))
      (a9 : Off3 I C D news') (a10 : S news') (a11 : J i ys news') : BInv Gp J S St h₀ L m C D I n s k { s with heap := h', toks := tk, gens := gs }
theorem block_JG {Gp : Array GenState → Prop} {elt iter : Expr} {x : Str} {px : Pos} {scope : Scope} {cl : List (Str × Addr)} {pos : Pos} {s₂ : Shared} {I : Addr} {fp : List Addr} {n : Nat} {P : Nat → Value → Prop} {St : Nat → Heap → Prop} {S : List (Addr × Obj) → Prop} {news : List (Addr × Obj)}
    {J : Nat → List Value → List (Addr × Obj) → Prop} {RR : Value → Addr → Result → Shared → Prop}
    (W : Walks prog w A I fp [I] n P St) (hsz : n ≤ sizeLine) (hIo : ∀ i h, St i h → ∃ o, h.get? I = some o)
    (hSt : ∀ i h h' o nw, St i h → h.get? I = some o → h'.get? I = some o → (∀ b o, h₀.get? b = some o → h'.get? b = some o) → News h₀ L h' nw → S nw → St i h')
    (hcell : ∀ y ∈ scope.names, y.2 ≠ .cell) (hkind : scope.kind = .function) (hx : scope.names.lookup x = some .local) (hst : St 0 s₂.heap) (hfp : ∀ b ∈ fp, b < s₂.heap.objs.size)
    (F : Fr h₀ L s₂.heap m) (N : News h₀ L s₂.heap news) (hIL : L ≠ I) (hI₀ : h₀.get? I = none) (off : ∀ p ∈ news, p.1 ≠ I) (hS : S news) (G : Gp s₂.gens)
    (h0 : J 0 [] news)
    (step : ∀ i v ys oI C oC D m₂ h tk gs news₁ (E' : Value → Shared → Prop), i < n → P i v → ys.length = i → J i ys news₁ → Gp gs → S news₁ → NsObj oC m₂ → m₂ x = some v → Fr h₀ L h m → News h₀ L h ((I, oI) :: (C, oC) :: (D, lst ys) :: news₁) → Off3 I C D news₁ → ((@Ne Nat I C) ∧ (@Ne Nat I D) ∧ (@Ne Nat C D)) →
      wpAny (model prog w) A (eval elt (compEnvC scope cl C env)) (CEndG Gp h₀ L m s₂ I oI C oC D (lst ys) S fun y news' => J (i + 1) (ys ++ [y]) news') E' { s₂ with heap := h, toks := tk, gens := gs })
    (hRR : ∀ D C h tk gs m' ys news', Gp gs → Fr h₀ L h m → News h₀ L h ((D, lst ys) :: news') → Off1 D news' → h.Ns C m' → h₀.get? C = none → h₀.get? D = none → C ≠ L → D ≠ L → C ≠ D → (∀ p ∈ news', p.1 ≠ C) → ys.length = n → J n ys news' → RR (.ref D) C (.ok .next) { s₂ with heap := h, toks := tk, gens := gs }) :
    wpAny (model prog w) A (newList []) (fun acc s₃ => wpAny (model prog w) A (newFunctionEnv scope env.globals cl [] env.qual none .none (some env)) (fun cenv s₄ =>
      codeAny (model prog w) A (.compStart (.ListComp elt [⟨.Name x px, iter, [], 0⟩] scope pos) 0 (.ref I) acc { cenv with scope := relabel scope env }) (RR acc cenv.locals) s₄) E s₃) E s₂ := by
  refine wpAny_newObj_type (wpAny_newFunctionEnv hcell (by intro y hy; simp at hy) (fun h₁ hns₁ hsb₁ => ?_) hkind)
  dsimp only at hns₁ hsb₁ ⊢
  generalize hH2 : s₂.heap.push { cls := .type "list", dict := none, data := .seq ([] : List Value).toArray } = H2 at hns₁ hsb₁ ⊢
  have hC : H2.objs.size = s₂.heap.objs.size + 1 := by rw [← hH2, Heap.size_push]
  generalize hD : s₂.heap.objs.size = D at *
  generalize hCe : H2.objs.size = C at *
  have hDC : D ≠ C := by rw [hC]; exact Nat.ne_of_lt (Nat.lt_succ_self _)
  have below : ∀ b, b < D → b ≠ C ∧ b ≠ D := fun b hb => ⟨by rw [hC]; exact Nat.ne_of_lt (Nat.lt_succ_of_lt hb), Nat.ne_of_lt hb⟩
  have hDf : D ∉ fp := fun hm => Nat.lt_irrefl _ (hfp _ hm)
  have hCf : C ∉ fp := fun hm => by have := hfp _ hm; rw [hC] at this; exact Nat.lt_irrefl _ (Nat.lt_of_succ_lt this)
  have hIlt : I < D := hfp I (W.sub I (List.mem_singleton.mpr rfl))
  have old : ∀ b o, s₂.heap.get? b = some o → h₁.get? b = some o := fun b o e => hsb₁.extBut b o (below b (hD ▸ Heap.lt_size e)).1 (Heap.get?_push_of_some _ (hH2 ▸ Heap.get?_push_of_some _ e))
  have hacc : h₁.get? D = some (lst []) := hsb₁.extBut _ _ hDC (Heap.get?_push_of_some _ (by rw [← hH2, ← hD]; exact Heap.get?_push_size _ rfl))
  have hst₁ : St 0 h₁ := W.frame _ _ _ hst fun b _ o e => old b o e
  have fresh₀ : ∀ a, D ≤ a → h₀.get? a = none := fun a ha => by
    cases e : h₀.get? a with
    | none => rfl
    | some o' => exact absurd (hD ▸ Heap.lt_size (F.keep a o' e)) (Nat.not_lt.mpr ha)
  have hD₀ : h₀.get? D = none := fresh₀ _ (Nat.le_refl _)
  have hC₀ : h₀.get? C = none := fresh₀ _ (by rw [hC]; exact Nat.le_succ _)
  have hLlt : L < D := hD ▸ F.ns.lt
  have hDL : D ≠ L := Ne.symm (below L hLlt).2
  have hCL : C ≠ L := Ne.symm (below L hLlt).1
  have hCI : I ≠ C := (below I hIlt).1
  have hDI : I ≠ D := (below I hIlt).2
  have off₀ : Off3 I C D news := Off3.of fun p hp => ⟨off p hp, (below _ (hD ▸ Heap.lt_size (N p hp).1)).1, (below _ (hD ▸ Heap.lt_size (N p hp).1)).2⟩
  have loop : ∀ s₃ : Shared, s₃ = { s₂ with heap := h₁, toks := s₂.toks + ([] : List (Str × Value)).length } →
      codeAny (model prog w) A (.compLoop (.ListComp elt [⟨.Name x px, iter, [], 0⟩] scope pos) 0 (.ref I) (.ref D) (compEnvC scope cl C env)) (RR (.ref D) C) s₃ := by
    rintro s₃ rfl
    refine codeAny_compLoop_tests
      (BInv Gp J S St h₀ L m C D I n s₂) ?_ (n + 1)
      ⟨h₁, _, s₂.gens, 0, [], _, news, Nat.zero_le _, rfl, rfl, G, hst₁, F.keeps old, hns₁, fun p hp => ?_, off₀, hS, h0⟩
    · rintro k s' ⟨h', tk, gs, i, ys, m', news', hi, rfl, hyl, G', hst', F', hn', N', off', hS', hJ⟩
      by_cases hlt : i < n
      · refine W.item i _ _ _ hlt hst' fun v h₂ tk₂ hPv hst₂ hk₂ => ?_
        refine wpAny_assign_Name (wpAny_storeName_local (lookup_relabel_local hx) (hn'.at' fun o e => hk₂ _ o (by simpa using Ne.symm hCI) e) (fun h₃ hn₃ hs₃ => ?_) (by simp [compEnvC, relabel, hkind]))
        refine wpAny_tests_nil ?_
        simp only [if_true]
        have hst₃ : St (i + 1) h₃ := W.frame _ _ _ hst₂ fun b hb o e => hs₃.extBut b o (fun q => hCf (by have q' : b = C := q; rw [← q']; exact hb)) e
        obtain ⟨oI, heI⟩ := hIo _ _ hst₃
        obtain ⟨oC, heC, hoC⟩ := LCg.ns_obj hn₃
        have F₃ : Fr h₀ L h₃ m := (LCg.fr_but F' hk₂ hIL hI₀).change hs₃ hCL hC₀
        have off3 := off'.mem
        have N₂ : News h₀ L h₂ ((D, lst ys) :: news') := LCg.news_but N' hk₂ fun p hp => by
          rcases List.mem_cons.mp hp with rfl | hp
          · exact Ne.symm hDI
          · exact (off3 p hp).1
        have N₃ : News h₀ L h₃ ((I, oI) :: (C, oC) :: (D, lst ys) :: news') := fun p hp => by
          rcases List.mem_cons.mp hp with rfl | hp
          · exact ⟨heI, Ne.symm hIL, hI₀⟩
          · rcases List.mem_cons.mp hp with rfl | hp
            · exact ⟨heC, hCL, hC₀⟩
            · have z := N₂ p hp
              refine ⟨hs₃.extBut _ _ ?_ z.1, z.2⟩
              rcases List.mem_cons.mp hp with rfl | hp
              · exact hDC
              · exact (off3 p hp).2.1
        refine wpAny_mono (step i v ys oI C oC D _ h₃ _ gs news' _ hlt hPv hyl hJ G' hS' hoC (by simp) F₃ N₃ off' ⟨hCI, hDI, Ne.symm hDC⟩) (fun y s₄ h₄ => ?_) fun _ _ e => e
        obtain ⟨h₄, tk₄, gs₄, news₄, rfl, G₄, F₄, N₄, off₄, hS₄, hJ₄⟩ := h₄
        have zI := (N₄ (I, oI) List.mem_cons_self).1
        have zC := (N₄ (C, oC) (List.mem_cons_of_mem _ List.mem_cons_self)).1
        have zD := (N₄ (D, lst ys) (List.mem_cons_of_mem _ (List.mem_cons_of_mem _ List.mem_cons_self))).1
        have N₄' : News h₀ L h₄ news₄ := fun p hp => N₄ p (List.mem_cons_of_mem _ (List.mem_cons_of_mem _ (List.mem_cons_of_mem _ hp)))
        have hst₄ : St (i + 1) h₄ := hSt _ _ _ _ _ hst₃ heI zI F₄.keep N₄' hS₄
        refine append_at (hsz := by show ys.toArray.size ≤ sizeLine; rw [List.size_toArray, hyl]; exact Nat.le_trans hi hsz) zD fun h₅ hs₅ hD₅ => ?_
        have off4 := off₄.mem
        refine ⟨n + 1 - (i + 1), by (first | exact om202 hlt | omega), h₅, tk₄, gs₄, i + 1, ys ++ [y], _, news₄, hlt, rfl, by rw [List.length_append, List.length_singleton, hyl], G₄, W.frame _ _ _ hst₄ fun b hb o e => hs₅.extBut b o (fun q => hDf (q ▸ hb)) e, F₄.change hs₅ hDL hD₀,
          (hoC.ns zC).sameBut hs₅ (Ne.symm hDC), fun p hp => ?_, off₄, hS₄, hJ₄⟩
        rcases List.mem_cons.mp hp with rfl | hp
        · exact ⟨hD₅.trans (congrArg some (LCg.lst_snoc ys y)), hDL, hD₀⟩
        · exact ⟨hs₅.extBut _ _ (off4 p hp).2.2 (N₄' p hp).1, (N₄' p hp).2⟩
      · obtain rfl : i = n := Nat.le_antisymm hi (Nat.not_lt.mp hlt)
        refine W.done _ _ _ hst' fun h₂ tk₂ hk₂ => ?_
        have off3 := off'.mem
        exact hRR D C h₂ tk₂ gs _ ys news' G' (LCg.fr_but F' hk₂ hIL hI₀) (LCg.news_but N' hk₂ fun p hp => by
          rcases List.mem_cons.mp hp with rfl | hp
          · exact Ne.symm hDI
          · exact (off3 p hp).1) off'.one (hn'.at' fun o e => hk₂ _ o (by simpa using Ne.symm hCI) e) hC₀ hD₀ hCL hDL (Ne.symm hDC) (fun p hp => (off3 p hp).2.1) hyl hJ
    · rcases List.mem_cons.mp hp with rfl | hp
      · exact ⟨hacc, hDL, hD₀⟩
      · exact ⟨old _ _ (N p hp).1, (N p hp).2⟩
  exact codeAny_compStart_list (loop _ rfl) (W.self 0 _ _ _ hst₁ (loop _ rfl))
/-- the source of a comprehension: a list of the ledger's, or a range from 0 -/
noncomputable def JSrcG (Gp : Array GenState → Prop) (prog : Program) (w : World) (A : Around) (h₀ : Heap) (L : Addr) (m : Str → Option Value) (env : Env) (elt : Expr) (x : Str) (scope : Scope) (cl : List (Str × Addr)) (Fin : Shared → List Value → List (Addr × Obj) → Prop) (xv : Value) (s₁ : Shared) : Prop :=
  Gp s₁.gens ∧ A.handled = none ∧ ∃ (n : Nat) (P : Nat → Value → Prop) (S : List (Addr × Obj) → Prop) (J : Nat → List Value → List (Addr × Obj) → Prop) (news : List (Addr × Obj)),
    ((∃ ax its, xv = .ref ax ∧ SrcAt h₀ ax its news ∧ n = its.size ∧ (P = fun i v => its[i]? = some v) ∧ S = SrcAt h₀ ax its) ∨
     (∃ r t u v, xv = .ref r ∧ IsRange s₁.heap r 0 ((n : Nat) : Int) 1 t u v ∧ (P = fun i v => ∃ t, v = .int ((i : Nat) : Int) t) ∧ S = fun _ => True) ∨
     (∃ d od kvs, xv = .ref d ∧ (d, od) ∈ news ∧ Obj.IsDictOf (PySem.intKind prog w) od kvs ∧ (d == sysModules) = false ∧ n = kvs.length ∧ (P = fun i v => ∃ k x, kvs[i]? = some (k, x) ∧ (PySem.intKind prog w).is k v = true) ∧ S = fun nn => (d, od) ∈ nn)) ∧
    n ≤ 100000 ∧ Fr h₀ L s₁.heap m ∧ News h₀ L s₁.heap news ∧ J 0 [] news ∧
    (∀ I i v ys oI C oC D m₂ h tk gs news₁ (E' : Value → Shared → Prop), i < n → P i v → ys.length = i → J i ys news₁ → Gp gs → S news₁ → NsObj oC m₂ → m₂ x = some v → Fr h₀ L h m → News h₀ L h ((I, oI) :: (C, oC) :: (D, lst ys) :: news₁) → Off3 I C D news₁ → ((@Ne Nat I C) ∧ (@Ne Nat I D) ∧ (@Ne Nat C D)) →
      wpAny (model prog w) A (eval elt (compEnvC scope cl C env)) (CEndG Gp h₀ L m s₁ I oI C oC D (lst ys) S fun y news' => J (i + 1) (ys ++ [y]) news') E' { s₁ with heap := h, toks := tk, gens := gs }) ∧
    (∀ ys news', ys.length = n → J n ys news' → Fin s₁ ys news')
theorem src_block {Gp : Array GenState → Prop} {elt iter : Expr} {x : Str} {px : Pos} {scope : Scope} {cl : List (Str × Addr)} {pos : Pos} {Fin : Shared → List Value → List (Addr × Obj) → Prop} {xv : Value} {s₁ : Shared} {RR : Value → Addr → Result → Shared → Prop}
    (hcell : ∀ y ∈ scope.names, y.2 ≠ .cell) (hkind : scope.kind = .function) (hx : scope.names.lookup x = some .local)
    (h₁ : JSrcG Gp prog w A h₀ L m env elt x scope cl Fin xv s₁)
    (hRR : ∀ D C h tk gs m' ys news', Gp gs → Fr h₀ L h m → News h₀ L h ((D, lst ys) :: news') → Off1 D news' → h.Ns C m' → h₀.get? C = none → h₀.get? D = none → C ≠ L → D ≠ L → C ≠ D → (∀ p ∈ news', p.1 ≠ C) → Fin s₁ ys news' → RR (.ref D) C (.ok .next) { s₁ with heap := h, toks := tk, gens := gs }) :
    wpAny (model prog w) A (pyIter xv) (fun it s₂ => wpAny (model prog w) A (newList []) (fun acc s₃ => wpAny (model prog w) A (newFunctionEnv scope env.globals cl [] env.qual none .none (some env)) (fun cenv s₄ =>
      codeAny (model prog w) A (.compStart (.ListComp elt [⟨.Name x px, iter, [], 0⟩] scope pos) 0 it acc { cenv with scope := relabel scope env }) (RR acc cenv.locals) s₄) E s₃) E s₂) E s₁ := by
  obtain ⟨G, hh, n, P, S, J, news, hsrc, hn, F, N, h0, step, fin⟩ := h₁
  have hsz : n ≤ sizeLine := by rw [sizeLine_eq]; (first | exact om203 hn | omega)
  rcases hsrc with ⟨ax, its, rfl, hS, rfl, rfl, rfl⟩ | ⟨r, t, u, v, rfl, hr, rfl, rfl⟩ | ⟨d, od, kvs, rfl, hdm, hdd, hdlo, rfl, rfl, rfl⟩
  · have hl := hS.list F.keep N
    have hlt : ax < s₁.heap.objs.size := by obtain ⟨_, e, _⟩ := hl; exact Heap.lt_size e
    refine wpAny_pyIter_list hl ?_
    have up : ∀ b o, s₁.heap.get? b = some o → (s₁.heap.push { cls := .type "list_iterator", data := .fields #[.ref ax, .int 0 0] }).get? b = some o := fun b o e => Heap.get?_push_of_some _ e
    refine block_JG (J := J) (Walks.list hh s₁.heap.objs.size ax (Nat.ne_of_lt hlt) its) hsz (fun i h st => by obtain ⟨o, e, _⟩ := st.1; exact ⟨o, e⟩) LCg.list_st hcell hkind hx ⟨⟨_, Heap.get?_push_size _ rfl, rfl, rfl⟩, hl.push _⟩ (fun b hb => ?_)
      (F.keeps up) (N.grown up) (Nat.ne_of_lt F.ns.lt) (next_is_new F) (fun p hp => Nat.ne_of_lt (Heap.lt_size (N p hp).1)) hS G h0 (fun i v ys oI C oC D m₂ h tk gs news₁ E' => step _ i v ys oI C oC D m₂ h tk gs news₁ E') ?_
    · show b < (s₁.heap.push _).objs.size
      rw [Heap.size_push]
      rcases List.mem_cons.mp hb with rfl | hb
      · exact Nat.lt_succ_self _
      · rw [List.mem_singleton.mp hb]; exact Nat.lt_succ_of_lt hlt
    · intro D C h tk gs m' ys news' G' F' N' o1 hn' hC₀ hD₀ hCL hDL hCD offC hyl hJ
      exact hRR D C h tk gs m' ys news' G' F' N' o1 hn' hC₀ hD₀ hCL hDL hCD offC (fin ys news' hyl hJ)
  · have hrs : Builtin.Range.rangeSize 0 (n : Int) 1 = (n : Int) := by
      rw [rangeSize_one]
      split <;> (first | exact om146 | exact om147 (by assumption) | omega)
    have fl : ∀ z : Int, 0 ≤ z → z ≤ 100000 → Builtin.Range.rangeFitsLong z = true := by
      intro z h1 h2
      unfold Builtin.Range.rangeFitsLong
      simp
      (first | exact om204 h1 h2 | omega)
    have hsm : Builtin.Range.small 0 (n : Int) 1 = true := by
      unfold Builtin.Range.small
      rw [hrs, fl 0 (by omega) (by omega), fl n (by (first | exact om2 | omega)) (by (first | exact om205 hn | omega)), fl 1 (by omega) (by omega)]
      simp [fl n (by (first | exact om2 | omega)) (by (first | exact om205 hn | omega))]
    refine wpAny_pyIter_range hr hsm ?_
    have W : Walks prog w A s₁.heap.objs.size [s₁.heap.objs.size] [s₁.heap.objs.size] n (fun i v => ∃ t, v = .int ((i : Nat) : Int) t) (fun i h => IsRangeIter h s₁.heap.objs.size (0 + (i : Nat) * 1) ((n : Int) - (i : Nat)) 1) := by
      have W0 := LCg.range_walks (prog := prog) (w := w) (A := A) (I := s₁.heap.objs.size) hh 0 n
      have e : (fun (i : Nat) (v : Value) => ∃ t, v = .int (0 + (i : Int)) t) = fun (i : Nat) (v : Value) => ∃ t, v = .int ((i : Nat) : Int) t := by
        funext i v
        simp
      rw [e] at W0
      exact W0
    refine block_JG (J := J) W hsz (fun i h st => ⟨_, st⟩) LCg.range_st hcell hkind hx (by show IsRangeIter _ _ _ _ _; rw [hrs]; simpa using Heap.get?_push_size _ rfl) (fun b hb => ?_)
      (F.keeps fun _ _ e => Heap.get?_push_of_some _ e) (N.grown fun _ _ e => Heap.get?_push_of_some _ e) (Nat.ne_of_lt F.ns.lt) (next_is_new F) (fun p hp => Nat.ne_of_lt (Heap.lt_size (N p hp).1)) trivial G h0 (fun i v ys oI C oC D m₂ h tk gs news₁ E' => step _ i v ys oI C oC D m₂ h tk gs news₁ E') ?_
    · rw [List.mem_singleton.mp hb]
      show s₁.heap.objs.size < (s₁.heap.push _).objs.size
      rw [Heap.size_push]; exact Nat.lt_succ_self _
    · intro D C h tk gs m' ys news' G' F' N' o1 hn' hC₀ hD₀ hCL hDL hCD offC hyl hJ
      exact hRR D C h tk gs m' ys news' G' F' N' o1 hn' hC₀ hD₀ hCL hDL hCD offC (fin ys news' hyl hJ)
  · obtain ⟨ep, ha⟩ := KdkAt.of hdd
    have hlt : d < s₁.heap.objs.size := Heap.lt_size (N _ hdm).1
    refine wpAny_pyIter_dict hdlo (ha.dictAt (N _ hdm).1) ?_
    have up : ∀ b o, s₁.heap.get? b = some o → (s₁.heap.push { cls := .type "dict_keyiterator", data := .fields #[.ref d, .int 0 0, .int kvs.length 0, .int ep 0] }).get? b = some o := fun b o e => Heap.get?_push_of_some _ e
    refine block_JG (J := J) (Walks.dictKeys (knd := PySem.intKind prog w) hh s₁.heap.objs.size d (Nat.ne_of_lt hlt) kvs ep) hsz (fun i h st => by obtain ⟨o, e, _⟩ := st.1; exact ⟨o, e⟩)
      (fun i h h' o nw st e e' k N' hS' => ⟨by obtain ⟨o', q, r⟩ := st.1; rw [e] at q; cases q; exact ⟨o, e', r⟩, ha.dictAt (N' _ hS').1⟩) hcell hkind hx ⟨⟨_, Heap.get?_push_size _ rfl, rfl, rfl⟩, ha.dictAt (up _ _ (N _ hdm).1)⟩ (fun b hb => ?_)
      (F.keeps up) (N.grown up) (Nat.ne_of_lt F.ns.lt) (next_is_new F) (fun p hp => Nat.ne_of_lt (Heap.lt_size (N p hp).1)) hdm G h0 (fun i v ys oI C oC D m₂ h tk gs news₁ E' => step _ i v ys oI C oC D m₂ h tk gs news₁ E') ?_
    · show b < (s₁.heap.push _).objs.size
      rw [Heap.size_push]
      rcases List.mem_cons.mp hb with rfl | hb
      · exact Nat.lt_succ_self _
      · rw [List.mem_singleton.mp hb]; exact Nat.lt_succ_of_lt hlt
    · intro D C h tk gs m' ys news' G' F' N' o1 hn' hC₀ hD₀ hCL hDL hCD offC hyl hJ
      exact hRR D C h tk gs m' ys news' G' F' N' o1 hn' hC₀ hD₀ hCL hDL hCD offC (fin ys news' hyl hJ)
noncomputable def JFinG (Gp : Array GenState → Prop) (h₀ : Heap) (L : Addr) (m : Str → Option Value) (Q : Value → Shared → Prop) (s : Shared) (ys : List Value) (news : List (Addr × Obj)) : Prop :=
  ∀ D h tk gs, Gp gs → Fr h₀ L h m → News h₀ L h ((D, lst ys) :: news) → Off1 D news → Q (.ref D) { s with heap := h, toks := tk, gens := gs }
theorem ListComp_JG {Gp : Array GenState → Prop} {elt iter : Expr} {x : Str} {px : Pos} {scope : Scope} {cl : List (Str × Addr)} {pos : Pos} {Q : Value → Shared → Prop} (uF₀ : Fr h₀ L s.heap m)
    (hclos : closureFor scope env = pure cl) (hcell : ∀ y ∈ scope.names, y.2 ≠ .cell) (hkind : scope.kind = .function)
    (hnames : ∀ y ∈ scope.names, y.2 = .local → scope.names.lookup y.1 = some .local) (hx : scope.names.lookup x = some .local)
    (h : wpAny (model prog w) A (eval iter env) (JSrcG Gp prog w A h₀ L m env elt x scope cl (JFinG Gp h₀ L m Q)) E s)
    (hs : ∀ x, foldedSetIterable iter env x = pure x := by intro _; rfl) :
    wpAny (model prog w) A (eval (.ListComp elt [⟨.Name x px, iter, [], 0⟩] scope pos) env) Q E s := by
  rw [eval_ListComp]
  refine wpAny_comprehension_free (use := none) rfl hs hclos hkind hnames (wpAny_mono h (fun xv s₁ h₁ => src_block hcell hkind hx h₁ ?_) fun _ _ e => e)
  intro D C h tk gs m' ys news' G' F' N' o1 hn' hC₀ hD₀ hCL hDL hCD offC fin
  refine ⟨m', hn', fun h'' hs'' => fin D h'' tk gs G' (F'.change hs'' hCL hC₀) (fun p hp => ?_) o1⟩
  refine ⟨hs''.extBut _ _ ?_ (N' p hp).1, (N' p hp).2⟩
  rcases List.mem_cons.mp hp with rfl | hp
  · exact Ne.symm hCD
  · exact offC p hp
noncomputable def JFinAG (Gp : Array GenState → Prop) (h₀ : Heap) (L : Addr) (m : Str → Option Value) (y : Str) (Q : Flow → Shared → Prop) (s : Shared) (ys : List Value) (news : List (Addr × Obj)) : Prop :=
  ∀ D h tk gs, Gp gs → Fr h₀ L h (fun z => if z = y then some (.ref D) else m z) → News h₀ L h ((D, lst ys) :: news) → Off1 D news → Q .next { s with heap := h, toks := tk, gens := gs }
theorem Assign_ListComp_JG {Gp : Array GenState → Prop} {elt iter : Expr} {x y : Str} {px py : Pos} {scope : Scope} {cl : List (Str × Addr)} {pos spos : Pos} {Q : Flow → Shared → Prop} (uF₀ : Fr h₀ L s.heap m) (hLe : env.locals = L)
    (hsw : swapsWith (.ListComp elt [⟨.Name x px, iter, [], 0⟩] scope pos) (some (.Name y py)) spos.line env = pure true)
    (hclos : closureFor scope env = pure cl) (hcell : ∀ z ∈ scope.names, z.2 ≠ .cell) (hkind : scope.kind = .function)
    (hnames : ∀ z ∈ scope.names, z.2 = .local → scope.names.lookup z.1 = some .local) (hx : scope.names.lookup x = some .local)
    (hy : env.kindOf y = some .local) (hp : (env.scope.kind == .class || (env.scope.kind == .module && env.locals != env.globals)) = false)
    (h : wpAny (model prog w) A (eval iter env) (JSrcG Gp prog w A h₀ L m env elt x scope cl (JFinAG Gp h₀ L m y Q)) E s)
    (hs : ∀ x, foldedSetIterable iter env x = pure x := by intro _; rfl) :
    wpAny (model prog w) A (exec (.Assign [.Name y py] (.ListComp elt [⟨.Name x px, iter, [], 0⟩] scope pos) spos) env) Q E s := by
  subst hLe
  rw [exec_Assign_Name_used _ _ _ _ hsw]
  refine wpAny_bind (wpAny_standAt (wpAny_bind ?_))
  show wpAny _ A (do let _ ← comprehension (.ListComp elt [⟨.Name x px, iter, [], 0⟩] scope pos) scope env _ (newList []) false (eval iter env) (some (assign (.Name y py) env))) _ _ s
  refine wpAny_bind (wpAny_mono (wpAny_comprehension_free (use := some (assign (.Name y py) env)) (Q := fun _ s' => Q .next s') rfl hs hclos hkind hnames
    (wpAny_mono h (fun xv s₁ h₁ => src_block hcell hkind hx h₁ ?_) fun _ _ e => e)) (fun _ s' hq => wpAny_pure (wpAny_pure hq)) fun _ _ e => e)
  intro D C h tk gs m' ys news' G' F' N' o1 hn' hC₀ hD₀ hCL hDL hCD offC fin
  show wpAny _ A (assign (.Name y py) env (.ref D)) _ _ _
  refine wpAny_assign_Name (wpAny_storeName_local hy F'.ns (fun h₂ hn₂ hs₂ => ?_) hp)
  have hL₀ : h₀.get? env.locals = none := Heap.get?_none_of_le F'.above
  have F₂ : Fr h₀ env.locals h₂ (fun z => if z = y then some (.ref D) else m z) := ⟨hn₂, fun b o e => hs₂.extBut b o (fun q => by rw [q, hL₀] at e; cases e) (F'.keep b o e), F'.above⟩
  refine ⟨m', hn'.sameBut hs₂ hCL, fun h'' hs'' => fin D h'' _ gs G' (F₂.change hs'' hCL hC₀) (fun p hp => ?_) o1⟩
  have z : h₂.get? p.1 = some p.2 := hs₂.extBut _ _ (N' p hp).2.1 (N' p hp).1
  refine ⟨hs''.extBut _ _ ?_ z, (N' p hp).2⟩
  rcases List.mem_cons.mp hp with rfl | hp
  · exact Ne.symm hCD
  · exact offC p hp
end
end
section
-- G2
theorem fresh_G2 : True := by
  w_top off
  trivial
set_option maxHeartbeats 1000000
section
variable {prog : Program} {w : World} {A : Around} {s : Shared} {h₀ : Heap} {L : Addr} {env : Env}
noncomputable def WEnd (h₀ : Heap) (L : Addr) (s : Shared) (I : Nat → (Str → Option Value) → List (Addr × Obj) → Prop) (n : Nat) (Q : Flow → Shared → Prop) (f : Flow) (s₂ : Shared) : Prop :=
  match f with
  | .next | .cont => ∃ k h' tk gs m' news', k < n ∧ s₂ = { s with heap := h', toks := tk, gens := gs } ∧ AllBare gs ∧ Fr h₀ L h' m' ∧ News h₀ L h' news' ∧ I k m' news'
  | .brk => Q .next s₂
  | .ret v => Q (.ret v) s₂
theorem while_G {test : Expr} {body : List Stmt} {pos : Pos} {Q : Flow → Shared → Prop} {m₀ : Str → Option Value} {news : List (Addr × Obj)} (I : Nat → (Str → Option Value) → List (Addr × Obj) → Prop) (n₀ : Nat)
    (F : Fr h₀ L s.heap m₀) (N : News h₀ L s.heap news) (G : AllBare s.gens) (h0 : I n₀ m₀ news)
    (turn : ∀ n m₁ news₁ h tk gs, I n m₁ news₁ → AllBare gs → Fr h₀ L h m₁ → News h₀ L h news₁ →
      wpAny (model prog w) A (isTrue test env (eval test env)) (fun b s₂ => if b then wpAny (model prog w) A (execs body env) (WEnd h₀ L s I n Q) (fun _ _ => False) s₂ else Q .next s₂) (fun _ _ => False) { s with heap := h, toks := tk, gens := gs }) :
    wpAny (model prog w) A (exec (.While test body [] pos) env) Q (fun _ _ => False) s := by
  refine wpAny_While (codeAny_whileLoop (fun n s' => ∃ h tk gs m₁ news₁, s' = { s with heap := h, toks := tk, gens := gs } ∧ AllBare gs ∧ Fr h₀ L h m₁ ∧ News h₀ L h news₁ ∧ I n m₁ news₁) ?_ n₀ ⟨s.heap, s.toks, s.gens, m₀, news, rfl, G, F, N, h0⟩)
  rintro n s' ⟨h, tk, gs, m₁, news₁, rfl, G', F', N', hI⟩
  refine wpAny_mono (turn n m₁ news₁ h tk gs hI G' F' N') (fun b s₂ hb => ?_) fun _ _ x => x.elim
  cases b with
  | false =>
    simp only [Bool.false_eq_true, if_false] at hb ⊢
    exact wpAny_pure hb
  | true =>
    simp only [if_true] at hb ⊢
    refine wpAny_mono hb (fun f s₃ hf => ?_) fun _ _ x => x.elim
    cases f with
    | ret v => exact hf
    | brk => exact hf
    | next =>
      obtain ⟨k, h', tk', gs', m', news', hk, rfl, G2, F2, N2, hI2⟩ := hf
      exact ⟨k, hk, h', tk', gs', m', news', rfl, G2, F2, N2, hI2⟩
    | cont =>
      obtain ⟨k, h', tk', gs', m', news', hk, rfl, G2, F2, N2, hI2⟩ := hf
      exact ⟨k, hk, h', tk', gs', m', news', rfl, G2, F2, N2, hI2⟩
end
end
section
-- F5
theorem fresh_F5 : True := by
  w_top off
  trivial
set_option maxHeartbeats 1000000
open PyProof.Rows.LCg (NsObj lst Off3 Off1 SrcAt)
/-- the items of the second heap, as the comprehension makes them -/
inductive HIt (zs : Nat → Int) : Nat → List Value → List (Addr × Obj) → Prop
  | zero : HIt zs 0 [] []
  | succ {i : Nat} {ys : List Value} {its : List (Addr × Obj)} (q : Nat) (t t' : Tok) (n : Nat) (h : HIt zs i ys its) (hl : ∀ r ∈ its, r.1 < q) : HIt zs (i + 1) (ys ++ [.ref q]) ((q, listOf #[.int (zs i) t, .int ((i : Nat) : Int) t'] n) :: its)
inductive JH (zs : Nat → Int) (a mk : Nat) (led : Array Value → List (Addr × Obj)) (i : Nat) (ys : List Value) (nn : List (Addr × Obj)) : Prop
  | mk (ps : Array Value) (its : List (Addr × Obj)) (h1 : TabOk ⟨139, 19, 139, 63⟩ ps) (h2 : HIt zs i ys its) (h3 : ∀ r ∈ its, a < r.1 ∧ mk < r.1 ∧ 189 < r.1) (h4 : nn = its ++ led ps) : JH zs a mk led i ys nn
/-- the ledger of the stages behind the makers -/
noncomputable abbrev ledM (mk : Nat) (M0 M1 M2 : MkD) (ps qs : Array Value) (i0 i1 i2 : List Value) (n0 n1 n2 : Nat) (z0 z1 z2 : Int) (t1 t2 t3 : Tok) (l0 l1 l2 : List Value) (nl0 nl1 nl2 : Nat) (tail : List (Addr × Obj)) : List (Addr × Obj) :=
  (182, tabObj ps) :: (189, tabObj qs) :: (mk, listOf [.ref M0.v, .ref M1.v, .ref M2.v].toArray 3) :: mk5 M0 i0 n0 z0 t1 l0 nl0 (mk5 M1 i1 n1 z1 t2 l1 nl1 (mk5 M2 i2 n2 z2 t3 l2 nl2 tail))
/-- the order of the addresses -/
structure OrdM (L hl wl du mk : Nat) (M0 M1 M2 : MkD) : Prop where
  hL : 189 < L
  h1 : L + 1 < hl
  h2 : hl < wl
  h3 : wl < du
  h4 : du < M0.d
  o0 : M0.ord
  h5 : M0.a < M1.d
  o1 : M1.ord
  h6 : M1.a < M2.d
  o2 : M2.ord
  hmk : mk ∉ [182, 189, L + 1, hl, wl, du, M0.d, M0.v, M0.ln, M0.da, M0.a, M1.d, M1.v, M1.ln, M1.da, M1.a, M2.d, M2.v, M2.ln, M2.da, M2.a]
noncomputable def Inc : Nat → List Nat → Prop
  | _, [] => True
  | x, y :: r => x < y ∧ Inc y r
theorem Inc.nodup : ∀ {l : List Nat} {x : Nat}, Inc x l → (∀ y ∈ l, x < y) ∧ l.Nodup
  | [], _, _ => ⟨(fun _ h => nomatch h), .nil⟩
  | y :: r, x, h => by
    obtain ⟨a, b⟩ := Inc.nodup h.2
    refine ⟨all_cons h.1 fun z hz => Nat.lt_trans h.1 (a z hz), List.nodup_cons.mpr ⟨fun hm => Nat.lt_irrefl _ (a y hm), b⟩⟩
theorem OrdM.gt {L hl wl du mk : Nat} {M0 M1 M2 : MkD} (hO : OrdM L hl wl du mk M0 M1 M2) : ∀ y ∈ [L + 1, hl, wl, du, M0.d, M0.v, M0.ln, M0.da, M0.a, M1.d, M1.v, M1.ln, M1.da, M1.a, M2.d, M2.v, M2.ln, M2.da, M2.a], 182 < y :=
  (Inc.nodup (show Inc 182 [L + 1, hl, wl, du, M0.d, M0.v, M0.ln, M0.da, M0.a, M1.d, M1.v, M1.ln, M1.da, M1.a, M2.d, M2.v, M2.ln, M2.da, M2.a] from ⟨Nat.lt_succ_of_lt (Nat.lt_trans (by decide) hO.hL), hO.h1, hO.h2, hO.h3, hO.h4, hO.o0.1, hO.o0.2.1, hO.o0.2.2.1, hO.o0.2.2.2, hO.h5, hO.o1.1, hO.o1.2.1, hO.o1.2.2.1, hO.o1.2.2.2, hO.h6, hO.o2.1, hO.o2.2.1, hO.o2.2.2.1, hO.o2.2.2.2, trivial⟩)).1
theorem stage2b {w : World} {base h₀ : Heap} {L fa : Nat} {cd : Value} {m : Str → Option Value} {s : Shared} {oc : Obj}
    {p : Program} {loose : List Str} {mean : ExcName → Option Value} {mg mb : Str → Option Value} {wl hl du mk : Nat} {W due : List Value} {nw nd n2 n k0 k1 k2 l0 l1 l2 : Nat} {z0 z1 z2 : Int} {t1 t2 t3 : Tok} {rest : List (Addr × Obj)} {M0 M1 M2 : MkD}
    {Q : Flow → Shared → Prop}
    (B : Below callerA base [] h₀) (F : Fr h₀ L s.heap m) (X : (hd.heap_39 w.params).In h₀) (T : Top p loose mean mg mb h₀) (hcl : oc.data = .cell (some (.ref mk))) (G : AllBare s.gens)
    (N : News h₀ L s.heap (ledM mk M0 M1 M2 #[] #[] [] [] [] k0 k1 k2 z0 z1 z2 t1 t2 t3 [] [] [] l0 l1 l2 ((du, listOf due.toArray nd) :: (wl, listOf W.toArray nw) :: (hl, listOf #[.int z0 t1, .int z1 t2, .int z2 t3] n2) :: (L + 1, oc) :: rest)))
    (hm1 : m (Str.ofString "words") = some (.ref wl)) (hm2 : m (Str.ofString "heads") = some (.ref hl)) (hm3 : m (Str.ofString "due") = some (.ref du)) (hO : OrdM L hl wl du mk M0 M1 M2) (hz0 : 0 ≤ z0 ∧ z0 < 6) (hz1 : 0 ≤ z1 ∧ z1 < 6) (hz2 : 0 ≤ z2 ∧ z2 < 6) (hR : ∀ q ∈ rest, wl < q.1 ∧ q.1 < du ∧ q.1 ≠ mk)
    (next : ∀ h' tk gs m' (hp q0 q1 q2 : Nat) ps ta0 ta1 ta2 tb0 tb1 tb2 nn0 nn1 nn2, AllBare gs → Fr h₀ L h' m' → m' (Str.ofString "words") = some (.ref wl) → m' (Str.ofString "heads") = some (.ref hl) → m' (Str.ofString "due") = some (.ref du) → m' (Str.ofString "heap") = some (.ref hp) →
      News h₀ L h' ((hp, listOf [.ref q0, .ref q1, .ref q2].toArray 3) :: (q2, listOf #[.int z2 ta2, .int ((2 : Nat) : Int) tb2] nn2) :: (q1, listOf #[.int z1 ta1, .int ((1 : Nat) : Int) tb1] nn1) :: (q0, listOf #[.int z0 ta0, .int ((0 : Nat) : Int) tb0] nn0) :: ledM mk M0 M1 M2 ps #[] [] [] [] k0 k1 k2 z0 z1 z2 t1 t2 t3 [] [] [] l0 l1 l2 ((du, listOf due.toArray nd) :: (wl, listOf W.toArray nw) :: (hl, listOf #[.int z0 t1, .int z1 t2, .int z2 t3] n2) :: (L + 1, oc) :: rest)) → TabOk ⟨139, 19, 139, 63⟩ ps → M2.a < q0 ∧ mk < q0 ∧ 189 < q0 ∧ q0 < q1 ∧ q1 < q2 →
      Off1 hp ((q2, listOf #[.int z2 ta2, .int ((2 : Nat) : Int) tb2] nn2) :: (q1, listOf #[.int z1 ta1, .int ((1 : Nat) : Int) tb1] nn1) :: (q0, listOf #[.int z0 ta0, .int ((0 : Nat) : Int) tb0] nn0) :: ledM mk M0 M1 M2 ps #[] [] [] [] k0 k1 k2 z0 z1 z2 t1 t2 t3 [] [] [] l0 l1 l2 ((du, listOf due.toArray nd) :: (wl, listOf W.toArray nw) :: (hl, listOf #[.int z0 t1, .int z1 t2, .int z2 t3] n2) :: (L + 1, oc) :: rest)) →
      wpAny (model Challenge.rw_nb0237_01.row.prog w) (callerA.deeper (lawEnv w L fa cd)) (execs ((lawFn w).1.drop 7) (lawEnv w L fa cd)) Q (fun _ _ => False) { s with heap := h', toks := tk, gens := gs }) :
    wpAny (model Challenge.rw_nb0237_01.row.prog w) (callerA.deeper (lawEnv w L fa cd)) (execs ((lawFn w).1.drop 6) (lawEnv w L fa cd)) Q (fun _ _ => False) s := by
  revert X; k_fill; intro X
  have hfn := law_eq (w := w) (by k_is)
  unfold lawEnv at next ⊢
  rw [hfn] at next ⊢
  dsimp only [fnOfObj, List.drop] at next ⊢
  dsimp only [ledM, mk5] at N
  have hgt := hO.gt
  have h182 : ∀ q ∈ (189, tabObj #[]) :: (mk, listOf [.ref M0.v, .ref M1.v, .ref M2.v].toArray 3) :: mk5 M0 [] k0 z0 t1 [] l0 (mk5 M1 [] k1 z1 t2 [] l1 (mk5 M2 [] k2 z2 t3 [] l2 ((du, listOf due.toArray nd) :: (wl, listOf W.toArray nw) :: (hl, listOf #[.int z0 t1, .int z1 t2, .int z2 t3] n2) :: (L + 1, oc) :: rest))), q.1 ≠ 182 := all_cons (show (189 : Nat) ≠ 182 by decide) (all_cons (fun e => hO.hmk (by have e' : mk = 182 := e; rw [e']; exact .head _)) (all_cons (Nat.ne_of_gt (hgt _ (.tail _ (.tail _ (.tail _ (.tail _ (.tail _ (.tail _ (.tail _ (.tail _ (.head _))))))))))) (all_cons (Nat.ne_of_gt (hgt _ (.tail _ (.tail _ (.tail _ (.tail _ (.tail _ (.head _)))))))) (all_cons (Nat.ne_of_gt (hgt _ (.tail _ (.tail _ (.tail _ (.tail _ (.head _))))))) (all_cons (Nat.ne_of_gt (hgt _ (.tail _ (.tail _ (.tail _ (.tail _ (.tail _ (.tail _ (.tail _ (.head _)))))))))) (all_cons (Nat.ne_of_gt (hgt _ (.tail _ (.tail _ (.tail _ (.tail _ (.tail _ (.tail _ (.head _))))))))) (all_cons (Nat.ne_of_gt (hgt _ (.tail _ (.tail _ (.tail _ (.tail _ (.tail _ (.tail _ (.tail _ (.tail _ (.tail _ (.tail _ (.tail _ (.tail _ (.tail _ (.head _)))))))))))))))) (all_cons (Nat.ne_of_gt (hgt _ (.tail _ (.tail _ (.tail _ (.tail _ (.tail _ (.tail _ (.tail _ (.tail _ (.tail _ (.tail _ (.head _))))))))))))) (all_cons (Nat.ne_of_gt (hgt _ (.tail _ (.tail _ (.tail _ (.tail _ (.tail _ (.tail _ (.tail _ (.tail _ (.tail _ (.head _)))))))))))) (all_cons (Nat.ne_of_gt (hgt _ (.tail _ (.tail _ (.tail _ (.tail _ (.tail _ (.tail _ (.tail _ (.tail _ (.tail _ (.tail _ (.tail _ (.tail _ (.head _))))))))))))))) (all_cons (Nat.ne_of_gt (hgt _ (.tail _ (.tail _ (.tail _ (.tail _ (.tail _ (.tail _ (.tail _ (.tail _ (.tail _ (.tail _ (.tail _ (.head _)))))))))))))) (all_cons (Nat.ne_of_gt (hgt _ (.tail _ (.tail _ (.tail _ (.tail _ (.tail _ (.tail _ (.tail _ (.tail _ (.tail _ (.tail _ (.tail _ (.tail _ (.tail _ (.tail _ (.tail _ (.tail _ (.tail _ (.tail _ (.head _))))))))))))))))))))) (all_cons (Nat.ne_of_gt (hgt _ (.tail _ (.tail _ (.tail _ (.tail _ (.tail _ (.tail _ (.tail _ (.tail _ (.tail _ (.tail _ (.tail _ (.tail _ (.tail _ (.tail _ (.tail _ (.head _)))))))))))))))))) (all_cons (Nat.ne_of_gt (hgt _ (.tail _ (.tail _ (.tail _ (.tail _ (.tail _ (.tail _ (.tail _ (.tail _ (.tail _ (.tail _ (.tail _ (.tail _ (.tail _ (.tail _ (.head _))))))))))))))))) (all_cons (Nat.ne_of_gt (hgt _ (.tail _ (.tail _ (.tail _ (.tail _ (.tail _ (.tail _ (.tail _ (.tail _ (.tail _ (.tail _ (.tail _ (.tail _ (.tail _ (.tail _ (.tail _ (.tail _ (.tail _ (.head _)))))))))))))))))))) (all_cons (Nat.ne_of_gt (hgt _ (.tail _ (.tail _ (.tail _ (.tail _ (.tail _ (.tail _ (.tail _ (.tail _ (.tail _ (.tail _ (.tail _ (.tail _ (.tail _ (.tail _ (.tail _ (.tail _ (.head _))))))))))))))))))) (all_cons (Nat.ne_of_gt (hgt _ (.tail _ (.tail _ (.tail _ (.head _)))))) (all_cons (Nat.ne_of_gt (hgt _ (.tail _ (.tail _ (.head _))))) (all_cons (Nat.ne_of_gt (hgt _ (.tail _ (.head _)))) (all_cons (Nat.ne_of_gt (hgt _ (.head _))) fun q hq => Nat.ne_of_gt (Nat.lt_trans (hgt wl (.tail _ (.tail _ (.head _)))) (hR q hq).1)))))))))))))))))))))
  replace F := fr_kst [(Str.ofString "words", .ref wl), (Str.ofString "heads", .ref hl), (Str.ofString "due", .ref du)] (all_cons (by assumption) (all_cons (by assumption) (all_cons (by assumption) (fun _ h => nomatch h)))) F
  iterate 1 walk1
  refine Assign_ListComp_JG (Gp := AllBare) F (by rfl) (by with_unfolding_all rfl) (by with_unfolding_all rfl) (by decide) (by rfl) (by decide) (by rfl) (by rfl) (by rfl) ?_
  walk_at "my go"
  rename Fr h₀ L _ _ => F1
  rename News h₀ L _ _ => N1
  rename IsRange _ _ _ _ _ _ _ _ => hRg
  refine ⟨G, rfl, 3, _, _, (JH (fun k => [z0, z1, z2].getD k 0) M2.a mk (fun ps => ledM mk M0 M1 M2 ps #[] [] [] [] k0 k1 k2 z0 z1 z2 t1 t2 t3 [] [] [] l0 l1 l2 ((du, listOf due.toArray nd) :: (wl, listOf W.toArray nw) :: (hl, listOf #[.int z0 t1, .int z1 t2, .int z2 t3] n2) :: (L + 1, oc) :: rest))), _, .inr (.inl ⟨_, _, _, _, rfl, hRg, rfl, rfl⟩), by decide, F1, N1, ⟨#[], [], .inl rfl, .zero, (fun _ h => nomatch h), rfl⟩, ?_, ?_⟩
  · rintro I i v ys oI C oC D m₂ h tk gs news₁ E' hi ⟨tv, rfl⟩ hyl ⟨ps, its, hps, hit, hbig, rfl⟩ Gs - hn5 hx5 F5 N5 of5 ne5
    have hi3 : i = 0 ∨ i = 1 ∨ i = 2 := by (first | exact om198 hi | omega)
    rcases hi3 with rfl | rfl | rfl
    · cases hit
      dsimp only [List.nil_append, List.cons_append, ledM, mk5, List.getD_cons_zero, List.getD_cons_succ] at N5 of5
      have w182 := of5.mem (182, tabObj ps) (by exact mem_ix 0 rfl)
      iterate 14 walk1
      rename Fr h₀ L _ _ => F6
      rename News h₀ L _ _ => N6
      refine acclen_ok (parts := []) B F6 X (News.reord N6 (l' := (182, tabObj ps) :: (M0.a, accObj M0.da [] k0) :: (I, oI) :: (C, oC) :: (D, _) :: (189, tabObj #[]) :: (mk, listOf [.ref M0.v, .ref M1.v, .ref M2.v].toArray 3) :: (M0.v, instObj 136 M0.d) :: (M0.d, vfDict M0.kh M0.kt M0.vt M0.ln M0.a M0.kd) :: (M0.da, accDict M0.hs M0.t z0 t1 M0.k) :: (M0.ln, listOf [].toArray l0) :: (M1.a, accObj M1.da [] k1) :: (M1.v, instObj 136 M1.d) :: (M1.d, vfDict M1.kh M1.kt M1.vt M1.ln M1.a M1.kd) :: (M1.da, accDict M1.hs M1.t z1 t2 M1.k) :: (M1.ln, listOf [].toArray l1) :: (M2.a, accObj M2.da [] k2) :: (M2.v, instObj 136 M2.d) :: (M2.d, vfDict M2.kh M2.kt M2.vt M2.ln M2.a M2.kd) :: (M2.da, accDict M2.hs M2.t z2 t3 M2.k) :: (M2.ln, listOf [].toArray l2) :: (du, listOf due.toArray nd) :: (wl, listOf W.toArray nw) :: (hl, listOf #[.int z0 t1, .int z1 t2, .int z2 t3] n2) :: (L + 1, oc) :: rest) (by exact sub_ixr [3, 6, 0, 1, 2, 4, 5] 7 rfl)) T rfl rfl rfl rfl (by show callerA.depth + 1 + 1 < recursionLimit; decide) (by show callerA.units + 3 + 1 + 40 < cLine; decide) Gs (by exact mem_ix 7 rfl) hps ?_ .nil (fun _ h => nomatch h) ?_
      · exact all_cons (Nat.ne_of_gt (hgt _ (.tail _ (.tail _ (.tail _ (.tail _ (.tail _ (.tail _ (.tail _ (.tail _ (.head _))))))))))) (all_cons (Ne.symm w182.1) (all_cons (Ne.symm w182.2.1) (all_cons (Ne.symm w182.2.2) (fun q hq => h182 q ((show ∀ q ∈ _, q ∈ _ by simp only [mk5]; exact sub_ixr [0, 1] 3 rfl) q hq)))))
      intro h7 tk7 gs7 ps7 t7 F7 N7 hps7 G7
      refine ⟨⟨by show 0 ≤ z0 + ((0 : Nat) : Int); (first | exact om199 hz0 | omega), by show z0 + ((0 : Nat) : Int) < _; (first | exact om200 hz0 | omega)⟩, ?_⟩
      have e0 : z0 + ((plen ([] : List (Str × Str)) : Nat) : Int) = z0 := by simp [plen]
      rw [e0]
      walk_at "my go"
      rename Fr h₀ L _ _ => F8
      rename News h₀ L _ _ => N8
      rename (182 < _) ∧ _ => l8
      rename_i q0 _
      refine CEndG.intro F8 N8 G7 ((q0, listOf #[.int z0 _, .int ((0 : Nat) : Int) _] _) :: ledM mk M0 M1 M2 ps7 #[] [] [] [] k0 k1 k2 z0 z1 z2 t1 t2 t3 [] [] [] l0 l1 l2 ((du, listOf due.toArray nd) :: (wl, listOf W.toArray nw) :: (hl, listOf #[.int z0 t1, .int z1 t2, .int z2 t3] n2) :: (L + 1, oc) :: rest)) (by exact sub_ixr [3, 4, 5, 0, 1, 6, 7, 2] 8 rfl) ⟨⟨Nat.ne_of_gt l8.2.2.1, Nat.ne_of_gt l8.2.2.2.1, Nat.ne_of_gt l8.2.2.2.2.1⟩, of5⟩ trivial ⟨ps7, _, hps7, .succ q0 _ _ _ .zero (fun _ h => nomatch h), all_cons ⟨l8.2.2.2.2.2.2.2.2.2.2.2.2.2.2.2.2.1, l8.2.2.2.2.2.2.1, l8.2.2.2.2.2.1⟩ hbig, rfl⟩
    · cases hit
      rename_i q0 ta0 tb0 nn0 hq0 hit
      cases hit
      dsimp only [List.nil_append, List.cons_append, ledM, mk5, List.getD_cons_zero, List.getD_cons_succ] at N5 of5
      have w182 := of5.mem (182, tabObj ps) (by exact mem_ix 1 rfl)
      iterate 14 walk1
      rename Fr h₀ L _ _ => F6
      rename News h₀ L _ _ => N6
      refine acclen_ok (parts := []) B F6 X (News.reord N6 (l' := (182, tabObj ps) :: (M1.a, accObj M1.da [] k1) :: (I, oI) :: (C, oC) :: (D, _) :: (q0, listOf #[.int z0 ta0, .int ((0 : Nat) : Int) tb0] nn0) :: (189, tabObj #[]) :: (mk, listOf [.ref M0.v, .ref M1.v, .ref M2.v].toArray 3) :: (M0.a, accObj M0.da [] k0) :: (M0.v, instObj 136 M0.d) :: (M0.d, vfDict M0.kh M0.kt M0.vt M0.ln M0.a M0.kd) :: (M0.da, accDict M0.hs M0.t z0 t1 M0.k) :: (M0.ln, listOf [].toArray l0) :: (M1.v, instObj 136 M1.d) :: (M1.d, vfDict M1.kh M1.kt M1.vt M1.ln M1.a M1.kd) :: (M1.da, accDict M1.hs M1.t z1 t2 M1.k) :: (M1.ln, listOf [].toArray l1) :: (M2.a, accObj M2.da [] k2) :: (M2.v, instObj 136 M2.d) :: (M2.d, vfDict M2.kh M2.kt M2.vt M2.ln M2.a M2.kd) :: (M2.da, accDict M2.hs M2.t z2 t3 M2.k) :: (M2.ln, listOf [].toArray l2) :: (du, listOf due.toArray nd) :: (wl, listOf W.toArray nw) :: (hl, listOf #[.int z0 t1, .int z1 t2, .int z2 t3] n2) :: (L + 1, oc) :: rest) (by exact sub_ixr [4, 12, 0, 1, 2, 3, 5, 6, 7, 8, 9, 10, 11] 13 rfl)) T rfl rfl rfl rfl (by show callerA.depth + 1 + 1 < recursionLimit; decide) (by show callerA.units + 3 + 1 + 40 < cLine; decide) Gs (by exact mem_ix 13 rfl) hps ?_ .nil (fun _ h => nomatch h) ?_
      · exact all_cons (Nat.ne_of_gt (hgt _ (.tail _ (.tail _ (.tail _ (.tail _ (.tail _ (.tail _ (.tail _ (.tail _ (.tail _ (.tail _ (.tail _ (.tail _ (.tail _ (.head _)))))))))))))))) (all_cons (Ne.symm w182.1) (all_cons (Ne.symm w182.2.1) (all_cons (Ne.symm w182.2.2) (all_cons (Nat.ne_of_gt (Nat.lt_trans (show 182 < 189 by decide) (hbig (q0, listOf #[.int z0 ta0, .int ((0 : Nat) : Int) tb0] nn0) (by exact mem_ix 0 rfl)).2.2)) (fun q hq => h182 q ((show ∀ q ∈ _, q ∈ _ by simp only [mk5]; exact sub_ixr [0, 1, 2, 3, 4, 5, 6] 8 rfl) q hq))))))
      intro h7 tk7 gs7 ps7 t7 F7 N7 hps7 G7
      refine ⟨⟨by show 0 ≤ z1 + ((0 : Nat) : Int); (first | exact om199 hz1 | omega), by show z1 + ((0 : Nat) : Int) < _; (first | exact om200 hz1 | omega)⟩, ?_⟩
      have e0 : z1 + ((plen ([] : List (Str × Str)) : Nat) : Int) = z1 := by simp [plen]
      rw [e0]
      walk_at "my go"
      rename Fr h₀ L _ _ => F8
      rename News h₀ L _ _ => N8
      rename (182 < _) ∧ _ => l8
      rename_i q1 _
      refine CEndG.intro F8 N8 G7 ((q1, listOf #[.int z1 _, .int ((1 : Nat) : Int) _] _) :: (q0, listOf #[.int z0 ta0, .int ((0 : Nat) : Int) tb0] nn0) :: ledM mk M0 M1 M2 ps7 #[] [] [] [] k0 k1 k2 z0 z1 z2 t1 t2 t3 [] [] [] l0 l1 l2 ((du, listOf due.toArray nd) :: (wl, listOf W.toArray nw) :: (hl, listOf #[.int z0 t1, .int z1 t2, .int z2 t3] n2) :: (L + 1, oc) :: rest)) (by exact sub_ixr [3, 4, 5, 0, 6, 1, 7, 8, 9, 10, 11, 12, 13, 2] 14 rfl) ⟨⟨Nat.ne_of_gt l8.2.2.1, Nat.ne_of_gt l8.2.2.2.1, Nat.ne_of_gt l8.2.2.2.2.1⟩, of5⟩ trivial ⟨ps7, _, hps7, .succ q1 _ _ _ (.succ q0 ta0 tb0 nn0 .zero hq0) (all_cons (l8.2.2.2.2.2.1) (fun _ h => nomatch h)), all_cons ⟨l8.2.2.2.2.2.2.2.2.2.2.2.2.2.2.2.2.2.1, l8.2.2.2.2.2.2.2.1, l8.2.2.2.2.2.2.1⟩ hbig, rfl⟩
    · cases hit
      rename_i q1 ta1 tb1 nn1 hq1 hit
      cases hit
      rename_i q0 ta0 tb0 nn0 hq0 hit
      cases hit
      dsimp only [List.nil_append, List.cons_append, ledM, mk5, List.getD_cons_zero, List.getD_cons_succ] at N5 of5
      have w182 := of5.mem (182, tabObj ps) (by exact mem_ix 2 rfl)
      iterate 14 walk1
      rename Fr h₀ L _ _ => F6
      rename News h₀ L _ _ => N6
      refine acclen_ok (parts := []) B F6 X (News.reord N6 (l' := (182, tabObj ps) :: (M2.a, accObj M2.da [] k2) :: (I, oI) :: (C, oC) :: (D, _) :: (q1, listOf #[.int z1 ta1, .int ((1 : Nat) : Int) tb1] nn1) :: (q0, listOf #[.int z0 ta0, .int ((0 : Nat) : Int) tb0] nn0) :: (189, tabObj #[]) :: (mk, listOf [.ref M0.v, .ref M1.v, .ref M2.v].toArray 3) :: (M0.a, accObj M0.da [] k0) :: (M0.v, instObj 136 M0.d) :: (M0.d, vfDict M0.kh M0.kt M0.vt M0.ln M0.a M0.kd) :: (M0.da, accDict M0.hs M0.t z0 t1 M0.k) :: (M0.ln, listOf [].toArray l0) :: (M1.a, accObj M1.da [] k1) :: (M1.v, instObj 136 M1.d) :: (M1.d, vfDict M1.kh M1.kt M1.vt M1.ln M1.a M1.kd) :: (M1.da, accDict M1.hs M1.t z1 t2 M1.k) :: (M1.ln, listOf [].toArray l1) :: (M2.v, instObj 136 M2.d) :: (M2.d, vfDict M2.kh M2.kt M2.vt M2.ln M2.a M2.kd) :: (M2.da, accDict M2.hs M2.t z2 t3 M2.k) :: (M2.ln, listOf [].toArray l2) :: (du, listOf due.toArray nd) :: (wl, listOf W.toArray nw) :: (hl, listOf #[.int z0 t1, .int z1 t2, .int z2 t3] n2) :: (L + 1, oc) :: rest) (by exact sub_ixr [5, 18, 0, 1, 2, 3, 4, 6, 7, 8, 9, 10, 11, 12, 13, 14, 15, 16, 17] 19 rfl)) T rfl rfl rfl rfl (by show callerA.depth + 1 + 1 < recursionLimit; decide) (by show callerA.units + 3 + 1 + 40 < cLine; decide) Gs (by exact mem_ix 19 rfl) hps ?_ .nil (fun _ h => nomatch h) ?_
      · exact all_cons (Nat.ne_of_gt (hgt _ (.tail _ (.tail _ (.tail _ (.tail _ (.tail _ (.tail _ (.tail _ (.tail _ (.tail _ (.tail _ (.tail _ (.tail _ (.tail _ (.tail _ (.tail _ (.tail _ (.tail _ (.tail _ (.head _))))))))))))))))))))) (all_cons (Ne.symm w182.1) (all_cons (Ne.symm w182.2.1) (all_cons (Ne.symm w182.2.2) (all_cons (Nat.ne_of_gt (Nat.lt_trans (show 182 < 189 by decide) (hbig (q1, listOf #[.int z1 ta1, .int ((1 : Nat) : Int) tb1] nn1) (by exact mem_ix 0 rfl)).2.2)) (all_cons (Nat.ne_of_gt (Nat.lt_trans (show 182 < 189 by decide) (hbig (q0, listOf #[.int z0 ta0, .int ((0 : Nat) : Int) tb0] nn0) (by exact mem_ix 1 rfl)).2.2)) (fun q hq => h182 q ((show ∀ q ∈ _, q ∈ _ by simp only [mk5]; exact sub_ixr [0, 1, 2, 3, 4, 5, 6, 7, 8, 9, 10, 11] 13 rfl) q hq)))))))
      intro h7 tk7 gs7 ps7 t7 F7 N7 hps7 G7
      refine ⟨⟨by show 0 ≤ z2 + ((0 : Nat) : Int); (first | exact om199 hz2 | omega), by show z2 + ((0 : Nat) : Int) < _; (first | exact om200 hz2 | omega)⟩, ?_⟩
      have e0 : z2 + ((plen ([] : List (Str × Str)) : Nat) : Int) = z2 := by simp [plen]
      rw [e0]
      walk_at "my go"
      rename Fr h₀ L _ _ => F8
      rename News h₀ L _ _ => N8
      rename (182 < _) ∧ _ => l8
      rename_i q2 _
      refine CEndG.intro F8 N8 G7 ((q2, listOf #[.int z2 _, .int ((2 : Nat) : Int) _] _) :: (q1, listOf #[.int z1 ta1, .int ((1 : Nat) : Int) tb1] nn1) :: (q0, listOf #[.int z0 ta0, .int ((0 : Nat) : Int) tb0] nn0) :: ledM mk M0 M1 M2 ps7 #[] [] [] [] k0 k1 k2 z0 z1 z2 t1 t2 t3 [] [] [] l0 l1 l2 ((du, listOf due.toArray nd) :: (wl, listOf W.toArray nw) :: (hl, listOf #[.int z0 t1, .int z1 t2, .int z2 t3] n2) :: (L + 1, oc) :: rest)) (by exact sub_ixr [3, 4, 5, 0, 6, 7, 1, 8, 9, 10, 11, 12, 13, 14, 15, 16, 17, 18, 19, 2] 20 rfl) ⟨⟨Nat.ne_of_gt l8.2.2.1, Nat.ne_of_gt l8.2.2.2.1, Nat.ne_of_gt l8.2.2.2.2.1⟩, of5⟩ trivial ⟨ps7, _, hps7, .succ q2 _ _ _ (.succ q1 ta1 tb1 nn1 (.succ q0 ta0 tb0 nn0 .zero hq0) hq1) (all_cons (l8.2.2.2.2.2.1) (all_cons (l8.2.2.2.2.2.2.1) (fun _ h => nomatch h))), all_cons ⟨l8.2.1, l8.2.2.2.2.2.2.2.2.1, l8.2.2.2.2.2.2.2.1⟩ hbig, rfl⟩
  · intro ys news' hyl ⟨ps, its, hps, hit, hbig, e⟩
    subst e
    cases hit
    rename_i q2 ta2 tb2 nn2 hq2 hit
    cases hit
    rename_i q1 ta1 tb1 nn1 hq1 hit
    cases hit
    rename_i q0 ta0 tb0 nn0 hq0 hit
    cases hit
    intro hp h9 tk9 gs9 G9 F9 N9 o9
    have b0 := hbig _ (.tail _ (.tail _ (.head _)))
    exact next h9 tk9 gs9 _ hp q0 q1 q2 ps ta0 ta1 ta2 tb0 tb1 tb2 nn0 nn1 nn2 G9 F9 rfl rfl rfl rfl N9 hps ⟨b0.1, b0.2.1, b0.2.2, hq1 _ (.head _), hq2 _ (.head _)⟩ o9
end
section
-- F6
theorem fresh_F6 : True := by
  w_top off
  trivial
set_option maxHeartbeats 1000000
open PyProof.Rows.LCg (NsObj lst Off3 Off1 SrcAt)
theorem ints_snoc {n : Int} {t : Tok} : ∀ {vs : List Value} {ns : List Int}, IntsAre vs ns → IntsAre (vs ++ [.int n t]) (ns ++ [n])
  | _, _, .nil => .cons n t .nil
  | _, _, .cons a u h => .cons a u (ints_snoc h)
theorem stage2c {w : World} {base h₀ : Heap} {L fa : Nat} {cd : Value} {m : Str → Option Value} {s : Shared}
    {p : Program} {loose : List Str} {mean : ExcName → Option Value} {mg mb : Str → Option Value} {hl hp q0 q1 q2 : Nat} {n2 nn0 nn1 nn2 nh : Nat} {z0 z1 z2 : Int} {t1 t2 t3 ta0 ta1 ta2 tb0 tb1 tb2 : Tok} {rest : List (Addr × Obj)}
    {Q : Flow → Shared → Prop}
    (B : Below callerA base [] h₀) (F : Fr h₀ L s.heap m) (X : (hd.heap_39 w.params).In h₀) (T : Top p loose mean mg mb h₀) (G : AllBare s.gens)
    (N : News h₀ L s.heap ((hp, listOf [.ref q0, .ref q1, .ref q2].toArray nh) :: (q2, listOf #[.int z2 ta2, .int ((2 : Nat) : Int) tb2] nn2) :: (q1, listOf #[.int z1 ta1, .int ((1 : Nat) : Int) tb1] nn1) :: (q0, listOf #[.int z0 ta0, .int ((0 : Nat) : Int) tb0] nn0) :: (hl, listOf #[.int z0 t1, .int z1 t2, .int z2 t3] n2) :: rest))
    (hm2 : m (Str.ofString "heads") = some (.ref hl)) (hm4 : m (Str.ofString "heap") = some (.ref hp)) (κ : Value → Int × Int) (hk0 : κ (.ref q0) = (z0, 0)) (hk1 : κ (.ref q1) = (z1, 1)) (hk2 : κ (.ref q2) = (z2, 2)) (hoff : ∀ q ∈ (q2, listOf #[.int z2 ta2, .int ((2 : Nat) : Int) tb2] nn2) :: (q1, listOf #[.int z1 ta1, .int ((1 : Nat) : Int) tb1] nn1) :: (q0, listOf #[.int z0 ta0, .int ((0 : Nat) : Int) tb0] nn0) :: (hl, listOf #[.int z0 t1, .int z1 t2, .int z2 t3] n2) :: rest, q.1 ≠ hp)
    (next : ∀ h' tk gs (td ld : Nat) (H : List Value), AllBare gs → Fr h₀ L h' (fun y => if y = Str.ofString "laid" then some (.ref ld) else if y = Str.ofString "told" then some (.ref td) else m y) →
      News h₀ L h' ((ld, listOf #[] 0) :: (td, listOf #[] 0) :: (hp, listOf H.toArray nh) :: (q2, listOf #[.int z2 ta2, .int ((2 : Nat) : Int) tb2] nn2) :: (q1, listOf #[.int z1 ta1, .int ((1 : Nat) : Int) tb1] nn1) :: (q0, listOf #[.int z0 ta0, .int ((0 : Nat) : Int) tb0] nn0) :: (hl, listOf #[.int z0 t1, .int z1 t2, .int z2 t3] n2) :: rest) → (∀ q ∈ (hp, listOf H.toArray nh) :: (q2, listOf #[.int z2 ta2, .int ((2 : Nat) : Int) tb2] nn2) :: (q1, listOf #[.int z1 ta1, .int ((1 : Nat) : Int) tb1] nn1) :: (q0, listOf #[.int z0 ta0, .int ((0 : Nat) : Int) tb0] nn0) :: (hl, listOf #[.int z0 t1, .int z1 t2, .int z2 t3] n2) :: rest, q.1 < td) → td < ld → HeapAt κ H → H.Perm [.ref q0, .ref q1, .ref q2] →
      wpAny (model Challenge.rw_nb0237_01.row.prog w) (callerA.deeper (lawEnv w L fa cd)) (execs ((lawFn w).1.drop 10) (lawEnv w L fa cd)) Q (fun _ _ => False) { s with heap := h', toks := tk, gens := gs }) :
    wpAny (model Challenge.rw_nb0237_01.row.prog w) (callerA.deeper (lawEnv w L fa cd)) (execs ((lawFn w).1.drop 7) (lawEnv w L fa cd)) Q (fun _ _ => False) s := by
  revert X; k_fill; intro X
  have hfn := law_eq (w := w) (by k_is)
  unfold lawEnv at next ⊢
  rw [hfn] at next ⊢
  dsimp only [fnOfObj, List.drop] at next ⊢
  replace F := fr_kst [(Str.ofString "heads", .ref hl), (Str.ofString "heap", .ref hp)] (all_cons (by assumption) (all_cons (by assumption) (fun _ h => nomatch h))) F
  iterate 4 walk1
  refine ListComp_JG (Gp := AllBare) F (by with_unfolding_all rfl) (by decide) (by rfl) (by decide) (by rfl) ?_
  walk1
  refine ⟨G, rfl, 3, _, _, (fun i ys nn => IntsAre ys ([z0, z1, z2].take i) ∧ nn = ((hp, listOf [.ref q0, .ref q1, .ref q2].toArray nh) :: (q2, listOf #[.int z2 ta2, .int ((2 : Nat) : Int) tb2] nn2) :: (q1, listOf #[.int z1 ta1, .int ((1 : Nat) : Int) tb1] nn1) :: (q0, listOf #[.int z0 ta0, .int ((0 : Nat) : Int) tb0] nn0) :: (hl, listOf #[.int z0 t1, .int z1 t2, .int z2 t3] n2) :: rest)), _, .inl ⟨hp, #[.ref q0, .ref q1, .ref q2], rfl, .inr ⟨_, .head _, rfl, _, rfl⟩, rfl, rfl, rfl⟩, by decide, F, N, ⟨.nil, rfl⟩, ?_, ?_⟩
  · rintro I i v ys oI C oC D m₂ h tk gs news₁ E' hi hP hyl ⟨hys, rfl⟩ Gs hS hn5 hx5 F5 N5 of5 ne5
    have hi3 : i = 0 ∨ i = 1 ∨ i = 2 := by (first | exact om198 hi | omega)
    rcases hi3 with rfl | rfl | rfl
    · obtain rfl : v = .ref q0 := (Option.some.inj hP).symm
      iterate 4 walk1
      rename Fr h₀ L _ _ => F6
      rename News h₀ L _ _ => N6
      exact CEndG.intro F6 N6 Gs _ (fun _ h => h) of5 hS ⟨ints_snoc hys, rfl⟩
    · obtain rfl : v = .ref q1 := (Option.some.inj hP).symm
      iterate 4 walk1
      rename Fr h₀ L _ _ => F6
      rename News h₀ L _ _ => N6
      exact CEndG.intro F6 N6 Gs _ (fun _ h => h) of5 hS ⟨ints_snoc hys, rfl⟩
    · obtain rfl : v = .ref q2 := (Option.some.inj hP).symm
      iterate 4 walk1
      rename Fr h₀ L _ _ => F6
      rename News h₀ L _ _ => N6
      exact CEndG.intro F6 N6 Gs _ (fun _ h => h) of5 hS ⟨ints_snoc hys, rfl⟩
  · rintro ys news' hyl ⟨hys, rfl⟩
    replace hys : IntsAre ys [z0, z1, z2] := hys
    intro D h9 tk9 gs9 G9 F9 N9 o9
    iterate 13 walk1
    rename Fr h₀ L _ _ => F6
    rename News h₀ L _ _ => N6
    have hI : ∀ v ∈ [Value.ref q0, .ref q1, .ref q2], ItemAt ((D, lst ys) :: (q2, listOf #[.int z2 ta2, .int ((2 : Nat) : Int) tb2] nn2) :: (q1, listOf #[.int z1 ta1, .int ((1 : Nat) : Int) tb1] nn1) :: (q0, listOf #[.int z0 ta0, .int ((0 : Nat) : Int) tb0] nn0) :: (hl, listOf #[.int z0 t1, .int z1 t2, .int z2 t3] n2) :: rest) v (κ v) := by
      intro v hv
      simp only [List.mem_cons, List.not_mem_nil, or_false] at hv
      rcases hv with rfl | rfl | rfl
      · rw [hk0]; exact ⟨q0, _, nn0, _, _, rfl, (by exact mem_ix 3 rfl), rfl, rfl⟩
      · rw [hk1]; exact ⟨q1, _, nn1, _, _, rfl, (by exact mem_ix 2 rfl), rfl, rfl⟩
      · rw [hk2]; exact ⟨q2, _, nn2, _, _, rfl, (by exact mem_ix 1 rfl), rfl, rfl⟩
    refine heapify_ok κ B F6 X (News.reord N6 (l' := (hp, listOf [.ref q0, .ref q1, .ref q2].toArray nh) :: (D, lst ys) :: (q2, listOf #[.int z2 ta2, .int ((2 : Nat) : Int) tb2] nn2) :: (q1, listOf #[.int z1 ta1, .int ((1 : Nat) : Int) tb1] nn1) :: (q0, listOf #[.int z0 ta0, .int ((0 : Nat) : Int) tb0] nn0) :: (hl, listOf #[.int z0 t1, .int z1 t2, .int z2 t3] n2) :: rest) (by exact sub_ixr [1, 0] 2 rfl)) T rfl rfl rfl rfl (by show callerA.depth + 1 + 2 < recursionLimit; decide) (by show callerA.units + 3 + 40 < cLine; decide) (all_cons (Ne.symm (off1_mem o9 _ (.head _))) hoff) hI ?_ ?_
    · intro i j hi hj hne
      have hi' : i = 0 ∨ i = 1 ∨ i = 2 := by (first | exact om198 hi | omega)
      have hj' : j = 0 ∨ j = 1 ∨ j = 2 := by (first | exact om198 hj | omega)
      rcases hi' with rfl | rfl | rfl <;> rcases hj' with rfl | rfl | rfl <;> first | exact absurd rfl hne | (simp [hk0, hk1, hk2])
    intro h10 tk10 F10 N10
    obtain ⟨hh, hperm⟩ := siftup_spec (κ := κ) (xs := [Value.ref q0, .ref q1, .ref q2]) (by simp) (fun i h1 h2 => absurd h2 (by simp; (first | exact om201 h1 | omega)))
    generalize siftup κ 0 [Value.ref q0, .ref q1, .ref q2] = H at *
    iterate 20 walk1
    rename Fr h₀ L _ _ => F8
    rename News h₀ L _ _ => N8
    have ek : kstB m [(Str.ofString "heads", .ref hl), (Str.ofString "heap", .ref hp)] = m := by
      funext y
      exact kstB_eq (all_cons (by assumption) (all_cons (by assumption) (fun _ h => nomatch h))) fun _ => rfl
    rw [ek] at F8
    rename_i td _ l8 _ ld _ l9 _
    refine next _ _ _ td ld H G9 F8 (News.reord N8 (by exact sub_ixr [0, 1, 2] 4 rfl)) ?_ l9.1 hh hperm
    exact all_cons l8.1 (all_cons l8.2.2.1 (all_cons l8.2.2.2.1 (all_cons l8.2.2.2.2.1 (all_cons l8.2.2.2.2.2.1 (ktn_ltOf (l := rest) l8.2.2.2.2.2.2)))))
end
section
-- P6
theorem fresh_P6 : True := by
  w_top off
  trivial
set_option maxHeartbeats 400000
/-- a word's item, as data -/
noncomputable abbrev wdat (p l : Nat) : PyData := .list [.int ((l : Int) + 1), .int (p : Int), .str (wtext p l)]
theorem word_reads {h₀ h : Heap} {L : Addr} {news : List (Addr × Obj)} {v : Value} {p l : Nat} (N : News h₀ L h news) (hw : WordAt news v p l) : ∃ as, Reads h v (wdat p l) as := by
  obtain ⟨a, t1, t2, t3, n, rfl, hm⟩ := hw
  exact ⟨_, reads_list_at (N.get hm) rfl rfl (.cons (.int _ _) (.cons (.int _ _) (.cons (.str _ _) .nil)))⟩
theorem words_reads {h₀ h : Heap} {L : Addr} {news : List (Addr × Obj)} (N : News h₀ L h news) : ∀ {W : List Value}, (∀ v ∈ W, ∃ p l, WordAt news v p l) → ∃ (ds : List (Nat × Nat)) (as : List Addr), ReadsAll h W (ds.map fun q => wdat q.1 q.2) as ∧ ds.length = W.length
  | [], _ => ⟨[], _, .nil, rfl⟩
  | v :: W, hw => by
    obtain ⟨p, l, h1⟩ := hw v (.head _)
    obtain ⟨as, r1⟩ := word_reads N h1
    obtain ⟨ds, bs, r2, e⟩ := words_reads N (W := W) fun u hu => hw u (.tail _ hu)
    exact ⟨(p, l) :: ds, _, .cons r1 r2, by simp [e]⟩
theorem wdat_lay {p l : Nat} (h : PyData.strOk (wtext p l) = true) : PyData.canLay0 (wdat p l) = true ∧ PyData.depth (wdat p l) ≤ 2 := by
  simp [PyData.canLay0, PyData.canLayAll0, PyData.depth, PyData.depthAll, h]
theorem wdats_lay : ∀ {ds : List (Nat × Nat)}, (∀ q ∈ ds, PyData.strOk (wtext q.1 q.2) = true) → PyData.canLayAll0 (ds.map fun q => wdat q.1 q.2) = true ∧ PyData.depthAll (ds.map fun q => wdat q.1 q.2) ≤ 2
  | [], _ => by simp [PyData.canLayAll0, PyData.depthAll]
  | q :: r, h => by
    obtain ⟨a, b⟩ := wdat_lay (h q (.head _))
    obtain ⟨c, d⟩ := wdats_lay (ds := r) fun u hu => h u (.tail _ hu)
    rw [List.map_cons]
    constructor
    · simp only [PyData.canLayAll0, a, c, Bool.and_self]
    · simp only [PyData.depthAll]
      omega
theorem words_shaped {ds : List (Nat × Nat)} (h : ∀ q ∈ ds, PyData.strOk (wtext q.1 q.2) = true) : SeqAt.shaped (.list (ds.map fun q => wdat q.1 q.2)) = true := by
  obtain ⟨a, b⟩ := wdats_lay h
  unfold SeqAt.shaped
  rw [Bool.and_eq_true]
  refine ⟨by simpa [PyData.canLay0] using a, ?_⟩
  refine decide_eq_true ?_
  simp only [PyData.depth]
  (first | exact om266 b | omega)
theorem wtext_ok : ∀ p, p < 9 → ∀ l, l < 7 → PyData.strOk (wtext p l) = true := by decide +kernel
theorem wtext_len : ∀ p, p < 9 → ∀ l, l < 7 → (wtext p l).length = l := by decide +kernel
theorem words_reads' {h₀ h : Heap} {L : Addr} {news : List (Addr × Obj)} (N : News h₀ L h news) : ∀ {W : List Value}, (∀ v ∈ W, ∃ p l, p < 9 ∧ l < 7 ∧ WordAt news v p l) → ∃ (ds : List (Nat × Nat)) (as : List Addr), ReadsAll h W (ds.map fun q => wdat q.1 q.2) as ∧ ds.length = W.length ∧ ∀ q ∈ ds, PyData.strOk (wtext q.1 q.2) = true
  | [], _ => ⟨[], _, .nil, rfl, fun _ h => nomatch h⟩
  | v :: W, hw => by
    obtain ⟨p, l, hp, hl, h1⟩ := hw v (.head _)
    obtain ⟨as, r1⟩ := word_reads N h1
    obtain ⟨ds, bs, r2, e, ho⟩ := words_reads' N (W := W) fun u hu => hw u (.tail _ hu)
    refine ⟨(p, l) :: ds, _, .cons r1 r2, by simp [e], ?_⟩
    intro q hq
    rcases List.mem_cons.mp hq with rfl | hq
    · exact wtext_ok p hp l hl
    · exact ho q hq
section
variable {prog : Program} {w : World} {A : Around} {E : Value → Shared → Prop} {s : Shared} {h₀ : Heap} {L : Addr} {news : List (Addr × Obj)} {Q : Value → Shared → Prop}
/-- words != [] -/
theorem words_ne {wl e : Addr} {W : List Value} {n k : Nat} (N : News h₀ L s.heap news) (hm : (wl, listOf W.toArray n) ∈ news) (he : (e, listOf #[] k) ∈ news) (hw : ∀ v ∈ W, ∃ p l, p < 9 ∧ l < 7 ∧ WordAt news v p l) (hu : A.units + 64 < cLine)
    (h : Q (.bool (!W.isEmpty)) s) : wpAny (model prog w) A (compareOp .NotEq (.ref wl) (.ref e)) Q E s := by
  obtain ⟨ds, as, r, el, ho⟩ := words_reads' N hw
  have r1 : Reads s.heap (.ref wl) (.list (ds.map fun q => wdat q.1 q.2)) _ := reads_list_at (N.get hm) rfl rfl r
  have r2 : Reads s.heap (.ref e) (.list []) _ := reads_list_at (N.get he) rfl rfl .nil
  refine ne_dataH r1 r2 (words_shaped ho) (by decide) hu ?_
  have e2 : (!PyData.eqv (.list (ds.map fun q => wdat q.1 q.2)) (.list [])) = !W.isEmpty := by
    cases W with
    | nil =>
      have : ds = [] := List.length_eq_zero_iff.mp el
      subst this
      simp [PyData.eqv, PyData.eqvAll]
    | cons v W =>
      cases ds with
      | nil => simp at el
      | cons d ds => simp [PyData.eqv, PyData.eqvAll]
  rw [e2]
  exact h
/-- a pair's list is like itself -/
theorem pair_ne_self {q : Addr} {a b : Int} {t u : Tok} {n : Nat} (N : News h₀ L s.heap news) (hm : (q, listOf #[.int a t, .int b u] n) ∈ news) (hu : A.units + 64 < cLine)
    (h : Q (.bool false) s) : wpAny (model prog w) A (compareOp .NotEq (.ref q) (.ref q)) Q E s := by
  have r1 : Reads s.heap (.ref q) (.list [.int a, .int b]) _ := reads_list_at (N.get hm) rfl rfl (.cons (.int _ _) (.cons (.int _ _) .nil))
  have hs : SeqAt.shaped (.list [.int a, .int b]) = true := by
    simp [SeqAt.shaped, PyData.canLay0, PyData.canLayAll0, PyData.depth, PyData.depthAll]
  refine ne_dataH r1 r1 hs hs hu ?_
  have e : (!PyData.eqv (.list [.int a, .int b]) (.list [.int a, .int b])) = false := by simp [PyData.eqv, PyData.eqvAll]
  rw [e]
  exact h
end
end
section
-- P2
theorem fresh_P2 : True := by
  w_top off
  trivial
set_option maxHeartbeats 400000
/-- the three lines' lengths, one word laid more -/
noncomputable def upd (lens : Nat → Int) (c : Nat) (p : Int) : Nat → Int := fun k => if k = c then lens c + p else lens k
/-- the ends, word by word: (size, line) -/
noncomputable def ends (lens : Nat → Int) : List (Int × Nat) → List Int
  | [] => []
  | (p, c) :: r => (lens c + p) :: ends (upd lens c p) r
noncomputable def lensA (lens : Nat → Int) : List (Int × Nat) → Nat → Int
  | [] => lens
  | (p, c) :: r => lensA (upd lens c p) r
theorem ends_snoc (p : Int) (c : Nat) : ∀ (l : List (Int × Nat)) (lens : Nat → Int), ends lens (l ++ [(p, c)]) = ends lens l ++ [lensA lens l c + p]
  | [], _ => rfl
  | (q, d) :: r, lens => by
    show (lens d + q) :: ends (upd lens d q) (r ++ [(p, c)]) = _
    rw [ends_snoc p c r]
    rfl
theorem lensA_snoc (p : Int) (c : Nat) : ∀ (l : List (Int × Nat)) (lens : Nat → Int), lensA lens (l ++ [(p, c)]) = upd (lensA lens l) c p
  | [], _ => rfl
  | (q, d) :: r, lens => lensA_snoc p c r (upd lens d q)
/-- each word goes onto a line that is the shortest then -/
noncomputable def Greedy (lens : Nat → Int) : List (Int × Nat) → Prop
  | [] => True
  | (p, c) :: r => c < 3 ∧ (∀ k, k < 3 → lens c ≤ lens k) ∧ Greedy (upd lens c p) r
theorem Greedy.snoc {p : Int} {c : Nat} : ∀ {l : List (Int × Nat)} {lens : Nat → Int}, Greedy lens l → c < 3 → (∀ k, k < 3 → lensA lens l c ≤ lensA lens l k) → Greedy lens (l ++ [(p, c)])
  | [], _, _, h1, h2 => ⟨h1, h2, trivial⟩
  | (_, _) :: _, _, h, h1, h2 => ⟨h.1, h.2.1, Greedy.snoc h.2.2 h1 h2⟩
/-- how often a line is named -/
noncomputable def cnt (c : Nat) : List Nat → Int
  | [] => 0
  | x :: r => (if x = c then 1 else 0) + cnt c r
theorem cnt_cons (c x : Nat) (r : List Nat) : cnt c (x :: r) = (if x = c then 1 else 0) + cnt c r := rfl
theorem cnt_nonneg (c : Nat) : ∀ l, 0 ≤ cnt c l
  | [] => Int.le_refl _
  | x :: r => by have := cnt_nonneg c r; rw [cnt_cons]; split <;> (first | exact om271 this | exact om272 this | omega)
/-- the cost of a way: sizes from the least on, lines; the table's way of reckoning -/
noncomputable def tcost (h : Nat → Int) : List Int → List Nat → Int
  | p :: ps, c :: cs => tcost h ps cs + h c + p * (cnt c cs + 1)
  | _, _ => 0
theorem tcost_upd (h : Nat → Int) (c : Nat) (p : Int) : ∀ (ps : List Int) (cs : List Nat), ps.length = cs.length → tcost (upd h c p) ps cs = tcost h ps cs + p * cnt c cs
  | [], [], _ => by simp [tcost, cnt]
  | q :: ps, d :: cs, e => by
    have ih := tcost_upd h c p ps cs (by simpa using e)
    unfold tcost
    rw [ih]
    rw [cnt_cons]
    unfold upd
    by_cases hd : d = c
    · subst hd
      simp only [if_true]
      have e9 : p * (1 + cnt d cs) = p + p * cnt d cs := by rw [Int.mul_add, Int.mul_one]
      (first | exact om273 e9 | omega)
    · simp only [if_neg hd]
      rw [Int.zero_add]
      (first | exact om274 | omega)
  | [], _ :: _, e => by simp at e
  | _ :: _, [], e => by simp at e
theorem ends_sum (h : Nat → Int) : ∀ l : List (Int × Nat), (ends h l).sum = tcost h (l.map (·.1)) (l.map (·.2))
  | [] => rfl
  | (p, c) :: r => by
    show (h c + p) + (ends (upd h c p) r).sum = _
    rw [ends_sum (upd h c p) r, tcost_upd h c p _ _ (by simp)]
    show _ = tcost h (r.map (·.1)) (r.map (·.2)) + h c + p * (cnt c (r.map (·.2)) + 1)
    rw [Int.mul_add, Int.mul_one]
    (first | exact om275 | omega)
/-- two lines changed for each other -/
noncomputable def sw (g c x : Nat) : Nat := if x = g then c else if x = c then g else x
theorem cnt_sw (g c : Nat) (hne : g ≠ c) (x : Nat) : ∀ l : List Nat, cnt (sw g c x) (l.map (sw g c)) = cnt x l
  | [] => rfl
  | y :: r => by
    show (if sw g c y = sw g c x then 1 else 0) + cnt (sw g c x) (r.map (sw g c)) = _
    rw [cnt_sw g c hne x r, cnt_cons]
    congr 1
    have : (sw g c y = sw g c x) ↔ y = x := by
      unfold sw
      constructor
      · intro h
        split at h <;> split at h <;> (try split at h) <;> (try split at h) <;> (first | exact om276 (by assumption) (by assumption) | exact om277 h | omega)
      · rintro rfl; rfl
    simp [this]
theorem tcost_sw (h : Nat → Int) (g c : Nat) (hne : g ≠ c) : ∀ (ps : List Int) (cs : List Nat), ps.length = cs.length → tcost h ps (cs.map (sw g c)) = tcost h ps cs + (h g - h c) * (cnt c cs - cnt g cs)
  | [], [], _ => by simp [tcost, cnt]
  | p :: ps, d :: cs, e => by
    have ih := tcost_sw h g c hne ps cs (by simpa using e)
    show tcost h ps (cs.map (sw g c)) + h (sw g c d) + p * (cnt (sw g c d) (cs.map (sw g c)) + 1) = tcost h ps cs + h d + p * (cnt d cs + 1) + (h g - h c) * (((if d = c then 1 else 0) + cnt c cs) - ((if d = g then 1 else 0) + cnt g cs))
    rw [ih, cnt_sw g c hne]
    unfold sw
    by_cases h1 : d = g
    · subst h1
      rw [if_pos rfl, if_neg hne, if_pos rfl]
      have : (h d - h c) * (0 + cnt c cs - (1 + cnt d cs)) = (h d - h c) * (cnt c cs - cnt d cs) - (h d - h c) := by
        rw [show (0 + cnt c cs - (1 + cnt d cs)) = (cnt c cs - cnt d cs) - 1 by (first | exact om278 | omega), Int.mul_sub, Int.mul_one]
      rw [this]; (first | exact om279 | omega)
    · by_cases h2 : d = c
      · subst h2
        rw [if_neg h1, if_pos rfl, if_pos rfl, if_neg h1]
        have : (h g - h d) * (1 + cnt d cs - (0 + cnt g cs)) = (h g - h d) * (cnt d cs - cnt g cs) + (h g - h d) := by
          rw [show (1 + cnt d cs - (0 + cnt g cs)) = (cnt d cs - cnt g cs) + 1 by (first | exact om280 | omega), Int.mul_add, Int.mul_one]
        rw [this]; (first | exact om281 | omega)
      · rw [if_neg h1, if_neg h2, if_neg h2, if_neg h1, Int.zero_add, Int.zero_add]; (first | exact om274 | omega)
  | [], _ :: _, e => by simp at e
  | _ :: _, [], e => by simp at e
/-- the first of line g's words goes onto line c -/
noncomputable def mv (g c : Nat) : List Nat → List Nat
  | [] => []
  | x :: r => if x = g then c :: r else x :: mv g c r
theorem mv_length (g c : Nat) : ∀ l, (mv g c l).length = l.length
  | [] => rfl
  | x :: r => by unfold mv; split <;> simp [mv_length g c r]
theorem mv_mem {g c : Nat} : ∀ {l : List Nat} {x : Nat}, x ∈ mv g c l → x ∈ l ∨ x = c
  | y :: r, x, h => by
    unfold mv at h
    split at h
    · rcases List.mem_cons.mp h with rfl | h
      · exact .inr rfl
      · exact .inl (.tail _ h)
    · rcases List.mem_cons.mp h with rfl | h
      · exact .inl (.head _)
      · rcases mv_mem h with h | h
        · exact .inl (.tail _ h)
        · exact .inr h
theorem cnt_mv_g (g c : Nat) (hne : g ≠ c) : ∀ l, 0 < cnt g l → cnt g (mv g c l) = cnt g l - 1
  | [], h => by simp [cnt] at h
  | x :: r, h => by
    unfold mv
    by_cases hx : x = g
    · rw [if_pos hx]
      simp only [cnt_cons]
      rw [if_neg (Ne.symm hne), if_pos hx]; (first | exact om282 | omega)
    · rw [if_neg hx]
      simp only [cnt_cons] at h ⊢
      rw [if_neg hx] at h ⊢
      rw [cnt_mv_g g c hne r (by (first | exact om283 h | omega))]; (first | exact om284 | omega)
theorem cnt_mv_c (g c : Nat) (hne : g ≠ c) : ∀ l, 0 < cnt g l → cnt c (mv g c l) = cnt c l + 1
  | [], h => by simp [cnt] at h
  | x :: r, h => by
    unfold mv
    by_cases hx : x = g
    · rw [if_pos hx]
      simp only [cnt_cons]
      rw [if_pos trivial, if_neg (by (first | exact om285 hne hx | omega))]; (first | exact om286 | omega)
    · rw [if_neg hx]
      simp only [cnt_cons] at h ⊢
      rw [if_neg hx] at h
      rw [cnt_mv_c g c hne r (by (first | exact om283 h | omega))]; (first | exact om287 | omega)
theorem cnt_mv_o (g c x : Nat) (h1 : x ≠ g) (h2 : x ≠ c) : ∀ l, cnt x (mv g c l) = cnt x l
  | [] => rfl
  | y :: r => by
    unfold mv
    by_cases hy : y = g
    · rw [if_pos hy]
      simp only [cnt_cons]
      rw [if_neg (Ne.symm h2), if_neg (by (first | exact om288 h1 hy | omega))]
    · rw [if_neg hy]
      simp only [cnt_cons]
      rw [cnt_mv_o g c x h1 h2 r]
theorem tcost_mv (h : Nat → Int) (g c : Nat) (hne : g ≠ c) : ∀ (ps : List Int) (cs : List Nat) (p : Int), ps.length = cs.length → (p :: ps).Pairwise (· ≤ ·) → cnt c cs + 1 ≤ cnt g cs →
    tcost h ps (mv g c cs) ≤ tcost h ps cs + (h c - h g) - p * (cnt g cs - cnt c cs - 1)
  | [], [], _, _, _, h3 => by simp [cnt] at h3
  | q :: ps, x :: cs, p, e, hs, h3 => by
    have hpq : p ≤ q := (List.pairwise_cons.mp hs).1 q (.head _)
    have hs2 : (q :: ps).Pairwise (· ≤ ·) := (List.pairwise_cons.mp hs).2
    have nc := cnt_nonneg c cs
    have ng := cnt_nonneg g cs
    unfold mv
    by_cases hx : x = g
    · rw [if_pos hx]
      subst hx
      simp only [cnt_cons] at h3 ⊢
      rw [if_neg hne, if_pos trivial] at h3 ⊢
      show tcost h ps cs + h c + q * (cnt c cs + 1) ≤ tcost h ps cs + h x + q * (cnt x cs + 1) + (h c - h x) - p * (1 + cnt x cs - (0 + cnt c cs) - 1)
      have e1 : 1 + cnt x cs - (0 + cnt c cs) - 1 = cnt x cs - cnt c cs := by (first | exact om289 | omega)
      rw [e1]
      have h4 : p * (cnt x cs - cnt c cs) ≤ q * (cnt x cs - cnt c cs) := Int.mul_le_mul_of_nonneg_right hpq (by (first | exact om290 h3 | omega))
      have e2 : q * (cnt x cs + 1) = q * (cnt x cs - cnt c cs) + q * (cnt c cs + 1) := by rw [← Int.mul_add]; congr 1; (first | exact om291 | omega)
      (first | exact om292 h4 e2 | omega)
    · rw [if_neg hx]
      by_cases hxc : x = c
      · subst hxc
        simp only [cnt_cons] at h3 ⊢
        rw [if_pos trivial, if_neg hx] at h3 ⊢
        have ih := tcost_mv h g x hne ps cs q (by simpa using e) hs2 (by (first | exact om293 h3 | omega))
        show tcost h ps (mv g x cs) + h x + q * (cnt x (mv g x cs) + 1) ≤ tcost h ps cs + h x + q * (cnt x cs + 1) + (h x - h g) - p * (0 + cnt g cs - (1 + cnt x cs) - 1)
        rw [cnt_mv_c g x hne cs (by (first | exact om294 nc h3 | omega))]
        have e1 : 0 + cnt g cs - (1 + cnt x cs) - 1 = cnt g cs - cnt x cs - 2 := by (first | exact om295 | omega)
        rw [e1]
        have h4 : p * (cnt g cs - cnt x cs - 2) ≤ q * (cnt g cs - cnt x cs - 2) := Int.mul_le_mul_of_nonneg_right hpq (by (first | exact om296 h3 | omega))
        have e2 : q * (cnt x cs + 1 + 1) = q * (cnt x cs + 1) + q := by rw [Int.mul_add q (cnt x cs + 1) 1, Int.mul_one]
        have e3 : q * (cnt g cs - cnt x cs - 1) = q * (cnt g cs - cnt x cs - 2) + q := by
          rw [show cnt g cs - cnt x cs - 1 = (cnt g cs - cnt x cs - 2) + 1 by (first | exact om297 | omega), Int.mul_add, Int.mul_one]
        (first | exact om298 ih h4 e2 e3 | omega)
      · simp only [cnt_cons] at h3 ⊢
        rw [if_neg hxc, if_neg hx] at h3 ⊢
        have hs3 : (p :: ps).Pairwise (· ≤ ·) := List.pairwise_cons.mpr ⟨fun a ha => (List.pairwise_cons.mp hs).1 a (.tail _ ha), (List.pairwise_cons.mp hs2).2⟩
        have ih := tcost_mv h g c hne ps cs p (by simpa using e) hs3 (by (first | exact om299 h3 | omega))
        show tcost h ps (mv g c cs) + h x + q * (cnt x (mv g c cs) + 1) ≤ tcost h ps cs + h x + q * (cnt x cs + 1) + (h c - h g) - p * (0 + cnt g cs - (0 + cnt c cs) - 1)
        rw [cnt_mv_o g c x hx hxc]
        have e1 : 0 + cnt g cs - (0 + cnt c cs) - 1 = cnt g cs - cnt c cs - 1 := by (first | exact om300 | omega)
        rw [e1]
        (first | exact om301 ih | omega)
  | [], _ :: _, _, e, _, _ => by simp at e
  | _ :: _, [], _, e, _, _ => by simp at e
/-- the first word may as well go onto a shortest line -/
theorem first_greedy (h : Nat → Int) (g c : Nat) (hle : h g ≤ h c) (p : Int) (ps : List Int) (cs : List Nat) (e : ps.length = cs.length) (hs : (p :: ps).Pairwise (· ≤ ·)) (hg : g < 3) (hc : c < 3) (hcs : ∀ x ∈ cs, x < 3) :
    ∃ cs', cs'.length = cs.length ∧ (∀ x ∈ cs', x < 3) ∧ tcost h (p :: ps) (g :: cs') ≤ tcost h (p :: ps) (c :: cs) := by
  by_cases hgc : g = c
  · subst hgc
    exact ⟨cs, rfl, hcs, Int.le_refl _⟩
  by_cases hn : cnt g cs ≤ cnt c cs + 1
  · refine ⟨cs.map (sw g c), by simp, ?_, ?_⟩
    · intro x hx
      obtain ⟨y, hy, rfl⟩ := List.mem_map.mp hx
      have := hcs y hy
      unfold sw
      split
      · exact hc
      · split
        · exact hg
        · exact this
    · have := tcost_sw h g c hgc (p :: ps) (c :: cs) (by simpa using e)
      have e1 : (c :: cs).map (sw g c) = g :: cs.map (sw g c) := by
        simp [sw, Ne.symm hgc]
      rw [e1] at this
      rw [this]
      have e2 : cnt c (c :: cs) - cnt g (c :: cs) = cnt c cs + 1 - cnt g cs := by
        simp only [cnt_cons]
        rw [if_pos trivial, if_neg (Ne.symm hgc)]; (first | exact om302 | omega)
      rw [e2]
      have : (h g - h c) * (cnt c cs + 1 - cnt g cs) ≤ 0 := Int.mul_nonpos_of_nonpos_of_nonneg (by (first | exact om303 hle | omega)) (by (first | exact om304 hn | omega))
      (first | exact om305 this | omega)
  · refine ⟨mv g c cs, mv_length g c cs, ?_, ?_⟩
    · intro x hx
      rcases mv_mem hx with hx | rfl
      · exact hcs x hx
      · exact hc
    · have h1 := tcost_mv h g c hgc ps cs p e hs (by (first | exact om306 hn | omega))
      have nc := cnt_nonneg c cs
      show tcost h ps (mv g c cs) + h g + p * (cnt g (mv g c cs) + 1) ≤ tcost h ps cs + h c + p * (cnt c cs + 1)
      rw [cnt_mv_g g c hgc cs (by (first | exact om307 hn nc | omega))]
      have e1 : p * (cnt g cs - 1 + 1) = p * (cnt g cs - cnt c cs - 1) + p * (cnt c cs + 1) := by rw [← Int.mul_add]; congr 1; (first | exact om308 | omega)
      (first | exact om309 h1 e1 | omega)
/-- the greedy way is the least of all -/
theorem greedy_least : ∀ (l : List (Int × Nat)) (h : Nat → Int) (cs : List Nat), Greedy h l → (l.map (·.1)).Pairwise (· ≤ ·) → cs.length = l.length → (∀ x ∈ cs, x < 3) → (ends h l).sum ≤ tcost h (l.map (·.1)) cs
  | [], _, [], _, _, _, _ => Int.le_refl _
  | (p, g) :: r, h, c :: cs, hG, hs, e, hcs => by
    have e' : cs.length = r.length := by simpa using e
    obtain ⟨cs', q1, q2, q3⟩ := first_greedy h g c (hG.2.1 c (hcs c (.head _))) p (r.map (fun x => x.1)) cs (by simp [e']) (show (p :: r.map (fun x => x.1)).Pairwise (· ≤ ·) from hs) hG.1 (hcs c (.head _)) (fun x hx => hcs x (.tail _ hx))
    refine Int.le_trans ?_ q3
    have ih := greedy_least r (upd h g p) cs' hG.2.2 (List.pairwise_cons.mp hs).2 (by (first | exact om310 e' q1 | omega)) q2
    rw [tcost_upd h g p _ _ (by simp; (first | exact om311 e' q1 | omega))] at ih
    show (h g + p) + (ends (upd h g p) r).sum ≤ tcost h (r.map (·.1)) cs' + h g + p * (cnt g cs' + 1)
    rw [Int.mul_add, Int.mul_one]
    (first | exact om312 ih | omega)
  | [], _, _ :: _, _, _, e, _ => by simp at e
  | _ :: _, _, [], _, _, e, _ => by simp at e
end
section
-- P7
theorem fresh_P7 : True := by
  w_top off
  trivial
set_option maxHeartbeats 400000
/-- a word that was laid: ((place, length), line) -/
noncomputable abbrev Ent := (Nat × Nat) × Nat
noncomputable def szl (log : List Ent) : List (Int × Nat) := log.map fun e => ((e.1.2 : Int) + 1, e.2)
noncomputable def onl (k : Nat) (log : List Ent) : List (Nat × Nat) := (log.filter fun e => e.2 == k).map (·.1)
noncomputable def wlen (ws : List (Nat × Nat)) : Nat := (ws.map fun q => q.2 + 1).sum
theorem onl_cons (k : Nat) (e : Ent) (r : List Ent) : onl k (e :: r) = if e.2 = k then e.1 :: onl k r else onl k r := by
  unfold onl
  by_cases h : e.2 = k
  · rw [List.filter_cons_of_pos (by simpa using h), if_pos h]; rfl
  · rw [List.filter_cons_of_neg (by simpa using h), if_neg h]
theorem onl_snoc (k : Nat) (e : Ent) (r : List Ent) : onl k (r ++ [e]) = if e.2 = k then onl k r ++ [e.1] else onl k r := by
  induction r with
  | nil => rw [List.nil_append, onl_cons]; rfl
  | cons x r ih =>
    rw [List.cons_append, onl_cons, ih, onl_cons]
    split <;> split <;> rfl
theorem onl_mem {k : Nat} {log : List Ent} {q : Nat × Nat} (h : q ∈ onl k log) : ∃ e ∈ log, e.1 = q := by
  unfold onl at h
  obtain ⟨e, he, rfl⟩ := List.mem_map.mp h
  exact ⟨e, (List.mem_filter.mp he).1, rfl⟩
theorem lensA_onl : ∀ (log : List Ent) (lens : Nat → Int) (k : Nat), lensA lens (szl log) k = lens k + (wlen (onl k log) : Nat)
  | [], _, _ => by simp [szl, lensA, onl, wlen]
  | e :: r, lens, k => by
    have ih := lensA_onl r (upd lens e.2 ((e.1.2 : Int) + 1)) k
    show lensA (upd lens e.2 ((e.1.2 : Int) + 1)) (szl r) k = _
    rw [ih, onl_cons]
    unfold upd
    by_cases h : e.2 = k
    · rw [if_pos h, if_pos h.symm, h]
      simp [wlen]
      (first | exact om403 | omega)
    · rw [if_neg h, if_neg (Ne.symm h)]
theorem wlen_le : ∀ (ws : List (Nat × Nat)), (∀ q ∈ ws, q.2 ≤ 6) → wlen ws ≤ 7 * ws.length
  | [], _ => by simp [wlen]
  | q :: r, h => by
    have a := wlen_le r fun x hx => h x (.tail _ hx)
    have b := h q (.head _)
    have e : wlen (q :: r) = q.2 + 1 + wlen r := by simp [wlen]
    rw [e, List.length_cons]
    (first | exact om404 a b | omega)
theorem onl_length (k : Nat) (log : List Ent) : (onl k log).length ≤ log.length := by
  unfold onl
  rw [List.length_map]
  exact List.length_filter_le _ _
/-- the ends on one line -/
noncomputable def lends (h : Int) : List (Nat × Nat) → List Int
  | [] => []
  | q :: r => (h + 1 + (q.2 : Int)) :: lends (h + 1 + (q.2 : Int)) r
theorem ends_perm : ∀ (log : List Ent) (lens : Nat → Int), (∀ e ∈ log, e.2 < 3) → (ends lens (szl log)).Perm (lends (lens 0) (onl 0 log) ++ lends (lens 1) (onl 1 log) ++ lends (lens 2) (onl 2 log))
  | [], _, _ => .refl _
  | e :: r, lens, h => by
    have ih := ends_perm r (upd lens e.2 ((e.1.2 : Int) + 1)) fun x hx => h x (.tail _ hx)
    have hc := h e (.head _)
    have hc3 : e.2 = 0 ∨ e.2 = 1 ∨ e.2 = 2 := by (first | exact om198 hc | omega)
    obtain ⟨⟨p, l⟩, c⟩ := e
    show List.Perm ((lens c + ((l : Int) + 1)) :: ends (upd lens c ((l : Int) + 1)) (szl r)) _
    have e1 : ∀ x : Int, x + 1 + (l : Int) = x + ((l : Int) + 1) := fun x => by (first | exact om405 | omega)
    dsimp only at hc3 ih
    rcases hc3 with rfl | rfl | rfl
    · rw [onl_cons, onl_cons, onl_cons, if_pos rfl, if_neg (by simp), if_neg (by simp)]
      simp only [lends, e1, List.cons_append]
      exact .cons _ ih
    · rw [onl_cons, onl_cons, onl_cons, if_neg (by simp), if_pos rfl, if_neg (by simp)]
      simp only [lends, e1]
      refine (List.Perm.cons _ ih).trans ?_
      simp only [List.append_assoc, List.cons_append]
      exact List.perm_middle.symm
    · rw [onl_cons, onl_cons, onl_cons, if_neg (by simp), if_neg (by simp), if_pos rfl]
      simp only [lends, e1]
      refine (List.Perm.cons _ ih).trans ?_
      exact List.perm_middle.symm
theorem onl_perm : ∀ (log : List Ent), (∀ e ∈ log, e.2 < 3) → (log.map (·.1)).Perm (onl 0 log ++ onl 1 log ++ onl 2 log)
  | [], _ => .refl _
  | e :: r, h => by
    have ih := onl_perm r fun x hx => h x (.tail _ hx)
    have hc := h e (.head _)
    have hc3 : e.2 = 0 ∨ e.2 = 1 ∨ e.2 = 2 := by (first | exact om198 hc | omega)
    obtain ⟨q, c⟩ := e
    dsimp only at hc3
    rw [List.map_cons]
    rcases hc3 with rfl | rfl | rfl
    · rw [onl_cons, onl_cons, onl_cons, if_pos rfl, if_neg (by simp), if_neg (by simp)]
      exact .cons _ ih
    · rw [onl_cons, onl_cons, onl_cons, if_neg (by simp), if_pos rfl, if_neg (by simp)]
      refine (List.Perm.cons _ ih).trans ?_
      simp only [List.append_assoc, List.cons_append]
      exact List.perm_middle.symm
    · rw [onl_cons, onl_cons, onl_cons, if_neg (by simp), if_neg (by simp), if_pos rfl]
      exact (List.Perm.cons _ ih).trans List.perm_middle.symm
theorem ends_ge : ∀ (log : List (Int × Nat)) (lens : Nat → Int) (b q : Int), (∀ e ∈ log, e.2 < 3) → (∀ e ∈ log, 0 ≤ e.1 ∧ q ≤ e.1) → (∀ k, k < 3 → b ≤ lens k) → ∀ x ∈ ends lens log, b + q ≤ x
  | [], _, _, _, _, _, _, x, hx => by simp [ends] at hx
  | (p, c) :: r, lens, b, q, h1, h2, h3, x, hx => by
    have hc : c < 3 := h1 (p, c) (.head _)
    have hp : 0 ≤ p ∧ q ≤ p := h2 (p, c) (.head _)
    have hb := h3 c hc
    rcases List.mem_cons.mp hx with rfl | hx
    · (first | exact om406 hp hb | omega)
    · refine ends_ge r _ b q (fun e he => h1 e (.tail _ he)) (fun e he => h2 e (.tail _ he)) ?_ x hx
      intro k hk
      have := h3 k hk
      unfold upd
      split <;> (first | exact om407 hp hb | exact om408 this | omega)
theorem ends_sorted : ∀ (log : List (Int × Nat)) (lens : Nat → Int), Greedy lens log → (∀ e ∈ log, e.2 < 3) → (∀ e ∈ log, 0 ≤ e.1) → (log.map (·.1)).Pairwise (· ≤ ·) → (ends lens log).Pairwise (· ≤ ·)
  | [], _, _, _, _, _ => .nil
  | (p, c) :: r, lens, hg, h1, h2, hs => by
    obtain ⟨hc, hmin, hg'⟩ := hg
    rw [List.map_cons, List.pairwise_cons] at hs
    refine List.pairwise_cons.mpr ⟨?_, ends_sorted r _ hg' (fun e he => h1 e (.tail _ he)) (fun e he => h2 e (.tail _ he)) hs.2⟩
    refine ends_ge r _ (lens c) p (fun e he => h1 e (.tail _ he)) (fun e he => ⟨h2 e (.tail _ he), hs.1 _ (List.mem_map.mpr ⟨e, he, rfl⟩)⟩) ?_
    intro k hk
    have a := hmin k hk
    have b := h2 (p, c) (.head _)
    dsimp only at b
    unfold upd
    split <;> (first | exact om409 b | exact om408 a | omega)
theorem greedy_lt : ∀ {log : List (Int × Nat)} {lens : Nat → Int}, Greedy lens log → ∀ e ∈ log, e.2 < 3
  | [], _, _, _, h => nomatch h
  | (_, _) :: _, _, hg, e, h => by
    rcases List.mem_cons.mp h with rfl | h
    · exact hg.1
    · exact greedy_lt hg.2.2 e h
theorem sum_perm : ∀ {l l' : List Int}, l.Perm l' → l.sum = l'.sum := by
  intro l l' h
  induction h with
  | nil => rfl
  | cons x _ ih => simp [ih]
  | swap x y l => simp; (first | exact om410 | omega)
  | trans _ _ a b => exact a.trans b
theorem onl_sorted (k : Nat) (log : List Ent) (h : (log.map fun e => e.1.2).Pairwise (· ≤ ·)) : ((onl k log).map (·.2)).Pairwise (· ≤ ·) := by
  have a : (log.Pairwise fun x y => x.1.2 ≤ y.1.2) := List.pairwise_map.mp h
  unfold onl
  rw [List.map_map]
  exact List.pairwise_map.mpr (a.sublist List.filter_sublist)
theorem pair_eq_of_perm {α : Type} {r : α → α → Prop} (has : ∀ a b, r a b → r b a → a = b) : ∀ {l l' : List α}, l.Perm l' → l.Pairwise r → l'.Pairwise r → l = l' := by
  intro l l' h h1 h2
  exact h.eq_of_pairwise (fun a b _ _ x y => has a b x y) h1 h2
end
section
-- M1
theorem fresh_M1 : True := by
  w_top off
  trivial
set_option maxHeartbeats 1000000
section
variable {prog : Program} {w : World} {A : Around} {E : Value → Shared → Prop} {s : Shared} {h₀ : Heap} {L l I S : Addr} {m : Str → Option Value} {news : List (Addr × Obj)} {vs : List Value} {v0 : Value} {R : Result → Shared → Prop} {Q : Value → Shared → Prop}
theorem min_loop0 (κ : Value → Int × Int) (hh : A.handled = none) (hu : A.in1.units < cLine) (hl : ∀ h, News h₀ L h news → h.IsList l vs.toArray) (hlI : l ≠ I) (hSI : S ≠ I) (hnS : ∀ p ∈ news, p.1 ≠ S) (hnI : ∀ p ∈ news, p.1 ≠ I)
    (hI : ∀ v ∈ v0 :: vs, ItemAt news v (κ v)) (hmin : ∀ j, 0 < j → j < vs.length → klt (κ (vs.getD j .none)) (κ v0) = false ∧ (κ (vs.getD j .none)).2 ≠ (κ v0).2)
    (hR : ∀ h' tk', Fr h₀ L h' m → News h₀ L h' news → R (.ok (.ret v0)) { s with heap := h', toks := tk' }) :
    ∀ (r j : Nat) (h : Heap) (tk : Nat) (c : Nat) (oI : Obj), vs.length - (j + 1) = r → j + 1 ≤ vs.length → Fr h₀ L h m →
      News h₀ L h (news ++ [(S, seqObj "list" #[v0, v0] c), (I, oI)]) → h.IsListIter I l (j + 1) →
      codeAny (model prog w) A (.builtin "min.loop" ⟨[.ref I, .none, .ref S], []⟩) R { s with heap := h, toks := tk } := by
  have hname : (toString "min" ++ toString ".loop" : String) = "min.loop" := by decide
  have W := Walks.list (prog := prog) (w := w) (A := A.in1) hh I l hlI vs.toArray
  have hsz : vs.toArray.size = vs.length := List.size_toArray ..
  intro r
  induction r with
  | zero =>
    intro j h tk c oI hr hj F N hit
    have hin : j + 1 = vs.length := by (first | exact om224 hr hj | omega)
    have nS := N (S, seqObj "list" #[v0, v0] c) (List.mem_append_right _ (.head _))
    have nI := N (I, oI) (List.mem_append_right _ (.tail _ (.head _)))
    have Nn : News h₀ L h news := fun p hp => N p (List.mem_append_left _ hp)
    refine codeAny_builtin PySem.F.entry_min_loop ?_
    rw [Around.under_plainId PySem.F.plain_min_loop _]
    show wpAny _ A.in1 (seqItems? (.ref S) >>= _) _ _ _
    refine wpAny_bind (wpAny_seqItems nS.1 rfl ?_)
    show wpAny _ A.in1 (tryCatch (pyNext (.ref I)) _ >>= _) _ _ _
    refine wpAny_bind (wpAny_tryCatch (W.done _ _ _ ⟨by rw [hsz, ← hin]; exact hit, hl h Nn⟩ fun h' tk' hk' => ?_))
    have F1 := kmb_fr F hk' nI.2.1 nI.2.2
    have N1 := kmb_news Nn hk' hnI
    have hS' := hk' S _ (by simpa using hSI) nS.1
    have s1 := Heap.SameBut.update h' S (Obj.mapSeq fun _ => (#[] : Array Value))
    show wpAny _ A.in1 (updateSeq S (fun _ => #[]) >>= _) _ _ _
    refine wpAny_bind ?_
    refine wpAny_updateSeq hS' rfl (wpAny_bind (wpAny_letGo (wpAny_pure ?_)))
    exact hR _ _ (ksk_fr F1 s1 nS.2.1 nS.2.2) (ksk_news N1 s1 hnS)
  | succ r ih =>
    intro j h tk c oI hr hj F N hit
    have hlt : j + 1 < vs.length := by (first | exact om225 hr | omega)
    have nS := N (S, seqObj "list" #[v0, v0] c) (List.mem_append_right _ (.head _))
    have nI := N (I, oI) (List.mem_append_right _ (.tail _ (.head _)))
    have Nn : News h₀ L h news := fun p hp => N p (List.mem_append_left _ hp)
    refine codeAny_builtin PySem.F.entry_min_loop ?_
    rw [Around.under_plainId PySem.F.plain_min_loop _]
    show wpAny _ A.in1 (seqItems? (.ref S) >>= _) _ _ _
    refine wpAny_bind (wpAny_seqItems nS.1 rfl ?_)
    show wpAny _ A.in1 (tryCatch (pyNext (.ref I)) _ >>= _) _ _ _
    refine wpAny_bind (wpAny_tryCatch (W.item (j + 1) _ _ _ (by rw [hsz]; exact hlt) ⟨hit, hl h Nn⟩ fun v h' tk' hP hst' hk' => ?_))
    have hv : vs[j + 1]? = some v := by simpa using hP
    have hvm : v ∈ vs := List.mem_of_getElem? hv
    have hvd : vs.getD (j + 1) .none = v := by rw [List.getD_eq_getElem?_getD, hv]; rfl
    obtain ⟨oI', hoI', hoc, hod⟩ := id hst'.1
    have F1 := kmb_fr F hk' nI.2.1 nI.2.2
    have N1 : News h₀ L h' (news ++ [(S, seqObj "list" #[v0, v0] c), (I, oI')]) := fun p hp => by
      rcases List.mem_append.mp hp with hp | hp
      · exact kmb_news Nn hk' hnI p hp
      · rcases List.mem_cons.mp hp with rfl | hp
        · exact ⟨hk' S _ (by simpa using hSI) nS.1, nS.2⟩
        · rw [List.mem_singleton.mp hp]
          exact ⟨hoI', nI.2⟩
    have hm1 := hmin (j + 1) (by (first | exact om226 | omega)) hlt
    rw [hvd] at hm1
    show wpAny _ A.in1 (tryCatch (holding [v, v] (richCompare .Lt v v0 >>= _)) _ >>= _) _ _ _
    refine wpAny_bind (wpAny_tryCatch (wpAny_holding (wpAny_bind (r_lt (s := { s with heap := h', toks := tk' }) (fun p hp => N1 p (List.mem_append_left _ hp)) (hI v (.tail _ hvm)) (hI v0 (.head _)) hm1.2 hu ?_))))
    rw [hm1.1]
    refine wpAny_bind (wpAny_holding (wpAny_truthy_bool ?_))
    refine wpAny_bind (wpAny_letGo (wpAny_pure ?_))
    simp only [Bool.false_eq_true, if_false]
    refine wpAny_bind (wpAny_letGo ?_)
    rw [hname]
    exact wpAny_pure ⟨plainId_quiet PySem.F.plain_min_loop _, ih (j + 1) _ _ c oI' (by (first | exact om227 hr | omega)) hlt F1 N1 ⟨oI', hoI', hoc, hod⟩⟩
theorem min_first (κ : Value → Int × Int) (hh : A.handled = none) (hu : A.in1.units < cLine) (F : Fr h₀ L s.heap m) (N : News h₀ L s.heap news) (hl : ∀ h, News h₀ L h news → h.IsList l (v0 :: vs).toArray)
    (hI : ∀ v ∈ v0 :: vs, ItemAt news v (κ v)) (hmin : ∀ v ∈ vs, klt (κ v) (κ v0) = false ∧ (κ v).2 ≠ (κ v0).2)
    (hQ : ∀ h' tk', Fr h₀ L h' m → News h₀ L h' news → Q v0 { s with heap := h', toks := tk' }) :
    wpAny (model prog w) A (call (.builtin "min") [.ref l]) Q E s := by
  have hname : (toString "min" ++ toString ".loop" : String) = "min.loop" := by decide
  have hls := hl _ N
  obtain ⟨ol, hol, _⟩ := id hls
  have hll : l < s.heap.objs.size := Heap.lt_size hol
  have hL : L < s.heap.objs.size := F.ns.lt
  refine call_function_tree PySem.F.kind_min PySem.F.plain_min PySem.F.entry_min (PySem.F.args_min1 _) ?_
  show wpAny _ A.in1 (Builtin.Builtins.bindParams "min" ["key", "default"] 0 ⟨[], []⟩ >>= _) _ _ s
  refine wpAny_bind (wpAny_of_eq (show Builtin.Builtins.bindParams "min" ["key", "default"] 0 ⟨[], []⟩ = pure [none, none] from rfl) ?_)
  refine wpAny_bind (wpAny_pure ?_)
  refine wpAny_bind (wpAny_pyIter_list hls ?_)
  refine wpAny_bind (wpAny_newList ?_ (Nat.zero_le _))
  rw [hname]
  have hS : (s.heap.push { cls := .type "list_iterator", data := .fields #[.ref l, .int 0 0] }).objs.size = s.heap.objs.size + 1 := size_push' ..
  have hlI : l ≠ s.heap.objs.size := Nat.ne_of_lt hll
  have hSI : (s.heap.push { cls := .type "list_iterator", data := .fields #[.ref l, .int 0 0] }).objs.size ≠ s.heap.objs.size := by rw [hS]; exact Nat.ne_of_gt (Nat.lt_succ_self _)
  have hnI : ∀ p ∈ news, p.1 ≠ s.heap.objs.size := fun p hp => Nat.ne_of_lt (Heap.lt_size (N p hp).1)
  have hnS : ∀ p ∈ news, p.1 ≠ (s.heap.push { cls := .type "list_iterator", data := .fields #[.ref l, .int 0 0] }).objs.size := fun p hp => by rw [hS]; exact Nat.ne_of_lt (Nat.lt_succ_of_lt (Heap.lt_size (N p hp).1))
  refine wpAny_pure ⟨plainId_quiet PySem.F.plain_min_loop _, ?_⟩
  have fresh : ∀ b, L < b → h₀.get? b = none := fun b hb => Heap.get?_none_of_le (Nat.le_trans F.above (Nat.le_of_lt hb))
  have FH : Fr h₀ L ((s.heap.push { cls := .type "list_iterator", data := .fields #[.ref l, .int 0 0] }).push (seqObj "list" #[] 0)) m := (F.push _).push _
  have NH : News h₀ L ((s.heap.push { cls := .type "list_iterator", data := .fields #[.ref l, .int 0 0] }).push (seqObj "list" #[] 0)) news := N.grown fun b x e => Heap.get?_push_of_some _ (Heap.get?_push_of_some _ e)
  have gI : ((s.heap.push { cls := .type "list_iterator", data := .fields #[.ref l, .int 0 0] }).push (seqObj "list" #[] 0)).get? s.heap.objs.size = some { cls := .type "list_iterator", data := .fields #[.ref l, .int 0 0] } :=
    Heap.get?_push_of_some _ (Heap.get?_push_size _ rfl)
  have gS : ((s.heap.push { cls := .type "list_iterator", data := .fields #[.ref l, .int 0 0] }).push (seqObj "list" #[] 0)).get? (s.heap.push { cls := .type "list_iterator", data := .fields #[.ref l, .int 0 0] }).objs.size = some (seqObj "list" #[] 0) := Heap.get?_push_size _ rfl
  have aI : s.heap.objs.size ≠ L := Nat.ne_of_gt hL
  have aS : (s.heap.push { cls := .type "list_iterator", data := .fields #[.ref l, .int 0 0] }).objs.size ≠ L := by rw [hS]; exact Nat.ne_of_gt (Nat.lt_succ_of_lt hL)
  have zS : h₀.get? (s.heap.push { cls := .type "list_iterator", data := .fields #[.ref l, .int 0 0] }).objs.size = none := fresh _ (by rw [hS]; exact Nat.lt_succ_of_lt hL)
  generalize (s.heap.push { cls := .type "list_iterator", data := .fields #[.ref l, .int 0 0] }).objs.size = S at *
  generalize hI0 : s.heap.objs.size = I at *
  have W := Walks.list (prog := prog) (w := w) (A := A.in1) hh I l hlI (v0 :: vs).toArray
  refine codeAny_builtin PySem.F.entry_min_loop ?_
  rw [Around.under_plainId PySem.F.plain_min_loop _]
  show wpAny _ A.in1 (seqItems? (.ref _) >>= _) _ _ _
  refine wpAny_bind (wpAny_seqItems gS rfl ?_)
  show wpAny _ A.in1 (tryCatch (pyNext (.ref I)) _ >>= _) _ _ _
  refine wpAny_bind (wpAny_tryCatch (W.item 0 _ _ _ (by simp) ⟨⟨_, gI, rfl, rfl⟩, hl _ NH⟩ fun v h' tk' hP hst' hk' => ?_))
  have hv : v0 = v := by simpa using hP
  subst hv
  obtain ⟨oI', hoI', hoc, hod⟩ := id hst'.1
  have F1 := kmb_fr FH hk' aI (fresh _ hL)
  have N1 := kmb_news NH hk' hnI
  have hS' := hk' S _ (by simpa using hSI) gS
  have s1 := Heap.SameBut.update h' S (Obj.mapSeq fun _ => #[v0, v0])
  obtain ⟨c2, hc2⟩ : ∃ c2, (h'.update S (Obj.mapSeq fun _ => #[v0, v0])).get? S = some (seqObj "list" #[v0, v0] c2) := ⟨_, get?_update_seq hS' fun _ => #[v0, v0]⟩
  show wpAny _ A.in1 (updateSeq S (fun _ => #[v0, v0]) >>= _) _ _ _
  refine wpAny_bind ?_
  refine wpAny_updateSeq hS' rfl ?_
  rw [hname]
  refine wpAny_pure ⟨plainId_quiet PySem.F.plain_min_loop _, min_loop0 (s := s) κ hh hu hl hlI hSI hnS hnI (fun v hv => ?_) ?_ (fun h' tk' F' N' => hQ h' tk' F' N') _ 0 _ _ c2 oI' rfl (by simp) (ksk_fr F1 s1 aS zS) (fun p hp => ?_) ⟨oI', (s1.2 _ hSI.symm).trans hoI', hoc, hod⟩⟩
  · rcases List.mem_cons.mp hv with rfl | hv
    · exact hI _ (.head _)
    · exact hI v hv
  · intro j h0 hj
    obtain ⟨j, rfl⟩ : ∃ k, j = k + 1 := ⟨j - 1, by (first | exact om228 h0 | omega)⟩
    have hj' : j < vs.length := by simpa using hj
    have : (v0 :: vs).getD (j + 1) .none = vs[j] := by simp [List.getD_eq_getElem?_getD, hj']
    rw [this]
    exact hmin _ (List.getElem_mem hj')
  · rcases List.mem_append.mp hp with hp | hp
    · exact ksk_news N1 s1 hnS p hp
    · rcases List.mem_cons.mp hp with rfl | hp
      · exact ⟨hc2, aS, zS⟩
      · rw [List.mem_singleton.mp hp]
        exact ⟨(s1.2 _ hSI.symm).trans hoI', aI, fresh _ hL⟩
end
end
section
-- P8
theorem fresh_P8 : True := by
  w_top off
  trivial
set_option maxHeartbeats 400000
/-- a pair's list, in the ledger -/
noncomputable def PairAt (news : List (Addr × Obj)) (v : Value) (k : Int × Int) : Prop := ∃ q t1 t2 n, v = .ref q ∧ (q, listOf #[.int k.1 t1, .int k.2 t2] n) ∈ news
theorem PairAt.mono {news news' : List (Addr × Obj)} {v : Value} {k : Int × Int} (h : PairAt news v k) (hs : ∀ q ∈ news, q ∈ news') : PairAt news' v k := by
  obtain ⟨q, t1, t2, n, e, hm⟩ := h
  exact ⟨q, t1, t2, n, e, hs _ hm⟩
theorem PairAt.item {news : List (Addr × Obj)} {v : Value} {k : Int × Int} (h : PairAt news v k) : ItemAt news v k := by
  obtain ⟨q, t1, t2, n, e, hm⟩ := h
  exact ⟨q, _, n, t1, t2, e, hm, rfl, rfl⟩
theorem pw_idx {κ : Value → Int × Int} {xs : List Value} (h : xs.Pairwise fun u v => (κ u).2 ≠ (κ v).2) : ∀ i j, i < xs.length → j < xs.length → i ≠ j → (κ (xs.getD i .none)).2 ≠ (κ (xs.getD j .none)).2 := by
  have g : ∀ i (hi : i < xs.length), xs.getD i .none = xs[i] := fun i hi => by rw [List.getD_eq_getElem?_getD, List.getElem?_eq_getElem hi]; rfl
  intro i j hi hj hne
  rw [g i hi, g j hj]
  have hp := List.pairwise_iff_getElem.mp h
  rcases Nat.lt_or_gt_of_ne hne with hlt | hlt
  · exact hp i j hi hj hlt
  · exact (hp j i hj hi hlt).symm
noncomputable abbrev entl (κ : Value → Int × Int) (log : List (Value × Nat)) : List Ent := log.map fun e => (((κ e.1).2.toNat, ((κ e.1).1 - 1).toNat), e.2)
/-- what is known of each word -/
noncomputable def WFacts (κ : Value → Int × Int) (others : List (Addr × Obj)) (W0 : List Value) : Prop :=
  W0.length ≤ 9 ∧ (∀ v ∈ W0, ∃ p l, p < 9 ∧ 1 ≤ l ∧ l ≤ 6 ∧ WordAt others v p l ∧ κ v = ((l : Int) + 1, (p : Int))) ∧ W0.Pairwise (fun u v => (κ u).2 ≠ (κ v).2)
theorem WFacts.mono {κ : Value → Int × Int} {others others' : List (Addr × Obj)} {W0 : List Value} (h : WFacts κ others W0) (hs : ∀ q ∈ others, q ∈ others') : WFacts κ others' W0 := by
  refine ⟨h.1, fun v hv => ?_, h.2.2⟩
  obtain ⟨p, l, a, b, c, d, e⟩ := h.2.1 v hv
  exact ⟨p, l, a, b, c, d.mono hs, e⟩
noncomputable abbrev ptx (ws : List (Nat × Nat)) : List (Str × Str) := ws.map fun q => (Str.ofString " ", wtext q.1 q.2)
structure TInv (κ κ2 : Value → Int × Int) (lens : Nat → Int) (W0 : List Value) (others : List (Addr × Obj)) (log : List (Value × Nat)) (W H : List Value) (it : Nat → List Value) (told : List Value) : Prop where
  words : WFacts κ others W0
  perm : (log.map (·.1) ++ W).Perm W0
  heapW : HeapAt κ W
  heapH : HeapAt κ2 H
  mapH : (H.map κ2).Perm [(lensA lens (szl (entl κ log)) 0, 0), (lensA lens (szl (entl κ log)) 1, 1), (lensA lens (szl (entl κ log)) 2, 2)]
  itemH : ∀ v ∈ H, PairAt others v (κ2 v)
  greedy : Greedy lens (szl (entl κ log))
  told : IntsAre told (ends lens (szl (entl κ log)))
  below : ∀ u ∈ log.map (·.1), ∀ v ∈ W, klt (κ v) (κ u) = false
  sorted : (log.map (·.1)).Pairwise (fun u v => klt (κ v) (κ u) = false)
  parts : ∀ k, k < 3 → Parts others (it k) (ptx (onl k (entl κ log)))
  tup0 : ∀ k, k < 3 → ∀ v ∈ it k, ∃ T v1 v2, v = .ref T ∧ (T, tupObj v1 v2 0) ∈ others
theorem ents_snoc (κ : Value → Int × Int) (log : List (Value × Nat)) (v : Value) (c : Nat) : entl κ (log ++ [(v, c)]) = entl κ log ++ [(((κ v).2.toNat, ((κ v).1 - 1).toNat), c)] := by simp [entl]
theorem szl_snoc (es : List Ent) (e : Ent) : szl (es ++ [e]) = szl es ++ [((e.1.2 : Int) + 1, e.2)] := by simp [szl]
theorem perm3 {xs : List (Int × Int)} {f : Nat → Int} {c : Nat} {z p : Int} (hc : c < 3) (h : ((z, (c : Int)) :: xs).Perm [(f 0, 0), (f 1, 1), (f 2, 2)]) :
    z = f c ∧ ((z + p, (c : Int)) :: xs).Perm [(upd f c p 0, 0), (upd f c p 1, 1), (upd f c p 2, 2)] := by
  have hc3 : c = 0 ∨ c = 1 ∨ c = 2 := by (first | exact om198 hc | omega)
  have hm := h.mem_iff.mp (.head _)
  have hz : z = f c := by
    simp only [List.mem_cons, List.not_mem_nil, or_false, Prod.mk.injEq] at hm
    rcases hc3 with rfl | rfl | rfl <;> simp at hm <;> exact hm
  refine ⟨hz, ?_⟩
  rcases hc3 with rfl | rfl | rfl
  · have h2 : xs.Perm [(f 1, 1), (f 2, 2)] := by rw [hz] at h; exact h.cons_inv
    simp only [upd]
    rw [hz]
    exact .cons _ h2
  · have h2 : xs.Perm [(f 0, 0), (f 2, 2)] := by
      rw [hz] at h
      exact (h.trans (List.perm_middle (l₁ := [(f 0, (0 : Int))]) (l₂ := [(f 2, 2)]) (a := (f 1, 1)))).cons_inv
    simp only [upd]
    rw [hz]
    exact (List.Perm.cons _ h2).trans (List.perm_middle (l₁ := [(f 0, (0 : Int))]) (l₂ := [(f 2, 2)]) (a := (f 1 + p, 1))).symm
  · have h2 : xs.Perm [(f 0, 0), (f 1, 1)] := by
      rw [hz] at h
      exact (h.trans (List.perm_middle (l₁ := [(f 0, (0 : Int)), (f 1, 1)]) (l₂ := []) (a := (f 2, 2)))).cons_inv
    simp only [upd]
    rw [hz]
    exact (List.Perm.cons _ h2).trans (List.perm_middle (l₁ := [(f 0, (0 : Int)), (f 1, 1)]) (l₂ := []) (a := (f 2 + p, 2))).symm
theorem ent_ok {κ : Value → Int × Int} {others : List (Addr × Obj)} {W0 W : List Value} {log : List (Value × Nat)} (hw : WFacts κ others W0) (hp : (log.map (·.1) ++ W).Perm W0) : ∀ e ∈ entl κ log, e.1.1 < 9 ∧ 1 ≤ e.1.2 ∧ e.1.2 ≤ 6 := by
  intro e he
  obtain ⟨x, hx, rfl⟩ := List.mem_map.mp he
  obtain ⟨p, l, h1, h2, h3, _, hk⟩ := hw.2.1 x.1 (hp.mem_iff.mp (List.mem_append_left _ (List.mem_map_of_mem (f := (·.1)) hx)))
  dsimp only
  rw [hk]
  dsimp only
  omega
theorem onl_ok {k : Nat} {es : List Ent} (h : ∀ e ∈ es, e.1.1 < 9 ∧ 1 ≤ e.1.2 ∧ e.1.2 ≤ 6) : ∀ q ∈ onl k es, q.1 < 9 ∧ 1 ≤ q.2 ∧ q.2 ≤ 6 := by
  intro q hq
  obtain ⟨e, he, rfl⟩ := onl_mem hq
  exact h e he
theorem plen_ptx : ∀ {ws : List (Nat × Nat)}, (∀ q ∈ ws, q.1 < 9 ∧ 1 ≤ q.2 ∧ q.2 ≤ 6) → plen (ptx ws) = wlen ws
  | [], _ => rfl
  | q :: r, h => by
    have ih := plen_ptx (ws := r) fun x hx => h x (.tail _ hx)
    have hq := h q (.head _)
    have e := wtext_len q.1 hq.1 q.2 (by (first | exact om265 hq | omega))
    have e1 : (Str.ofString " ").length = 1 := by decide
    have a : plen (ptx (q :: r)) = (Str.ofString " ").length + (wtext q.1 q.2).length + plen (ptx r) := by simp [plen, ptx]
    have b : wlen (q :: r) = q.2 + 1 + wlen r := by simp [wlen]
    rw [a, b, ih, e, e1]
    (first | exact om411 | omega)
theorem heap_least {κ : Value → Int × Int} {xs : List Value} (h : HeapAt κ xs) : ∀ v ∈ xs, klt (κ v) (κ (xs.getD 0 .none)) = false := by
  intro v hv
  obtain ⟨i, hi, rfl⟩ := List.mem_iff_getElem.mp hv
  have := heap_root h i hi
  rw [List.getD_eq_getElem?_getD, List.getElem?_eq_getElem hi] at this
  exact this
/-- what a turn finds -/
inductive TOpen (κ κ2 : Value → Int × Int) (lens : Nat → Int) (others : List (Addr × Obj)) (log : List (Value × Nat)) : List Value → List Value → Prop
  | mk (xs : List Value) (l : Value) (q : Nat) (tl : List Value) (c : Nat) (z : Int) (t1 t2 : Tok) (n p w : Nat) (g1 : c < 3) (g2 : (q, listOf #[.int z t1, .int ((c : Nat) : Int) t2] n) ∈ others) (g3 : κ2 (.ref q) = (z, (c : Int))) (g4 : tl.length = 2) (g5 : ∀ v ∈ tl, PairAt others v (κ2 v)) (g6 : ∀ v ∈ tl, klt (κ2 v) (z, (c : Int)) = false ∧ (κ2 v).2 ≠ (c : Int))
      (g7 : tl.Pairwise (fun u v => (κ2 u).2 ≠ (κ2 v).2)) (g8 : z = lens c + (plen (ptx (onl c (entl κ log))) : Nat)) (g9 : z + ((w : Int) + 1) ≤ 80) (g10 : 0 ≤ z) (g11 : p < 9) (g12 : 1 ≤ w) (g13 : w ≤ 6) (g14 : WordAt others (hpop κ xs l).1 p w) (g15 : κ (hpop κ xs l).1 = ((w : Int) + 1, (p : Int)))
      (g16 : ∀ v ∈ xs ++ [l], ∃ p l, p < 9 ∧ 1 ≤ l ∧ l ≤ 6 ∧ WordAt others v p l ∧ κ v = ((l : Int) + 1, (p : Int))) (g17 : (xs ++ [l]).Pairwise (fun u v => (κ u).2 ≠ (κ v).2)) (g18 : log.length + xs.length < 9) (g19 : (ptx (onl c (entl κ log))).length ≤ 9) (g20 : ∀ r ∈ ptx (onl c (entl κ log)), r.1.length < 2 ^ 9 ∧ r.2.length < 2 ^ 9) : TOpen κ κ2 lens others log (xs ++ [l]) (.ref q :: tl)
theorem TInv.open {κ κ2 : Value → Int × Int} {lens : Nat → Int} {W0 : List Value} {others : List (Addr × Obj)} {log : List (Value × Nat)} {W H : List Value} {it : Nat → List Value} {told : List Value} (I : TInv κ κ2 lens W0 others log W H it told) (hne : W ≠ []) (h0 : ∀ k, 0 ≤ lens k ∧ lens k < 6) : TOpen κ κ2 lens others log W H := by
  obtain ⟨xs, l, rfl⟩ : ∃ xs l, W = xs ++ [l] := ⟨W.dropLast, W.getLast hne, (List.dropLast_concat_getLast hne).symm⟩
  have hH : H.length = 3 := by have := I.mapH.length_eq; simpa using this
  obtain ⟨v0, tl, rfl⟩ : ∃ v0 tl, H = v0 :: tl := by
    cases H with
    | nil => simp at hH
    | cons a b => exact ⟨a, b, rfl⟩
  obtain ⟨q, t1, t2, n, rfl, hq⟩ := I.itemH v0 (.head _)
  have hmem := I.mapH.mem_iff.mp (List.mem_map_of_mem (f := κ2) (List.mem_cons_self (a := Value.ref q) (l := tl)))
  obtain ⟨c, hc, hkc⟩ : ∃ c : Nat, c < 3 ∧ (κ2 (.ref q)).2 = (c : Int) := by
    simp only [List.mem_cons, List.not_mem_nil, or_false] at hmem
    rcases hmem with h | h | h
    · exact ⟨0, by omega, by rw [h]; rfl⟩
    · exact ⟨1, by omega, by rw [h]; rfl⟩
    · exact ⟨2, by omega, by rw [h]; rfl⟩
  generalize hz : (κ2 (.ref q)).1 = z at hq
  have hk : κ2 (.ref q) = (z, (c : Int)) := Prod.ext hz hkc
  rw [hkc] at hq
  have hmap := I.mapH
  rw [List.map_cons, hk] at hmap
  have hzc := (perm3 (p := 0) (f := fun k => lensA lens (szl (entl κ log)) k) hc hmap).1
  have hpw : ((Value.ref q :: tl).map κ2).Pairwise (fun a b => a.2 ≠ b.2) := by
    refine (I.mapH.pairwise_iff (fun {a b} h => Ne.symm h)).mpr ?_
    simp
  rw [List.pairwise_map, List.pairwise_cons] at hpw
  have hlow := heap_least I.heapH
  have hso := hpop_spec I.heapW
  have hone : (hpop κ xs l).1 ∈ xs ++ [l] := hso.2.1.mem_iff.mp (.head _)
  have hW : ∀ v ∈ xs ++ [l], v ∈ W0 := fun v hv => I.perm.mem_iff.mp (List.mem_append_right _ hv)
  obtain ⟨p, w, w1, w2, w3, w4, w5⟩ := I.words.2.1 _ (hW _ hone)
  have heo := ent_ok I.words I.perm
  have hoo := onl_ok (k := c) heo
  have hlen : log.length + (xs.length + 1) = W0.length := by
    have := I.perm.length_eq
    simpa using this
  have h9 := I.words.1
  have hol := onl_length c (entl κ log)
  have hel : (entl κ log).length = log.length := by simp [entl]
  have hwl := wlen_le (onl c (entl κ log)) (fun q hq => (hoo q hq).2.2)
  have hpl := plen_ptx hoo
  rw [lensA_onl, ← hpl] at hzc
  have hc0 := h0 c
  refine ⟨xs, l, q, tl, c, z, t1, t2, n, p, w, hc, hq, hk, by simpa using hH, fun v hv => I.itemH v (.tail _ hv), ?_, hpw.2, hzc, ?_, ?_, w1, w2, w3, w4, w5, fun v hv => I.words.2.1 v (hW v hv), ?_, by (first | exact om412 hlen h9 | omega), ?_, ?_⟩
  · intro v hv
    refine ⟨?_, ?_⟩
    · rw [← hk]; exact hlow v (.tail _ hv)
    · have := hpw.1 v hv
      rw [hk] at this
      exact Ne.symm this
  · (first | exact om413 hzc w3 hlen h9 hol hel hwl hpl hc0 | omega)
  · (first | exact om414 hzc hc0 | omega)
  · exact ((I.perm.pairwise_iff (fun {a b} h => Ne.symm h)).mpr I.words.2.2 |> List.pairwise_append.mp).2.1
  · rw [List.length_map]; (first | exact om415 hlen h9 hol hel | omega)
  · intro r hr
    obtain ⟨x, hx, rfl⟩ := List.mem_map.mp hr
    have hxo := hoo x hx
    refine ⟨by show (Str.ofString " ").length < 2 ^ 9; decide, ?_⟩
    show (wtext x.1 x.2).length < 2 ^ 9
    rw [wtext_len x.1 hxo.1 x.2 (by (first | exact om265 hxo | omega))]
    (first | exact om416 hxo | omega)
theorem TInv.step {κ κ2 : Value → Int × Int} {lens : Nat → Int} {W0 : List Value} {others others' : List (Addr × Obj)} {log : List (Value × Nat)} {xs tl : List Value} {l : Value} {it : Nat → List Value} {told : List Value} {q q' c T w p : Nat} {z : Int} {ta tb tt t1 t2 : Tok} {n2 : Nat} (I : TInv κ κ2 lens W0 others log (xs ++ [l]) (.ref q :: tl) it told)
    (hc : c < 3) (hk : κ2 (.ref q) = (z, (c : Int))) (hK : κ (hpop κ xs l).1 = ((w : Int) + 1, (p : Int))) (hq : ∀ r ∈ others, r.1 < q') (hmin : ∀ v ∈ tl, klt (κ2 v) (z, (c : Int)) = false) (hs : ∀ r ∈ others, r ∈ others') (hT : (T, tupObj (.str (Str.ofString " ") t1) (.str (wtext p w) t2) 0) ∈ others') (hq' : (q', listOf #[.int (z + ((w : Int) + 1)) ta, .int (c : Int) tb] n2) ∈ others') :
    TInv κ (kput κ2 q' (z + ((w : Int) + 1), (c : Int))) lens W0 others' (log ++ [((hpop κ xs l).1, c)]) (hpop κ xs l).2 (siftup (kput κ2 q' (z + ((w : Int) + 1), (c : Int))) 0 (.ref q' :: tl)) (fun k => if k = c then it c ++ [.ref T] else it k) (told ++ [.int (z + ((w : Int) + 1)) tt]) := by
  have hso := hpop_spec I.heapW
  generalize hone : (hpop κ xs l).1 = one at *
  generalize (hpop κ xs l).2 = W' at *
  generalize hκ : kput κ2 q' (z + ((w : Int) + 1), (c : Int)) = κ2' at *
  have ktop : κ2' (.ref q') = (z + ((w : Int) + 1), (c : Int)) := by rw [← hκ]; exact kput_self κ2 q' _
  have ktl : ∀ v ∈ tl, κ2' v = κ2 v := by
    intro v hv
    obtain ⟨a, _, _, _, rfl, ha⟩ := I.itemH v (.tail _ hv)
    rw [← hκ]
    exact kput_ne κ2 _ (Nat.ne_of_lt (hq _ ha))
  have htl : tl.length = 2 := by have := I.mapH.length_eq; simpa using this
  obtain ⟨sh, sp⟩ := siftup_spec (κ := κ2') (xs := .ref q' :: tl) (by simp) (fun i h1 h2 => absurd h2 (by simp [htl]; (first | exact om201 h1 | omega)))
  have hmap := I.mapH
  rw [List.map_cons, hk] at hmap
  obtain ⟨hzc, hmap'⟩ := perm3 (p := (w : Int) + 1) (f := fun k => lensA lens (szl (entl κ log)) k) hc hmap
  have hent : entl κ (log ++ [(one, c)]) = entl κ log ++ [((p, w), c)] := by
    rw [ents_snoc, hK]
    simp
  have hsz : szl (entl κ (log ++ [(one, c)])) = szl (entl κ log) ++ [((w : Int) + 1, c)] := by rw [hent, szl_snoc]
  have hmW : ∀ v ∈ W', v ∈ xs ++ [l] := fun v hv => hso.2.1.mem_iff.mp (.tail _ hv)
  have hoW : one ∈ xs ++ [l] := hso.2.1.mem_iff.mp (.head _)
  have hloW := heap_least I.heapW
  rw [← hso.2.2.1] at hloW
  refine ⟨I.words.mono hs, ?_, hso.1, sh, ?_, ?_, ?_, ?_, ?_, ?_, ?_, ?_⟩
  · rw [List.map_append, List.append_assoc]
    exact (List.Perm.append_left _ hso.2.1).trans I.perm
  · rw [hsz]
    simp only [lensA_snoc]
    refine (sp.map κ2').trans ?_
    rw [List.map_cons, ktop, List.map_congr_left ktl]
    exact hmap'
  · intro v hv
    rcases List.mem_cons.mp (sp.mem_iff.mp hv) with rfl | hv
    · rw [ktop]; exact ⟨q', _, _, _, rfl, hq'⟩
    · rw [ktl v hv]; exact (I.itemH v (.tail _ hv)).mono hs
  · rw [hsz]
    refine I.greedy.snoc hc ?_
    intro k hk3
    have hmem : (lensA lens (szl (entl κ log)) k, (k : Int)) ∈ (Value.ref q :: tl).map κ2 := by
      refine I.mapH.mem_iff.mpr ?_
      have hk' : k = 0 ∨ k = 1 ∨ k = 2 := by (first | exact om198 hk3 | omega)
      rcases hk' with rfl | rfl | rfl <;> simp
    obtain ⟨v, hv, e⟩ := List.mem_map.mp hmem
    rcases List.mem_cons.mp hv with rfl | hv
    · rw [hk] at e
      have := (Prod.mk.injEq _ _ _ _).mp e
      (first | exact om417 hzc this | omega)
    · have := klt_ff.mp (hmin v hv)
      rw [e] at this
      dsimp only at this
      (first | exact om418 hzc this | omega)
  · rw [hsz, ends_snoc, ← hzc]
    exact ints_snoc I.told
  · intro u hu v hv
    rw [List.map_append] at hu
    rcases List.mem_append.mp hu with hu | hu
    · exact I.below u hu v (hmW v hv)
    · have : u = one := by simpa using hu
      subst this
      exact hloW v (hmW v hv)
  · rw [List.map_append]
    refine List.pairwise_append.mpr ⟨I.sorted, by simp, ?_⟩
    intro u hu v hv
    have : v = one := by simpa using hv
    subst this
    exact I.below u hu v hoW
  · intro k hk3
    rw [hent, onl_snoc]
    dsimp only
    by_cases e : k = c
    · subst e
      rw [if_pos rfl, if_pos rfl]
      show Parts others' (it k ++ [.ref T]) (List.map _ (onl k (entl κ log) ++ [(p, w)]))
      rw [List.map_append]
      exact Parts.snoc (Parts.mono (I.parts k hk3) hs) hT
    · rw [if_neg e, if_neg (Ne.symm e)]
      exact Parts.mono (I.parts k hk3) hs
  · intro k hk3 v hv
    have old : ∀ j, j < 3 → v ∈ it j → ∃ T v1 v2, v = .ref T ∧ (T, tupObj v1 v2 0) ∈ others' := fun j hj hv => by
      obtain ⟨T, v1, v2, e, hm⟩ := I.tup0 j hj v hv
      exact ⟨T, v1, v2, e, hs _ hm⟩
    skip
    by_cases e : k = c
    · subst e
      rw [if_pos rfl] at hv
      rcases List.mem_append.mp hv with hv | hv
      · exact old k hk3 hv
      · rw [List.mem_singleton.mp hv]
        exact ⟨T, _, _, rfl, hT⟩
    · rw [if_neg e] at hv
      exact old k hk3 hv
end
section
-- P9
theorem fresh_P9 : True := by
  w_top off
  trivial
set_option maxHeartbeats 400000
noncomputable abbrev wtx (q : Nat × Nat) : Str := wtext q.1 q.2
noncomputable def flat (ws : List (Nat × Nat)) : List Nat := ws.flatMap fun q => 32 :: (wtx q).cps.toList
theorem flat_cons (q : Nat × Nat) (r : List (Nat × Nat)) : flat (q :: r) = 32 :: (wtx q).cps.toList ++ flat r := by simp [flat]
theorem blank_eq : Str.ofString " " = ⟨#[32]⟩ := by decide
theorem noneS_eq : Str.ofString "" = Str.empty := by decide
theorem cps_app (a b : Str) : (a ++ b).cps.toList = a.cps.toList ++ b.cps.toList := by
  rw [PySem.Str.cps_append]; simp
theorem join_flat : ∀ (ws : List (Nat × Nat)), (Str.join (Str.ofString "") (ws.map fun q => Str.ofString " " ++ wtx q)).cps.toList = flat ws
  | [] => by show Str.empty.cps.toList = []; rfl
  | [q] => by
    show (Str.ofString " " ++ wtx q).cps.toList = _
    rw [cps_app, blank_eq, flat_cons]
    simp [flat]
  | q :: q2 :: r => by
    show (Str.ofString " " ++ wtx q ++ Str.ofString "" ++ Str.join (Str.ofString "") ((q2 :: r).map fun q => Str.ofString " " ++ wtx q)).cps.toList = _
    rw [cps_app, cps_app, cps_app, join_flat (q2 :: r), flat_cons q, blank_eq, noneS_eq]
    simp [Str.empty]
theorem line_flat (ws : List (Nat × Nat)) : (ptext (ptx ws)).cps.toList = flat ws := by
  unfold ptext
  show (Builtin.Str.glued (Str.ofString "") _).cps.toList = _
  rw [StrLaws.glued_eq_join, List.map_map]
  exact join_flat ws
theorem glue_flat : ∀ (ws : List (Nat × Nat)) (a : Str), (Str.join (Str.ofString " ") (a :: ws.map wtx)).cps.toList = a.cps.toList ++ flat ws
  | [], a => by show a.cps.toList = _; simp [flat]
  | q :: r, a => by
    show (a ++ Str.ofString " " ++ Str.join (Str.ofString " ") (wtx q :: r.map wtx)).cps.toList = _
    rw [cps_app, cps_app, glue_flat r, flat_cons, blank_eq]
    simp
theorem cut_eq {c : Nat} : ∀ {a b x y : List Nat}, c ∉ a → c ∉ b → a ++ c :: x = b ++ c :: y → a = b ∧ x = y
  | [], [], _, _, _, _, h => ⟨rfl, (List.cons.inj h).2⟩
  | [], d :: b, _, _, _, hb, h => absurd (List.cons.inj h).1 (fun e => hb (by rw [← e]; exact .head _))
  | d :: a, [], _, _, ha, _, h => absurd (List.cons.inj h).1 (fun e => ha (by rw [e]; exact .head _))
  | d :: a, e :: b, x, y, ha, hb, h => by
    obtain ⟨h1, h2⟩ := List.cons.inj h
    obtain ⟨h3, h4⟩ := cut_eq (fun m => ha (.tail _ m)) (fun m => hb (.tail _ m)) h2
    exact ⟨by rw [h1, h3], h4⟩
theorem str_ext {a b : Str} (h : a.cps.toList = b.cps.toList) : a = b := PySem.Str.ext' (Array.toList_inj.mp h)
theorem join_inj {c : Nat} : ∀ {l1 l2 : List Str} {a b : Str}, (∀ p ∈ a :: l1, c ∉ p.cps.toList) → (∀ p ∈ b :: l2, c ∉ p.cps.toList) → (Str.join ⟨#[c]⟩ (a :: l1)).cps.toList = (Str.join ⟨#[c]⟩ (b :: l2)).cps.toList → a :: l1 = b :: l2
  | [], [], a, b, _, _, h => by rw [str_ext (a := a) (b := b) h]
  | [], y :: l2, a, b, h1, _, h => by
    exfalso
    have e : a.cps.toList = (b ++ ⟨#[c]⟩ ++ Str.join ⟨#[c]⟩ (y :: l2)).cps.toList := h
    rw [cps_app, cps_app] at e
    refine h1 a (.head _) ?_
    rw [e]
    simp
  | x :: l1, [], a, b, _, h2, h => by
    exfalso
    have e : (a ++ ⟨#[c]⟩ ++ Str.join ⟨#[c]⟩ (x :: l1)).cps.toList = b.cps.toList := h
    rw [cps_app, cps_app] at e
    refine h2 b (.head _) ?_
    rw [← e]
    simp
  | x :: l1, y :: l2, a, b, h1, h2, h => by
    have e : (a ++ ⟨#[c]⟩ ++ Str.join ⟨#[c]⟩ (x :: l1)).cps.toList = (b ++ ⟨#[c]⟩ ++ Str.join ⟨#[c]⟩ (y :: l2)).cps.toList := h
    rw [cps_app, cps_app, cps_app, cps_app] at e
    have e' : a.cps.toList ++ c :: (Str.join ⟨#[c]⟩ (x :: l1)).cps.toList = b.cps.toList ++ c :: (Str.join ⟨#[c]⟩ (y :: l2)).cps.toList := by simpa using e
    obtain ⟨q1, q2⟩ := cut_eq (h1 a (.head _)) (h2 b (.head _)) e'
    rw [str_ext q1, join_inj (fun p hp => h1 p (.tail _ hp)) (fun p hp => h2 p (.tail _ hp)) q2]
theorem split_ne (x y : Str) : ∃ p r, Txt.split x y = p :: r := by
  unfold Txt.split
  split
  · exact ⟨x, [], rfl⟩
  · split
    · exact ⟨x, [], rfl⟩
    · rw [StrLaws.partsBetween_eq]
      exact StrLaws.partsFrom_ne _ _ _ _
theorem wtext_free : ∀ p, p < 9 → ∀ l, l < 7 → 32 ∉ (wtext p l).cps.toList := by decide +kernel
theorem wtext_head : ∀ p, p < 9 → ∀ l, l < 7 → 1 ≤ l → (wtext p l).cps.toList.all Unicode.isSpace = false := by decide +kernel
theorem split_line {ws : List (Nat × Nat)} (h : ∀ q ∈ ws, q.1 < 9 ∧ 1 ≤ q.2 ∧ q.2 ≤ 6) : Txt.split (ptext (ptx ws)) (Str.ofString " ") = Str.empty :: ws.map wtx := by
  obtain ⟨p, r, e⟩ := split_ne (ptext (ptx ws)) (Str.ofString " ")
  have hj := StrLaws.join_split (ptext (ptx ws)) (Str.ofString " ")
  have hf := StrLaws.split_free (ptext (ptx ws)) 32
  rw [← blank_eq] at hf
  rw [e] at hj hf ⊢
  refine join_inj (c := 32) hf ?_ ?_
  · intro q hq
    rcases List.mem_cons.mp hq with rfl | hq
    · show 32 ∉ ([] : List Nat)
      simp
    · obtain ⟨x, hx, rfl⟩ := List.mem_map.mp hq
      have := h x hx
      exact wtext_free x.1 this.1 x.2 (by (first | exact om265 this | omega))
  · rw [← blank_eq, hj, line_flat, glue_flat]
    rfl
theorem line_not_space {ws : List (Nat × Nat)} (h : ∀ q ∈ ws, q.1 < 9 ∧ 1 ≤ q.2 ∧ q.2 ≤ 6) (hne : ws ≠ []) : Txt.isspace (ptext (ptx ws)) = false := by
  obtain ⟨q, r, rfl⟩ : ∃ q r, ws = q :: r := by
    cases ws with
    | nil => exact absurd rfl hne
    | cons q r => exact ⟨q, r, rfl⟩
  have hq := h q (.head _)
  have e : (ptext (ptx (q :: r))).cps.all Unicode.isSpace = false := by
    rw [← Array.all_toList, line_flat, flat_cons, List.cons_append, List.all_cons, List.all_append]
    have := wtext_head q.1 hq.1 q.2 (by (first | exact om265 hq | omega)) hq.2.1
    rw [show (wtx q).cps.toList.all Unicode.isSpace = false from this]
    simp
  unfold Txt.isspace
  rw [e, Bool.and_false]
end
section
-- P10
theorem fresh_P10 : True := by
  w_top off
  trivial
set_option maxHeartbeats 400000
theorem line_ok {ws : List (Nat × Nat)} (h : ∀ q ∈ ws, q.1 < 9 ∧ 1 ≤ q.2 ∧ q.2 ≤ 6) : PyData.strOk (ptext (ptx ws)) = true := by
  unfold PyData.strOk
  rw [← Array.all_toList, line_flat]
  induction ws with
  | nil => rfl
  | cons q r ih =>
    rw [flat_cons, List.cons_append, List.all_cons, List.all_append, ih fun x hx => h x (.tail _ hx)]
    have hq := h q (.head _)
    have := wtext_ok q.1 hq.1 q.2 (by (first | exact om265 hq | omega))
    unfold PyData.strOk at this
    rw [← Array.all_toList] at this
    rw [this]
    decide
theorem strs_reads {h : Heap} : ∀ {vs : List Value} {xs : List Str}, StrsAre vs xs → ∃ as, ReadsAll h vs (xs.map PyData.str) as
  | _, _, .nil => ⟨_, .nil⟩
  | _, _, .cons x t r => by
    obtain ⟨as, r'⟩ := strs_reads (h := h) r
    exact ⟨_, .cons (.str _ _) r'⟩
theorem strs_lay : ∀ {xs : List Str}, (∀ x ∈ xs, PyData.strOk x = true) → PyData.canLayAll0 (xs.map PyData.str) = true ∧ PyData.depthAll (xs.map PyData.str) ≤ 2
  | [], _ => by simp [PyData.canLayAll0, PyData.depthAll]
  | x :: r, h => by
    obtain ⟨c, d⟩ := strs_lay (xs := r) fun u hu => h u (.tail _ hu)
    have hx := h x (.head _)
    rw [List.map_cons]
    constructor
    · simp only [PyData.canLayAll0, c, Bool.and_true]
      simp [PyData.canLay0, hx]
    · simp only [PyData.depthAll]
      have : PyData.depth (.str x) ≤ 2 := by simp [PyData.depth]
      omega
theorem strs_shaped {xs : List Str} (h : ∀ x ∈ xs, PyData.strOk x = true) : SeqAt.shaped (.list (xs.map PyData.str)) = true := by
  obtain ⟨a, b⟩ := strs_lay h
  unfold SeqAt.shaped
  rw [Bool.and_eq_true]
  refine ⟨by simpa [PyData.canLay0] using a, ?_⟩
  refine decide_eq_true ?_
  simp only [PyData.depth]
  (first | exact om266 b | omega)
theorem strs_eqv : ∀ l : List Str, PyData.eqvAll (l.map PyData.str) (l.map PyData.str) = true
  | [] => by simp [PyData.eqvAll]
  | a :: r => by
    rw [List.map_cons]
    simp only [PyData.eqvAll, strs_eqv r, Bool.and_true]
    simp [PyData.eqv]
section
variable {prog : Program} {w : World} {A : Around} {E : Value → Shared → Prop} {s : Shared} {h₀ : Heap} {L : Addr} {news : List (Addr × Obj)} {Q : Value → Shared → Prop}
/-- two lists of the same texts -/
theorem strs_same {a b : Addr} {V W : List Value} {xs : List Str} {n k : Nat} (N : News h₀ L s.heap news) (ha : (a, listOf V.toArray n) ∈ news) (hb : (b, listOf W.toArray k) ∈ news) (h1 : StrsAre V xs) (h2 : StrsAre W xs) (ok : ∀ x ∈ xs, PyData.strOk x = true) (hu : A.units + 64 < cLine)
    (h : Q (.bool false) s) : wpAny (model prog w) A (compareOp .NotEq (.ref a) (.ref b)) Q E s := by
  obtain ⟨as, r1⟩ := strs_reads (h := s.heap) h1
  obtain ⟨bs, r2⟩ := strs_reads (h := s.heap) h2
  have q1 : Reads s.heap (.ref a) (.list (xs.map PyData.str)) _ := reads_list_at (N.get ha) rfl rfl r1
  have q2 : Reads s.heap (.ref b) (.list (xs.map PyData.str)) _ := reads_list_at (N.get hb) rfl rfl r2
  refine ne_dataH q1 q2 (strs_shaped ok) (strs_shaped ok) hu ?_
  have e2 : (!PyData.eqv (.list (xs.map PyData.str)) (.list (xs.map PyData.str))) = false := by
    simp only [PyData.eqv, strs_eqv, Bool.not_true]
  rw [e2]
  exact h
end
end
section
-- S1
theorem fresh_S1 : True := by
  w_top off
  trivial
set_option maxHeartbeats 1000000
/-- the body of the while that stands first -/
noncomputable def wBody : List Stmt → List Stmt
  | .While _ b _ _ :: _ => b
  | _ => []
section
variable {prog : Program} {w : World} {A : Around} {E : Value → Shared → Prop} {s : Shared} {h₀ : Heap} {L a : Addr} {news : List (Addr × Obj)} {xs : List Value} {n : Nat} {u : Tok} {v : Value}
/-- xs[-1] -/
theorem r_last {value slice : Expr} {Q : Value → Shared → Prop} (N : News h₀ L s.heap news) (hm : (a, listOf (xs ++ [v]).toArray n) ∈ news) 
    (h : Q v s)
    (hs : subscripted slice false (.ref a) (.int (-1) u) = operate [.ref a, .int (-1) u] (getItem (.ref a) (.int (-1) u)) := by with_unfolding_all rfl) (hg : ∀ r, letTemporaryGo value (.ref a) r = pure () := by intro _; with_unfolding_all rfl) :
    wpAny (model prog w) A (subscriptTail value slice (.ref a) (.int (-1) u)) Q E s :=
  kim_back N hm rfl rfl (by decide) (by simp; (first | exact om419 | omega)) (by decide) (by
    have e : (-1 + ((xs ++ [v]).length : Int)).toNat = xs.length := by simp; omega
    rw [e]
    simp) h hs hg
end
theorem nodup_ne {F : List Nat} (h : F.Nodup) : ∀ i j (_ : i < j) (hj : j < F.length), F.getD i 0 ≠ F.getD j 0 := fun i j hij hj => by
  have := List.pairwise_iff_getElem.mp h i j (by (first | exact om420 hij hj | omega)) hj hij
  rw [List.getD_eq_getElem?_getD, List.getD_eq_getElem?_getD, List.getElem?_eq_getElem hj, List.getElem?_eq_getElem (by (first | exact om420 hij hj | omega))]
  exact this
set_option maxHeartbeats 8000000 in
theorem turn_ok {w : World} {base h₀ : Heap} {L fa : Nat} {cd : Value} {m : Str → Option Value} {s : Shared} {oc : Obj}
    {p : Program} {loose : List Str} {mean : ExcName → Option Value} {mg mb : Str → Option Value} {wl mk hp ld td q : Nat} {xs tl laid told items : List Value} {l v0 v1 v2 : Value} {nw nl nt nh n5 kq c pw lw : Nat} {M : MkD} {zh z : Int} {tz tq1 tq2 : Tok} {ps : Array Value} {parts : List (Str × Str)} {others : List (Addr × Obj)}
    {R : Flow → Shared → Prop} (κ κ2 : Value → Int × Int)
    (B : Below callerA base [] h₀) (F : Fr h₀ L s.heap m) (X : (hd.heap_39 w.params).In h₀) (T : Top p loose mean mg mb h₀) (hcl : oc.data = .cell (some (.ref mk))) (G : AllBare s.gens)
    (N : News h₀ L s.heap ((182, tabObj ps) :: (M.a, accObj M.da items n5) :: (M.v, instObj 136 M.d) :: (M.d, vfDict M.kh M.kt M.vt M.ln M.a M.kd) :: (M.da, accDict M.hs M.t zh tz M.k) :: (wl, listOf (xs ++ [l]).toArray nw) :: (ld, listOf laid.toArray nl) :: (td, listOf told.toArray nt) :: (hp, listOf (.ref q :: tl).toArray nh) :: (mk, listOf [v0, v1, v2].toArray 3) :: (L + 1, oc) :: (q, listOf #[.int z tq1, .int ((c : Nat) : Int) tq2] kq) :: others))
    (hm1 : m (Str.ofString "words") = some (.ref wl)) (hm2 : m (Str.ofString "laid") = some (.ref ld)) (hm3 : m (Str.ofString "told") = some (.ref td)) (hm4 : m (Str.ofString "heap") = some (.ref hp))
    (hD : [182, M.a, wl, ld, td, hp].Nodup) (hO : ∀ r ∈ (M.v, instObj 136 M.d) :: (M.d, vfDict M.kh M.kt M.vt M.ln M.a M.kd) :: (M.da, accDict M.hs M.t zh tz M.k) :: (mk, listOf [v0, v1, v2].toArray 3) :: (L + 1, oc) :: (q, listOf #[.int z tq1, .int ((c : Nat) : Int) tq2] kq) :: others, r.1 ∉ [182, M.a, wl, ld, td, hp]) (hps : TabOk ⟨139, 19, 139, 63⟩ ps)
    (hc : c < 3) (hmk : [v0, v1, v2].getD c .none = .ref M.v)
    (hIW : ∀ v ∈ xs ++ [l], ∃ p l, p < 9 ∧ 1 ≤ l ∧ l ≤ 6 ∧ WordAt others v p l ∧ κ v = ((l : Int) + 1, (p : Int))) (hpW : (xs ++ [l]).Pairwise (fun u v => (κ u).2 ≠ (κ v).2)) (hxl : xs.length < 9)
    (hone : WordAt others (hpop κ xs l).1 pw lw) (hpw : pw < 9 ∧ 1 ≤ lw ∧ lw ≤ 6)
    (hq : κ2 (.ref q) = (z, (c : Int))) (htl2 : tl.length = 2) (htl : ∀ v ∈ tl, PairAt others v (κ2 v)) (hmin : ∀ v ∈ tl, klt (κ2 v) (z, (c : Int)) = false ∧ (κ2 v).2 ≠ (c : Int)) (hpt : tl.Pairwise (fun u v => (κ2 u).2 ≠ (κ2 v).2))
    (hparts : Parts others items parts) (hz : z = zh + (plen parts : Nat)) (hz80 : z + ((lw : Int) + 1) ≤ 80) (hzh : 0 ≤ zh) (hpl : parts.length ≤ 9) (hpf : ∀ r ∈ parts, r.1.length < 2 ^ 9 ∧ r.2.length < 2 ^ 9) (hll : laid.length < 900) (htl9 : told.length < 900)
    (next : ∀ h' tk gs m' ps' (T q' : Nat) tf tx ta tb tt, AllBare gs → Fr h₀ L h' m' → m' (Str.ofString "words") = some (.ref wl) → m' (Str.ofString "laid") = some (.ref ld) → m' (Str.ofString "told") = some (.ref td) → m' (Str.ofString "heap") = some (.ref hp) → m' (Str.ofString "heads") = m (Str.ofString "heads") → m' (Str.ofString "due") = m (Str.ofString "due") →
      News h₀ L h' ((182, tabObj ps') :: (M.a, accObj M.da (items ++ [.ref T]) (n5 + 1)) :: (M.v, instObj 136 M.d) :: (M.d, vfDict M.kh M.kt M.vt M.ln M.a M.kd) :: (M.da, accDict M.hs M.t zh tz M.k) :: (wl, listOf (hpop κ xs l).2.toArray (nw + 1)) :: (ld, listOf (laid ++ [(hpop κ xs l).1]).toArray (nl + 1)) :: (td, listOf (told ++ [Value.int (z + ((lw : Int) + 1)) tt]).toArray (nt + 1)) ::
        (hp, listOf (siftup (kput κ2 q' (z + ((lw : Int) + 1), (c : Int))) 0 (.ref q' :: tl)).toArray nh) :: (mk, listOf [v0, v1, v2].toArray 3) :: (L + 1, oc) :: (q', listOf #[.int (z + ((lw : Int) + 1)) ta, .int ((c : Nat) : Int) tb] 0) :: (T, tupObj (.str (Str.ofString " ") tf) (.str (wtext pw lw) tx) 0) :: (q, listOf #[.int z tq1, .int ((c : Nat) : Int) tq2] kq) :: others) →
      TabOk ⟨139, 19, 139, 63⟩ ps' → (∀ r ∈ (182, tabObj ps) :: (M.a, accObj M.da items n5) :: (M.v, instObj 136 M.d) :: (M.d, vfDict M.kh M.kt M.vt M.ln M.a M.kd) :: (M.da, accDict M.hs M.t zh tz M.k) :: (wl, listOf (xs ++ [l]).toArray nw) :: (ld, listOf laid.toArray nl) :: (td, listOf told.toArray nt) :: (hp, listOf (.ref q :: tl).toArray nh) :: (mk, listOf [v0, v1, v2].toArray 3) :: (L + 1, oc) :: (q, listOf #[.int z tq1, .int ((c : Nat) : Int) tq2] kq) :: others, r.1 < T) → T < q' →
      R .next { s with heap := h', toks := tk, gens := gs }) :
    wpAny (model Challenge.rw_nb0237_01.row.prog w) (callerA.deeper (lawEnv w L fa cd)) (execs (wBody ((lawFn w).1.drop 10)) (lawEnv w L fa cd)) R (fun _ _ => False) s := by
  revert X; k_fill; intro X
  have hfn := law_eq (w := w) (by k_is)
  unfold lawEnv at ⊢
  rw [hfn]
  dsimp only [fnOfObj, List.drop, wBody]
  clear hfn
  have hnD : ∀ i j, i < j → j < 6 → [182, M.a, wl, ld, td, hp].getD i 0 ≠ [182, M.a, wl, ld, td, hp].getD j 0 := fun i j h1 h2 => nodup_ne hD i j h1 h2
  replace F := fr_kst [(Str.ofString "words", .ref wl), (Str.ofString "laid", .ref ld), (Str.ofString "told", .ref td), (Str.ofString "heap", .ref hp)] (all_cons (by assumption) (all_cons (by assumption) (all_cons (by assumption) (all_cons (by assumption) (fun _ h => nomatch h))))) F
  have hO5 := hO
  have hnW : ∀ r ∈ (182, tabObj ps) :: (M.a, accObj M.da items n5) :: (M.v, instObj 136 M.d) :: (M.d, vfDict M.kh M.kt M.vt M.ln M.a M.kd) :: (M.da, accDict M.hs M.t zh tz M.k) :: (ld, listOf laid.toArray nl) :: (td, listOf told.toArray nt) :: (hp, listOf (.ref q :: tl).toArray nh) :: (mk, listOf [v0, v1, v2].toArray 3) :: (L + 1, oc) :: (q, listOf #[.int z tq1, .int ((c : Nat) : Int) tq2] kq) :: others, r.1 ≠ wl := by
    have g : ∀ r ∈ (M.v, instObj 136 M.d) :: (M.d, vfDict M.kh M.kt M.vt M.ln M.a M.kd) :: (M.da, accDict M.hs M.t zh tz M.k) :: (mk, listOf [v0, v1, v2].toArray 3) :: (L + 1, oc) :: (q, listOf #[.int z tq1, .int ((c : Nat) : Int) tq2] kq) :: others, r.1 ≠ wl := fun r hr e => hO r hr (by rw [e]; simp)
    exact all_cons ((hnD 0 2 (by decide) (by decide))) (all_cons ((hnD 1 2 (by decide) (by decide))) (all_cons (g _ (.head _)) (all_cons (g _ (.tail _ (.head _))) (all_cons (g _ (.tail _ (.tail _ (.head _)))) (all_cons ((hnD 2 3 (by decide) (by decide)).symm) (all_cons ((hnD 2 4 (by decide) (by decide)).symm) (all_cons ((hnD 2 5 (by decide) (by decide)).symm) fun r hr => g r (.tail _ (.tail _ (.tail _ hr))))))))))
  have hxl' := hxl
  iterate 8 walk1
  refine ⟨X.keeps F.keep, ?_⟩
  refine heappop_ok κ B F X (News.reord N (l' := (wl, listOf (xs ++ [l]).toArray nw) :: (182, tabObj ps) :: (M.a, accObj M.da items n5) :: (M.v, instObj 136 M.d) :: (M.d, vfDict M.kh M.kt M.vt M.ln M.a M.kd) :: (M.da, accDict M.hs M.t zh tz M.k) :: (ld, listOf laid.toArray nl) :: (td, listOf told.toArray nt) :: (hp, listOf (.ref q :: tl).toArray nh) :: (mk, listOf [v0, v1, v2].toArray 3) :: (L + 1, oc) :: (q, listOf #[.int z tq1, .int ((c : Nat) : Int) tq2] kq) :: others) (by exact sub_ixr [5, 0, 1, 2, 3, 4] 6 rfl)) T rfl rfl rfl (by show callerA.depth + 1 + 2 < recursionLimit; decide) (by show callerA.units + 3 + 40 < cLine; decide) hnW ?_ (by (first | exact om421 hxl | omega)) (pw_idx hpW) ?_
  · intro v hv
    obtain ⟨p, l, _, _, _, hw, hk⟩ := hIW v hv
    rw [hk]
    exact hw.item.mono (by exact sub_ixr [] 11 rfl)
  intro h1 tk1 F1 N1
  obtain ⟨one, to1, to2, to3, no, hone1, honem⟩ := hone
  generalize hpop κ xs l = pq at *
  obtain ⟨one', W'⟩ := pq
  dsimp only at hone1 N1
  subst hone1
  dsimp only
  iterate 8 walk1
  iterate 3 walk1
  rename Fr h₀ L _ _ => F2
  rename News h₀ L _ _ => N2
  refine r_append F2 (News.reord N2 (l' := (ld, listOf laid.toArray nl) :: (wl, listOf W'.toArray (nw + 1)) :: (182, tabObj ps) :: (M.a, accObj M.da items n5) :: (M.v, instObj 136 M.d) :: (M.d, vfDict M.kh M.kt M.vt M.ln M.a M.kd) :: (M.da, accDict M.hs M.t zh tz M.k) :: (td, listOf told.toArray nt) :: (hp, listOf (.ref q :: tl).toArray nh) :: (mk, listOf [v0, v1, v2].toArray 3) :: (L + 1, oc) :: (q, listOf #[.int z tq1, .int ((c : Nat) : Int) tq2] kq) :: others) (by exact sub_ixr [6, 0, 1, 2, 3, 4, 5] 7 rfl)) ?_ (by (first | exact om68 hll | omega)) ?_
  · have g : ∀ r ∈ (M.v, instObj 136 M.d) :: (M.d, vfDict M.kh M.kt M.vt M.ln M.a M.kd) :: (M.da, accDict M.hs M.t zh tz M.k) :: (mk, listOf [v0, v1, v2].toArray 3) :: (L + 1, oc) :: (q, listOf #[.int z tq1, .int ((c : Nat) : Int) tq2] kq) :: others, r.1 ≠ ld := fun r hr e => hO r hr (by rw [e]; simp)
    exact all_cons ((hnD 2 3 (by decide) (by decide))) (all_cons ((hnD 0 3 (by decide) (by decide))) (all_cons ((hnD 1 3 (by decide) (by decide))) (all_cons (g _ (.head _)) (all_cons (g _ (.tail _ (.head _))) (all_cons (g _ (.tail _ (.tail _ (.head _)))) (all_cons ((hnD 3 4 (by decide) (by decide)).symm) (all_cons ((hnD 3 5 (by decide) (by decide)).symm) fun r hr => g r (.tail _ (.tail _ (.tail _ hr))))))))))
  intro h2 F2 N2
  walk_at "my go"
  rename Fr h₀ L _ _ => F3
  rename News h₀ L _ _ => N3
  have hmq : (q, listOf #[.int z tq1, .int ((c : Nat) : Int) tq2] kq) ∈ (ld, listOf (laid ++ [Value.ref one]).toArray (nl + 1)) :: (wl, listOf W'.toArray (nw + 1)) :: (182, tabObj ps) :: (M.a, accObj M.da items n5) :: (M.v, instObj 136 M.d) :: (M.d, vfDict M.kh M.kt M.vt M.ln M.a M.kd) :: (M.da, accDict M.hs M.t zh tz M.k) :: (td, listOf told.toArray nt) :: (hp, listOf (.ref q :: tl).toArray nh) :: (mk, listOf [v0, v1, v2].toArray 3) :: (L + 1, oc) :: (q, listOf #[.int z tq1, .int ((c : Nat) : Int) tq2] kq) :: others := by repeat (first | exact List.Mem.head _ | apply List.Mem.tail)
  refine min_first κ2 rfl (by show callerA.units + 3 + 1 < cLine; decide) F3 N3 (fun h Nh => News.isList Nh (show (hp, listOf (Value.ref q :: tl).toArray nh) ∈ _ by repeat (first | exact List.Mem.head _ | apply List.Mem.tail))) ?_ (by rw [hq]; exact hmin) ?_
  · intro v hv
    rcases List.mem_cons.mp hv with rfl | hv
    · rw [hq]; exact ⟨q, _, _, _, _, rfl, hmq, rfl, rfl⟩
    · exact (htl v hv).item.mono (by exact sub_ixr [] 12 rfl)
  intro h3 tk3 F4 N4
  refine pair_ne_self N4 hmq (by show callerA.units + 3 + 64 < cLine; decide) ?_
  walk_at "my go"
  rename Fr h₀ L _ _ => F5
  rename News h₀ L _ _ => N5
  refine r_item (a := mk) (k := ((c : Nat) : Int)) (xs := [v0, v1, v2]) (n := 3) N5 (by exact mem_ix 9 rfl) (by (first | exact om2 | omega)) (by simp; (first | exact om422 hc | omega)) (by (first | exact om212 hc | omega)) ?_
  have emk : [v0, v1, v2].getD ((c : Nat) : Int).toNat .none = .ref M.v := hmk
  rw [emk]
  walk_at "my go"
  rename Fr h₀ L _ _ => F6
  rename News h₀ L _ _ => N6
  refine r_item (a := one) (k := 2) (xs := [.int ((lw : Int) + 1) to1, .int (pw : Int) to2, .str (wtext pw lw) to3]) (n := no) N6 (by repeat (first | exact honem | apply List.Mem.tail)) (by omega) (by simp) (by omega) ?_
  have eon : [Value.int ((lw : Int) + 1) to1, .int (pw : Int) to2, .str (wtext pw lw) to3].getD (2 : Int).toNat .none = .str (wtext pw lw) to3 := rfl
  rw [eon]
  iterate 1 walk1
  rename Fr h₀ L _ _ => F7
  rename News h₀ L _ _ => N7
  refine ⟨X.keeps F7.keep, ?_⟩
  have hwl9 : (wtext pw lw).length = lw := wtext_len pw hpw.1 lw (by (first | exact om265 hpw | omega))
  have gA : ∀ r ∈ (M.v, instObj 136 M.d) :: (M.d, vfDict M.kh M.kt M.vt M.ln M.a M.kd) :: (M.da, accDict M.hs M.t zh tz M.k) :: (mk, listOf [v0, v1, v2].toArray 3) :: (L + 1, oc) :: (q, listOf #[.int z tq1, .int ((c : Nat) : Int) tq2] kq) :: others, r.1 ≠ M.a := fun r hr e => hO r hr (by rw [e]; simp)
  have gP : ∀ r ∈ (M.v, instObj 136 M.d) :: (M.d, vfDict M.kh M.kt M.vt M.ln M.a M.kd) :: (M.da, accDict M.hs M.t zh tz M.k) :: (mk, listOf [v0, v1, v2].toArray 3) :: (L + 1, oc) :: (q, listOf #[.int z tq1, .int ((c : Nat) : Int) tq2] kq) :: others, r.1 ≠ 182 := fun r hr e => hO r hr (by rw [e]; simp)
  have gA2 : ∀ r ∈ (M.v, instObj 136 M.d) :: (M.d, vfDict M.kh M.kt M.vt M.ln M.a M.kd) :: (M.da, accDict M.hs M.t zh tz M.k) :: (wl, listOf W'.toArray (nw + 1)) :: (ld, listOf (laid ++ [Value.ref one]).toArray (nl + 1)) :: (td, listOf told.toArray nt) :: (hp, listOf (.ref q :: tl).toArray nh) :: (mk, listOf [v0, v1, v2].toArray 3) :: (L + 1, oc) :: (q, listOf #[.int z tq1, .int ((c : Nat) : Int) tq2] kq) :: others, r.1 ≠ M.a :=
    all_cons (gA _ (.head _)) (all_cons (gA _ (.tail _ (.head _))) (all_cons (gA _ (.tail _ (.tail _ (.head _)))) (all_cons ((hnD 1 2 (by decide) (by decide)).symm) (all_cons ((hnD 1 3 (by decide) (by decide)).symm) (all_cons ((hnD 1 4 (by decide) (by decide)).symm) (all_cons ((hnD 1 5 (by decide) (by decide)).symm) fun r hr => gA r (.tail _ (.tail _ (.tail _ hr)))))))))
  have gP2 : ∀ r ∈ (M.v, instObj 136 M.d) :: (M.d, vfDict M.kh M.kt M.vt M.ln M.a M.kd) :: (M.da, accDict M.hs M.t zh tz M.k) :: (wl, listOf W'.toArray (nw + 1)) :: (ld, listOf (laid ++ [Value.ref one]).toArray (nl + 1)) :: (td, listOf told.toArray nt) :: (hp, listOf (.ref q :: tl).toArray nh) :: (mk, listOf [v0, v1, v2].toArray 3) :: (L + 1, oc) :: (q, listOf #[.int z tq1, .int ((c : Nat) : Int) tq2] kq) :: others, r.1 ≠ 182 :=
    all_cons (gP _ (.head _)) (all_cons (gP _ (.tail _ (.head _))) (all_cons (gP _ (.tail _ (.tail _ (.head _)))) (all_cons ((hnD 0 2 (by decide) (by decide)).symm) (all_cons ((hnD 0 3 (by decide) (by decide)).symm) (all_cons ((hnD 0 4 (by decide) (by decide)).symm) (all_cons ((hnD 0 5 (by decide) (by decide)).symm) fun r hr => gP r (.tail _ (.tail _ (.tail _ hr)))))))))
  refine append_ok (a := M.a) (n := n5) (z := zh) (parts := parts) (x := wtext pw lw) B F7 X (News.reord N7 (l' := (182, tabObj ps) :: (M.a, accObj M.da items n5) :: (M.v, instObj 136 M.d) :: (M.d, vfDict M.kh M.kt M.vt M.ln M.a M.kd) :: (M.da, accDict M.hs M.t zh tz M.k) :: (wl, listOf W'.toArray (nw + 1)) :: (ld, listOf (laid ++ [Value.ref one]).toArray (nl + 1)) :: (td, listOf told.toArray nt) :: (hp, listOf (.ref q :: tl).toArray nh) :: (mk, listOf [v0, v1, v2].toArray 3) :: (L + 1, oc) :: (q, listOf #[.int z tq1, .int ((c : Nat) : Int) tq2] kq) :: others) (by exact sub_ixr [2, 3, 4, 5, 6, 1, 0] 7 rfl)) T rfl rfl rfl rfl (by show callerA.depth + 1 + 3 < recursionLimit; decide) (by show callerA.units + 3 + 80 < cLine; decide) G hps (all_cons ((hnD 0 1 (by decide) (by decide)).symm) gP2) gA2 (hparts.mono (by exact sub_ixr [] 7 rfl)) (fun r hr => by have := hpf r hr; (first | exact om119 this | omega)) (by (first | exact om423 hpw hwl9 | omega)) (by (first | exact om424 hpl | omega)) hzh (by rw [hwl9]; (first | exact om425 hz hz80 | omega)) ?_
  intro h8 tk8 gs8 ps8 T8 tf8 tx8 F8 N8 hps8 G8 lt8
  iterate 16 walk1
  rename Fr h₀ L _ _ => F9
  rename News h₀ L _ _ => N9
  have lt182 : ∀ r ∈ others, r.1 ≠ 182 := fun r hr => gP r (.tail _ (.tail _ (.tail _ (.tail _ (.tail _ (.tail _ hr))))))
  have hT182 : @Ne Nat T8 182 := Nat.ne_of_gt (lt8 (182, tabObj ps) (.head _))
  have hpf2 : ∀ r ∈ parts ++ [(Str.ofString " ", wtext pw lw)], r.1.length < 2 ^ 40 ∧ r.2.length < 2 ^ 40 := by
    intro r hr
    rcases List.mem_append.mp hr with hr | hr
    · have := hpf r hr
      (first | exact om426 this | omega)
    · rw [List.mem_singleton.mp hr]
      exact ⟨by show (Str.ofString " ").length < 2 ^ 40; decide, by show (wtext pw lw).length < 2 ^ 40; (first | exact om427 hpw hwl9 | omega)⟩
  refine acclen_ok (parts := parts ++ [(Str.ofString " ", wtext pw lw)]) B F9 X (News.reord N9 (l' := (182, tabObj ps8) :: (M.a, accObj M.da (items ++ [.ref T8]) (n5 + 1)) :: (T8, tupObj (.str (Str.ofString " ") tf8) (.str (wtext pw lw) tx8) 0) :: (M.v, instObj 136 M.d) :: (M.d, vfDict M.kh M.kt M.vt M.ln M.a M.kd) :: (M.da, accDict M.hs M.t zh tz M.k) :: (wl, listOf W'.toArray (nw + 1)) :: (ld, listOf (laid ++ [Value.ref one]).toArray (nl + 1)) :: (td, listOf told.toArray nt) :: (hp, listOf (.ref q :: tl).toArray nh) :: (mk, listOf [v0, v1, v2].toArray 3) :: (L + 1, oc) :: (q, listOf #[.int z tq1, .int ((c : Nat) : Int) tq2] kq) :: others) (by exact sub_ixr [0, 1, 5, 2, 3, 4] 6 rfl)) T rfl rfl rfl rfl (by show callerA.depth + 1 + 1 < recursionLimit; decide) (by show callerA.units + 3 + 1 + 40 < cLine; decide) G8 (by exact mem_ix 3 rfl) hps8 (all_cons ((hnD 0 1 (by decide) (by decide)).symm) (all_cons hT182 gP2)) (Parts.snoc (hparts.mono (by exact sub_ixr [] 11 rfl)) (.head _)) hpf2 ?_
  intro h10 tk10 gs10 ps10 t10 F10 N10 hps10 G10
  have hpe : ((plen (parts ++ [(Str.ofString " ", wtext pw lw)]) : Nat) : Int) = (plen parts : Nat) + ((lw : Int) + 1) := by
    have e1 : (Str.ofString " ").length = 1 := by decide
    simp [plen, e1, hwl9]
    (first | exact om428 | omega)
  have hze : zh + ((plen (parts ++ [(Str.ofString " ", wtext pw lw)]) : Nat) : Int) = z + ((lw : Int) + 1) := by (first | exact om429 hz hpe | omega)
  refine ⟨⟨by (first | exact om430 hzh | omega), by (first | exact om431 hz hz80 hpe | omega)⟩, ?_⟩
  rw [hze]
  iterate 1 walk1
  rename Fr h₀ L _ _ => F11
  rename News h₀ L _ _ => N11
  refine r_append F11 (News.reord N11 (l' := (td, listOf told.toArray nt) :: (182, tabObj ps10) :: (M.a, accObj M.da (items ++ [.ref T8]) (n5 + 1)) :: (T8, tupObj (.str (Str.ofString " ") tf8) (.str (wtext pw lw) tx8) 0) :: (M.v, instObj 136 M.d) :: (M.d, vfDict M.kh M.kt M.vt M.ln M.a M.kd) :: (M.da, accDict M.hs M.t zh tz M.k) :: (wl, listOf W'.toArray (nw + 1)) :: (ld, listOf (laid ++ [Value.ref one]).toArray (nl + 1)) :: (hp, listOf (.ref q :: tl).toArray nh) :: (mk, listOf [v0, v1, v2].toArray 3) :: (L + 1, oc) :: (q, listOf #[.int z tq1, .int ((c : Nat) : Int) tq2] kq) :: others) (by exact sub_ixr [8, 0, 1, 2, 3, 4, 5, 6, 7] 9 rfl)) ?_ (by (first | exact om68 htl9 | omega)) ?_
  · have g : ∀ r ∈ (M.v, instObj 136 M.d) :: (M.d, vfDict M.kh M.kt M.vt M.ln M.a M.kd) :: (M.da, accDict M.hs M.t zh tz M.k) :: (mk, listOf [v0, v1, v2].toArray 3) :: (L + 1, oc) :: (q, listOf #[.int z tq1, .int ((c : Nat) : Int) tq2] kq) :: others, r.1 ≠ td := fun r hr e => hO r hr (by rw [e]; simp)
    exact all_cons ((hnD 0 4 (by decide) (by decide))) (all_cons ((hnD 1 4 (by decide) (by decide))) (all_cons (Nat.ne_of_gt (lt8 (td, listOf told.toArray nt) (by exact mem_ix 7 rfl))) (all_cons (g _ (.head _)) (all_cons (g _ (.tail _ (.head _))) (all_cons (g _ (.tail _ (.tail _ (.head _)))) (all_cons ((hnD 2 4 (by decide) (by decide))) (all_cons ((hnD 3 4 (by decide) (by decide))) (all_cons ((hnD 4 5 (by decide) (by decide)).symm) fun r hr => g r (.tail _ (.tail _ (.tail _ hr)))))))))))
  intro h11 F12 N12
  walk_at "my go"
  rename Fr h₀ L _ _ => F13
  rename News h₀ L _ _ => N13
  refine r_last (a := td) (xs := told) (n := nt + 1) N13 (.head _) ?_
  walk_at "my go"
  rename Fr h₀ L _ _ => F14
  rename News h₀ L _ _ => N14
  refine r_item (a := one) (k := 0) (xs := [.int ((lw : Int) + 1) to1, .int (pw : Int) to2, .str (wtext pw lw) to3]) (n := no) N14 (by repeat (first | exact honem | apply List.Mem.tail)) (by omega) (by simp) (by omega) ?_
  have eon2 : [Value.int ((lw : Int) + 1) to1, .int (pw : Int) to2, .str (wtext pw lw) to3].getD (0 : Int).toNat .none = .int ((lw : Int) + 1) to1 := rfl
  rw [eon2]
  walk_at "my go"
  · rename (z + ((lw : Int) + 1)) ≠ _ => hbad
    exact absurd rfl hbad
  rename Fr h₀ L _ _ => F15
  rename News h₀ L _ _ => N15
  refine r_last (a := td) (xs := told) (n := nt + 1) N15 (.head _) ?_
  iterate 8 walk1
  rename Fr h₀ L _ _ => F16
  rename News h₀ L _ _ => N16
  rename_i q' _ l16
  have lq : ∀ r ∈ (td, listOf (told ++ [Value.int (z + ((lw : Int) + 1)) tk10]).toArray (nt + 1)) :: (182, tabObj ps10) :: (M.a, accObj M.da (items ++ [.ref T8]) (n5 + 1)) :: (T8, tupObj (.str (Str.ofString " ") tf8) (.str (wtext pw lw) tx8) 0) :: (M.v, instObj 136 M.d) :: (M.d, vfDict M.kh M.kt M.vt M.ln M.a M.kd) :: (M.da, accDict M.hs M.t zh tz M.k) :: (wl, listOf W'.toArray (nw + 1)) :: (ld, listOf (laid ++ [Value.ref one]).toArray (nl + 1)) :: (hp, listOf (.ref q :: tl).toArray nh) :: (mk, listOf [v0, v1, v2].toArray 3) :: (L + 1, oc) :: (q, listOf #[.int z tq1, .int ((c : Nat) : Int) tq2] kq) :: others, r.1 < q' := ktn_ltOf l16
  clear l16
  refine ⟨X.keeps F16.keep, ?_⟩
  obtain ⟨t16, N16⟩ : ∃ t16, News h₀ L _ ((q', listOf #[.int (z + ((lw : Int) + 1)) tk10, .int ((c : Nat) : Int) t16] 0) :: (td, listOf (told ++ [Value.int (z + ((lw : Int) + 1)) tk10]).toArray (nt + 1)) :: (182, tabObj ps10) :: (M.a, accObj M.da (items ++ [.ref T8]) (n5 + 1)) :: (T8, tupObj (.str (Str.ofString " ") tf8) (.str (wtext pw lw) tx8) 0) :: (M.v, instObj 136 M.d) :: (M.d, vfDict M.kh M.kt M.vt M.ln M.a M.kd) :: (M.da, accDict M.hs M.t zh tz M.k) :: (wl, listOf W'.toArray (nw + 1)) :: (ld, listOf (laid ++ [Value.ref one]).toArray (nl + 1)) :: (hp, listOf (.ref q :: tl).toArray nh) :: (mk, listOf [v0, v1, v2].toArray 3) :: (L + 1, oc) :: (q, listOf #[.int z tq1, .int ((c : Nat) : Int) tq2] kq) :: others) := ⟨_, N16⟩
  have sub16 : ∀ r ∈ others, r ∈ (q', listOf #[.int (z + ((lw : Int) + 1)) tk10, .int ((c : Nat) : Int) t16] 0) :: (td, listOf (told ++ [Value.int (z + ((lw : Int) + 1)) tk10]).toArray (nt + 1)) :: (182, tabObj ps10) :: (M.a, accObj M.da (items ++ [.ref T8]) (n5 + 1)) :: (T8, tupObj (.str (Str.ofString " ") tf8) (.str (wtext pw lw) tx8) 0) :: (M.v, instObj 136 M.d) :: (M.d, vfDict M.kh M.kt M.vt M.ln M.a M.kd) :: (M.da, accDict M.hs M.t zh tz M.k) :: (wl, listOf W'.toArray (nw + 1)) :: (ld, listOf (laid ++ [Value.ref one]).toArray (nl + 1)) :: (mk, listOf [v0, v1, v2].toArray 3) :: (L + 1, oc) :: (q, listOf #[.int z tq1, .int ((c : Nat) : Int) tq2] kq) :: others := by exact sub_ixr [] 13 rfl
  have gH : ∀ r ∈ (M.v, instObj 136 M.d) :: (M.d, vfDict M.kh M.kt M.vt M.ln M.a M.kd) :: (M.da, accDict M.hs M.t zh tz M.k) :: (mk, listOf [v0, v1, v2].toArray 3) :: (L + 1, oc) :: (q, listOf #[.int z tq1, .int ((c : Nat) : Int) tq2] kq) :: others, r.1 ≠ hp := fun r hr e => hO r hr (by rw [e]; simp)
  have hqq : @LT.lt Nat _ q q' := lq (q, _) (by exact mem_ix 12 rfl)
  have lto : ∀ r ∈ others, r.1 < q' := fun r hr => lq r (by repeat (first | exact hr | apply List.Mem.tail))
  have kq' : kput κ2 q' (z + ((lw : Int) + 1), (c : Int)) (.ref q') = (z + ((lw : Int) + 1), (c : Int)) := kput_self κ2 q' _
  have kqq : kput κ2 q' (z + ((lw : Int) + 1), (c : Int)) (.ref q) = (z, (c : Int)) := by rw [kput_ne κ2 _ (Nat.ne_of_lt hqq), hq]
  have ktl : ∀ v ∈ tl, kput κ2 q' (z + ((lw : Int) + 1), (c : Int)) v = κ2 v := by
    intro v hv
    obtain ⟨a, _, _, _, rfl, ha⟩ := htl v hv
    exact kput_ne κ2 _ (Nat.ne_of_lt (lto _ ha))
  refine heapreplace_ok (xs := .ref q :: tl) (n := nh) (item := .ref q') (kput κ2 q' (z + ((lw : Int) + 1), (c : Int))) B F16 X (News.reord N16 (l' := (hp, listOf (.ref q :: tl).toArray nh) :: (q', listOf #[.int (z + ((lw : Int) + 1)) tk10, .int ((c : Nat) : Int) t16] 0) :: (td, listOf (told ++ [Value.int (z + ((lw : Int) + 1)) tk10]).toArray (nt + 1)) :: (182, tabObj ps10) :: (M.a, accObj M.da (items ++ [.ref T8]) (n5 + 1)) :: (T8, tupObj (.str (Str.ofString " ") tf8) (.str (wtext pw lw) tx8) 0) :: (M.v, instObj 136 M.d) :: (M.d, vfDict M.kh M.kt M.vt M.ln M.a M.kd) :: (M.da, accDict M.hs M.t zh tz M.k) :: (wl, listOf W'.toArray (nw + 1)) :: (ld, listOf (laid ++ [Value.ref one]).toArray (nl + 1)) :: (mk, listOf [v0, v1, v2].toArray 3) :: (L + 1, oc) :: (q, listOf #[.int z tq1, .int ((c : Nat) : Int) tq2] kq) :: others) (by exact sub_ixr [10, 0, 1, 2, 3, 4, 5, 6, 7, 8, 9] 11 rfl)) T rfl rfl rfl (by show callerA.depth + 1 + 2 < recursionLimit; decide) (by show callerA.units + 3 + 40 < cLine; decide) ?_ ?_ ?_ (by simp) (by simp; (first | exact om432 htl2 | omega)) ?_ ?_
  · exact all_cons (Nat.ne_of_gt (lq (hp, listOf (.ref q :: tl).toArray nh) (by exact mem_ix 9 rfl))) (all_cons ((hnD 4 5 (by decide) (by decide))) (all_cons ((hnD 0 5 (by decide) (by decide))) (all_cons ((hnD 1 5 (by decide) (by decide))) (all_cons (Nat.ne_of_gt (lt8 (hp, listOf (.ref q :: tl).toArray nh) (by exact mem_ix 8 rfl))) (all_cons (gH _ (.head _)) (all_cons (gH _ (.tail _ (.head _))) (all_cons (gH _ (.tail _ (.tail _ (.head _)))) (all_cons ((hnD 2 5 (by decide) (by decide))) (all_cons ((hnD 3 5 (by decide) (by decide))) fun r hr => gH r (.tail _ (.tail _ (.tail _ hr))))))))))))
  · intro v hv
    rcases List.mem_cons.mp hv with rfl | hv
    · rw [kqq]
      exact ⟨q, _, _, _, _, rfl, (by exact mem_ix 12 rfl), rfl, rfl⟩
    · rw [ktl v hv]
      exact ((htl v hv).mono sub16).item
  · rw [kq']
    exact ⟨q', _, _, _, _, rfl, .head _, rfl, rfl⟩
  · show ∀ i j, i < (Value.ref q' :: tl).length → j < (Value.ref q' :: tl).length → i ≠ j → _
    refine pw_idx (xs := .ref q' :: tl) (List.pairwise_cons.mpr ⟨?_, ?_⟩)
    · intro v hv
      rw [kq', ktl v hv]
      exact (hmin v hv).2.symm
    · refine hpt.imp_of_mem fun {a b} ha hb h => ?_
      rw [ktl a ha, ktl b hb]; exact h
  intro h17 tk17 F17 N17
  iterate 1 walk1
  have e9 : (Value.ref q :: tl).getD 0 .none = .ref q := rfl
  rw [e9]
  refine pair_ne_self N17 (show (q, listOf #[.int z tq1, .int ((c : Nat) : Int) tq2] kq) ∈ _ by repeat (first | exact List.Mem.head _ | apply List.Mem.tail)) (by show callerA.units + 3 + 64 < cLine; decide) ?_
  walk_at "my go"
  rename Fr h₀ L _ _ => F18
  rename News h₀ L _ _ => N18
  refine next _ _ _ _ ps10 T8 q' tf8 tx8 tk10 t16 tk10 G10 F18 rfl rfl rfl rfl rfl rfl (News.reord N18 (by exact sub_ixr [3, 4, 6, 7, 8, 9, 10, 2, 0, 11, 12, 1, 5] 13 rfl)) hps10 ?_ (lq (T8, tupObj (.str (Str.ofString " ") tf8) (.str (wtext pw lw) tx8) 0) (by exact mem_ix 3 rfl))
  exact all_cons (lt8 (182, tabObj ps) (by exact mem_ix 0 rfl)) (all_cons (lt8 (M.a, accObj M.da items n5) (by exact mem_ix 1 rfl)) (all_cons (lt8 (M.v, instObj 136 M.d) (by exact mem_ix 2 rfl)) (all_cons (lt8 (M.d, vfDict M.kh M.kt M.vt M.ln M.a M.kd) (by exact mem_ix 3 rfl)) (all_cons (lt8 (M.da, accDict M.hs M.t zh tz M.k) (by exact mem_ix 4 rfl))
    (all_cons (lt8 (wl, listOf W'.toArray (nw + 1)) (by exact mem_ix 5 rfl)) (all_cons (lt8 (ld, listOf (laid ++ [Value.ref one]).toArray (nl + 1)) (by exact mem_ix 6 rfl)) (all_cons (lt8 (td, listOf told.toArray nt) (by exact mem_ix 7 rfl)) (fun r hr => lt8 r (by repeat (first | exact hr | apply List.Mem.tail))))))))))
end
section
-- S2
theorem fresh_S2 : True := by
  w_top off
  trivial
set_option maxHeartbeats 8000000
theorem ends_length : ∀ (l : List (Int × Nat)) (lens : Nat → Int), (ends lens l).length = l.length
  | [], _ => rfl
  | (p, c) :: r, lens => by
    show (ends (upd lens c p) r).length + 1 = r.length + 1
    rw [ends_length r]
/-- the addresses that stand from the loop on -/
noncomputable def fixA (L hl wl du mk hp td ld : Nat) (M0 M1 M2 : MkD) : List Nat := [182, 189, mk, M0.a, M0.v, M0.d, M0.da, M0.ln, M1.a, M1.v, M1.d, M1.da, M1.ln, M2.a, M2.v, M2.d, M2.da, M2.ln, du, wl, hl, L + 1, ld, td, hp]
theorem notmem6 {x a b c d e f : Nat} (h1 : x ≠ a) (h2 : x ≠ b) (h3 : x ≠ c) (h4 : x ≠ d) (h5 : x ≠ e) (h6 : x ≠ f) : x ∉ [a, b, c, d, e, f] := by
  simp only [List.mem_cons, List.not_mem_nil, or_false, not_or]
  exact ⟨h1, h2, h3, h4, h5, h6⟩
theorem newsPut {h₀ h : Heap} {L : Addr} {e : Addr × Obj} {l : List (Addr × Obj)} (N : News h₀ L h l) (hm : e ∈ l) : News h₀ L h (e :: l) := News.reord N (all_cons hm fun _ h => h)
theorem fix_lt {T : Nat} {F : List Nat} {l : List (Addr × Obj)} (h : ∀ r ∈ l, r.1 < T) (hs : ∀ x ∈ F, x ∈ l.map (·.1)) : ∀ x ∈ F, x < T := by
  intro x hx
  obtain ⟨r, hr, rfl⟩ := List.mem_map.mp (hs x hx)
  exact h r hr
theorem oth_cons {F : List Nat} {T : Nat} {o : Obj} {others : List (Addr × Obj)} (hF : ∀ x ∈ F, x < T) (h : ∀ r ∈ others, r.1 ∉ F) : ∀ r ∈ (T, o) :: others, r.1 ∉ F := by
  refine all_cons (fun hm => ?_) h
  exact Nat.lt_irrefl _ (hF _ hm)

inductive LoopI (κ : Value → Int × Int) (W0 due : List Value) (L hl wl du mk hp td ld : Nat) (M0 M1 M2 : MkD) (oc : Obj) (z0 z1 z2 : Int) (t1 t2 t3 : Tok) (nd n2h l0 l1 l2 : Nat) : Nat → List (Addr × Obj) → Prop
  | mk (ps' : Array Value) (log : List (Value × Nat)) (it : Nat → List Value) (told W H' : List Value) (others' : List (Addr × Obj)) (κ2' : Value → Int × Int) (n0 n1 n2 nw' nl' nt' nh' : Nat) (hps : TabOk ⟨139, 19, 139, 63⟩ ps') (hoth : ∀ r ∈ others', r.1 ∉ fixA L hl wl du mk hp td ld M0 M1 M2) (hI : TInv κ κ2' (fun k => [z0, z1, z2].getD k 0) W0 others' log W H' it told) :
      LoopI κ W0 due L hl wl du mk hp td ld M0 M1 M2 oc z0 z1 z2 t1 t2 t3 nd n2h l0 l1 l2 W.length ((182, tabObj ps') :: (189, tabObj #[]) :: (mk, listOf [.ref M0.v, .ref M1.v, .ref M2.v].toArray 3) :: (M0.a, accObj M0.da (it 0) n0) :: (M0.v, instObj 136 M0.d) :: (M0.d, vfDict M0.kh M0.kt M0.vt M0.ln M0.a M0.kd) :: (M0.da, accDict M0.hs M0.t z0 t1 M0.k) :: (M0.ln, listOf [].toArray l0) :: (M1.a, accObj M1.da (it 1) n1) :: (M1.v, instObj 136 M1.d) :: (M1.d, vfDict M1.kh M1.kt M1.vt M1.ln M1.a M1.kd) :: (M1.da, accDict M1.hs M1.t z1 t2 M1.k) :: (M1.ln, listOf [].toArray l1) :: (M2.a, accObj M2.da (it 2) n2) :: (M2.v, instObj 136 M2.d) :: (M2.d, vfDict M2.kh M2.kt M2.vt M2.ln M2.a M2.kd) :: (M2.da, accDict M2.hs M2.t z2 t3 M2.k) :: (M2.ln, listOf [].toArray l2) :: (du, listOf due.toArray nd) :: (wl, listOf W.toArray nw') :: (hl, listOf #[.int z0 t1, .int z1 t2, .int z2 t3] n2h) :: (L + 1, oc) :: (ld, listOf (log.map (·.1)).toArray nl') :: (td, listOf told.toArray nt') :: (hp, listOf H'.toArray nh') :: others')
theorem stage3 {w : World} {base h₀ : Heap} {L fa : Nat} {cd : Value} {m : Str → Option Value} {s : Shared} {oc : Obj}
    {p : Program} {loose : List Str} {mean : ExcName → Option Value} {mg mb : Str → Option Value} {hl wl du mk hp td ld : Nat} {W0 due H : List Value} {nd nw n2h nl nt nh k0 k1 k2 l0 l1 l2 : Nat} {z0 z1 z2 : Int} {t1 t2 t3 : Tok} {ps : Array Value} {others : List (Addr × Obj)} {M0 M1 M2 : MkD}
    {Q : Flow → Shared → Prop} (κ κ2 : Value → Int × Int)
    (B : Below callerA base [] h₀) (F : Fr h₀ L s.heap m) (X : (hd.heap_39 w.params).In h₀) (T : Top p loose mean mg mb h₀) (hcl : oc.data = .cell (some (.ref mk))) (G : AllBare s.gens)
    (N : News h₀ L s.heap ((182, tabObj ps) :: (189, tabObj #[]) :: (mk, listOf [.ref M0.v, .ref M1.v, .ref M2.v].toArray 3) :: (M0.a, accObj M0.da [] k0) :: (M0.v, instObj 136 M0.d) :: (M0.d, vfDict M0.kh M0.kt M0.vt M0.ln M0.a M0.kd) :: (M0.da, accDict M0.hs M0.t z0 t1 M0.k) :: (M0.ln, listOf [].toArray l0) :: (M1.a, accObj M1.da [] k1) :: (M1.v, instObj 136 M1.d) :: (M1.d, vfDict M1.kh M1.kt M1.vt M1.ln M1.a M1.kd) :: (M1.da, accDict M1.hs M1.t z1 t2 M1.k) :: (M1.ln, listOf [].toArray l1) :: (M2.a, accObj M2.da [] k2) :: (M2.v, instObj 136 M2.d) :: (M2.d, vfDict M2.kh M2.kt M2.vt M2.ln M2.a M2.kd) :: (M2.da, accDict M2.hs M2.t z2 t3 M2.k) :: (M2.ln, listOf [].toArray l2) :: (du, listOf due.toArray nd) :: (wl, listOf W0.toArray nw) :: (hl, listOf #[.int z0 t1, .int z1 t2, .int z2 t3] n2h) :: (L + 1, oc) :: (ld, listOf [].toArray nl) :: (td, listOf [].toArray nt) :: (hp, listOf H.toArray nh) :: others))
    (hm : m (Str.ofString "words") = some (.ref wl) ∧ m (Str.ofString "heads") = some (.ref hl) ∧ m (Str.ofString "due") = some (.ref du) ∧ m (Str.ofString "heap") = some (.ref hp) ∧ m (Str.ofString "laid") = some (.ref ld) ∧ m (Str.ofString "told") = some (.ref td))
    (hFix : (fixA L hl wl du mk hp td ld M0 M1 M2).Nodup) (hoth : ∀ r ∈ others, r.1 ∉ fixA L hl wl du mk hp td ld M0 M1 M2) (hps : TabOk ⟨139, 19, 139, 63⟩ ps) (hz0 : 0 ≤ z0 ∧ z0 < 6) (hz1 : 0 ≤ z1 ∧ z1 < 6) (hz2 : 0 ≤ z2 ∧ z2 < 6)
    (hI : TInv κ κ2 (fun k => [z0, z1, z2].getD k 0) W0 others [] W0 H (fun _ => []) [])
    (next : ∀ h' tk gs m' ps' log it told H' others' κ2' n0 n1 n2 nw' nl' nt' nh', AllBare gs → Fr h₀ L h' m' → (m' (Str.ofString "words") = some (.ref wl) ∧ m' (Str.ofString "heads") = some (.ref hl) ∧ m' (Str.ofString "due") = some (.ref du) ∧ m' (Str.ofString "heap") = some (.ref hp) ∧ m' (Str.ofString "laid") = some (.ref ld) ∧ m' (Str.ofString "told") = some (.ref td)) →
      News h₀ L h' ((182, tabObj ps') :: (189, tabObj #[]) :: (mk, listOf [.ref M0.v, .ref M1.v, .ref M2.v].toArray 3) :: (M0.a, accObj M0.da (it 0) n0) :: (M0.v, instObj 136 M0.d) :: (M0.d, vfDict M0.kh M0.kt M0.vt M0.ln M0.a M0.kd) :: (M0.da, accDict M0.hs M0.t z0 t1 M0.k) :: (M0.ln, listOf [].toArray l0) :: (M1.a, accObj M1.da (it 1) n1) :: (M1.v, instObj 136 M1.d) :: (M1.d, vfDict M1.kh M1.kt M1.vt M1.ln M1.a M1.kd) :: (M1.da, accDict M1.hs M1.t z1 t2 M1.k) :: (M1.ln, listOf [].toArray l1) :: (M2.a, accObj M2.da (it 2) n2) :: (M2.v, instObj 136 M2.d) :: (M2.d, vfDict M2.kh M2.kt M2.vt M2.ln M2.a M2.kd) :: (M2.da, accDict M2.hs M2.t z2 t3 M2.k) :: (M2.ln, listOf [].toArray l2) :: (du, listOf due.toArray nd) :: (wl, listOf ([] : List Value).toArray nw') :: (hl, listOf #[.int z0 t1, .int z1 t2, .int z2 t3] n2h) :: (L + 1, oc) :: (ld, listOf (log.map (·.1)).toArray nl') :: (td, listOf told.toArray nt') :: (hp, listOf H'.toArray nh') :: others') →
      TabOk ⟨139, 19, 139, 63⟩ ps' → (∀ r ∈ others', r.1 ∉ fixA L hl wl du mk hp td ld M0 M1 M2) → TInv κ κ2' (fun k => [z0, z1, z2].getD k 0) W0 others' log [] H' it told →
      wpAny (model Challenge.rw_nb0237_01.row.prog w) (callerA.deeper (lawEnv w L fa cd)) (execs ((lawFn w).1.drop 11) (lawEnv w L fa cd)) Q (fun _ _ => False) { s with heap := h', toks := tk, gens := gs }) :
    wpAny (model Challenge.rw_nb0237_01.row.prog w) (callerA.deeper (lawEnv w L fa cd)) (execs ((lawFn w).1.drop 10) (lawEnv w L fa cd)) Q (fun _ _ => False) s := by
  revert X; k_fill; intro X
  have hfn := law_eq (w := w) (by k_is)
  have S := @turn_ok w base h₀ L fa cd
  unfold lawEnv at next S ⊢
  rw [hfn] at next S ⊢
  dsimp only [fnOfObj, List.drop, wBody] at next S ⊢
  clear hfn
  obtain ⟨q1, q2, q3, q4, q5, q6⟩ := hm
  have hne : ∀ i j, i < j → j < 25 → (fixA L hl wl du mk hp td ld M0 M1 M2).getD i 0 ≠ (fixA L hl wl du mk hp td ld M0 M1 M2).getD j 0 := fun i j h1 h2 => nodup_ne hFix i j h1 h2
  iterate 1 walk1
  refine while_G (fun n m₁ news₁ => (m₁ (Str.ofString "words") = some (.ref wl) ∧ m₁ (Str.ofString "heads") = some (.ref hl) ∧ m₁ (Str.ofString "due") = some (.ref du) ∧ m₁ (Str.ofString "heap") = some (.ref hp) ∧ m₁ (Str.ofString "laid") = some (.ref ld) ∧ m₁ (Str.ofString "told") = some (.ref td)) ∧ LoopI κ W0 due L hl wl du mk hp td ld M0 M1 M2 oc z0 z1 z2 t1 t2 t3 nd n2h l0 l1 l2 n news₁) W0.length F N G
    ⟨⟨q1, q2, q3, q4, q5, q6⟩, LoopI.mk ps [] (fun _ => []) [] W0 H others κ2 k0 k1 k2 nw nl nt nh hps hoth hI⟩ ?_
  rintro n m₁ news₁ h1 tk1 gs1 ⟨⟨q1, q2, q3, q4, q5, q6⟩, ⟨ps1, log, it, told, W, H', others', κ2', n0, n1, n2, nw1, nl1, nt1, nh1, hps1, hoth1, I⟩⟩ G1 F1 N1
  have F2 := fr_kst [(Str.ofString "words", .ref wl), (Str.ofString "heads", .ref hl), (Str.ofString "due", .ref du), (Str.ofString "heap", .ref hp), (Str.ofString "laid", .ref ld), (Str.ofString "told", .ref td)] (all_cons (by assumption) (all_cons (by assumption) (all_cons (by assumption) (all_cons (by assumption) (all_cons (by assumption) (all_cons (by assumption) (fun _ h => nomatch h))))))) F1
  clear F F1 N q1 q2 q3 q4 q5 q6
  iterate 5 walk1
  rename Fr h₀ L _ _ => F3
  rename News h₀ L _ _ => N3
  rename_i e _ _
  refine words_ne (wl := wl) (W := W) (n := nw1) N3 (by exact mem_ix 20 rfl) (.head _) ?_ (by show callerA.units + 3 + 64 < cLine; decide) ?_
  · intro v hv
    obtain ⟨p, l, h9, h1, h6, hw, _⟩ := I.words.2.1 v (I.perm.mem_iff.mp (List.mem_append_right _ hv))
    exact ⟨p, l, h9, by (first | exact om437 h6 | omega), hw.mono (by exact sub_ixr [] 26 rfl)⟩
  by_cases hW : W = []
  · subst hW
    have eW : (!([] : List Value).isEmpty) = false := rfl
    rw [eW]
    iterate 2 walk1
    rename Fr h₀ L _ _ => F4
    rename News h₀ L _ _ => N4
    exact next _ _ _ _ ps1 log it told H' others' κ2' n0 n1 n2 nw1 nl1 nt1 nh1 G1 F4 ⟨rfl, rfl, rfl, rfl, rfl, rfl⟩ (News.reord N4 (by exact sub_ixr [] 1 rfl)) hps1 hoth1 I
  have eW : (!W.isEmpty) = true := by
    cases W with
    | nil => exact absurd rfl hW
    | cons a b => rfl
  rw [eW]
  iterate 2 walk1
  rename Fr h₀ L _ _ => F4
  rename News h₀ L _ _ => N4
  have hlens : ∀ k, 0 ≤ [z0, z1, z2].getD k 0 ∧ [z0, z1, z2].getD k 0 < 6 := by
    intro k
    match k with
    | 0 => exact hz0
    | 1 => exact hz1
    | 2 => exact hz2
    | (k + 3) => exact (show (0 : Int) ≤ 0 ∧ (0 : Int) < 6 by decide)
  obtain ⟨xs, l, q, tl, c, z, tq1, tq2, kq, pw, lw, hc, hqm, hkq, htl2, htlP, htlm, htlp, hz, hz80, hz0', hp9, hw1, hw6, hone, hK, hWs, hWp, hlen, hpl, hpf⟩ := I.open hW hlens
  have hml : (log.map (·.1)).length < 900 := by rw [List.length_map]; (first | exact om440 hlen | omega)
  have htl9 : told.length < 900 := by
    have h1 := I.told.length
    have h2 := ends_length (szl (entl κ log)) (fun k => [z0, z1, z2].getD k 0)
    have h3 : (szl (entl κ log)).length = log.length := by simp [szl, entl]
    (first | exact om441 hlen h1 h2 h3 | omega)
  have hoq := hoth1 _ hqm
  have N6 := newsPut N4 (show (q, listOf #[.int z tq1, .int ((c : Nat) : Int) tq2] kq) ∈ _ by repeat (first | exact hqm | apply List.Mem.tail))
  have hsz : (hpop κ xs l).2.length < (xs ++ [l]).length := by
    have := (hpop_spec I.heapW).2.1.length_eq
    simp only [List.length_cons] at this
    (first | exact om142 this | omega)
  have hc3 : c = 0 ∨ c = 1 ∨ c = 2 := by (first | exact om198 hc | omega)
  rcases hc3 with rfl | rfl | rfl

  · have hsub6 : ∀ x ∈ [182, M0.a, wl, ld, td, hp], x ∈ fixA L hl wl du mk hp td ld M0 M1 M2 := by unfold fixA; exact sub_ix [0, 3, 19, 22, 23, 24] rfl
    have hO : ∀ r ∈ (M0.v, instObj 136 M0.d) :: (M0.d, vfDict M0.kh M0.kt M0.vt M0.ln M0.a M0.kd) :: (M0.da, accDict M0.hs M0.t z0 t1 M0.k) :: (mk, listOf [.ref M0.v, .ref M1.v, .ref M2.v].toArray 3) :: (L + 1, oc) :: (q, listOf #[.int z tq1, .int ((0 : Nat) : Int) tq2] kq) :: (M0.ln, listOf [].toArray l0) :: (M1.a, accObj M1.da (it 1) n1) :: (M1.v, instObj 136 M1.d) :: (M1.d, vfDict M1.kh M1.kt M1.vt M1.ln M1.a M1.kd) :: (M1.da, accDict M1.hs M1.t z1 t2 M1.k) :: (M1.ln, listOf [].toArray l1) :: (M2.a, accObj M2.da (it 2) n2) :: (M2.v, instObj 136 M2.d) :: (M2.d, vfDict M2.kh M2.kt M2.vt M2.ln M2.a M2.kd) :: (M2.da, accDict M2.hs M2.t z2 t3 M2.k) :: (M2.ln, listOf [].toArray l2) :: (189, tabObj #[]) :: (du, listOf due.toArray nd) :: (hl, listOf #[.int z0 t1, .int z1 t2, .int z2 t3] n2h) :: others', r.1 ∉ [182, M0.a, wl, ld, td, hp] :=
      all_cons (notmem6 ((hne 0 4 (by decide) (by decide)).symm) ((hne 3 4 (by decide) (by decide)).symm) ((hne 4 19 (by decide) (by decide))) ((hne 4 22 (by decide) (by decide))) ((hne 4 23 (by decide) (by decide))) ((hne 4 24 (by decide) (by decide)))) (all_cons (notmem6 ((hne 0 5 (by decide) (by decide)).symm) ((hne 3 5 (by decide) (by decide)).symm) ((hne 5 19 (by decide) (by decide))) ((hne 5 22 (by decide) (by decide))) ((hne 5 23 (by decide) (by decide))) ((hne 5 24 (by decide) (by decide)))) (all_cons (notmem6 ((hne 0 6 (by decide) (by decide)).symm) ((hne 3 6 (by decide) (by decide)).symm) ((hne 6 19 (by decide) (by decide))) ((hne 6 22 (by decide) (by decide))) ((hne 6 23 (by decide) (by decide))) ((hne 6 24 (by decide) (by decide)))) (all_cons (notmem6 ((hne 0 2 (by decide) (by decide)).symm) ((hne 2 3 (by decide) (by decide))) ((hne 2 19 (by decide) (by decide))) ((hne 2 22 (by decide) (by decide))) ((hne 2 23 (by decide) (by decide))) ((hne 2 24 (by decide) (by decide)))) (all_cons (notmem6 ((hne 0 21 (by decide) (by decide)).symm) ((hne 3 21 (by decide) (by decide)).symm) ((hne 19 21 (by decide) (by decide)).symm) ((hne 21 22 (by decide) (by decide))) ((hne 21 23 (by decide) (by decide))) ((hne 21 24 (by decide) (by decide)))) (all_cons (fun h => hoq (hsub6 _ h)) (all_cons (notmem6 ((hne 0 7 (by decide) (by decide)).symm) ((hne 3 7 (by decide) (by decide)).symm) ((hne 7 19 (by decide) (by decide))) ((hne 7 22 (by decide) (by decide))) ((hne 7 23 (by decide) (by decide))) ((hne 7 24 (by decide) (by decide)))) (all_cons (notmem6 ((hne 0 8 (by decide) (by decide)).symm) ((hne 3 8 (by decide) (by decide)).symm) ((hne 8 19 (by decide) (by decide))) ((hne 8 22 (by decide) (by decide))) ((hne 8 23 (by decide) (by decide))) ((hne 8 24 (by decide) (by decide)))) (all_cons (notmem6 ((hne 0 9 (by decide) (by decide)).symm) ((hne 3 9 (by decide) (by decide)).symm) ((hne 9 19 (by decide) (by decide))) ((hne 9 22 (by decide) (by decide))) ((hne 9 23 (by decide) (by decide))) ((hne 9 24 (by decide) (by decide)))) (all_cons (notmem6 ((hne 0 10 (by decide) (by decide)).symm) ((hne 3 10 (by decide) (by decide)).symm) ((hne 10 19 (by decide) (by decide))) ((hne 10 22 (by decide) (by decide))) ((hne 10 23 (by decide) (by decide))) ((hne 10 24 (by decide) (by decide)))) (all_cons (notmem6 ((hne 0 11 (by decide) (by decide)).symm) ((hne 3 11 (by decide) (by decide)).symm) ((hne 11 19 (by decide) (by decide))) ((hne 11 22 (by decide) (by decide))) ((hne 11 23 (by decide) (by decide))) ((hne 11 24 (by decide) (by decide)))) (all_cons (notmem6 ((hne 0 12 (by decide) (by decide)).symm) ((hne 3 12 (by decide) (by decide)).symm) ((hne 12 19 (by decide) (by decide))) ((hne 12 22 (by decide) (by decide))) ((hne 12 23 (by decide) (by decide))) ((hne 12 24 (by decide) (by decide)))) (all_cons (notmem6 ((hne 0 13 (by decide) (by decide)).symm) ((hne 3 13 (by decide) (by decide)).symm) ((hne 13 19 (by decide) (by decide))) ((hne 13 22 (by decide) (by decide))) ((hne 13 23 (by decide) (by decide))) ((hne 13 24 (by decide) (by decide)))) (all_cons (notmem6 ((hne 0 14 (by decide) (by decide)).symm) ((hne 3 14 (by decide) (by decide)).symm) ((hne 14 19 (by decide) (by decide))) ((hne 14 22 (by decide) (by decide))) ((hne 14 23 (by decide) (by decide))) ((hne 14 24 (by decide) (by decide)))) (all_cons (notmem6 ((hne 0 15 (by decide) (by decide)).symm) ((hne 3 15 (by decide) (by decide)).symm) ((hne 15 19 (by decide) (by decide))) ((hne 15 22 (by decide) (by decide))) ((hne 15 23 (by decide) (by decide))) ((hne 15 24 (by decide) (by decide)))) (all_cons (notmem6 ((hne 0 16 (by decide) (by decide)).symm) ((hne 3 16 (by decide) (by decide)).symm) ((hne 16 19 (by decide) (by decide))) ((hne 16 22 (by decide) (by decide))) ((hne 16 23 (by decide) (by decide))) ((hne 16 24 (by decide) (by decide)))) (all_cons (notmem6 ((hne 0 17 (by decide) (by decide)).symm) ((hne 3 17 (by decide) (by decide)).symm) ((hne 17 19 (by decide) (by decide))) ((hne 17 22 (by decide) (by decide))) ((hne 17 23 (by decide) (by decide))) ((hne 17 24 (by decide) (by decide)))) (all_cons (notmem6 ((hne 0 1 (by decide) (by decide)).symm) ((hne 1 3 (by decide) (by decide))) ((hne 1 19 (by decide) (by decide))) ((hne 1 22 (by decide) (by decide))) ((hne 1 23 (by decide) (by decide))) ((hne 1 24 (by decide) (by decide)))) (all_cons (notmem6 ((hne 0 18 (by decide) (by decide)).symm) ((hne 3 18 (by decide) (by decide)).symm) ((hne 18 19 (by decide) (by decide))) ((hne 18 22 (by decide) (by decide))) ((hne 18 23 (by decide) (by decide))) ((hne 18 24 (by decide) (by decide)))) (all_cons (notmem6 ((hne 0 20 (by decide) (by decide)).symm) ((hne 3 20 (by decide) (by decide)).symm) ((hne 19 20 (by decide) (by decide)).symm) ((hne 20 22 (by decide) (by decide))) ((hne 20 23 (by decide) (by decide))) ((hne 20 24 (by decide) (by decide)))) fun r hr h => hoth1 r hr (hsub6 _ h))))))))))))))))))))
    have hD : [182, M0.a, wl, ld, td, hp].Nodup := List.Nodup.sublist (by unfold fixA; repeat (first | exact .slnil | apply List.Sublist.cons_cons | apply List.Sublist.cons)) hFix
    have hmo : ∀ r ∈ others', r ∈ (M0.ln, listOf [].toArray l0) :: (M1.a, accObj M1.da (it 1) n1) :: (M1.v, instObj 136 M1.d) :: (M1.d, vfDict M1.kh M1.kt M1.vt M1.ln M1.a M1.kd) :: (M1.da, accDict M1.hs M1.t z1 t2 M1.k) :: (M1.ln, listOf [].toArray l1) :: (M2.a, accObj M2.da (it 2) n2) :: (M2.v, instObj 136 M2.d) :: (M2.d, vfDict M2.kh M2.kt M2.vt M2.ln M2.a M2.kd) :: (M2.da, accDict M2.hs M2.t z2 t3 M2.k) :: (M2.ln, listOf [].toArray l2) :: (189, tabObj #[]) :: (du, listOf due.toArray nd) :: (hl, listOf #[.int z0 t1, .int z1 t2, .int z2 t3] n2h) :: others' := by exact sub_ixr [] 14 rfl
    refine @S _ _ _ _ _ _ _ _ wl mk hp ld td q xs tl (log.map (·.1)) told (it 0) l (.ref M0.v) (.ref M1.v) (.ref M2.v) nw1 nl1 nt1 nh1 n0 kq 0 pw lw M0 z0 z t1 tq1 tq2 ps1 (ptx (onl 0 (entl κ log))) ((M0.ln, listOf [].toArray l0) :: (M1.a, accObj M1.da (it 1) n1) :: (M1.v, instObj 136 M1.d) :: (M1.d, vfDict M1.kh M1.kt M1.vt M1.ln M1.a M1.kd) :: (M1.da, accDict M1.hs M1.t z1 t2 M1.k) :: (M1.ln, listOf [].toArray l1) :: (M2.a, accObj M2.da (it 2) n2) :: (M2.v, instObj 136 M2.d) :: (M2.d, vfDict M2.kh M2.kt M2.vt M2.ln M2.a M2.kd) :: (M2.da, accDict M2.hs M2.t z2 t3 M2.k) :: (M2.ln, listOf [].toArray l2) :: (189, tabObj #[]) :: (du, listOf due.toArray nd) :: (hl, listOf #[.int z0 t1, .int z1 t2, .int z2 t3] n2h) :: others') _ κ κ2' B F4 X T hcl G1 (News.reord N6 (by exact sub_ixr [2, 5, 6, 7, 8, 21, 24, 25, 26, 4, 23, 0, 9, 10, 11, 12, 13, 14, 15, 16, 17, 18, 19, 3, 20, 22] 27 rfl)) rfl rfl rfl rfl hD hO hps1 hc rfl (fun v hv => ?_) hWp (by (first | exact om442 hlen | omega)) (hone.mono hmo) ⟨hp9, hw1, hw6⟩ hkq htl2 (fun v hv => (htlP v hv).mono hmo) htlm htlp ((I.parts 0 hc).mono hmo) hz hz80 hz0.1 hpl hpf hml htl9 ?_
    · obtain ⟨p, l, a1, a2, a3, a4, a5⟩ := hWs v hv
      exact ⟨p, l, a1, a2, a3, a4.mono hmo, a5⟩
    intro h5 tk5 gs5 m5 ps5 T5 q5 tf5 tx5 ta5 tb5 tt5 G5 F5 e1 e2 e3 e4 e5 e6 N5 hps5 lt5 lq5
    have emap : (log ++ [((hpop κ xs l).1, 0)] : List (Value × Nat)).map (·.1) = log.map (·.1) ++ [(hpop κ xs l).1] := by simp
    rw [← emap] at N5
    have hFT : ∀ x ∈ fixA L hl wl du mk hp td ld M0 M1 M2, x < T5 := fix_lt lt5 (by unfold fixA; simp only [List.map_cons]; exact sub_ix [0, 23, 9, 1, 2, 3, 4, 12, 13, 14, 15, 16, 17, 18, 19, 20, 21, 22, 24, 5, 25, 10, 6, 7, 8] rfl)
    refine ⟨_, h5, tk5, gs5, m5, (182, tabObj ps5) :: (189, tabObj #[]) :: (mk, listOf [.ref M0.v, .ref M1.v, .ref M2.v].toArray 3) :: (M0.a, accObj M0.da ((it 0) ++ [Value.ref T5]) (n0 + 1)) :: (M0.v, instObj 136 M0.d) :: (M0.d, vfDict M0.kh M0.kt M0.vt M0.ln M0.a M0.kd) :: (M0.da, accDict M0.hs M0.t z0 t1 M0.k) :: (M0.ln, listOf [].toArray l0) :: (M1.a, accObj M1.da (it 1) n1) :: (M1.v, instObj 136 M1.d) :: (M1.d, vfDict M1.kh M1.kt M1.vt M1.ln M1.a M1.kd) :: (M1.da, accDict M1.hs M1.t z1 t2 M1.k) :: (M1.ln, listOf [].toArray l1) :: (M2.a, accObj M2.da (it 2) n2) :: (M2.v, instObj 136 M2.d) :: (M2.d, vfDict M2.kh M2.kt M2.vt M2.ln M2.a M2.kd) :: (M2.da, accDict M2.hs M2.t z2 t3 M2.k) :: (M2.ln, listOf [].toArray l2) :: (du, listOf due.toArray nd) :: (wl, listOf (hpop κ xs l).2.toArray (nw1 + 1)) :: (hl, listOf #[.int z0 t1, .int z1 t2, .int z2 t3] n2h) :: (L + 1, oc) :: (ld, listOf ((log ++ [((hpop κ xs l).1, 0)] : List (Value × Nat)).map (·.1)).toArray (nl1 + 1)) :: (td, listOf (told ++ [Value.int (z + ((lw : Int) + 1)) tt5]).toArray (nt1 + 1)) :: (hp, listOf (siftup (kput κ2' q5 (z + ((lw : Int) + 1), ((0 : Nat) : Int))) 0 (.ref q5 :: tl)).toArray nh1) :: (q5, listOf #[.int (z + ((lw : Int) + 1)) ta5, .int ((0 : Nat) : Int) tb5] 0) :: (T5, tupObj (.str (Str.ofString " ") tf5) (.str (wtext pw lw) tx5) 0) :: others', hsz, rfl, G5, F5, News.reord N5 (by exact sub_ixr [0, 25, 9, 1, 2, 3, 4, 14, 15, 16, 17, 18, 19, 20, 21, 22, 23, 24, 26, 5, 27, 10, 6, 7, 8, 11, 12] 28 rfl), ⟨e1, e5.trans rfl, e6.trans rfl, e4, e2, e3⟩, LoopI.mk ps5 (log ++ [((hpop κ xs l).1, 0)]) (fun j => if j = 0 then it 0 ++ [Value.ref T5] else it j) (told ++ [Value.int (z + ((lw : Int) + 1)) tt5]) (hpop κ xs l).2 (siftup (kput κ2' q5 (z + ((lw : Int) + 1), ((0 : Nat) : Int))) 0 (.ref q5 :: tl)) ((q5, listOf #[.int (z + ((lw : Int) + 1)) ta5, .int ((0 : Nat) : Int) tb5] 0) :: (T5, tupObj (.str (Str.ofString " ") tf5) (.str (wtext pw lw) tx5) 0) :: others') (kput κ2' q5 (z + ((lw : Int) + 1), ((0 : Nat) : Int))) (n0 + 1) n1 n2 (nw1 + 1) (nl1 + 1) (nt1 + 1) nh1 hps5 (oth_cons (fun x hx => Nat.lt_trans (hFT x hx) lq5) (oth_cons hFT hoth1)) ?_⟩
    exact TInv.step (q' := q5) (T := T5) (c := 0) (w := lw) (p := pw) (ta := ta5) (tb := tb5) (tt := tt5) (t1 := tf5) (t2 := tx5) (n2 := 0) I hc hkq hK (fun r hr => Nat.lt_trans (lt5 r (by repeat (first | exact hr | apply List.Mem.tail))) lq5) (fun v hv => (htlm v hv).1) (fun r hr => .tail _ (.tail _ hr)) (.tail _ (.head _)) (.head _)
  · have hsub6 : ∀ x ∈ [182, M1.a, wl, ld, td, hp], x ∈ fixA L hl wl du mk hp td ld M0 M1 M2 := by unfold fixA; exact sub_ix [0, 8, 19, 22, 23, 24] rfl
    have hO : ∀ r ∈ (M1.v, instObj 136 M1.d) :: (M1.d, vfDict M1.kh M1.kt M1.vt M1.ln M1.a M1.kd) :: (M1.da, accDict M1.hs M1.t z1 t2 M1.k) :: (mk, listOf [.ref M0.v, .ref M1.v, .ref M2.v].toArray 3) :: (L + 1, oc) :: (q, listOf #[.int z tq1, .int ((1 : Nat) : Int) tq2] kq) :: (M1.ln, listOf [].toArray l1) :: (M0.a, accObj M0.da (it 0) n0) :: (M0.v, instObj 136 M0.d) :: (M0.d, vfDict M0.kh M0.kt M0.vt M0.ln M0.a M0.kd) :: (M0.da, accDict M0.hs M0.t z0 t1 M0.k) :: (M0.ln, listOf [].toArray l0) :: (M2.a, accObj M2.da (it 2) n2) :: (M2.v, instObj 136 M2.d) :: (M2.d, vfDict M2.kh M2.kt M2.vt M2.ln M2.a M2.kd) :: (M2.da, accDict M2.hs M2.t z2 t3 M2.k) :: (M2.ln, listOf [].toArray l2) :: (189, tabObj #[]) :: (du, listOf due.toArray nd) :: (hl, listOf #[.int z0 t1, .int z1 t2, .int z2 t3] n2h) :: others', r.1 ∉ [182, M1.a, wl, ld, td, hp] :=
      all_cons (notmem6 ((hne 0 9 (by decide) (by decide)).symm) ((hne 8 9 (by decide) (by decide)).symm) ((hne 9 19 (by decide) (by decide))) ((hne 9 22 (by decide) (by decide))) ((hne 9 23 (by decide) (by decide))) ((hne 9 24 (by decide) (by decide)))) (all_cons (notmem6 ((hne 0 10 (by decide) (by decide)).symm) ((hne 8 10 (by decide) (by decide)).symm) ((hne 10 19 (by decide) (by decide))) ((hne 10 22 (by decide) (by decide))) ((hne 10 23 (by decide) (by decide))) ((hne 10 24 (by decide) (by decide)))) (all_cons (notmem6 ((hne 0 11 (by decide) (by decide)).symm) ((hne 8 11 (by decide) (by decide)).symm) ((hne 11 19 (by decide) (by decide))) ((hne 11 22 (by decide) (by decide))) ((hne 11 23 (by decide) (by decide))) ((hne 11 24 (by decide) (by decide)))) (all_cons (notmem6 ((hne 0 2 (by decide) (by decide)).symm) ((hne 2 8 (by decide) (by decide))) ((hne 2 19 (by decide) (by decide))) ((hne 2 22 (by decide) (by decide))) ((hne 2 23 (by decide) (by decide))) ((hne 2 24 (by decide) (by decide)))) (all_cons (notmem6 ((hne 0 21 (by decide) (by decide)).symm) ((hne 8 21 (by decide) (by decide)).symm) ((hne 19 21 (by decide) (by decide)).symm) ((hne 21 22 (by decide) (by decide))) ((hne 21 23 (by decide) (by decide))) ((hne 21 24 (by decide) (by decide)))) (all_cons (fun h => hoq (hsub6 _ h)) (all_cons (notmem6 ((hne 0 12 (by decide) (by decide)).symm) ((hne 8 12 (by decide) (by decide)).symm) ((hne 12 19 (by decide) (by decide))) ((hne 12 22 (by decide) (by decide))) ((hne 12 23 (by decide) (by decide))) ((hne 12 24 (by decide) (by decide)))) (all_cons (notmem6 ((hne 0 3 (by decide) (by decide)).symm) ((hne 3 8 (by decide) (by decide))) ((hne 3 19 (by decide) (by decide))) ((hne 3 22 (by decide) (by decide))) ((hne 3 23 (by decide) (by decide))) ((hne 3 24 (by decide) (by decide)))) (all_cons (notmem6 ((hne 0 4 (by decide) (by decide)).symm) ((hne 4 8 (by decide) (by decide))) ((hne 4 19 (by decide) (by decide))) ((hne 4 22 (by decide) (by decide))) ((hne 4 23 (by decide) (by decide))) ((hne 4 24 (by decide) (by decide)))) (all_cons (notmem6 ((hne 0 5 (by decide) (by decide)).symm) ((hne 5 8 (by decide) (by decide))) ((hne 5 19 (by decide) (by decide))) ((hne 5 22 (by decide) (by decide))) ((hne 5 23 (by decide) (by decide))) ((hne 5 24 (by decide) (by decide)))) (all_cons (notmem6 ((hne 0 6 (by decide) (by decide)).symm) ((hne 6 8 (by decide) (by decide))) ((hne 6 19 (by decide) (by decide))) ((hne 6 22 (by decide) (by decide))) ((hne 6 23 (by decide) (by decide))) ((hne 6 24 (by decide) (by decide)))) (all_cons (notmem6 ((hne 0 7 (by decide) (by decide)).symm) ((hne 7 8 (by decide) (by decide))) ((hne 7 19 (by decide) (by decide))) ((hne 7 22 (by decide) (by decide))) ((hne 7 23 (by decide) (by decide))) ((hne 7 24 (by decide) (by decide)))) (all_cons (notmem6 ((hne 0 13 (by decide) (by decide)).symm) ((hne 8 13 (by decide) (by decide)).symm) ((hne 13 19 (by decide) (by decide))) ((hne 13 22 (by decide) (by decide))) ((hne 13 23 (by decide) (by decide))) ((hne 13 24 (by decide) (by decide)))) (all_cons (notmem6 ((hne 0 14 (by decide) (by decide)).symm) ((hne 8 14 (by decide) (by decide)).symm) ((hne 14 19 (by decide) (by decide))) ((hne 14 22 (by decide) (by decide))) ((hne 14 23 (by decide) (by decide))) ((hne 14 24 (by decide) (by decide)))) (all_cons (notmem6 ((hne 0 15 (by decide) (by decide)).symm) ((hne 8 15 (by decide) (by decide)).symm) ((hne 15 19 (by decide) (by decide))) ((hne 15 22 (by decide) (by decide))) ((hne 15 23 (by decide) (by decide))) ((hne 15 24 (by decide) (by decide)))) (all_cons (notmem6 ((hne 0 16 (by decide) (by decide)).symm) ((hne 8 16 (by decide) (by decide)).symm) ((hne 16 19 (by decide) (by decide))) ((hne 16 22 (by decide) (by decide))) ((hne 16 23 (by decide) (by decide))) ((hne 16 24 (by decide) (by decide)))) (all_cons (notmem6 ((hne 0 17 (by decide) (by decide)).symm) ((hne 8 17 (by decide) (by decide)).symm) ((hne 17 19 (by decide) (by decide))) ((hne 17 22 (by decide) (by decide))) ((hne 17 23 (by decide) (by decide))) ((hne 17 24 (by decide) (by decide)))) (all_cons (notmem6 ((hne 0 1 (by decide) (by decide)).symm) ((hne 1 8 (by decide) (by decide))) ((hne 1 19 (by decide) (by decide))) ((hne 1 22 (by decide) (by decide))) ((hne 1 23 (by decide) (by decide))) ((hne 1 24 (by decide) (by decide)))) (all_cons (notmem6 ((hne 0 18 (by decide) (by decide)).symm) ((hne 8 18 (by decide) (by decide)).symm) ((hne 18 19 (by decide) (by decide))) ((hne 18 22 (by decide) (by decide))) ((hne 18 23 (by decide) (by decide))) ((hne 18 24 (by decide) (by decide)))) (all_cons (notmem6 ((hne 0 20 (by decide) (by decide)).symm) ((hne 8 20 (by decide) (by decide)).symm) ((hne 19 20 (by decide) (by decide)).symm) ((hne 20 22 (by decide) (by decide))) ((hne 20 23 (by decide) (by decide))) ((hne 20 24 (by decide) (by decide)))) fun r hr h => hoth1 r hr (hsub6 _ h))))))))))))))))))))
    have hD : [182, M1.a, wl, ld, td, hp].Nodup := List.Nodup.sublist (by unfold fixA; repeat (first | exact .slnil | apply List.Sublist.cons_cons | apply List.Sublist.cons)) hFix
    have hmo : ∀ r ∈ others', r ∈ (M1.ln, listOf [].toArray l1) :: (M0.a, accObj M0.da (it 0) n0) :: (M0.v, instObj 136 M0.d) :: (M0.d, vfDict M0.kh M0.kt M0.vt M0.ln M0.a M0.kd) :: (M0.da, accDict M0.hs M0.t z0 t1 M0.k) :: (M0.ln, listOf [].toArray l0) :: (M2.a, accObj M2.da (it 2) n2) :: (M2.v, instObj 136 M2.d) :: (M2.d, vfDict M2.kh M2.kt M2.vt M2.ln M2.a M2.kd) :: (M2.da, accDict M2.hs M2.t z2 t3 M2.k) :: (M2.ln, listOf [].toArray l2) :: (189, tabObj #[]) :: (du, listOf due.toArray nd) :: (hl, listOf #[.int z0 t1, .int z1 t2, .int z2 t3] n2h) :: others' := by exact sub_ixr [] 14 rfl
    refine @S _ _ _ _ _ _ _ _ wl mk hp ld td q xs tl (log.map (·.1)) told (it 1) l (.ref M0.v) (.ref M1.v) (.ref M2.v) nw1 nl1 nt1 nh1 n1 kq 1 pw lw M1 z1 z t2 tq1 tq2 ps1 (ptx (onl 1 (entl κ log))) ((M1.ln, listOf [].toArray l1) :: (M0.a, accObj M0.da (it 0) n0) :: (M0.v, instObj 136 M0.d) :: (M0.d, vfDict M0.kh M0.kt M0.vt M0.ln M0.a M0.kd) :: (M0.da, accDict M0.hs M0.t z0 t1 M0.k) :: (M0.ln, listOf [].toArray l0) :: (M2.a, accObj M2.da (it 2) n2) :: (M2.v, instObj 136 M2.d) :: (M2.d, vfDict M2.kh M2.kt M2.vt M2.ln M2.a M2.kd) :: (M2.da, accDict M2.hs M2.t z2 t3 M2.k) :: (M2.ln, listOf [].toArray l2) :: (189, tabObj #[]) :: (du, listOf due.toArray nd) :: (hl, listOf #[.int z0 t1, .int z1 t2, .int z2 t3] n2h) :: others') _ κ κ2' B F4 X T hcl G1 (News.reord N6 (by exact sub_ixr [2, 10, 11, 12, 13, 21, 24, 25, 26, 4, 23, 0, 14, 5, 6, 7, 8, 9, 15, 16, 17, 18, 19, 3, 20, 22] 27 rfl)) rfl rfl rfl rfl hD hO hps1 hc rfl (fun v hv => ?_) hWp (by (first | exact om442 hlen | omega)) (hone.mono hmo) ⟨hp9, hw1, hw6⟩ hkq htl2 (fun v hv => (htlP v hv).mono hmo) htlm htlp ((I.parts 1 hc).mono hmo) hz hz80 hz1.1 hpl hpf hml htl9 ?_
    · obtain ⟨p, l, a1, a2, a3, a4, a5⟩ := hWs v hv
      exact ⟨p, l, a1, a2, a3, a4.mono hmo, a5⟩
    intro h5 tk5 gs5 m5 ps5 T5 q5 tf5 tx5 ta5 tb5 tt5 G5 F5 e1 e2 e3 e4 e5 e6 N5 hps5 lt5 lq5
    have emap : (log ++ [((hpop κ xs l).1, 1)] : List (Value × Nat)).map (·.1) = log.map (·.1) ++ [(hpop κ xs l).1] := by simp
    rw [← emap] at N5
    have hFT : ∀ x ∈ fixA L hl wl du mk hp td ld M0 M1 M2, x < T5 := fix_lt lt5 (by unfold fixA; simp only [List.map_cons]; exact sub_ix [0, 23, 9, 13, 14, 15, 16, 17, 1, 2, 3, 4, 12, 18, 19, 20, 21, 22, 24, 5, 25, 10, 6, 7, 8] rfl)
    refine ⟨_, h5, tk5, gs5, m5, (182, tabObj ps5) :: (189, tabObj #[]) :: (mk, listOf [.ref M0.v, .ref M1.v, .ref M2.v].toArray 3) :: (M0.a, accObj M0.da (it 0) n0) :: (M0.v, instObj 136 M0.d) :: (M0.d, vfDict M0.kh M0.kt M0.vt M0.ln M0.a M0.kd) :: (M0.da, accDict M0.hs M0.t z0 t1 M0.k) :: (M0.ln, listOf [].toArray l0) :: (M1.a, accObj M1.da ((it 1) ++ [Value.ref T5]) (n1 + 1)) :: (M1.v, instObj 136 M1.d) :: (M1.d, vfDict M1.kh M1.kt M1.vt M1.ln M1.a M1.kd) :: (M1.da, accDict M1.hs M1.t z1 t2 M1.k) :: (M1.ln, listOf [].toArray l1) :: (M2.a, accObj M2.da (it 2) n2) :: (M2.v, instObj 136 M2.d) :: (M2.d, vfDict M2.kh M2.kt M2.vt M2.ln M2.a M2.kd) :: (M2.da, accDict M2.hs M2.t z2 t3 M2.k) :: (M2.ln, listOf [].toArray l2) :: (du, listOf due.toArray nd) :: (wl, listOf (hpop κ xs l).2.toArray (nw1 + 1)) :: (hl, listOf #[.int z0 t1, .int z1 t2, .int z2 t3] n2h) :: (L + 1, oc) :: (ld, listOf ((log ++ [((hpop κ xs l).1, 1)] : List (Value × Nat)).map (·.1)).toArray (nl1 + 1)) :: (td, listOf (told ++ [Value.int (z + ((lw : Int) + 1)) tt5]).toArray (nt1 + 1)) :: (hp, listOf (siftup (kput κ2' q5 (z + ((lw : Int) + 1), ((1 : Nat) : Int))) 0 (.ref q5 :: tl)).toArray nh1) :: (q5, listOf #[.int (z + ((lw : Int) + 1)) ta5, .int ((1 : Nat) : Int) tb5] 0) :: (T5, tupObj (.str (Str.ofString " ") tf5) (.str (wtext pw lw) tx5) 0) :: others', hsz, rfl, G5, F5, News.reord N5 (by exact sub_ixr [0, 25, 9, 15, 16, 17, 18, 19, 1, 2, 3, 4, 14, 20, 21, 22, 23, 24, 26, 5, 27, 10, 6, 7, 8, 11, 12] 28 rfl), ⟨e1, e5.trans rfl, e6.trans rfl, e4, e2, e3⟩, LoopI.mk ps5 (log ++ [((hpop κ xs l).1, 1)]) (fun j => if j = 1 then it 1 ++ [Value.ref T5] else it j) (told ++ [Value.int (z + ((lw : Int) + 1)) tt5]) (hpop κ xs l).2 (siftup (kput κ2' q5 (z + ((lw : Int) + 1), ((1 : Nat) : Int))) 0 (.ref q5 :: tl)) ((q5, listOf #[.int (z + ((lw : Int) + 1)) ta5, .int ((1 : Nat) : Int) tb5] 0) :: (T5, tupObj (.str (Str.ofString " ") tf5) (.str (wtext pw lw) tx5) 0) :: others') (kput κ2' q5 (z + ((lw : Int) + 1), ((1 : Nat) : Int))) n0 (n1 + 1) n2 (nw1 + 1) (nl1 + 1) (nt1 + 1) nh1 hps5 (oth_cons (fun x hx => Nat.lt_trans (hFT x hx) lq5) (oth_cons hFT hoth1)) ?_⟩
    exact TInv.step (q' := q5) (T := T5) (c := 1) (w := lw) (p := pw) (ta := ta5) (tb := tb5) (tt := tt5) (t1 := tf5) (t2 := tx5) (n2 := 0) I hc hkq hK (fun r hr => Nat.lt_trans (lt5 r (by repeat (first | exact hr | apply List.Mem.tail))) lq5) (fun v hv => (htlm v hv).1) (fun r hr => .tail _ (.tail _ hr)) (.tail _ (.head _)) (.head _)
  · have hsub6 : ∀ x ∈ [182, M2.a, wl, ld, td, hp], x ∈ fixA L hl wl du mk hp td ld M0 M1 M2 := by unfold fixA; exact sub_ix [0, 13, 19, 22, 23, 24] rfl
    have hO : ∀ r ∈ (M2.v, instObj 136 M2.d) :: (M2.d, vfDict M2.kh M2.kt M2.vt M2.ln M2.a M2.kd) :: (M2.da, accDict M2.hs M2.t z2 t3 M2.k) :: (mk, listOf [.ref M0.v, .ref M1.v, .ref M2.v].toArray 3) :: (L + 1, oc) :: (q, listOf #[.int z tq1, .int ((2 : Nat) : Int) tq2] kq) :: (M2.ln, listOf [].toArray l2) :: (M0.a, accObj M0.da (it 0) n0) :: (M0.v, instObj 136 M0.d) :: (M0.d, vfDict M0.kh M0.kt M0.vt M0.ln M0.a M0.kd) :: (M0.da, accDict M0.hs M0.t z0 t1 M0.k) :: (M0.ln, listOf [].toArray l0) :: (M1.a, accObj M1.da (it 1) n1) :: (M1.v, instObj 136 M1.d) :: (M1.d, vfDict M1.kh M1.kt M1.vt M1.ln M1.a M1.kd) :: (M1.da, accDict M1.hs M1.t z1 t2 M1.k) :: (M1.ln, listOf [].toArray l1) :: (189, tabObj #[]) :: (du, listOf due.toArray nd) :: (hl, listOf #[.int z0 t1, .int z1 t2, .int z2 t3] n2h) :: others', r.1 ∉ [182, M2.a, wl, ld, td, hp] :=
      all_cons (notmem6 ((hne 0 14 (by decide) (by decide)).symm) ((hne 13 14 (by decide) (by decide)).symm) ((hne 14 19 (by decide) (by decide))) ((hne 14 22 (by decide) (by decide))) ((hne 14 23 (by decide) (by decide))) ((hne 14 24 (by decide) (by decide)))) (all_cons (notmem6 ((hne 0 15 (by decide) (by decide)).symm) ((hne 13 15 (by decide) (by decide)).symm) ((hne 15 19 (by decide) (by decide))) ((hne 15 22 (by decide) (by decide))) ((hne 15 23 (by decide) (by decide))) ((hne 15 24 (by decide) (by decide)))) (all_cons (notmem6 ((hne 0 16 (by decide) (by decide)).symm) ((hne 13 16 (by decide) (by decide)).symm) ((hne 16 19 (by decide) (by decide))) ((hne 16 22 (by decide) (by decide))) ((hne 16 23 (by decide) (by decide))) ((hne 16 24 (by decide) (by decide)))) (all_cons (notmem6 ((hne 0 2 (by decide) (by decide)).symm) ((hne 2 13 (by decide) (by decide))) ((hne 2 19 (by decide) (by decide))) ((hne 2 22 (by decide) (by decide))) ((hne 2 23 (by decide) (by decide))) ((hne 2 24 (by decide) (by decide)))) (all_cons (notmem6 ((hne 0 21 (by decide) (by decide)).symm) ((hne 13 21 (by decide) (by decide)).symm) ((hne 19 21 (by decide) (by decide)).symm) ((hne 21 22 (by decide) (by decide))) ((hne 21 23 (by decide) (by decide))) ((hne 21 24 (by decide) (by decide)))) (all_cons (fun h => hoq (hsub6 _ h)) (all_cons (notmem6 ((hne 0 17 (by decide) (by decide)).symm) ((hne 13 17 (by decide) (by decide)).symm) ((hne 17 19 (by decide) (by decide))) ((hne 17 22 (by decide) (by decide))) ((hne 17 23 (by decide) (by decide))) ((hne 17 24 (by decide) (by decide)))) (all_cons (notmem6 ((hne 0 3 (by decide) (by decide)).symm) ((hne 3 13 (by decide) (by decide))) ((hne 3 19 (by decide) (by decide))) ((hne 3 22 (by decide) (by decide))) ((hne 3 23 (by decide) (by decide))) ((hne 3 24 (by decide) (by decide)))) (all_cons (notmem6 ((hne 0 4 (by decide) (by decide)).symm) ((hne 4 13 (by decide) (by decide))) ((hne 4 19 (by decide) (by decide))) ((hne 4 22 (by decide) (by decide))) ((hne 4 23 (by decide) (by decide))) ((hne 4 24 (by decide) (by decide)))) (all_cons (notmem6 ((hne 0 5 (by decide) (by decide)).symm) ((hne 5 13 (by decide) (by decide))) ((hne 5 19 (by decide) (by decide))) ((hne 5 22 (by decide) (by decide))) ((hne 5 23 (by decide) (by decide))) ((hne 5 24 (by decide) (by decide)))) (all_cons (notmem6 ((hne 0 6 (by decide) (by decide)).symm) ((hne 6 13 (by decide) (by decide))) ((hne 6 19 (by decide) (by decide))) ((hne 6 22 (by decide) (by decide))) ((hne 6 23 (by decide) (by decide))) ((hne 6 24 (by decide) (by decide)))) (all_cons (notmem6 ((hne 0 7 (by decide) (by decide)).symm) ((hne 7 13 (by decide) (by decide))) ((hne 7 19 (by decide) (by decide))) ((hne 7 22 (by decide) (by decide))) ((hne 7 23 (by decide) (by decide))) ((hne 7 24 (by decide) (by decide)))) (all_cons (notmem6 ((hne 0 8 (by decide) (by decide)).symm) ((hne 8 13 (by decide) (by decide))) ((hne 8 19 (by decide) (by decide))) ((hne 8 22 (by decide) (by decide))) ((hne 8 23 (by decide) (by decide))) ((hne 8 24 (by decide) (by decide)))) (all_cons (notmem6 ((hne 0 9 (by decide) (by decide)).symm) ((hne 9 13 (by decide) (by decide))) ((hne 9 19 (by decide) (by decide))) ((hne 9 22 (by decide) (by decide))) ((hne 9 23 (by decide) (by decide))) ((hne 9 24 (by decide) (by decide)))) (all_cons (notmem6 ((hne 0 10 (by decide) (by decide)).symm) ((hne 10 13 (by decide) (by decide))) ((hne 10 19 (by decide) (by decide))) ((hne 10 22 (by decide) (by decide))) ((hne 10 23 (by decide) (by decide))) ((hne 10 24 (by decide) (by decide)))) (all_cons (notmem6 ((hne 0 11 (by decide) (by decide)).symm) ((hne 11 13 (by decide) (by decide))) ((hne 11 19 (by decide) (by decide))) ((hne 11 22 (by decide) (by decide))) ((hne 11 23 (by decide) (by decide))) ((hne 11 24 (by decide) (by decide)))) (all_cons (notmem6 ((hne 0 12 (by decide) (by decide)).symm) ((hne 12 13 (by decide) (by decide))) ((hne 12 19 (by decide) (by decide))) ((hne 12 22 (by decide) (by decide))) ((hne 12 23 (by decide) (by decide))) ((hne 12 24 (by decide) (by decide)))) (all_cons (notmem6 ((hne 0 1 (by decide) (by decide)).symm) ((hne 1 13 (by decide) (by decide))) ((hne 1 19 (by decide) (by decide))) ((hne 1 22 (by decide) (by decide))) ((hne 1 23 (by decide) (by decide))) ((hne 1 24 (by decide) (by decide)))) (all_cons (notmem6 ((hne 0 18 (by decide) (by decide)).symm) ((hne 13 18 (by decide) (by decide)).symm) ((hne 18 19 (by decide) (by decide))) ((hne 18 22 (by decide) (by decide))) ((hne 18 23 (by decide) (by decide))) ((hne 18 24 (by decide) (by decide)))) (all_cons (notmem6 ((hne 0 20 (by decide) (by decide)).symm) ((hne 13 20 (by decide) (by decide)).symm) ((hne 19 20 (by decide) (by decide)).symm) ((hne 20 22 (by decide) (by decide))) ((hne 20 23 (by decide) (by decide))) ((hne 20 24 (by decide) (by decide)))) fun r hr h => hoth1 r hr (hsub6 _ h))))))))))))))))))))
    have hD : [182, M2.a, wl, ld, td, hp].Nodup := List.Nodup.sublist (by unfold fixA; repeat (first | exact .slnil | apply List.Sublist.cons_cons | apply List.Sublist.cons)) hFix
    have hmo : ∀ r ∈ others', r ∈ (M2.ln, listOf [].toArray l2) :: (M0.a, accObj M0.da (it 0) n0) :: (M0.v, instObj 136 M0.d) :: (M0.d, vfDict M0.kh M0.kt M0.vt M0.ln M0.a M0.kd) :: (M0.da, accDict M0.hs M0.t z0 t1 M0.k) :: (M0.ln, listOf [].toArray l0) :: (M1.a, accObj M1.da (it 1) n1) :: (M1.v, instObj 136 M1.d) :: (M1.d, vfDict M1.kh M1.kt M1.vt M1.ln M1.a M1.kd) :: (M1.da, accDict M1.hs M1.t z1 t2 M1.k) :: (M1.ln, listOf [].toArray l1) :: (189, tabObj #[]) :: (du, listOf due.toArray nd) :: (hl, listOf #[.int z0 t1, .int z1 t2, .int z2 t3] n2h) :: others' := by exact sub_ixr [] 14 rfl
    refine @S _ _ _ _ _ _ _ _ wl mk hp ld td q xs tl (log.map (·.1)) told (it 2) l (.ref M0.v) (.ref M1.v) (.ref M2.v) nw1 nl1 nt1 nh1 n2 kq 2 pw lw M2 z2 z t3 tq1 tq2 ps1 (ptx (onl 2 (entl κ log))) ((M2.ln, listOf [].toArray l2) :: (M0.a, accObj M0.da (it 0) n0) :: (M0.v, instObj 136 M0.d) :: (M0.d, vfDict M0.kh M0.kt M0.vt M0.ln M0.a M0.kd) :: (M0.da, accDict M0.hs M0.t z0 t1 M0.k) :: (M0.ln, listOf [].toArray l0) :: (M1.a, accObj M1.da (it 1) n1) :: (M1.v, instObj 136 M1.d) :: (M1.d, vfDict M1.kh M1.kt M1.vt M1.ln M1.a M1.kd) :: (M1.da, accDict M1.hs M1.t z1 t2 M1.k) :: (M1.ln, listOf [].toArray l1) :: (189, tabObj #[]) :: (du, listOf due.toArray nd) :: (hl, listOf #[.int z0 t1, .int z1 t2, .int z2 t3] n2h) :: others') _ κ κ2' B F4 X T hcl G1 (News.reord N6 (by exact sub_ixr [2, 15, 16, 17, 18, 21, 24, 25, 26, 4, 23, 0, 19, 5, 6, 7, 8, 9, 10, 11, 12, 13, 14, 3, 20, 22] 27 rfl)) rfl rfl rfl rfl hD hO hps1 hc rfl (fun v hv => ?_) hWp (by (first | exact om442 hlen | omega)) (hone.mono hmo) ⟨hp9, hw1, hw6⟩ hkq htl2 (fun v hv => (htlP v hv).mono hmo) htlm htlp ((I.parts 2 hc).mono hmo) hz hz80 hz2.1 hpl hpf hml htl9 ?_
    · obtain ⟨p, l, a1, a2, a3, a4, a5⟩ := hWs v hv
      exact ⟨p, l, a1, a2, a3, a4.mono hmo, a5⟩
    intro h5 tk5 gs5 m5 ps5 T5 q5 tf5 tx5 ta5 tb5 tt5 G5 F5 e1 e2 e3 e4 e5 e6 N5 hps5 lt5 lq5
    have emap : (log ++ [((hpop κ xs l).1, 2)] : List (Value × Nat)).map (·.1) = log.map (·.1) ++ [(hpop κ xs l).1] := by simp
    rw [← emap] at N5
    have hFT : ∀ x ∈ fixA L hl wl du mk hp td ld M0 M1 M2, x < T5 := fix_lt lt5 (by unfold fixA; simp only [List.map_cons]; exact sub_ix [0, 23, 9, 13, 14, 15, 16, 17, 18, 19, 20, 21, 22, 1, 2, 3, 4, 12, 24, 5, 25, 10, 6, 7, 8] rfl)
    refine ⟨_, h5, tk5, gs5, m5, (182, tabObj ps5) :: (189, tabObj #[]) :: (mk, listOf [.ref M0.v, .ref M1.v, .ref M2.v].toArray 3) :: (M0.a, accObj M0.da (it 0) n0) :: (M0.v, instObj 136 M0.d) :: (M0.d, vfDict M0.kh M0.kt M0.vt M0.ln M0.a M0.kd) :: (M0.da, accDict M0.hs M0.t z0 t1 M0.k) :: (M0.ln, listOf [].toArray l0) :: (M1.a, accObj M1.da (it 1) n1) :: (M1.v, instObj 136 M1.d) :: (M1.d, vfDict M1.kh M1.kt M1.vt M1.ln M1.a M1.kd) :: (M1.da, accDict M1.hs M1.t z1 t2 M1.k) :: (M1.ln, listOf [].toArray l1) :: (M2.a, accObj M2.da ((it 2) ++ [Value.ref T5]) (n2 + 1)) :: (M2.v, instObj 136 M2.d) :: (M2.d, vfDict M2.kh M2.kt M2.vt M2.ln M2.a M2.kd) :: (M2.da, accDict M2.hs M2.t z2 t3 M2.k) :: (M2.ln, listOf [].toArray l2) :: (du, listOf due.toArray nd) :: (wl, listOf (hpop κ xs l).2.toArray (nw1 + 1)) :: (hl, listOf #[.int z0 t1, .int z1 t2, .int z2 t3] n2h) :: (L + 1, oc) :: (ld, listOf ((log ++ [((hpop κ xs l).1, 2)] : List (Value × Nat)).map (·.1)).toArray (nl1 + 1)) :: (td, listOf (told ++ [Value.int (z + ((lw : Int) + 1)) tt5]).toArray (nt1 + 1)) :: (hp, listOf (siftup (kput κ2' q5 (z + ((lw : Int) + 1), ((2 : Nat) : Int))) 0 (.ref q5 :: tl)).toArray nh1) :: (q5, listOf #[.int (z + ((lw : Int) + 1)) ta5, .int ((2 : Nat) : Int) tb5] 0) :: (T5, tupObj (.str (Str.ofString " ") tf5) (.str (wtext pw lw) tx5) 0) :: others', hsz, rfl, G5, F5, News.reord N5 (by exact sub_ixr [0, 25, 9, 15, 16, 17, 18, 19, 20, 21, 22, 23, 24, 1, 2, 3, 4, 14, 26, 5, 27, 10, 6, 7, 8, 11, 12] 28 rfl), ⟨e1, e5.trans rfl, e6.trans rfl, e4, e2, e3⟩, LoopI.mk ps5 (log ++ [((hpop κ xs l).1, 2)]) (fun j => if j = 2 then it 2 ++ [Value.ref T5] else it j) (told ++ [Value.int (z + ((lw : Int) + 1)) tt5]) (hpop κ xs l).2 (siftup (kput κ2' q5 (z + ((lw : Int) + 1), ((2 : Nat) : Int))) 0 (.ref q5 :: tl)) ((q5, listOf #[.int (z + ((lw : Int) + 1)) ta5, .int ((2 : Nat) : Int) tb5] 0) :: (T5, tupObj (.str (Str.ofString " ") tf5) (.str (wtext pw lw) tx5) 0) :: others') (kput κ2' q5 (z + ((lw : Int) + 1), ((2 : Nat) : Int))) n0 n1 (n2 + 1) (nw1 + 1) (nl1 + 1) (nt1 + 1) nh1 hps5 (oth_cons (fun x hx => Nat.lt_trans (hFT x hx) lq5) (oth_cons hFT hoth1)) ?_⟩
    exact TInv.step (q' := q5) (T := T5) (c := 2) (w := lw) (p := pw) (ta := ta5) (tb := tb5) (tt := tt5) (t1 := tf5) (t2 := tx5) (n2 := 0) I hc hkq hK (fun r hr => Nat.lt_trans (lt5 r (by repeat (first | exact hr | apply List.Mem.tail))) lq5) (fun v hv => (htlm v hv).1) (fun r hr => .tail _ (.tail _ hr)) (.tail _ (.head _)) (.head _)
end
section
-- S3
theorem fresh_S3 : True := by
  w_top off
  trivial
set_option maxHeartbeats 8000000
theorem pop_none (l : Addr) (n : Nat) : Meets (Builtin.«list.pop» ⟨[.ref l], []⟩) (fun A R s => s.heap.get? l = some (listOf #[] n) ∧ raisesNew "IndexError" A R s) :=
  .of_wp fun prog w A R s h => by
    obtain ⟨hp, g, d, tk, os⟩ := s; obtain ⟨hl, h⟩ := h
    wp_walk using AutoSeq1.wpAny_loadPart' hl
    exact_raiseError plainExc_IndexError h.1 h.2
section
variable {prog : Program} {w : World} {A : Around} {E : Value → Shared → Prop} {s : Shared} {h₀ : Heap} {L D : Addr} {news : List (Addr × Obj)} {n : Nat} {Q : Value → Shared → Prop}
theorem r_popE (hA : A.handled = none) (N : News h₀ L s.heap news) (hm : (D, listOf #[] n) ∈ news) (h : ∀ h' tk e, Heap.NewExc s.heap h' e "IndexError" → E (.ref e) { s with heap := h', toks := tk }) :
    wpAny (model prog w) A (call (.builtin "list.pop") [.ref D]) Q E s :=
  call_meets PySem.F.slot_list_pop ⟨_, (N _ hm).1, rfl⟩ PySem.F.entry_list_pop (PySem.F.args_list_pop_1 _) (pop_none D n) ⟨(N _ hm).1, hA, h⟩
end
section
variable {prog : Program} {w : World} {A₀ : Around} {E : Value → Shared → Prop} {s' : Shared} {h₀ h : Heap} {outer : List Env} {L a e : Addr} {m : Str → Option Value} {name : Str} {scope : Scope} {cd : Value}
  {b₀ : Stmt} {suite : List Stmt} {pos np : Pos} {rest : List ExceptHandler} {Q : Flow → Shared → Prop} {news : List (Addr × Obj)}
  {p : Program} {loose : List Str} {mean : ExcName → Option Value} {mg mb : Str → Option Value}
/-- except IndexError, in a frame with cells -/
theorem caught_idx (B : Below A₀ h₀ outer h₀) (F : Fr h₀ L h m) (hu : h.UpToSlots s'.heap) (R : RaisedN h₀ (envOfC name scope L a cd :: outer) e (.type "IndexError") news s'.heap) (T : Top p loose mean mg mb h₀)
    (hs : mg (Str.ofString "IndexError") = none)
    (hk : scope.kind = .function) (hx : (envOfC name scope L a cd).kindOf (Str.ofString "IndexError") = some .globalImplicit)
    (hE : PassesOwnAt (model prog w) ((A₀.deeper (envOfC name scope L a cd)).mark (some (.ref e))) (A₀.deeper (envOfC name scope L a cd)) (envOfC name scope L a cd) E)
    (go : ∀ h', Fr h₀ L h' m → News h₀ L h' news → wpAny (model prog w) ((A₀.deeper (envOfC name scope L a cd)).mark (some (.ref e))) (execs (b₀ :: suite) (envOfC name scope L a cd)) Q E { s' with heap := h' }) :
    wpAny (model prog w) (A₀.deeper (envOfC name scope L a cd)) (noteFrame (.ref e) (envOfC name scope L a cd))
      (fun _ s₂ => wpAny (model prog w) (A₀.deeper (envOfC name scope L a cd)) (setFlight (.ref e) none) (fun _ s₃ =>
        wpAny (model prog w) (A₀.deeper (envOfC name scope L a cd)) (handleBy (.ref e) (envOfC name scope L a cd) (.ExceptHandler (some (.Name (Str.ofString "IndexError") np)) none (b₀ :: suite) pos :: rest)) Q E s₃) E s₂) E s' := by
  obtain ⟨G, a0, st, old, fly⟩ := R
  have noL : G.get? L = none := by
    obtain ⟨_, ⟨_, _, e1, e2, _⟩, _⟩ := fly.2.2.1
    cases e1
    exact e2
  refine wpAny_looks_onW (Around.frames_deeper B.stack) rfl fly fun g1 held1 u1 => ?_
  refine wpAny_landsW held1 fun g2 held2 u2 => ?_
  have F2 := F.of_stays (flyingW_base st held2).1 (hu.trans (u1.trans u2))
  have th := (flyingW_base st held2).there
  refine wpAny_handleBy_builtin (X := "IndexError") (T := "IndexError") (b := true) PySem.F.isExc_IndexError PySem.F.notTuple_IndexError (by rw [isSubtype_type]; kernel_rfl)
    (Calls.Name_function_global hk hx (Calls.loadGlobal_builtin (env := envOfC name scope L a cd) (T.g.keeps F2.keep) hs (T.b.keeps F2.keep) ((T.builtins _ (by decide +kernel)).trans PyProof.Rows.Boot.«IndexError») ⟨rfl, th, ?_⟩) (by decide))
  refine lands_againW held2 fun g3 fly3 u3 => ?_
  have F3 := F.of_stays (flyingW_base st fly3).1 ((hu.trans (u1.trans u2)).trans u3)
  refine wpAny_passesOwnAt hE (go g3 F3 fun q hq => ?_)
  have hq1 := (old q hq).1
  exact ⟨fly3.1 _ _ hq1, (fun z => by rw [z, noL] at hq1; cases hq1), (old q hq).2⟩
end
section
variable {prog : Program} {w : World} {A : Around} {E : Value → Shared → Prop} {s : Shared} {h₀ : Heap} {L : Addr} {news : List (Addr × Obj)} {Q : Value → Shared → Prop}
theorem wdats_eqv : ∀ l : List (Nat × Nat), PyData.eqvAll (l.map fun q => wdat q.1 q.2) (l.map fun q => wdat q.1 q.2) = true
  | [] => by simp [PyData.eqvAll]
  | a :: r => by
    rw [List.map_cons]
    simp only [PyData.eqvAll, wdats_eqv r, Bool.and_true]
    simp [PyData.eqv, PyData.eqvAll]
/-- two lists of the same words -/
theorem words_same {a b : Addr} {W : List Value} {n k : Nat} (N : News h₀ L s.heap news) (ha : (a, listOf W.toArray n) ∈ news) (hb : (b, listOf W.toArray k) ∈ news) (hw : ∀ v ∈ W, ∃ p l, p < 9 ∧ l < 7 ∧ WordAt news v p l) (hu : A.units + 64 < cLine)
    (h : Q (.bool false) s) : wpAny (model prog w) A (compareOp .NotEq (.ref a) (.ref b)) Q E s := by
  obtain ⟨ds, as, r, el, ho⟩ := words_reads' N hw
  have r1 : Reads s.heap (.ref a) (.list (ds.map fun q => wdat q.1 q.2)) _ := reads_list_at (N.get ha) rfl rfl r
  have r2 : Reads s.heap (.ref b) (.list (ds.map fun q => wdat q.1 q.2)) _ := reads_list_at (N.get hb) rfl rfl r
  refine ne_dataH r1 r2 (words_shaped ho) (words_shaped ho) hu ?_
  have e2 : (!PyData.eqv (.list (ds.map fun q => wdat q.1 q.2)) (.list (ds.map fun q => wdat q.1 q.2))) = false := by
    simp only [PyData.eqv, wdats_eqv, Bool.not_true]
  rw [e2]
  exact h
end
theorem stage4a {w : World} {base h₀ : Heap} {L fa : Nat} {cd : Value} {m : Str → Option Value} {s : Shared}
    {p : Program} {loose : List Str} {mean : ExcName → Option Value} {mg mb : Str → Option Value} {wl du td ld : Nat} {due told : List Value} {ns : List Int} {nd nw nl nt : Nat} {news : List (Addr × Obj)}
    {Q : Flow → Shared → Prop}
    (B : Below callerA h₀ [] h₀) (F : Fr h₀ L s.heap m) (X : (hd.heap_39 w.params).In h₀) (T : Top p loose mean mg mb h₀)
    (N : News h₀ L s.heap ((wl, listOf #[] nw) :: (ld, listOf due.toArray nl) :: (td, listOf told.toArray nt) :: (du, listOf due.toArray nd) :: news))
    (hm1 : m (Str.ofString "words") = some (.ref wl)) (hm2 : m (Str.ofString "due") = some (.ref du)) (hm3 : m (Str.ofString "laid") = some (.ref ld)) (hm4 : m (Str.ofString "told") = some (.ref td))
    (hw : ∀ v ∈ due, ∃ p l, p < 9 ∧ l < 7 ∧ WordAt news v p l) (hi : IntsAre told ns) (hs : ns.Pairwise (· ≤ ·)) (hn : ns.length ≤ 9)
    (next : ∀ h' tk, Fr h₀ L h' m →
      News h₀ L h' ((wl, listOf #[] nw) :: (ld, listOf due.toArray nl) :: (td, listOf told.toArray nt) :: (du, listOf due.toArray nd) :: news) →
      wpAny (model Challenge.rw_nb0237_01.row.prog w) (callerA.deeper (lawEnv w L fa cd)) (execs ((lawFn w).1.drop 13) (lawEnv w L fa cd)) Q (fun _ _ => False) { s with heap := h', toks := tk }) :
    wpAny (model Challenge.rw_nb0237_01.row.prog w) (callerA.deeper (lawEnv w L fa cd)) (execs ((lawFn w).1.drop 11) (lawEnv w L fa cd)) Q (fun _ _ => False) s := by
  revert X; k_fill; intro X
  have hfn := law_eq (w := w) (by k_is)
  unfold lawEnv at next ⊢
  rw [hfn] at next ⊢
  dsimp only [fnOfObj, List.drop] at next ⊢
  clear hfn
  have F1 := fr_kst [(Str.ofString "words", .ref wl), (Str.ofString "due", .ref du), (Str.ofString "laid", .ref ld), (Str.ofString "told", .ref td)] (all_cons (by assumption) (all_cons (by assumption) (all_cons (by assumption) (all_cons (by assumption) (fun _ h => nomatch h))))) F
  clear F
  iterate 1 walk1
  refine wpAny_Try_except ?_
  iterate 10 walk1
  walk_at "my go"
  refine r_popE rfl (by assumption) (.head _) ?_
  intro h' tk' e' x'
  walk_at "my go"
  rename RaisedN _ _ _ _ _ _ => R
  rename Heap.UpToSlots _ _ => U
  refine caught_idx B (by assumption) U R T (mg_none_of X T.g (by k_is)) rfl rfl (by passes_own) ?_
  intro h3 F3 N3
  walk_at "my go"
  rename Fr h₀ L _ _ => F4
  rename News h₀ L _ _ => N4
  dsimp only
  refine words_same N4 (.tail _ (.head _)) (.tail _ (.tail _ (.tail _ (.head _)))) (fun v hv => ?_) (by show callerA.units + 3 + 64 < cLine; decide) ?_
  · obtain ⟨p, l, a, b, c⟩ := hw v hv
    exact ⟨p, l, a, b, c.mono (by exact sub_ixr [] 4 rfl)⟩
  iterate 14 walk1
  rw [if_neg Bool.false_ne_true]
  iterate 6 walk1
  rename News h₀ L _ _ => N5
  refine words_ne (W := []) N5 (.tail _ (.tail _ (.head _))) (.head _) (fun _ h => nomatch h) (by show callerA.units + 3 + 64 < cLine; decide) ?_
  have eW : (!([] : List Value).isEmpty) = false := rfl
  rw [eW]
  iterate 1 walk1
  rw [if_neg Bool.false_ne_true]
  iterate 4 walk1
  rename Fr h₀ L _ _ => F6
  rename News h₀ L _ _ => N6
  have ek : kstB m [(Str.ofString "words", .ref wl), (Str.ofString "due", .ref du), (Str.ofString "laid", .ref ld), (Str.ofString "told", .ref td)] = m := by
    funext y
    exact kstB_eq (all_cons (by assumption) (all_cons (by assumption) (all_cons (by assumption) (all_cons (by assumption) (fun _ h => nomatch h))))) fun _ => rfl
  rw [ek] at F6
  exact next _ _ F6 (News.reord N6 (by exact sub_ixr [] 2 rfl))
end
section
-- D6
theorem fresh_D6 : True := by
  w_top off
  trivial
set_option maxHeartbeats 1000000
theorem parts_unsnoc {news : List (Addr × Obj)} : ∀ {vs : List Value} {ps : List (Str × Str)}, Parts news vs ps → ps ≠ [] → ∃ vs' T ps' f x t u n, vs = vs' ++ [.ref T] ∧ ps = ps' ++ [(f, x)] ∧ (T, tupObj (.str f t) (.str x u) n) ∈ news ∧ Parts news vs' ps'
  | _, _, .nil, h => absurd rfl h
  | _, _, .cons (vs := vs) (ps := ps) hm r, _ => by
    by_cases e : ps = []
    · subst e
      cases r
      exact ⟨[], _, [], _, _, _, _, _, rfl, rfl, hm, .nil⟩
    · obtain ⟨vs', T, ps', f, x, t, u, n, rfl, rfl, hm', r'⟩ := parts_unsnoc r e
      exact ⟨_ :: vs', T, _ :: ps', f, x, t, u, n, rfl, rfl, hm', .cons hm r'⟩
theorem ptext_nil : ptext [] = Str.ofString "" := txt_join_none _
/-- str(maker), whatever its line holds -/
theorem strmk_ok {w : World} {A A₀ : Around} {env : Env} {outer : List Env} {base h₀ : Heap} {L : Addr} {m : Str → Option Value} {news : List (Addr × Obj)} {s : Shared}
    {p : Program} {loose : List Str} {mean : ExcName → Option Value} {mg mb : Str → Option Value}
    {v d ln a da : Addr} {kh : Nat → Int} {kt vt : Nat → Tok} {items : List Value} {n k kd nl : Nat} {z : Int} {t tz : Tok} {hs : Int} {ps qs : Array Value} {parts : List (Str × Str)} {Q E : Value → Shared → Prop}
    (B : Below A₀ base outer h₀) (F : Fr h₀ L s.heap m) (X : (hd.heap_39 w.params).In h₀) (N : News h₀ L s.heap ((182, tabObj ps) :: (189, tabObj qs) :: (a, accObj da items n) :: (v, instObj 136 d) :: (d, vfDict kh kt vt ln a kd) :: (da, accDict hs t z tz k) :: (ln, listOf #[] nl) :: news)) (T : Top p loose mean mg mb h₀)
    (hA : A.frames = some (env :: outer)) (hf : env.frame = some L) (hke : env.scope.kind = .function)
    (hH : A.handled = none) (hroom : A.depth + 6 < recursionLimit) (hu : A.units + 120 < cLine) (G : AllBare s.gens)
    (hps : TabOk ⟨139, 19, 139, 63⟩ ps) (hqs : TabOk ⟨142, 32, 142, 85⟩ qs)
    (hPa : ∀ q ∈ (a, accObj da items n) :: (v, instObj 136 d) :: (d, vfDict kh kt vt ln a kd) :: (da, accDict hs t z tz k) :: (ln, listOf #[] nl) :: news, q.1 ≠ 182 ∧ q.1 ≠ 189)
    (hw : ∀ q ∈ (v, instObj 136 d) :: (d, vfDict kh kt vt ln a kd) :: (da, accDict hs t z tz k) :: (ln, listOf #[] nl) :: news, q.1 ≠ a)
    (hw2 : ∀ q ∈ (v, instObj 136 d) :: (d, vfDict kh kt vt ln a kd) :: (ln, listOf #[] nl) :: news, q.1 ≠ da)
    (hw3 : ∀ q ∈ (v, instObj 136 d) :: (d, vfDict kh kt vt ln a kd) :: (da, accDict hs t z tz k) :: news, q.1 ≠ ln)
    (hparts : Parts news items parts) (htup : ∀ v ∈ items, ∃ T v1 v2, v = .ref T ∧ (T, tupObj v1 v2 0) ∈ news)
    (hfit : ∀ q ∈ parts, q.1 = Str.ofString " " ∧ 0 < q.2.length ∧ q.2.length < 2 ^ 9 ∧ PyData.strOk q.2 = true) (hmany : parts.length < 100) (hz : 0 ≤ z) (hz1 : z < 2 ^ 20) (hns : parts ≠ [] → Txt.isspace (ptext parts) = false)
    (ret : ∀ h' tk' gs' ps' qs' n' tz' nl' lns' tr, Fr h₀ L h' m → News h₀ L h' ((182, tabObj ps') :: (189, tabObj qs') :: (a, accObj da [] n') :: (v, instObj 136 d) :: (d, vfDict kh kt vt ln a kd) :: (da, accDict hs t 0 tz' k) :: (ln, listOf lns'.toArray nl') :: news) →
      TabOk ⟨139, 19, 139, 63⟩ ps' → TabOk ⟨142, 32, 142, 85⟩ qs' → AllBare gs' → Shows lns' (ptext parts) → Q (.str (ptext parts) tr) { s with heap := h', toks := tk', gens := gs' }) :
    wpAny (model Challenge.rw_nb0237_01.row.prog w) A (call (.ref 91) [.ref v]) Q E s := by
  by_cases e : parts = []
  · subst e
    cases hparts
    refine str910_ok (lns := []) (txt := Str.ofString "") B F X N T hA hf hke hH hroom hu G hps hqs hPa hw hw2 hw3 (by decide) (.inl ⟨rfl, rfl⟩) (fun _ => rfl) hz hz1 ?_
    rw [ptext_nil] at ret
    exact ret
  · obtain ⟨items', T1, parts', f, x, tf, tx, nT, rfl, rfl, hT, hp'⟩ := parts_unsnoc hparts e
    obtain ⟨T2, v1, v2, e2, hT2⟩ := htup (.ref T1) (by simp)
    obtain rfl : T1 = T2 := by injection e2
    have h9 : ∀ q ∈ news, q ∈ (182, tabObj ps) :: (189, tabObj qs) :: (a, accObj da (items' ++ [.ref T1]) n) :: (v, instObj 136 d) :: (d, vfDict kh kt vt ln a kd) :: (da, accDict hs t z tz k) :: (ln, listOf #[] nl) :: news := by exact sub_ixr [] 7 rfl
    have g1 := (N _ (h9 _ hT)).1
    have g2 := (N _ (h9 _ hT2)).1
    have e3 := (Option.some.inj (g1.symm.trans g2))
    have hx := hfit (f, x) (by simp)
    obtain ⟨e4, hx0, hx1, hx2⟩ := hx
    dsimp only at e4
    subst e4
    have hT0 : (T1, tupObj (.str (Str.ofString " ") tf) (.str x tx) 0) ∈ news := by
      have e5 : tupObj (.str (Str.ofString " ") tf) (.str x tx) 0 = tupObj v1 v2 0 := by
        simp only [tupObj, Obj.mk.injEq, Data.seq.injEq] at e3 ⊢
        simp_all
      rw [e5]; exact hT2
    have hsub : ∀ q ∈ (T1, tupObj (.str (Str.ofString " ") tf) (.str x tx) 0) :: news, q ∈ news := all_cons hT0 fun _ h => h
    refine str91_ok (T1 := T1) (x := x) (tf := tf) (tx := tx) B F X (News.reord N (by intro q hq; revert q hq; exact all_cons (.head _) (all_cons (.tail _ (.head _)) (all_cons (.tail _ (.tail _ (.head _))) (all_cons (.tail _ (.tail _ (.tail _ (.head _)))) (all_cons (.tail _ (.tail _ (.tail _ (.tail _ (.head _))))) (all_cons (.tail _ (.tail _ (.tail _ (.tail _ (.tail _ (.head _)))))) (all_cons (.tail _ (.tail _ (.tail _ (.tail _ (.tail _ (.tail _ (.head _))))))) (fun q hq => h9 q (hsub q hq))))))))))  T hA hf hke hH hroom hu G hps hqs ?_ ?_ ?_ ?_ hp' ?_ (by show x.length < 2 ^ 9; exact hx1) hx0 hx2 (by simp at hmany; (first | exact om140 hmany | omega)) hz hz1 (hns e) ?_
    · exact all_cons (hPa (a, accObj da (items' ++ [.ref T1]) n) (.head _)) (all_cons (hPa _ (.tail _ (.head _))) (all_cons (hPa _ (.tail _ (.tail _ (.head _)))) (all_cons (hPa _ (.tail _ (.tail _ (.tail _ (.head _))))) (all_cons (hPa _ (.tail _ (.tail _ (.tail _ (.tail _ (.head _)))))) fun q hq => hPa q (.tail _ (.tail _ (.tail _ (.tail _ (.tail _ (hsub q hq))))))))))
    · exact all_cons (hw _ (.head _)) (all_cons (hw _ (.tail _ (.head _))) (all_cons (hw _ (.tail _ (.tail _ (.head _)))) (all_cons (hw _ (.tail _ (.tail _ (.tail _ (.head _))))) fun q hq => hw q (.tail _ (.tail _ (.tail _ (.tail _ (hsub q hq))))))))
    · exact all_cons (hw2 _ (.head _)) (all_cons (hw2 _ (.tail _ (.head _))) (all_cons (hw2 _ (.tail _ (.tail _ (.head _)))) fun q hq => hw2 q (.tail _ (.tail _ (.tail _ (hsub q hq))))))
    · exact all_cons (hw3 _ (.head _)) (all_cons (hw3 _ (.tail _ (.head _))) (all_cons (hw3 _ (.tail _ (.tail _ (.head _)))) fun q hq => hw3 q (.tail _ (.tail _ (.tail _ (hsub q hq))))))
    · intro q hq
      obtain ⟨a1, _, a2, _⟩ := hfit q (List.mem_append_left _ hq)
      exact ⟨by rw [a1]; decide, a2⟩
    · intro h' tk' gs' ps' qs' n' tz' nl' tl tr F' N' h1 h2 h3
      exact ret h' tk' gs' ps' qs' n' tz' nl' _ tr F' (News.reord N' (by exact sub_ixr [] 0 rfl)) h1 h2 h3 (.inr ⟨tl, rfl⟩)
end
section
-- D7
theorem fresh_D7 : True := by
  w_top off
  trivial
set_option maxHeartbeats 1000000
theorem apart7 {v d ln a da : Addr} {oa ov od oda oln : Obj} {news : List (Addr × Obj)} (hF : [182, 189, a, v, d, da, ln].Nodup) (hn : ∀ q ∈ news, q.1 ∉ [182, 189, a, da, ln]) :
    (∀ q ∈ (a, oa) :: (v, ov) :: (d, od) :: (da, oda) :: (ln, oln) :: news, q.1 ≠ 182 ∧ q.1 ≠ 189) ∧ (∀ q ∈ (v, ov) :: (d, od) :: (da, oda) :: (ln, oln) :: news, q.1 ≠ a) ∧ (∀ q ∈ (v, ov) :: (d, od) :: (ln, oln) :: news, q.1 ≠ da) ∧ (∀ q ∈ (v, ov) :: (d, od) :: (da, oda) :: news, q.1 ≠ ln) := by
  simp only [List.nodup_cons, List.mem_cons, List.not_mem_nil, or_false, not_or, List.nodup_nil, and_true, not_false_eq_true] at hF
  obtain ⟨⟨_, a1, a2, a3, a4, a5⟩, ⟨b1, b2, b3, b4, b5⟩, ⟨c1, c2, c3, c4⟩, ⟨d1, d2, d3⟩, ⟨e1, e2⟩, f1⟩ := hF
  have hm : ∀ q ∈ news, q.1 ≠ 182 ∧ q.1 ≠ 189 ∧ q.1 ≠ a ∧ q.1 ≠ da ∧ q.1 ≠ ln := by
    intro q hq
    have := hn q hq
    simp only [List.mem_cons, List.not_mem_nil, or_false, not_or] at this
    exact this
  refine ⟨?_, ?_, ?_, ?_⟩
  · exact all_cons ⟨Ne.symm a1, Ne.symm b1⟩ (all_cons ⟨Ne.symm a2, Ne.symm b2⟩ (all_cons ⟨Ne.symm a3, Ne.symm b3⟩ (all_cons ⟨Ne.symm a4, Ne.symm b4⟩ (all_cons ⟨Ne.symm a5, Ne.symm b5⟩ fun q hq => ⟨(hm q hq).1, (hm q hq).2.1⟩))))
  · exact all_cons (Ne.symm c1) (all_cons (Ne.symm c2) (all_cons (Ne.symm c3) (all_cons (Ne.symm c4) fun q hq => (hm q hq).2.2.1)))
  · exact all_cons d2 (all_cons e1 (all_cons (Ne.symm f1) fun q hq => (hm q hq).2.2.2.1))
  · exact all_cons d3 (all_cons e2 (all_cons f1 fun q hq => (hm q hq).2.2.2.2))
section
variable {v d ln a da : Addr} {oa ov od oda oln : Obj} {news : List (Addr × Obj)}
theorem apartA (hF : [182, 189, a, v, d, da, ln].Nodup) (hn : ∀ q ∈ news, q.1 ∉ [182, 189, a, da, ln]) : ∀ q ∈ (a, oa) :: (v, ov) :: (d, od) :: (da, oda) :: (ln, oln) :: news, q.1 ≠ 182 ∧ q.1 ≠ 189 := (apart7 hF hn).1
theorem apartB (hF : [182, 189, a, v, d, da, ln].Nodup) (hn : ∀ q ∈ news, q.1 ∉ [182, 189, a, da, ln]) : ∀ q ∈ (v, ov) :: (d, od) :: (da, oda) :: (ln, oln) :: news, q.1 ≠ a := (apart7 (oa := ov) hF hn).2.1
theorem apartC (hF : [182, 189, a, v, d, da, ln].Nodup) (hn : ∀ q ∈ news, q.1 ∉ [182, 189, a, da, ln]) : ∀ q ∈ (v, ov) :: (d, od) :: (ln, oln) :: news, q.1 ≠ da := (apart7 (oa := ov) (oda := ov) hF hn).2.2.1
theorem apartD (hF : [182, 189, a, v, d, da, ln].Nodup) (hn : ∀ q ∈ news, q.1 ∉ [182, 189, a, da, ln]) : ∀ q ∈ (v, ov) :: (d, od) :: (da, oda) :: news, q.1 ≠ ln := (apart7 (oa := ov) (oln := ov) hF hn).2.2.2
end
end
section
-- S4
theorem fresh_S4 : True := by
  w_top off
  trivial
set_option maxHeartbeats 8000000
open PyProof.Rows.LCg (NsObj lst Off3 Off1 SrcAt)
theorem notmem5 {x a b c d e : Nat} (h1 : x ≠ a) (h2 : x ≠ b) (h3 : x ≠ c) (h4 : x ≠ d) (h5 : x ≠ e) : x ∉ [a, b, c, d, e] := by
  simp only [List.mem_cons, List.not_mem_nil, or_false, not_or]
  exact ⟨h1, h2, h3, h4, h5⟩
/-- the makers' addresses -/
noncomputable def fixB (L mk : Nat) (M0 M1 M2 : MkD) : List Nat := [182, 189, mk, M0.a, M0.v, M0.d, M0.da, M0.ln, M1.a, M1.v, M1.d, M1.da, M1.ln, M2.a, M2.v, M2.d, M2.da, M2.ln, L + 1]
/-- a line's text -/
noncomputable abbrev lineOf (ws : List (Nat × Nat)) : Str := ptext (ptx ws)
noncomputable def WsOk (ws : List (Nat × Nat)) : Prop := ws.length ≤ 9 ∧ ∀ q ∈ ws, q.1 < 9 ∧ 1 ≤ q.2 ∧ q.2 ≤ 6
theorem ptx_fit {ws : List (Nat × Nat)} (h : WsOk ws) : ∀ q ∈ ptx ws, q.1 = Str.ofString " " ∧ 0 < q.2.length ∧ q.2.length < 2 ^ 9 ∧ PyData.strOk q.2 = true := by
  intro q hq
  obtain ⟨x, hx, rfl⟩ := List.mem_map.mp hq
  obtain ⟨a, b, c⟩ := h.2 x hx
  have e : (wtext x.1 x.2).length = x.2 := wtext_len x.1 a x.2 (by (first | exact om437 c | omega))
  refine ⟨rfl, ?_, ?_, wtext_ok x.1 a x.2 (by (first | exact om437 c | omega))⟩
  · show 0 < (wtext x.1 x.2).length
    (first | exact om443 b e | omega)
  · show (wtext x.1 x.2).length < 2 ^ 9
    (first | exact om444 c e | omega)

inductive StrI (mk : Nat) (M0 M1 M2 : MkD) (it : Nat → List Value) (ws : Nat → List (Nat × Nat)) (n0 n1 n2 l0 l1 l2 : Nat) (z0 z1 z2 : Int) (t1 t2 t3 : Tok) (ps qs : Array Value) (L : Nat) (oc : Obj) (rest : List (Addr × Obj)) : Nat → List Value → List (Addr × Obj) → Prop
  | s0 : StrI mk M0 M1 M2 it ws n0 n1 n2 l0 l1 l2 z0 z1 z2 t1 t2 t3 ps qs L oc rest 0 [] (ledM mk M0 M1 M2 ps qs (it 0) (it 1) (it 2) n0 n1 n2 z0 z1 z2 t1 t2 t3 ([] : List Value) ([] : List Value) ([] : List Value) l0 l1 l2 ((L + 1, oc) :: rest))
  | s1 (ps' qs' L0 nk0 tz0 nl0 u0) : TabOk ⟨139, 19, 139, 63⟩ ps' → TabOk ⟨142, 32, 142, 85⟩ qs' → Shows L0 (lineOf (ws 0)) → StrI mk M0 M1 M2 it ws n0 n1 n2 l0 l1 l2 z0 z1 z2 t1 t2 t3 ps qs L oc rest 1 [.str (lineOf (ws 0)) u0] (ledM mk M0 M1 M2 ps' qs' ([] : List Value) (it 1) (it 2) nk0 n1 n2 0 z1 z2 tz0 t2 t3 L0 ([] : List Value) ([] : List Value) nl0 l1 l2 ((L + 1, oc) :: rest))
  | s2 (ps' qs' L0 L1 nk0 nk1 tz0 tz1 nl0 nl1 u0 u1) : TabOk ⟨139, 19, 139, 63⟩ ps' → TabOk ⟨142, 32, 142, 85⟩ qs' → Shows L0 (lineOf (ws 0)) → Shows L1 (lineOf (ws 1)) → StrI mk M0 M1 M2 it ws n0 n1 n2 l0 l1 l2 z0 z1 z2 t1 t2 t3 ps qs L oc rest 2 [.str (lineOf (ws 0)) u0, .str (lineOf (ws 1)) u1] (ledM mk M0 M1 M2 ps' qs' ([] : List Value) ([] : List Value) (it 2) nk0 nk1 n2 0 0 z2 tz0 tz1 t3 L0 L1 ([] : List Value) nl0 nl1 l2 ((L + 1, oc) :: rest))
  | s3 (ps' qs' L0 L1 L2 nk0 nk1 nk2 tz0 tz1 tz2 nl0 nl1 nl2 u0 u1 u2) : TabOk ⟨139, 19, 139, 63⟩ ps' → TabOk ⟨142, 32, 142, 85⟩ qs' → Shows L0 (lineOf (ws 0)) → Shows L1 (lineOf (ws 1)) → Shows L2 (lineOf (ws 2)) → StrI mk M0 M1 M2 it ws n0 n1 n2 l0 l1 l2 z0 z1 z2 t1 t2 t3 ps qs L oc rest 3 [.str (lineOf (ws 0)) u0, .str (lineOf (ws 1)) u1, .str (lineOf (ws 2)) u2] (ledM mk M0 M1 M2 ps' qs' ([] : List Value) ([] : List Value) ([] : List Value) nk0 nk1 nk2 0 0 0 tz0 tz1 tz2 L0 L1 L2 nl0 nl1 nl2 ((L + 1, oc) :: rest))
theorem stage4b {w : World} {base h₀ : Heap} {L fa : Nat} {cd : Value} {m : Str → Option Value} {s : Shared} {oc : Obj}
    {p : Program} {loose : List Str} {mean : ExcName → Option Value} {mg mb : Str → Option Value} {mk : Nat} {M0 M1 M2 : MkD} {it : Nat → List Value} {ws : Nat → List (Nat × Nat)} {n0 n1 n2 l0 l1 l2 : Nat} {z0 z1 z2 : Int} {t1 t2 t3 : Tok} {ps qs : Array Value} {rest : List (Addr × Obj)}
    {Q : Flow → Shared → Prop}
    (B : Below callerA base [] h₀) (F : Fr h₀ L s.heap m) (X : (hd.heap_39 w.params).In h₀) (T : Top p loose mean mg mb h₀) (hcl : oc.data = .cell (some (.ref mk))) (G : AllBare s.gens)
    (N : News h₀ L s.heap (ledM mk M0 M1 M2 ps qs (it 0) (it 1) (it 2) n0 n1 n2 z0 z1 z2 t1 t2 t3 ([] : List Value) ([] : List Value) ([] : List Value) l0 l1 l2 ((L + 1, oc) :: rest)))
    (hps : TabOk ⟨139, 19, 139, 63⟩ ps) (hqs : TabOk ⟨142, 32, 142, 85⟩ qs) (hFix : (fixB L mk M0 M1 M2).Nodup) (hrest : ∀ r ∈ rest, r.1 ∉ fixB L mk M0 M1 M2) (hz0 : 0 ≤ z0 ∧ z0 < 6) (hz1 : 0 ≤ z1 ∧ z1 < 6) (hz2 : 0 ≤ z2 ∧ z2 < 6)
    (hws : ∀ k, k < 3 → WsOk (ws k)) (hpt : ∀ k, k < 3 → Parts rest (it k) (ptx (ws k))) (htu : ∀ k, k < 3 → ∀ v ∈ it k, ∃ T v1 v2, v = .ref T ∧ (T, tupObj v1 v2 0) ∈ rest)
    (next : ∀ h' tk gs (D : Nat) ps' qs' L0 L1 L2 nk0 nk1 nk2 tz0 tz1 tz2 nl0 nl1 nl2 u0 u1 u2, AllBare gs → Fr h₀ L h' (fun z => if z = Str.ofString "lines" then some (.ref D) else m z) →
      News h₀ L h' ((D, listOf [.str (lineOf (ws 0)) u0, .str (lineOf (ws 1)) u1, .str (lineOf (ws 2)) u2].toArray 3) :: ledM mk M0 M1 M2 ps' qs' ([] : List Value) ([] : List Value) ([] : List Value) nk0 nk1 nk2 0 0 0 tz0 tz1 tz2 L0 L1 L2 nl0 nl1 nl2 ((L + 1, oc) :: rest)) →
      TabOk ⟨139, 19, 139, 63⟩ ps' → TabOk ⟨142, 32, 142, 85⟩ qs' → Shows L0 (lineOf (ws 0)) → Shows L1 (lineOf (ws 1)) → Shows L2 (lineOf (ws 2)) → (∀ r ∈ ledM mk M0 M1 M2 ps' qs' ([] : List Value) ([] : List Value) ([] : List Value) nk0 nk1 nk2 0 0 0 tz0 tz1 tz2 L0 L1 L2 nl0 nl1 nl2 ((L + 1, oc) :: rest), r.1 ≠ D) →
      wpAny (model Challenge.rw_nb0237_01.row.prog w) (callerA.deeper (lawEnv w L fa cd)) (execs ((lawFn w).1.drop 14) (lawEnv w L fa cd)) Q (fun _ _ => False) { s with heap := h', toks := tk, gens := gs }) :
    wpAny (model Challenge.rw_nb0237_01.row.prog w) (callerA.deeper (lawEnv w L fa cd)) (execs ((lawFn w).1.drop 13) (lawEnv w L fa cd)) Q (fun _ _ => False) s := by
  revert X; k_fill; intro X
  have hfn := law_eq (w := w) (by k_is)
  unfold lawEnv at next ⊢
  rw [hfn] at next ⊢
  dsimp only [fnOfObj, List.drop] at next ⊢
  clear hfn
  have hne : ∀ i j, i < j → j < 19 → (fixB L mk M0 M1 M2).getD i 0 ≠ (fixB L mk M0 M1 M2).getD j 0 := fun i j h1 h2 => nodup_ne hFix i j h1 h2
  dsimp only [ledM, mk5] at N
  iterate 1 walk1
  refine Assign_ListComp_JG (Gp := AllBare) F (by rfl) (by with_unfolding_all rfl) (by with_unfolding_all rfl) (by decide) (by rfl) (by decide) (by rfl) (by rfl) (by rfl) ?_
  walk1
  refine ⟨G, rfl, 3, _, _, StrI mk M0 M1 M2 it ws n0 n1 n2 l0 l1 l2 z0 z1 z2 t1 t2 t3 ps qs L oc rest,
    _, .inl ⟨mk, #[.ref M0.v, .ref M1.v, .ref M2.v], rfl, .inr ⟨_, (by exact mem_ix 2 rfl), rfl, _, rfl⟩, rfl, rfl, rfl⟩, by decide, F, N, .s0, ?_, ?_⟩
  · rintro I i v ys oI C oC D m₂ h tk gs news₁ E' hi hP hyl hJ Gs hS hn5 hx5 F5 N5 of5 ne5
    have hi3 : i = 0 ∨ i = 1 ∨ i = 2 := by (first | exact om198 hi | omega)
    rcases hi3 with rfl | rfl | rfl
    · cases hJ
      obtain rfl : v = .ref M0.v := (Option.some.inj hP).symm
      dsimp only [ledM, mk5] at N5 of5
      have w0 := of5.mem (182, tabObj ps) (by exact mem_ix 0 rfl)
      have w1 := of5.mem (189, tabObj qs) (by exact mem_ix 1 rfl)
      have w2 := of5.mem (M0.a, accObj M0.da (it 0) n0) (by exact mem_ix 3 rfl)
      have w3 := of5.mem (M0.da, accDict M0.hs M0.t z0 t1 M0.k) (by exact mem_ix 6 rfl)
      have w4 := of5.mem (M0.ln, listOf ([] : List Value).toArray l0) (by exact mem_ix 7 rfl)
      have hF5 : [182, 189, M0.a, M0.v, M0.d, M0.da, M0.ln].Nodup := List.Nodup.sublist (by unfold fixB; repeat (first | exact .slnil | apply List.Sublist.cons_cons | apply List.Sublist.cons)) hFix
      have hsub5 : ∀ x ∈ [182, 189, M0.a, M0.da, M0.ln], x ∈ fixB L mk M0 M1 M2 := by unfold fixB; exact sub_ix [0, 1, 3, 6, 7] rfl
      have hn9 : ∀ r ∈ (I, oI) :: (C, oC) :: (D, lst ([] : List Value)) :: (mk, listOf [.ref M0.v, .ref M1.v, .ref M2.v].toArray 3) :: (M1.a, accObj M1.da (it 1) n1) :: (M1.v, instObj 136 M1.d) :: (M1.d, vfDict M1.kh M1.kt M1.vt M1.ln M1.a M1.kd) :: (M1.da, accDict M1.hs M1.t z1 t2 M1.k) :: (M1.ln, listOf ([] : List Value).toArray l1) :: (M2.a, accObj M2.da (it 2) n2) :: (M2.v, instObj 136 M2.d) :: (M2.d, vfDict M2.kh M2.kt M2.vt M2.ln M2.a M2.kd) :: (M2.da, accDict M2.hs M2.t z2 t3 M2.k) :: (M2.ln, listOf ([] : List Value).toArray l2) :: (L + 1, oc) :: rest, r.1 ∉ [182, 189, M0.a, M0.da, M0.ln] := all_cons (notmem5 (Ne.symm w0.1) (Ne.symm w1.1) (Ne.symm w2.1) (Ne.symm w3.1) (Ne.symm w4.1)) (all_cons (notmem5 (Ne.symm w0.2.1) (Ne.symm w1.2.1) (Ne.symm w2.2.1) (Ne.symm w3.2.1) (Ne.symm w4.2.1)) (all_cons (notmem5 (Ne.symm w0.2.2) (Ne.symm w1.2.2) (Ne.symm w2.2.2) (Ne.symm w3.2.2) (Ne.symm w4.2.2)) (all_cons (notmem5 ((hne 0 2 (by decide) (by decide)).symm) ((hne 1 2 (by decide) (by decide)).symm) ((hne 2 3 (by decide) (by decide))) ((hne 2 6 (by decide) (by decide))) ((hne 2 7 (by decide) (by decide)))) (all_cons (notmem5 ((hne 0 8 (by decide) (by decide)).symm) ((hne 1 8 (by decide) (by decide)).symm) ((hne 3 8 (by decide) (by decide)).symm) ((hne 6 8 (by decide) (by decide)).symm) ((hne 7 8 (by decide) (by decide)).symm)) (all_cons (notmem5 ((hne 0 9 (by decide) (by decide)).symm) ((hne 1 9 (by decide) (by decide)).symm) ((hne 3 9 (by decide) (by decide)).symm) ((hne 6 9 (by decide) (by decide)).symm) ((hne 7 9 (by decide) (by decide)).symm)) (all_cons (notmem5 ((hne 0 10 (by decide) (by decide)).symm) ((hne 1 10 (by decide) (by decide)).symm) ((hne 3 10 (by decide) (by decide)).symm) ((hne 6 10 (by decide) (by decide)).symm) ((hne 7 10 (by decide) (by decide)).symm)) (all_cons (notmem5 ((hne 0 11 (by decide) (by decide)).symm) ((hne 1 11 (by decide) (by decide)).symm) ((hne 3 11 (by decide) (by decide)).symm) ((hne 6 11 (by decide) (by decide)).symm) ((hne 7 11 (by decide) (by decide)).symm)) (all_cons (notmem5 ((hne 0 12 (by decide) (by decide)).symm) ((hne 1 12 (by decide) (by decide)).symm) ((hne 3 12 (by decide) (by decide)).symm) ((hne 6 12 (by decide) (by decide)).symm) ((hne 7 12 (by decide) (by decide)).symm)) (all_cons (notmem5 ((hne 0 13 (by decide) (by decide)).symm) ((hne 1 13 (by decide) (by decide)).symm) ((hne 3 13 (by decide) (by decide)).symm) ((hne 6 13 (by decide) (by decide)).symm) ((hne 7 13 (by decide) (by decide)).symm)) (all_cons (notmem5 ((hne 0 14 (by decide) (by decide)).symm) ((hne 1 14 (by decide) (by decide)).symm) ((hne 3 14 (by decide) (by decide)).symm) ((hne 6 14 (by decide) (by decide)).symm) ((hne 7 14 (by decide) (by decide)).symm)) (all_cons (notmem5 ((hne 0 15 (by decide) (by decide)).symm) ((hne 1 15 (by decide) (by decide)).symm) ((hne 3 15 (by decide) (by decide)).symm) ((hne 6 15 (by decide) (by decide)).symm) ((hne 7 15 (by decide) (by decide)).symm)) (all_cons (notmem5 ((hne 0 16 (by decide) (by decide)).symm) ((hne 1 16 (by decide) (by decide)).symm) ((hne 3 16 (by decide) (by decide)).symm) ((hne 6 16 (by decide) (by decide)).symm) ((hne 7 16 (by decide) (by decide)).symm)) (all_cons (notmem5 ((hne 0 17 (by decide) (by decide)).symm) ((hne 1 17 (by decide) (by decide)).symm) ((hne 3 17 (by decide) (by decide)).symm) ((hne 6 17 (by decide) (by decide)).symm) ((hne 7 17 (by decide) (by decide)).symm)) (all_cons (notmem5 ((hne 0 18 (by decide) (by decide)).symm) ((hne 1 18 (by decide) (by decide)).symm) ((hne 3 18 (by decide) (by decide)).symm) ((hne 6 18 (by decide) (by decide)).symm) ((hne 7 18 (by decide) (by decide)).symm)) fun r hr h => hrest r hr (hsub5 _ h)))))))))))))))
      iterate 7 walk1
      rename Fr h₀ L _ _ => F6
      rename News h₀ L _ _ => N6
      refine strmk_ok (parts := ptx (ws 0)) (items := it 0) (z := z0) (nl := l0) B F6 X (News.reord N6 (l' := (182, tabObj ps) :: (189, tabObj qs) :: (M0.a, accObj M0.da (it 0) n0) :: (M0.v, instObj 136 M0.d) :: (M0.d, vfDict M0.kh M0.kt M0.vt M0.ln M0.a M0.kd) :: (M0.da, accDict M0.hs M0.t z0 t1 M0.k) :: (M0.ln, listOf ([] : List Value).toArray l0) :: (I, oI) :: (C, oC) :: (D, lst ([] : List Value)) :: (mk, listOf [.ref M0.v, .ref M1.v, .ref M2.v].toArray 3) :: (M1.a, accObj M1.da (it 1) n1) :: (M1.v, instObj 136 M1.d) :: (M1.d, vfDict M1.kh M1.kt M1.vt M1.ln M1.a M1.kd) :: (M1.da, accDict M1.hs M1.t z1 t2 M1.k) :: (M1.ln, listOf ([] : List Value).toArray l1) :: (M2.a, accObj M2.da (it 2) n2) :: (M2.v, instObj 136 M2.d) :: (M2.d, vfDict M2.kh M2.kt M2.vt M2.ln M2.a M2.kd) :: (M2.da, accDict M2.hs M2.t z2 t3 M2.k) :: (M2.ln, listOf ([] : List Value).toArray l2) :: (L + 1, oc) :: rest) (by exact sub_ixr [3, 4, 6, 7, 8, 9, 10, 0, 1, 2, 5] 11 rfl)) T rfl rfl rfl rfl (by show callerA.depth + 1 + 6 < recursionLimit; decide) (by show callerA.units + 3 + 1 + 1 + 120 < cLine; decide) Gs hps hqs (apartA hF5 hn9) (apartB hF5 hn9) (apartC hF5 hn9) (apartD hF5 hn9) ((hpt 0 (by decide)).mono (by exact sub_ixr [] 15 rfl)) (fun v hv => ?_) (ptx_fit (hws 0 (by decide))) (by rw [List.length_map]; have := (hws 0 (by decide)).1; (first | exact om445 this | omega)) hz0.1 (by (first | exact om446 hz0 | omega)) (fun e => line_not_space (hws 0 (by decide)).2 (fun e2 => e (by rw [e2]; rfl))) ?_
      · obtain ⟨T9, v1, v2, e9, hm9⟩ := htu 0 (by decide) v hv
        exact ⟨T9, v1, v2, e9, by repeat (first | exact hm9 | apply List.Mem.tail)⟩
      intro h7 tk7 gs7 ps7 qs7 nk7 tz7 nl7 L7 u7 F7 N7 hps7 hqs7 G7 hs7
      unfold StrBack; dsimp only
      exact CEndG.intro F7 N7 G7 (ledM mk M0 M1 M2 ps7 qs7 ([] : List Value) (it 1) (it 2) nk7 n1 n2 0 z1 z2 tz7 t2 t3 L7 ([] : List Value) ([] : List Value) nl7 l1 l2 ((L + 1, oc) :: rest)) (by dsimp only [ledM, mk5]; exact sub_ixr [7, 8, 9, 0, 1, 10, 2, 3, 4, 5, 6] 11 rfl) of5 (.inr ⟨_, (by dsimp only [ledM, mk5]; repeat (first | exact List.Mem.head _ | apply List.Mem.tail)), rfl, _, rfl⟩) (.s1 ps7 qs7 L7 nk7 tz7 nl7 u7 hps7 hqs7 hs7)
    · cases hJ; rename_i ps1 qs1 L0 nk0 tz0 nl0 u0 hps1 hqs1 hs0
      obtain rfl : v = .ref M1.v := (Option.some.inj hP).symm
      dsimp only [ledM, mk5] at N5 of5
      have w0 := of5.mem (182, tabObj ps1) (by exact mem_ix 0 rfl)
      have w1 := of5.mem (189, tabObj qs1) (by exact mem_ix 1 rfl)
      have w2 := of5.mem (M1.a, accObj M1.da (it 1) n1) (by exact mem_ix 8 rfl)
      have w3 := of5.mem (M1.da, accDict M1.hs M1.t z1 t2 M1.k) (by exact mem_ix 11 rfl)
      have w4 := of5.mem (M1.ln, listOf ([] : List Value).toArray l1) (by exact mem_ix 12 rfl)
      have hF5 : [182, 189, M1.a, M1.v, M1.d, M1.da, M1.ln].Nodup := List.Nodup.sublist (by unfold fixB; repeat (first | exact .slnil | apply List.Sublist.cons_cons | apply List.Sublist.cons)) hFix
      have hsub5 : ∀ x ∈ [182, 189, M1.a, M1.da, M1.ln], x ∈ fixB L mk M0 M1 M2 := by unfold fixB; exact sub_ix [0, 1, 8, 11, 12] rfl
      have hn9 : ∀ r ∈ (I, oI) :: (C, oC) :: (D, lst [Value.str (lineOf (ws 0)) u0]) :: (mk, listOf [.ref M0.v, .ref M1.v, .ref M2.v].toArray 3) :: (M0.a, accObj M0.da ([] : List Value) nk0) :: (M0.v, instObj 136 M0.d) :: (M0.d, vfDict M0.kh M0.kt M0.vt M0.ln M0.a M0.kd) :: (M0.da, accDict M0.hs M0.t 0 tz0 M0.k) :: (M0.ln, listOf L0.toArray nl0) :: (M2.a, accObj M2.da (it 2) n2) :: (M2.v, instObj 136 M2.d) :: (M2.d, vfDict M2.kh M2.kt M2.vt M2.ln M2.a M2.kd) :: (M2.da, accDict M2.hs M2.t z2 t3 M2.k) :: (M2.ln, listOf ([] : List Value).toArray l2) :: (L + 1, oc) :: rest, r.1 ∉ [182, 189, M1.a, M1.da, M1.ln] := all_cons (notmem5 (Ne.symm w0.1) (Ne.symm w1.1) (Ne.symm w2.1) (Ne.symm w3.1) (Ne.symm w4.1)) (all_cons (notmem5 (Ne.symm w0.2.1) (Ne.symm w1.2.1) (Ne.symm w2.2.1) (Ne.symm w3.2.1) (Ne.symm w4.2.1)) (all_cons (notmem5 (Ne.symm w0.2.2) (Ne.symm w1.2.2) (Ne.symm w2.2.2) (Ne.symm w3.2.2) (Ne.symm w4.2.2)) (all_cons (notmem5 ((hne 0 2 (by decide) (by decide)).symm) ((hne 1 2 (by decide) (by decide)).symm) ((hne 2 8 (by decide) (by decide))) ((hne 2 11 (by decide) (by decide))) ((hne 2 12 (by decide) (by decide)))) (all_cons (notmem5 ((hne 0 3 (by decide) (by decide)).symm) ((hne 1 3 (by decide) (by decide)).symm) ((hne 3 8 (by decide) (by decide))) ((hne 3 11 (by decide) (by decide))) ((hne 3 12 (by decide) (by decide)))) (all_cons (notmem5 ((hne 0 4 (by decide) (by decide)).symm) ((hne 1 4 (by decide) (by decide)).symm) ((hne 4 8 (by decide) (by decide))) ((hne 4 11 (by decide) (by decide))) ((hne 4 12 (by decide) (by decide)))) (all_cons (notmem5 ((hne 0 5 (by decide) (by decide)).symm) ((hne 1 5 (by decide) (by decide)).symm) ((hne 5 8 (by decide) (by decide))) ((hne 5 11 (by decide) (by decide))) ((hne 5 12 (by decide) (by decide)))) (all_cons (notmem5 ((hne 0 6 (by decide) (by decide)).symm) ((hne 1 6 (by decide) (by decide)).symm) ((hne 6 8 (by decide) (by decide))) ((hne 6 11 (by decide) (by decide))) ((hne 6 12 (by decide) (by decide)))) (all_cons (notmem5 ((hne 0 7 (by decide) (by decide)).symm) ((hne 1 7 (by decide) (by decide)).symm) ((hne 7 8 (by decide) (by decide))) ((hne 7 11 (by decide) (by decide))) ((hne 7 12 (by decide) (by decide)))) (all_cons (notmem5 ((hne 0 13 (by decide) (by decide)).symm) ((hne 1 13 (by decide) (by decide)).symm) ((hne 8 13 (by decide) (by decide)).symm) ((hne 11 13 (by decide) (by decide)).symm) ((hne 12 13 (by decide) (by decide)).symm)) (all_cons (notmem5 ((hne 0 14 (by decide) (by decide)).symm) ((hne 1 14 (by decide) (by decide)).symm) ((hne 8 14 (by decide) (by decide)).symm) ((hne 11 14 (by decide) (by decide)).symm) ((hne 12 14 (by decide) (by decide)).symm)) (all_cons (notmem5 ((hne 0 15 (by decide) (by decide)).symm) ((hne 1 15 (by decide) (by decide)).symm) ((hne 8 15 (by decide) (by decide)).symm) ((hne 11 15 (by decide) (by decide)).symm) ((hne 12 15 (by decide) (by decide)).symm)) (all_cons (notmem5 ((hne 0 16 (by decide) (by decide)).symm) ((hne 1 16 (by decide) (by decide)).symm) ((hne 8 16 (by decide) (by decide)).symm) ((hne 11 16 (by decide) (by decide)).symm) ((hne 12 16 (by decide) (by decide)).symm)) (all_cons (notmem5 ((hne 0 17 (by decide) (by decide)).symm) ((hne 1 17 (by decide) (by decide)).symm) ((hne 8 17 (by decide) (by decide)).symm) ((hne 11 17 (by decide) (by decide)).symm) ((hne 12 17 (by decide) (by decide)).symm)) (all_cons (notmem5 ((hne 0 18 (by decide) (by decide)).symm) ((hne 1 18 (by decide) (by decide)).symm) ((hne 8 18 (by decide) (by decide)).symm) ((hne 11 18 (by decide) (by decide)).symm) ((hne 12 18 (by decide) (by decide)).symm)) fun r hr h => hrest r hr (hsub5 _ h)))))))))))))))
      iterate 7 walk1
      rename Fr h₀ L _ _ => F6
      rename News h₀ L _ _ => N6
      refine strmk_ok (parts := ptx (ws 1)) (items := it 1) (z := z1) (nl := l1) B F6 X (News.reord N6 (l' := (182, tabObj ps1) :: (189, tabObj qs1) :: (M1.a, accObj M1.da (it 1) n1) :: (M1.v, instObj 136 M1.d) :: (M1.d, vfDict M1.kh M1.kt M1.vt M1.ln M1.a M1.kd) :: (M1.da, accDict M1.hs M1.t z1 t2 M1.k) :: (M1.ln, listOf ([] : List Value).toArray l1) :: (I, oI) :: (C, oC) :: (D, lst [Value.str (lineOf (ws 0)) u0]) :: (mk, listOf [.ref M0.v, .ref M1.v, .ref M2.v].toArray 3) :: (M0.a, accObj M0.da ([] : List Value) nk0) :: (M0.v, instObj 136 M0.d) :: (M0.d, vfDict M0.kh M0.kt M0.vt M0.ln M0.a M0.kd) :: (M0.da, accDict M0.hs M0.t 0 tz0 M0.k) :: (M0.ln, listOf L0.toArray nl0) :: (M2.a, accObj M2.da (it 2) n2) :: (M2.v, instObj 136 M2.d) :: (M2.d, vfDict M2.kh M2.kt M2.vt M2.ln M2.a M2.kd) :: (M2.da, accDict M2.hs M2.t z2 t3 M2.k) :: (M2.ln, listOf ([] : List Value).toArray l2) :: (L + 1, oc) :: rest) (by exact sub_ixr [3, 4, 11, 12, 13, 14, 15, 0, 1, 2, 5, 6, 7, 8, 9, 10] 16 rfl)) T rfl rfl rfl rfl (by show callerA.depth + 1 + 6 < recursionLimit; decide) (by show callerA.units + 3 + 1 + 1 + 120 < cLine; decide) Gs hps1 hqs1 (apartA hF5 hn9) (apartB hF5 hn9) (apartC hF5 hn9) (apartD hF5 hn9) ((hpt 1 (by decide)).mono (by exact sub_ixr [] 15 rfl)) (fun v hv => ?_) (ptx_fit (hws 1 (by decide))) (by rw [List.length_map]; have := (hws 1 (by decide)).1; (first | exact om445 this | omega)) hz1.1 (by (first | exact om446 hz1 | omega)) (fun e => line_not_space (hws 1 (by decide)).2 (fun e2 => e (by rw [e2]; rfl))) ?_
      · obtain ⟨T9, v1, v2, e9, hm9⟩ := htu 1 (by decide) v hv
        exact ⟨T9, v1, v2, e9, by repeat (first | exact hm9 | apply List.Mem.tail)⟩
      intro h7 tk7 gs7 ps7 qs7 nk7 tz7 nl7 L7 u7 F7 N7 hps7 hqs7 G7 hs7
      unfold StrBack; dsimp only
      exact CEndG.intro F7 N7 G7 (ledM mk M0 M1 M2 ps7 qs7 ([] : List Value) ([] : List Value) (it 2) nk0 nk7 n2 0 0 z2 tz0 tz7 t3 L0 L7 ([] : List Value) nl0 nl7 l2 ((L + 1, oc) :: rest)) (by dsimp only [ledM, mk5]; exact sub_ixr [7, 8, 9, 0, 1, 10, 11, 12, 13, 14, 15, 2, 3, 4, 5, 6] 16 rfl) of5 (.inr ⟨_, (by dsimp only [ledM, mk5]; repeat (first | exact List.Mem.head _ | apply List.Mem.tail)), rfl, _, rfl⟩) (.s2 ps7 qs7 L0 L7 nk0 nk7 tz0 tz7 nl0 nl7 u0 u7 hps7 hqs7 hs0 hs7)
    · cases hJ; rename_i ps1 qs1 L0 L1 nk0 nk1 tz0 tz1 nl0 nl1 u0 u1 hps1 hqs1 hs0 hs1
      obtain rfl : v = .ref M2.v := (Option.some.inj hP).symm
      dsimp only [ledM, mk5] at N5 of5
      have w0 := of5.mem (182, tabObj ps1) (by exact mem_ix 0 rfl)
      have w1 := of5.mem (189, tabObj qs1) (by exact mem_ix 1 rfl)
      have w2 := of5.mem (M2.a, accObj M2.da (it 2) n2) (by exact mem_ix 13 rfl)
      have w3 := of5.mem (M2.da, accDict M2.hs M2.t z2 t3 M2.k) (by exact mem_ix 16 rfl)
      have w4 := of5.mem (M2.ln, listOf ([] : List Value).toArray l2) (by exact mem_ix 17 rfl)
      have hF5 : [182, 189, M2.a, M2.v, M2.d, M2.da, M2.ln].Nodup := List.Nodup.sublist (by unfold fixB; repeat (first | exact .slnil | apply List.Sublist.cons_cons | apply List.Sublist.cons)) hFix
      have hsub5 : ∀ x ∈ [182, 189, M2.a, M2.da, M2.ln], x ∈ fixB L mk M0 M1 M2 := by unfold fixB; exact sub_ix [0, 1, 13, 16, 17] rfl
      have hn9 : ∀ r ∈ (I, oI) :: (C, oC) :: (D, lst [Value.str (lineOf (ws 0)) u0, Value.str (lineOf (ws 1)) u1]) :: (mk, listOf [.ref M0.v, .ref M1.v, .ref M2.v].toArray 3) :: (M0.a, accObj M0.da ([] : List Value) nk0) :: (M0.v, instObj 136 M0.d) :: (M0.d, vfDict M0.kh M0.kt M0.vt M0.ln M0.a M0.kd) :: (M0.da, accDict M0.hs M0.t 0 tz0 M0.k) :: (M0.ln, listOf L0.toArray nl0) :: (M1.a, accObj M1.da ([] : List Value) nk1) :: (M1.v, instObj 136 M1.d) :: (M1.d, vfDict M1.kh M1.kt M1.vt M1.ln M1.a M1.kd) :: (M1.da, accDict M1.hs M1.t 0 tz1 M1.k) :: (M1.ln, listOf L1.toArray nl1) :: (L + 1, oc) :: rest, r.1 ∉ [182, 189, M2.a, M2.da, M2.ln] := all_cons (notmem5 (Ne.symm w0.1) (Ne.symm w1.1) (Ne.symm w2.1) (Ne.symm w3.1) (Ne.symm w4.1)) (all_cons (notmem5 (Ne.symm w0.2.1) (Ne.symm w1.2.1) (Ne.symm w2.2.1) (Ne.symm w3.2.1) (Ne.symm w4.2.1)) (all_cons (notmem5 (Ne.symm w0.2.2) (Ne.symm w1.2.2) (Ne.symm w2.2.2) (Ne.symm w3.2.2) (Ne.symm w4.2.2)) (all_cons (notmem5 ((hne 0 2 (by decide) (by decide)).symm) ((hne 1 2 (by decide) (by decide)).symm) ((hne 2 13 (by decide) (by decide))) ((hne 2 16 (by decide) (by decide))) ((hne 2 17 (by decide) (by decide)))) (all_cons (notmem5 ((hne 0 3 (by decide) (by decide)).symm) ((hne 1 3 (by decide) (by decide)).symm) ((hne 3 13 (by decide) (by decide))) ((hne 3 16 (by decide) (by decide))) ((hne 3 17 (by decide) (by decide)))) (all_cons (notmem5 ((hne 0 4 (by decide) (by decide)).symm) ((hne 1 4 (by decide) (by decide)).symm) ((hne 4 13 (by decide) (by decide))) ((hne 4 16 (by decide) (by decide))) ((hne 4 17 (by decide) (by decide)))) (all_cons (notmem5 ((hne 0 5 (by decide) (by decide)).symm) ((hne 1 5 (by decide) (by decide)).symm) ((hne 5 13 (by decide) (by decide))) ((hne 5 16 (by decide) (by decide))) ((hne 5 17 (by decide) (by decide)))) (all_cons (notmem5 ((hne 0 6 (by decide) (by decide)).symm) ((hne 1 6 (by decide) (by decide)).symm) ((hne 6 13 (by decide) (by decide))) ((hne 6 16 (by decide) (by decide))) ((hne 6 17 (by decide) (by decide)))) (all_cons (notmem5 ((hne 0 7 (by decide) (by decide)).symm) ((hne 1 7 (by decide) (by decide)).symm) ((hne 7 13 (by decide) (by decide))) ((hne 7 16 (by decide) (by decide))) ((hne 7 17 (by decide) (by decide)))) (all_cons (notmem5 ((hne 0 8 (by decide) (by decide)).symm) ((hne 1 8 (by decide) (by decide)).symm) ((hne 8 13 (by decide) (by decide))) ((hne 8 16 (by decide) (by decide))) ((hne 8 17 (by decide) (by decide)))) (all_cons (notmem5 ((hne 0 9 (by decide) (by decide)).symm) ((hne 1 9 (by decide) (by decide)).symm) ((hne 9 13 (by decide) (by decide))) ((hne 9 16 (by decide) (by decide))) ((hne 9 17 (by decide) (by decide)))) (all_cons (notmem5 ((hne 0 10 (by decide) (by decide)).symm) ((hne 1 10 (by decide) (by decide)).symm) ((hne 10 13 (by decide) (by decide))) ((hne 10 16 (by decide) (by decide))) ((hne 10 17 (by decide) (by decide)))) (all_cons (notmem5 ((hne 0 11 (by decide) (by decide)).symm) ((hne 1 11 (by decide) (by decide)).symm) ((hne 11 13 (by decide) (by decide))) ((hne 11 16 (by decide) (by decide))) ((hne 11 17 (by decide) (by decide)))) (all_cons (notmem5 ((hne 0 12 (by decide) (by decide)).symm) ((hne 1 12 (by decide) (by decide)).symm) ((hne 12 13 (by decide) (by decide))) ((hne 12 16 (by decide) (by decide))) ((hne 12 17 (by decide) (by decide)))) (all_cons (notmem5 ((hne 0 18 (by decide) (by decide)).symm) ((hne 1 18 (by decide) (by decide)).symm) ((hne 13 18 (by decide) (by decide)).symm) ((hne 16 18 (by decide) (by decide)).symm) ((hne 17 18 (by decide) (by decide)).symm)) fun r hr h => hrest r hr (hsub5 _ h)))))))))))))))
      iterate 7 walk1
      rename Fr h₀ L _ _ => F6
      rename News h₀ L _ _ => N6
      refine strmk_ok (parts := ptx (ws 2)) (items := it 2) (z := z2) (nl := l2) B F6 X (News.reord N6 (l' := (182, tabObj ps1) :: (189, tabObj qs1) :: (M2.a, accObj M2.da (it 2) n2) :: (M2.v, instObj 136 M2.d) :: (M2.d, vfDict M2.kh M2.kt M2.vt M2.ln M2.a M2.kd) :: (M2.da, accDict M2.hs M2.t z2 t3 M2.k) :: (M2.ln, listOf ([] : List Value).toArray l2) :: (I, oI) :: (C, oC) :: (D, lst [Value.str (lineOf (ws 0)) u0, Value.str (lineOf (ws 1)) u1]) :: (mk, listOf [.ref M0.v, .ref M1.v, .ref M2.v].toArray 3) :: (M0.a, accObj M0.da ([] : List Value) nk0) :: (M0.v, instObj 136 M0.d) :: (M0.d, vfDict M0.kh M0.kt M0.vt M0.ln M0.a M0.kd) :: (M0.da, accDict M0.hs M0.t 0 tz0 M0.k) :: (M0.ln, listOf L0.toArray nl0) :: (M1.a, accObj M1.da ([] : List Value) nk1) :: (M1.v, instObj 136 M1.d) :: (M1.d, vfDict M1.kh M1.kt M1.vt M1.ln M1.a M1.kd) :: (M1.da, accDict M1.hs M1.t 0 tz1 M1.k) :: (M1.ln, listOf L1.toArray nl1) :: (L + 1, oc) :: rest) (by exact sub_ixr [3, 4, 16, 17, 18, 19, 20, 0, 1, 2, 5, 6, 7, 8, 9, 10, 11, 12, 13, 14, 15] 21 rfl)) T rfl rfl rfl rfl (by show callerA.depth + 1 + 6 < recursionLimit; decide) (by show callerA.units + 3 + 1 + 1 + 120 < cLine; decide) Gs hps1 hqs1 (apartA hF5 hn9) (apartB hF5 hn9) (apartC hF5 hn9) (apartD hF5 hn9) ((hpt 2 (by decide)).mono (by exact sub_ixr [] 15 rfl)) (fun v hv => ?_) (ptx_fit (hws 2 (by decide))) (by rw [List.length_map]; have := (hws 2 (by decide)).1; (first | exact om445 this | omega)) hz2.1 (by (first | exact om446 hz2 | omega)) (fun e => line_not_space (hws 2 (by decide)).2 (fun e2 => e (by rw [e2]; rfl))) ?_
      · obtain ⟨T9, v1, v2, e9, hm9⟩ := htu 2 (by decide) v hv
        exact ⟨T9, v1, v2, e9, by repeat (first | exact hm9 | apply List.Mem.tail)⟩
      intro h7 tk7 gs7 ps7 qs7 nk7 tz7 nl7 L7 u7 F7 N7 hps7 hqs7 G7 hs7
      unfold StrBack; dsimp only
      exact CEndG.intro F7 N7 G7 (ledM mk M0 M1 M2 ps7 qs7 ([] : List Value) ([] : List Value) ([] : List Value) nk0 nk1 nk7 0 0 0 tz0 tz1 tz7 L0 L1 L7 nl0 nl1 nl7 ((L + 1, oc) :: rest)) (by dsimp only [ledM, mk5]; exact sub_ixr [7, 8, 9, 0, 1, 10, 11, 12, 13, 14, 15, 16, 17, 18, 19, 20, 2, 3, 4, 5, 6] 21 rfl) of5 (.inr ⟨_, (by dsimp only [ledM, mk5]; repeat (first | exact List.Mem.head _ | apply List.Mem.tail)), rfl, _, rfl⟩) (.s3 ps7 qs7 L0 L1 L7 nk0 nk1 nk7 tz0 tz1 tz7 nl0 nl1 nl7 u0 u1 u7 hps7 hqs7 hs0 hs1 hs7)
  · intro ys news' hyl hJ
    cases hJ
    rename_i ps' qs' L0 L1 L2 nk0 nk1 nk2 tz0 tz1 tz2 nl0 nl1 nl2 u0 u1 u2 hps' hqs' hs0 hs1 hs2
    intro D h9 tk9 gs9 G9 F9 N9 o9
    exact next h9 tk9 gs9 D ps' qs' L0 L1 L2 nk0 nk1 nk2 tz0 tz1 tz2 nl0 nl1 nl2 u0 u1 u2 G9 F9 N9 hps' hqs' hs0 hs1 hs2 (off1_mem o9)
end
section
-- S5
theorem fresh_S5 : True := by
  w_top off
  trivial
set_option maxHeartbeats 8000000
open PyProof.Rows.LCg (NsObj lst Off3 Off1 SrcAt)
theorem line_len {ws : List (Nat × Nat)} (h : WsOk ws) : (lineOf ws).length ≤ 63 := by
  have a := ptext_len (ptx ws)
  have b := plen_ptx h.2
  have c := wlen_le ws fun q hq => (h.2 q hq).2.2
  have d := h.1
  show (ptext (ptx ws)).length ≤ 63
  (first | exact om447 a b c d | omega)

inductive StrI5 (mk DL : Nat) (M0 M1 M2 : MkD) (ws : Nat → List (Nat × Nat)) (u0 u1 u2 : Tok) (L : Nat) (oc : Obj) (rest : List (Addr × Obj)) : Nat → List Value → List (Addr × Obj) → Prop
  | mk (i ps' qs' L0 L1 L2 nk0 nk1 nk2 tz0 tz1 tz2 nl0 nl1 nl2 v0 v1 v2) : TabOk ⟨139, 19, 139, 63⟩ ps' → TabOk ⟨142, 32, 142, 85⟩ qs' → Shows L0 (lineOf (ws 0)) → Shows L1 (lineOf (ws 1)) → Shows L2 (lineOf (ws 2)) →
    StrI5 mk DL M0 M1 M2 ws u0 u1 u2 L oc rest i ([.str (lineOf (ws 0)) v0, .str (lineOf (ws 1)) v1, .str (lineOf (ws 2)) v2].take i) (ledM mk M0 M1 M2 ps' qs' ([] : List Value) ([] : List Value) ([] : List Value) nk0 nk1 nk2 0 0 0 tz0 tz1 tz2 L0 L1 L2 nl0 nl1 nl2 ((L + 1, oc) :: (DL, listOf [.str (lineOf (ws 0)) u0, .str (lineOf (ws 1)) u1, .str (lineOf (ws 2)) u2].toArray 3) :: rest))
theorem stage4c {w : World} {base h₀ : Heap} {L fa : Nat} {cd : Value} {m : Str → Option Value} {s : Shared} {oc : Obj}
    {p : Program} {loose : List Str} {mean : ExcName → Option Value} {mg mb : Str → Option Value} {mk DL : Nat} {M0 M1 M2 : MkD} {ws : Nat → List (Nat × Nat)} {L0 L1 L2 : List Value} {nk0 nk1 nk2 nl0 nl1 nl2 : Nat} {tz0 tz1 tz2 u0 u1 u2 : Tok} {ps qs : Array Value} {rest : List (Addr × Obj)}
    {Q : Flow → Shared → Prop}
    (B : Below callerA base [] h₀) (F : Fr h₀ L s.heap m) (X : (hd.heap_39 w.params).In h₀) (T : Top p loose mean mg mb h₀) (hcl : oc.data = .cell (some (.ref mk))) (G : AllBare s.gens)
    (N : News h₀ L s.heap (ledM mk M0 M1 M2 ps qs ([] : List Value) ([] : List Value) ([] : List Value) nk0 nk1 nk2 0 0 0 tz0 tz1 tz2 L0 L1 L2 nl0 nl1 nl2 ((L + 1, oc) :: (DL, listOf [.str (lineOf (ws 0)) u0, .str (lineOf (ws 1)) u1, .str (lineOf (ws 2)) u2].toArray 3) :: rest)))
    (hm : m (Str.ofString "lines") = some (.ref DL))
    (hps : TabOk ⟨139, 19, 139, 63⟩ ps) (hqs : TabOk ⟨142, 32, 142, 85⟩ qs) (hFix : (fixB L mk M0 M1 M2).Nodup) (hDL : DL ∉ fixB L mk M0 M1 M2) (hrest : ∀ r ∈ rest, r.1 ∉ fixB L mk M0 M1 M2)
    (hws : ∀ k, k < 3 → WsOk (ws k)) (hs0 : Shows L0 (lineOf (ws 0))) (hs1 : Shows L1 (lineOf (ws 1))) (hs2 : Shows L2 (lineOf (ws 2)))
    (next : ∀ h' tk gs, AllBare gs → Fr h₀ L h' m → News h₀ L h' ((DL, listOf [.str (lineOf (ws 0)) u0, .str (lineOf (ws 1)) u1, .str (lineOf (ws 2)) u2].toArray 3) :: rest) →
      (∃ ps' qs', TabOk ⟨139, 19, 139, 63⟩ ps' ∧ TabOk ⟨142, 32, 142, 85⟩ qs' ∧ News h₀ L h' [(182, tabObj ps'), (189, tabObj qs')]) →
      wpAny (model Challenge.rw_nb0237_01.row.prog w) (callerA.deeper (lawEnv w L fa cd)) (execs ((lawFn w).1.drop 15) (lawEnv w L fa cd)) Q (fun _ _ => False) { s with heap := h', toks := tk, gens := gs }) :
    wpAny (model Challenge.rw_nb0237_01.row.prog w) (callerA.deeper (lawEnv w L fa cd)) (execs ((lawFn w).1.drop 14) (lawEnv w L fa cd)) Q (fun _ _ => False) s := by
  revert X; k_fill; intro X
  have hfn := law_eq (w := w) (by k_is)
  unfold lawEnv at next ⊢
  rw [hfn] at next ⊢
  dsimp only [fnOfObj, List.drop] at next ⊢
  clear hfn
  have hne : ∀ i j, i < j → j < 19 → (fixB L mk M0 M1 M2).getD i 0 ≠ (fixB L mk M0 M1 M2).getD j 0 := fun i j h1 h2 => nodup_ne hFix i j h1 h2
  have F0 := fr_kst [(Str.ofString "lines", .ref DL)] (by intro q hq; rw [List.mem_singleton.mp hq]; exact hm) F
  dsimp only [ledM, mk5] at N
  iterate 3 walk1
  refine ListComp_JG (Gp := AllBare) F0 (by with_unfolding_all rfl) (by decide) (by rfl) (by decide) (by rfl) ?_
  walk1
  refine ⟨G, rfl, 3, _, _, StrI5 mk DL M0 M1 M2 ws u0 u1 u2 L oc rest,
    _, .inl ⟨mk, #[.ref M0.v, .ref M1.v, .ref M2.v], rfl, .inr ⟨_, (by exact mem_ix 2 rfl), rfl, _, rfl⟩, rfl, rfl, rfl⟩, by decide, F0, N, StrI5.mk 0 ps qs L0 L1 L2 nk0 nk1 nk2 tz0 tz1 tz2 nl0 nl1 nl2 u0 u1 u2 hps hqs hs0 hs1 hs2, ?_, ?_⟩
  · clear hps hqs hs0 hs1 hs2 N
    rintro I i v ys oI C oC D m₂ h tk gs news₁ E' hi hP hyl ⟨ps1, qs1, L0, L1, L2, nk0, nk1, nk2, tz0, tz1, tz2, nl0, nl1, nl2, v0, v1, v2, hps1, hqs1, hs0, hs1, hs2⟩ Gs hS hn5 hx5 F5 N5 of5 ne5
    have hi3 : i = 0 ∨ i = 1 ∨ i = 2 := by (first | exact om198 hi | omega)
    rcases hi3 with rfl | rfl | rfl
    · obtain rfl : v = .ref M0.v := (Option.some.inj hP).symm
      dsimp only [ledM, mk5] at N5 of5
      have w0 := of5.mem (182, tabObj ps1) (by exact mem_ix 0 rfl)
      have w1 := of5.mem (189, tabObj qs1) (by exact mem_ix 1 rfl)
      have w2 := of5.mem (M0.a, accObj M0.da ([] : List Value) nk0) (by exact mem_ix 3 rfl)
      have w3 := of5.mem (M0.da, accDict M0.hs M0.t 0 tz0 M0.k) (by exact mem_ix 6 rfl)
      have w4 := of5.mem (M0.ln, listOf L0.toArray nl0) (by exact mem_ix 7 rfl)
      have hF5 : [182, 189, M0.a, M0.v, M0.d, M0.da, M0.ln].Nodup := List.Nodup.sublist (by unfold fixB; repeat (first | exact .slnil | apply List.Sublist.cons_cons | apply List.Sublist.cons)) hFix
      have hsub5 : ∀ x ∈ [182, 189, M0.a, M0.da, M0.ln], x ∈ fixB L mk M0 M1 M2 := by unfold fixB; exact sub_ix [0, 1, 3, 6, 7] rfl
      have hn9 : ∀ r ∈ (I, oI) :: (C, oC) :: (D, lst ([Value.str (lineOf (ws 0)) v0, Value.str (lineOf (ws 1)) v1, Value.str (lineOf (ws 2)) v2].take 0)) :: (mk, listOf [.ref M0.v, .ref M1.v, .ref M2.v].toArray 3) :: (M1.a, accObj M1.da ([] : List Value) nk1) :: (M1.v, instObj 136 M1.d) :: (M1.d, vfDict M1.kh M1.kt M1.vt M1.ln M1.a M1.kd) :: (M1.da, accDict M1.hs M1.t 0 tz1 M1.k) :: (M1.ln, listOf L1.toArray nl1) :: (M2.a, accObj M2.da ([] : List Value) nk2) :: (M2.v, instObj 136 M2.d) :: (M2.d, vfDict M2.kh M2.kt M2.vt M2.ln M2.a M2.kd) :: (M2.da, accDict M2.hs M2.t 0 tz2 M2.k) :: (M2.ln, listOf L2.toArray nl2) :: (L + 1, oc) :: (DL, listOf [.str (lineOf (ws 0)) u0, .str (lineOf (ws 1)) u1, .str (lineOf (ws 2)) u2].toArray 3) :: rest, r.1 ∉ [182, 189, M0.a, M0.da, M0.ln] := all_cons (notmem5 (Ne.symm w0.1) (Ne.symm w1.1) (Ne.symm w2.1) (Ne.symm w3.1) (Ne.symm w4.1)) (all_cons (notmem5 (Ne.symm w0.2.1) (Ne.symm w1.2.1) (Ne.symm w2.2.1) (Ne.symm w3.2.1) (Ne.symm w4.2.1)) (all_cons (notmem5 (Ne.symm w0.2.2) (Ne.symm w1.2.2) (Ne.symm w2.2.2) (Ne.symm w3.2.2) (Ne.symm w4.2.2)) (all_cons (notmem5 ((hne 0 2 (by decide) (by decide)).symm) ((hne 1 2 (by decide) (by decide)).symm) ((hne 2 3 (by decide) (by decide))) ((hne 2 6 (by decide) (by decide))) ((hne 2 7 (by decide) (by decide)))) (all_cons (notmem5 ((hne 0 8 (by decide) (by decide)).symm) ((hne 1 8 (by decide) (by decide)).symm) ((hne 3 8 (by decide) (by decide)).symm) ((hne 6 8 (by decide) (by decide)).symm) ((hne 7 8 (by decide) (by decide)).symm)) (all_cons (notmem5 ((hne 0 9 (by decide) (by decide)).symm) ((hne 1 9 (by decide) (by decide)).symm) ((hne 3 9 (by decide) (by decide)).symm) ((hne 6 9 (by decide) (by decide)).symm) ((hne 7 9 (by decide) (by decide)).symm)) (all_cons (notmem5 ((hne 0 10 (by decide) (by decide)).symm) ((hne 1 10 (by decide) (by decide)).symm) ((hne 3 10 (by decide) (by decide)).symm) ((hne 6 10 (by decide) (by decide)).symm) ((hne 7 10 (by decide) (by decide)).symm)) (all_cons (notmem5 ((hne 0 11 (by decide) (by decide)).symm) ((hne 1 11 (by decide) (by decide)).symm) ((hne 3 11 (by decide) (by decide)).symm) ((hne 6 11 (by decide) (by decide)).symm) ((hne 7 11 (by decide) (by decide)).symm)) (all_cons (notmem5 ((hne 0 12 (by decide) (by decide)).symm) ((hne 1 12 (by decide) (by decide)).symm) ((hne 3 12 (by decide) (by decide)).symm) ((hne 6 12 (by decide) (by decide)).symm) ((hne 7 12 (by decide) (by decide)).symm)) (all_cons (notmem5 ((hne 0 13 (by decide) (by decide)).symm) ((hne 1 13 (by decide) (by decide)).symm) ((hne 3 13 (by decide) (by decide)).symm) ((hne 6 13 (by decide) (by decide)).symm) ((hne 7 13 (by decide) (by decide)).symm)) (all_cons (notmem5 ((hne 0 14 (by decide) (by decide)).symm) ((hne 1 14 (by decide) (by decide)).symm) ((hne 3 14 (by decide) (by decide)).symm) ((hne 6 14 (by decide) (by decide)).symm) ((hne 7 14 (by decide) (by decide)).symm)) (all_cons (notmem5 ((hne 0 15 (by decide) (by decide)).symm) ((hne 1 15 (by decide) (by decide)).symm) ((hne 3 15 (by decide) (by decide)).symm) ((hne 6 15 (by decide) (by decide)).symm) ((hne 7 15 (by decide) (by decide)).symm)) (all_cons (notmem5 ((hne 0 16 (by decide) (by decide)).symm) ((hne 1 16 (by decide) (by decide)).symm) ((hne 3 16 (by decide) (by decide)).symm) ((hne 6 16 (by decide) (by decide)).symm) ((hne 7 16 (by decide) (by decide)).symm)) (all_cons (notmem5 ((hne 0 17 (by decide) (by decide)).symm) ((hne 1 17 (by decide) (by decide)).symm) ((hne 3 17 (by decide) (by decide)).symm) ((hne 6 17 (by decide) (by decide)).symm) ((hne 7 17 (by decide) (by decide)).symm)) (all_cons (notmem5 ((hne 0 18 (by decide) (by decide)).symm) ((hne 1 18 (by decide) (by decide)).symm) ((hne 3 18 (by decide) (by decide)).symm) ((hne 6 18 (by decide) (by decide)).symm) ((hne 7 18 (by decide) (by decide)).symm)) (all_cons (fun h => hDL (hsub5 _ h)) fun r hr h => hrest r hr (hsub5 _ h))))))))))))))))
      iterate 8 walk1
      rename Fr h₀ L _ _ => F6
      rename News h₀ L _ _ => N6
      refine ⟨X.keeps F6.keep, ?_⟩
      refine str840_ok (lns := L0) (txt := lineOf (ws 0)) (z := 0) (nl := nl0) B F6 X (News.reord N6 (l' := (182, tabObj ps1) :: (189, tabObj qs1) :: (M0.a, accObj M0.da ([] : List Value) nk0) :: (M0.v, instObj 136 M0.d) :: (M0.d, vfDict M0.kh M0.kt M0.vt M0.ln M0.a M0.kd) :: (M0.da, accDict M0.hs M0.t 0 tz0 M0.k) :: (M0.ln, listOf L0.toArray nl0) :: (I, oI) :: (C, oC) :: (D, lst ([Value.str (lineOf (ws 0)) v0, Value.str (lineOf (ws 1)) v1, Value.str (lineOf (ws 2)) v2].take 0)) :: (mk, listOf [.ref M0.v, .ref M1.v, .ref M2.v].toArray 3) :: (M1.a, accObj M1.da ([] : List Value) nk1) :: (M1.v, instObj 136 M1.d) :: (M1.d, vfDict M1.kh M1.kt M1.vt M1.ln M1.a M1.kd) :: (M1.da, accDict M1.hs M1.t 0 tz1 M1.k) :: (M1.ln, listOf L1.toArray nl1) :: (M2.a, accObj M2.da ([] : List Value) nk2) :: (M2.v, instObj 136 M2.d) :: (M2.d, vfDict M2.kh M2.kt M2.vt M2.ln M2.a M2.kd) :: (M2.da, accDict M2.hs M2.t 0 tz2 M2.k) :: (M2.ln, listOf L2.toArray nl2) :: (L + 1, oc) :: (DL, listOf [.str (lineOf (ws 0)) u0, .str (lineOf (ws 1)) u1, .str (lineOf (ws 2)) u2].toArray 3) :: rest) (by exact sub_ixr [3, 4, 6, 7, 8, 9, 10, 0, 1, 2, 5] 11 rfl)) T rfl rfl rfl rfl (by show callerA.depth + 1 + 5 < recursionLimit; decide) (by show callerA.units + 3 + 110 < cLine; decide) Gs hps1 hqs1 (apartA hF5 hn9) (apartB hF5 hn9) (apartC hF5 hn9) (apartD hF5 hn9) (by decide) (by have := line_len (hws 0 (by decide)); (first | exact om448 this | omega)) hs0 (fun e => absurd rfl e) (by decide) (by decide) ?_
      intro h7 tk7 gs7 ps7 qs7 nk7 tz7 nl7 L7 u7 F7 N7 hps7 hqs7 G7 hs7
      exact CEndG.intro F7 N7 G7 (ledM mk M0 M1 M2 ps7 qs7 ([] : List Value) ([] : List Value) ([] : List Value) nk7 nk1 nk2 0 0 0 tz7 tz1 tz2 L7 L1 L2 nl7 nl1 nl2 ((L + 1, oc) :: (DL, listOf [.str (lineOf (ws 0)) u0, .str (lineOf (ws 1)) u1, .str (lineOf (ws 2)) u2].toArray 3) :: rest)) (by dsimp only [ledM, mk5]; exact sub_ixr [7, 8, 9, 0, 1, 10, 2, 3, 4, 5, 6] 11 rfl) of5 (.inr ⟨_, (by dsimp only [ledM, mk5]; repeat (first | exact List.Mem.head _ | apply List.Mem.tail)), rfl, _, rfl⟩) (.mk 1 ps7 qs7 L7 L1 L2 nk7 nk1 nk2 tz7 tz1 tz2 nl7 nl1 nl2 u7 v1 v2 hps7 hqs7 hs7 hs1 hs2)
    · obtain rfl : v = .ref M1.v := (Option.some.inj hP).symm
      dsimp only [ledM, mk5] at N5 of5
      have w0 := of5.mem (182, tabObj ps1) (by exact mem_ix 0 rfl)
      have w1 := of5.mem (189, tabObj qs1) (by exact mem_ix 1 rfl)
      have w2 := of5.mem (M1.a, accObj M1.da ([] : List Value) nk1) (by exact mem_ix 8 rfl)
      have w3 := of5.mem (M1.da, accDict M1.hs M1.t 0 tz1 M1.k) (by exact mem_ix 11 rfl)
      have w4 := of5.mem (M1.ln, listOf L1.toArray nl1) (by exact mem_ix 12 rfl)
      have hF5 : [182, 189, M1.a, M1.v, M1.d, M1.da, M1.ln].Nodup := List.Nodup.sublist (by unfold fixB; repeat (first | exact .slnil | apply List.Sublist.cons_cons | apply List.Sublist.cons)) hFix
      have hsub5 : ∀ x ∈ [182, 189, M1.a, M1.da, M1.ln], x ∈ fixB L mk M0 M1 M2 := by unfold fixB; exact sub_ix [0, 1, 8, 11, 12] rfl
      have hn9 : ∀ r ∈ (I, oI) :: (C, oC) :: (D, lst ([Value.str (lineOf (ws 0)) v0, Value.str (lineOf (ws 1)) v1, Value.str (lineOf (ws 2)) v2].take 1)) :: (mk, listOf [.ref M0.v, .ref M1.v, .ref M2.v].toArray 3) :: (M0.a, accObj M0.da ([] : List Value) nk0) :: (M0.v, instObj 136 M0.d) :: (M0.d, vfDict M0.kh M0.kt M0.vt M0.ln M0.a M0.kd) :: (M0.da, accDict M0.hs M0.t 0 tz0 M0.k) :: (M0.ln, listOf L0.toArray nl0) :: (M2.a, accObj M2.da ([] : List Value) nk2) :: (M2.v, instObj 136 M2.d) :: (M2.d, vfDict M2.kh M2.kt M2.vt M2.ln M2.a M2.kd) :: (M2.da, accDict M2.hs M2.t 0 tz2 M2.k) :: (M2.ln, listOf L2.toArray nl2) :: (L + 1, oc) :: (DL, listOf [.str (lineOf (ws 0)) u0, .str (lineOf (ws 1)) u1, .str (lineOf (ws 2)) u2].toArray 3) :: rest, r.1 ∉ [182, 189, M1.a, M1.da, M1.ln] := all_cons (notmem5 (Ne.symm w0.1) (Ne.symm w1.1) (Ne.symm w2.1) (Ne.symm w3.1) (Ne.symm w4.1)) (all_cons (notmem5 (Ne.symm w0.2.1) (Ne.symm w1.2.1) (Ne.symm w2.2.1) (Ne.symm w3.2.1) (Ne.symm w4.2.1)) (all_cons (notmem5 (Ne.symm w0.2.2) (Ne.symm w1.2.2) (Ne.symm w2.2.2) (Ne.symm w3.2.2) (Ne.symm w4.2.2)) (all_cons (notmem5 ((hne 0 2 (by decide) (by decide)).symm) ((hne 1 2 (by decide) (by decide)).symm) ((hne 2 8 (by decide) (by decide))) ((hne 2 11 (by decide) (by decide))) ((hne 2 12 (by decide) (by decide)))) (all_cons (notmem5 ((hne 0 3 (by decide) (by decide)).symm) ((hne 1 3 (by decide) (by decide)).symm) ((hne 3 8 (by decide) (by decide))) ((hne 3 11 (by decide) (by decide))) ((hne 3 12 (by decide) (by decide)))) (all_cons (notmem5 ((hne 0 4 (by decide) (by decide)).symm) ((hne 1 4 (by decide) (by decide)).symm) ((hne 4 8 (by decide) (by decide))) ((hne 4 11 (by decide) (by decide))) ((hne 4 12 (by decide) (by decide)))) (all_cons (notmem5 ((hne 0 5 (by decide) (by decide)).symm) ((hne 1 5 (by decide) (by decide)).symm) ((hne 5 8 (by decide) (by decide))) ((hne 5 11 (by decide) (by decide))) ((hne 5 12 (by decide) (by decide)))) (all_cons (notmem5 ((hne 0 6 (by decide) (by decide)).symm) ((hne 1 6 (by decide) (by decide)).symm) ((hne 6 8 (by decide) (by decide))) ((hne 6 11 (by decide) (by decide))) ((hne 6 12 (by decide) (by decide)))) (all_cons (notmem5 ((hne 0 7 (by decide) (by decide)).symm) ((hne 1 7 (by decide) (by decide)).symm) ((hne 7 8 (by decide) (by decide))) ((hne 7 11 (by decide) (by decide))) ((hne 7 12 (by decide) (by decide)))) (all_cons (notmem5 ((hne 0 13 (by decide) (by decide)).symm) ((hne 1 13 (by decide) (by decide)).symm) ((hne 8 13 (by decide) (by decide)).symm) ((hne 11 13 (by decide) (by decide)).symm) ((hne 12 13 (by decide) (by decide)).symm)) (all_cons (notmem5 ((hne 0 14 (by decide) (by decide)).symm) ((hne 1 14 (by decide) (by decide)).symm) ((hne 8 14 (by decide) (by decide)).symm) ((hne 11 14 (by decide) (by decide)).symm) ((hne 12 14 (by decide) (by decide)).symm)) (all_cons (notmem5 ((hne 0 15 (by decide) (by decide)).symm) ((hne 1 15 (by decide) (by decide)).symm) ((hne 8 15 (by decide) (by decide)).symm) ((hne 11 15 (by decide) (by decide)).symm) ((hne 12 15 (by decide) (by decide)).symm)) (all_cons (notmem5 ((hne 0 16 (by decide) (by decide)).symm) ((hne 1 16 (by decide) (by decide)).symm) ((hne 8 16 (by decide) (by decide)).symm) ((hne 11 16 (by decide) (by decide)).symm) ((hne 12 16 (by decide) (by decide)).symm)) (all_cons (notmem5 ((hne 0 17 (by decide) (by decide)).symm) ((hne 1 17 (by decide) (by decide)).symm) ((hne 8 17 (by decide) (by decide)).symm) ((hne 11 17 (by decide) (by decide)).symm) ((hne 12 17 (by decide) (by decide)).symm)) (all_cons (notmem5 ((hne 0 18 (by decide) (by decide)).symm) ((hne 1 18 (by decide) (by decide)).symm) ((hne 8 18 (by decide) (by decide)).symm) ((hne 11 18 (by decide) (by decide)).symm) ((hne 12 18 (by decide) (by decide)).symm)) (all_cons (fun h => hDL (hsub5 _ h)) fun r hr h => hrest r hr (hsub5 _ h))))))))))))))))
      iterate 8 walk1
      rename Fr h₀ L _ _ => F6
      rename News h₀ L _ _ => N6
      refine ⟨X.keeps F6.keep, ?_⟩
      refine str840_ok (lns := L1) (txt := lineOf (ws 1)) (z := 0) (nl := nl1) B F6 X (News.reord N6 (l' := (182, tabObj ps1) :: (189, tabObj qs1) :: (M1.a, accObj M1.da ([] : List Value) nk1) :: (M1.v, instObj 136 M1.d) :: (M1.d, vfDict M1.kh M1.kt M1.vt M1.ln M1.a M1.kd) :: (M1.da, accDict M1.hs M1.t 0 tz1 M1.k) :: (M1.ln, listOf L1.toArray nl1) :: (I, oI) :: (C, oC) :: (D, lst ([Value.str (lineOf (ws 0)) v0, Value.str (lineOf (ws 1)) v1, Value.str (lineOf (ws 2)) v2].take 1)) :: (mk, listOf [.ref M0.v, .ref M1.v, .ref M2.v].toArray 3) :: (M0.a, accObj M0.da ([] : List Value) nk0) :: (M0.v, instObj 136 M0.d) :: (M0.d, vfDict M0.kh M0.kt M0.vt M0.ln M0.a M0.kd) :: (M0.da, accDict M0.hs M0.t 0 tz0 M0.k) :: (M0.ln, listOf L0.toArray nl0) :: (M2.a, accObj M2.da ([] : List Value) nk2) :: (M2.v, instObj 136 M2.d) :: (M2.d, vfDict M2.kh M2.kt M2.vt M2.ln M2.a M2.kd) :: (M2.da, accDict M2.hs M2.t 0 tz2 M2.k) :: (M2.ln, listOf L2.toArray nl2) :: (L + 1, oc) :: (DL, listOf [.str (lineOf (ws 0)) u0, .str (lineOf (ws 1)) u1, .str (lineOf (ws 2)) u2].toArray 3) :: rest) (by exact sub_ixr [3, 4, 11, 12, 13, 14, 15, 0, 1, 2, 5, 6, 7, 8, 9, 10] 16 rfl)) T rfl rfl rfl rfl (by show callerA.depth + 1 + 5 < recursionLimit; decide) (by show callerA.units + 3 + 110 < cLine; decide) Gs hps1 hqs1 (apartA hF5 hn9) (apartB hF5 hn9) (apartC hF5 hn9) (apartD hF5 hn9) (by decide) (by have := line_len (hws 1 (by decide)); (first | exact om448 this | omega)) hs1 (fun e => absurd rfl e) (by decide) (by decide) ?_
      intro h7 tk7 gs7 ps7 qs7 nk7 tz7 nl7 L7 u7 F7 N7 hps7 hqs7 G7 hs7
      exact CEndG.intro F7 N7 G7 (ledM mk M0 M1 M2 ps7 qs7 ([] : List Value) ([] : List Value) ([] : List Value) nk0 nk7 nk2 0 0 0 tz0 tz7 tz2 L0 L7 L2 nl0 nl7 nl2 ((L + 1, oc) :: (DL, listOf [.str (lineOf (ws 0)) u0, .str (lineOf (ws 1)) u1, .str (lineOf (ws 2)) u2].toArray 3) :: rest)) (by dsimp only [ledM, mk5]; exact sub_ixr [7, 8, 9, 0, 1, 10, 11, 12, 13, 14, 15, 2, 3, 4, 5, 6] 16 rfl) of5 (.inr ⟨_, (by dsimp only [ledM, mk5]; repeat (first | exact List.Mem.head _ | apply List.Mem.tail)), rfl, _, rfl⟩) (.mk 2 ps7 qs7 L0 L7 L2 nk0 nk7 nk2 tz0 tz7 tz2 nl0 nl7 nl2 v0 u7 v2 hps7 hqs7 hs0 hs7 hs2)
    · obtain rfl : v = .ref M2.v := (Option.some.inj hP).symm
      dsimp only [ledM, mk5] at N5 of5
      have w0 := of5.mem (182, tabObj ps1) (by exact mem_ix 0 rfl)
      have w1 := of5.mem (189, tabObj qs1) (by exact mem_ix 1 rfl)
      have w2 := of5.mem (M2.a, accObj M2.da ([] : List Value) nk2) (by exact mem_ix 13 rfl)
      have w3 := of5.mem (M2.da, accDict M2.hs M2.t 0 tz2 M2.k) (by exact mem_ix 16 rfl)
      have w4 := of5.mem (M2.ln, listOf L2.toArray nl2) (by exact mem_ix 17 rfl)
      have hF5 : [182, 189, M2.a, M2.v, M2.d, M2.da, M2.ln].Nodup := List.Nodup.sublist (by unfold fixB; repeat (first | exact .slnil | apply List.Sublist.cons_cons | apply List.Sublist.cons)) hFix
      have hsub5 : ∀ x ∈ [182, 189, M2.a, M2.da, M2.ln], x ∈ fixB L mk M0 M1 M2 := by unfold fixB; exact sub_ix [0, 1, 13, 16, 17] rfl
      have hn9 : ∀ r ∈ (I, oI) :: (C, oC) :: (D, lst ([Value.str (lineOf (ws 0)) v0, Value.str (lineOf (ws 1)) v1, Value.str (lineOf (ws 2)) v2].take 2)) :: (mk, listOf [.ref M0.v, .ref M1.v, .ref M2.v].toArray 3) :: (M0.a, accObj M0.da ([] : List Value) nk0) :: (M0.v, instObj 136 M0.d) :: (M0.d, vfDict M0.kh M0.kt M0.vt M0.ln M0.a M0.kd) :: (M0.da, accDict M0.hs M0.t 0 tz0 M0.k) :: (M0.ln, listOf L0.toArray nl0) :: (M1.a, accObj M1.da ([] : List Value) nk1) :: (M1.v, instObj 136 M1.d) :: (M1.d, vfDict M1.kh M1.kt M1.vt M1.ln M1.a M1.kd) :: (M1.da, accDict M1.hs M1.t 0 tz1 M1.k) :: (M1.ln, listOf L1.toArray nl1) :: (L + 1, oc) :: (DL, listOf [.str (lineOf (ws 0)) u0, .str (lineOf (ws 1)) u1, .str (lineOf (ws 2)) u2].toArray 3) :: rest, r.1 ∉ [182, 189, M2.a, M2.da, M2.ln] := all_cons (notmem5 (Ne.symm w0.1) (Ne.symm w1.1) (Ne.symm w2.1) (Ne.symm w3.1) (Ne.symm w4.1)) (all_cons (notmem5 (Ne.symm w0.2.1) (Ne.symm w1.2.1) (Ne.symm w2.2.1) (Ne.symm w3.2.1) (Ne.symm w4.2.1)) (all_cons (notmem5 (Ne.symm w0.2.2) (Ne.symm w1.2.2) (Ne.symm w2.2.2) (Ne.symm w3.2.2) (Ne.symm w4.2.2)) (all_cons (notmem5 ((hne 0 2 (by decide) (by decide)).symm) ((hne 1 2 (by decide) (by decide)).symm) ((hne 2 13 (by decide) (by decide))) ((hne 2 16 (by decide) (by decide))) ((hne 2 17 (by decide) (by decide)))) (all_cons (notmem5 ((hne 0 3 (by decide) (by decide)).symm) ((hne 1 3 (by decide) (by decide)).symm) ((hne 3 13 (by decide) (by decide))) ((hne 3 16 (by decide) (by decide))) ((hne 3 17 (by decide) (by decide)))) (all_cons (notmem5 ((hne 0 4 (by decide) (by decide)).symm) ((hne 1 4 (by decide) (by decide)).symm) ((hne 4 13 (by decide) (by decide))) ((hne 4 16 (by decide) (by decide))) ((hne 4 17 (by decide) (by decide)))) (all_cons (notmem5 ((hne 0 5 (by decide) (by decide)).symm) ((hne 1 5 (by decide) (by decide)).symm) ((hne 5 13 (by decide) (by decide))) ((hne 5 16 (by decide) (by decide))) ((hne 5 17 (by decide) (by decide)))) (all_cons (notmem5 ((hne 0 6 (by decide) (by decide)).symm) ((hne 1 6 (by decide) (by decide)).symm) ((hne 6 13 (by decide) (by decide))) ((hne 6 16 (by decide) (by decide))) ((hne 6 17 (by decide) (by decide)))) (all_cons (notmem5 ((hne 0 7 (by decide) (by decide)).symm) ((hne 1 7 (by decide) (by decide)).symm) ((hne 7 13 (by decide) (by decide))) ((hne 7 16 (by decide) (by decide))) ((hne 7 17 (by decide) (by decide)))) (all_cons (notmem5 ((hne 0 8 (by decide) (by decide)).symm) ((hne 1 8 (by decide) (by decide)).symm) ((hne 8 13 (by decide) (by decide))) ((hne 8 16 (by decide) (by decide))) ((hne 8 17 (by decide) (by decide)))) (all_cons (notmem5 ((hne 0 9 (by decide) (by decide)).symm) ((hne 1 9 (by decide) (by decide)).symm) ((hne 9 13 (by decide) (by decide))) ((hne 9 16 (by decide) (by decide))) ((hne 9 17 (by decide) (by decide)))) (all_cons (notmem5 ((hne 0 10 (by decide) (by decide)).symm) ((hne 1 10 (by decide) (by decide)).symm) ((hne 10 13 (by decide) (by decide))) ((hne 10 16 (by decide) (by decide))) ((hne 10 17 (by decide) (by decide)))) (all_cons (notmem5 ((hne 0 11 (by decide) (by decide)).symm) ((hne 1 11 (by decide) (by decide)).symm) ((hne 11 13 (by decide) (by decide))) ((hne 11 16 (by decide) (by decide))) ((hne 11 17 (by decide) (by decide)))) (all_cons (notmem5 ((hne 0 12 (by decide) (by decide)).symm) ((hne 1 12 (by decide) (by decide)).symm) ((hne 12 13 (by decide) (by decide))) ((hne 12 16 (by decide) (by decide))) ((hne 12 17 (by decide) (by decide)))) (all_cons (notmem5 ((hne 0 18 (by decide) (by decide)).symm) ((hne 1 18 (by decide) (by decide)).symm) ((hne 13 18 (by decide) (by decide)).symm) ((hne 16 18 (by decide) (by decide)).symm) ((hne 17 18 (by decide) (by decide)).symm)) (all_cons (fun h => hDL (hsub5 _ h)) fun r hr h => hrest r hr (hsub5 _ h))))))))))))))))
      iterate 8 walk1
      rename Fr h₀ L _ _ => F6
      rename News h₀ L _ _ => N6
      refine ⟨X.keeps F6.keep, ?_⟩
      refine str840_ok (lns := L2) (txt := lineOf (ws 2)) (z := 0) (nl := nl2) B F6 X (News.reord N6 (l' := (182, tabObj ps1) :: (189, tabObj qs1) :: (M2.a, accObj M2.da ([] : List Value) nk2) :: (M2.v, instObj 136 M2.d) :: (M2.d, vfDict M2.kh M2.kt M2.vt M2.ln M2.a M2.kd) :: (M2.da, accDict M2.hs M2.t 0 tz2 M2.k) :: (M2.ln, listOf L2.toArray nl2) :: (I, oI) :: (C, oC) :: (D, lst ([Value.str (lineOf (ws 0)) v0, Value.str (lineOf (ws 1)) v1, Value.str (lineOf (ws 2)) v2].take 2)) :: (mk, listOf [.ref M0.v, .ref M1.v, .ref M2.v].toArray 3) :: (M0.a, accObj M0.da ([] : List Value) nk0) :: (M0.v, instObj 136 M0.d) :: (M0.d, vfDict M0.kh M0.kt M0.vt M0.ln M0.a M0.kd) :: (M0.da, accDict M0.hs M0.t 0 tz0 M0.k) :: (M0.ln, listOf L0.toArray nl0) :: (M1.a, accObj M1.da ([] : List Value) nk1) :: (M1.v, instObj 136 M1.d) :: (M1.d, vfDict M1.kh M1.kt M1.vt M1.ln M1.a M1.kd) :: (M1.da, accDict M1.hs M1.t 0 tz1 M1.k) :: (M1.ln, listOf L1.toArray nl1) :: (L + 1, oc) :: (DL, listOf [.str (lineOf (ws 0)) u0, .str (lineOf (ws 1)) u1, .str (lineOf (ws 2)) u2].toArray 3) :: rest) (by exact sub_ixr [3, 4, 16, 17, 18, 19, 20, 0, 1, 2, 5, 6, 7, 8, 9, 10, 11, 12, 13, 14, 15] 21 rfl)) T rfl rfl rfl rfl (by show callerA.depth + 1 + 5 < recursionLimit; decide) (by show callerA.units + 3 + 110 < cLine; decide) Gs hps1 hqs1 (apartA hF5 hn9) (apartB hF5 hn9) (apartC hF5 hn9) (apartD hF5 hn9) (by decide) (by have := line_len (hws 2 (by decide)); (first | exact om448 this | omega)) hs2 (fun e => absurd rfl e) (by decide) (by decide) ?_
      intro h7 tk7 gs7 ps7 qs7 nk7 tz7 nl7 L7 u7 F7 N7 hps7 hqs7 G7 hs7
      exact CEndG.intro F7 N7 G7 (ledM mk M0 M1 M2 ps7 qs7 ([] : List Value) ([] : List Value) ([] : List Value) nk0 nk1 nk7 0 0 0 tz0 tz1 tz7 L0 L1 L7 nl0 nl1 nl7 ((L + 1, oc) :: (DL, listOf [.str (lineOf (ws 0)) u0, .str (lineOf (ws 1)) u1, .str (lineOf (ws 2)) u2].toArray 3) :: rest)) (by dsimp only [ledM, mk5]; exact sub_ixr [7, 8, 9, 0, 1, 10, 11, 12, 13, 14, 15, 16, 17, 18, 19, 20, 2, 3, 4, 5, 6] 21 rfl) of5 (.inr ⟨_, (by dsimp only [ledM, mk5]; repeat (first | exact List.Mem.head _ | apply List.Mem.tail)), rfl, _, rfl⟩) (.mk 3 ps7 qs7 L0 L1 L7 nk0 nk1 nk7 tz0 tz1 tz7 nl0 nl1 nl7 v0 v1 u7 hps7 hqs7 hs0 hs1 hs7)
  · clear hps hqs hs0 hs1 hs2 N
    rintro ys news' hyl ⟨ps', qs', L0, L1, L2, nk0, nk1, nk2, tz0, tz1, tz2, nl0, nl1, nl2, v0, v1, v2, hps', hqs', hs0, hs1, hs2⟩
    intro D h9 tk9 gs9 G9 F9 N9 o9
    dsimp only [ledM, mk5] at N9
    iterate 1 walk1
    replace N9 := News.reord N9 (l' := (D, listOf [Value.str (lineOf (ws 0)) v0, .str (lineOf (ws 1)) v1, .str (lineOf (ws 2)) v2].toArray 3) :: (182, tabObj ps') :: (189, tabObj qs') :: (DL, listOf [.str (lineOf (ws 0)) u0, .str (lineOf (ws 1)) u1, .str (lineOf (ws 2)) u2].toArray 3) :: rest) (by exact sub_ixr [0, 1, 2] 20 rfl)
    dsimp only
    refine strs_same (xs := [lineOf (ws 0), lineOf (ws 1), lineOf (ws 2)]) N9 (.head _) (.tail _ (.tail _ (.tail _ (.head _)))) (.cons _ _ (.cons _ _ (.cons _ _ .nil))) (.cons _ _ (.cons _ _ (.cons _ _ .nil))) ?_ (by show callerA.units + 3 + 64 < cLine; decide) ?_
    · intro x hx
      simp only [List.mem_cons, List.not_mem_nil, or_false] at hx
      rcases hx with rfl | rfl | rfl
      · exact line_ok (hws 0 (by decide)).2
      · exact line_ok (hws 1 (by decide)).2
      · exact line_ok (hws 2 (by decide)).2
    iterate 3 walk1
    have ek : kstB m [(Str.ofString "lines", .ref DL)] = m := by
      funext y
      exact kstB_eq (by intro q hq; rw [List.mem_singleton.mp hq]; exact hm) fun _ => rfl
    rename Fr h₀ L _ _ => F10
    rename News h₀ L _ _ => N10
    rw [ek] at F10
    exact next _ _ _ G9 F10 (News.reord N10 (by exact sub_ixr [] 3 rfl)) ⟨ps', qs', hps', hqs', News.reord N10 (by exact sub_ix [1, 2] rfl)⟩
end
section
-- G3
theorem fresh_G3 : True := by
  w_top off
  trivial
set_option maxHeartbeats 1000000
section
variable {prog : Program} {w : World} {A : Around} {E : Value → Shared → Prop} {s : Shared} {env : Env} {h₀ : Heap} {x : Str} {body : List Stmt} {Q : Flow → Shared → Prop}
/-- a for over a list of the ledger's, by an invariant -/
theorem loop_list {l : Addr} {its : List Value} {nn : Nat} {m₀ : Str → Option Value} {news : List (Addr × Obj)} (hh : A.handled = none)
    (F : Fr h₀ env.locals s.heap m₀) (N : News h₀ env.locals s.heap news) (hm : (l, listOf its.toArray nn) ∈ news)
    (J : Nat → (Str → Option Value) → List (Addr × Obj) → Prop) (h0 : J 0 m₀ news)
    (step : ∀ i v m₁ news₁ I io h tk, i < its.length → its[i]? = some v → J i m₁ news₁ → (∀ p ∈ news₁, p.1 ≠ I) → (l, listOf its.toArray nn) ∈ news₁ → Fr h₀ env.locals h (fun y => if y = x then some v else m₁ y) → News h₀ env.locals h ((I, io) :: news₁) →
      wpAny (model prog w) A (execs body env) (LEnd h₀ env.locals { s with heap := h, toks := tk } I io [(l, listOf its.toArray nn)] (J (i + 1)) Q) E { s with heap := h, toks := tk })
    (fin : ∀ h' tk m' news', Fr h₀ env.locals h' m' → News h₀ env.locals h' news' → J its.length m' news' → Q .next { s with heap := h', toks := tk }) :
    wpAny (model prog w) A (pyIter (.ref l)) (fun it s₂ => LoopAtV prog w A h₀ env x body Q E it s₂) E s := by
  have hl : s.heap.IsList l its.toArray := News.isList N hm
  refine wpAny_pyIter_list hl ?_
  have F4 := Fr.push F { cls := .type "list_iterator", data := .fields #[.ref l, .int 0 0] }
  have N4 := News.push F N { cls := .type "list_iterator", data := .fields #[.ref l, .int 0 0] }
  have hoff : ∀ q ∈ news, q.1 ≠ s.heap.objs.size := fun q hq => Nat.ne_of_lt (Heap.lt_size (N q hq).1)
  have hne : l ≠ s.heap.objs.size := hoff _ hm
  have hit := (N4 _ (.head _)).1
  have hl4 : (s.heap.push { cls := .type "list_iterator", data := .fields #[.ref l, .int 0 0] }).IsList l its.toArray := hl.push _
  generalize s.heap.objs.size = I at *
  have W : Walks prog w A I (I :: [(l, listOf its.toArray nn)].map (·.1)) [I] its.toArray.size _ _ := Walks.list hh I l hne its.toArray
  have hsz : its.toArray.size = its.length := by simp
  refine loopW (s := { s with heap := s.heap.push { cls := .type "list_iterator", data := .fields #[.ref l, .int 0 0] } }) (keep := [(l, listOf its.toArray nn)]) W ⟨⟨_, hit, rfl, rfl⟩, hl4⟩ (fun i h st => by obtain ⟨o, e, _⟩ := st.1; exact ⟨o, e⟩) F4 N4 hoff (fun q hq => by rw [List.mem_singleton.mp hq]; exact hm) J h0 ?_ ?_
  · rintro i v m₁ news₁ io h tk hi hv hJ ho hk F5 N5
    exact step i v m₁ news₁ I io h tk (by (first | exact om25 hsz hi | omega)) (by simpa using hv) hJ ho (hk _ (.head _)) F5 N5
  · intro h' tk m' news' F5 N5 hJ
    rw [hsz] at hJ
    exact fin h' tk m' news' F5 N5 hJ
/-- a for over a dict's keys (ints), by an invariant -/
theorem loop_dict {d : Addr} {od : Obj} {kvs : List (Int × Value)} {m₀ : Str → Option Value} {news : List (Addr × Obj)} (hh : A.handled = none)
    (F : Fr h₀ env.locals s.heap m₀) (N : News h₀ env.locals s.heap news) (hm : (d, od) ∈ news) (hd : od.IsDictOf (PySem.intKind prog w) kvs) (lo : (d == sysModules) = false)
    (J : Nat → (Str → Option Value) → List (Addr × Obj) → Prop) (h0 : J 0 m₀ news)
    (step : ∀ i k v kv m₁ news₁ I io h tk, i < kvs.length → kvs[i]? = some (k, v) → (PySem.intKind prog w).is k kv = true → J i m₁ news₁ → (∀ p ∈ news₁, p.1 ≠ I) → (d, od) ∈ news₁ → Fr h₀ env.locals h (fun y => if y = x then some kv else m₁ y) → News h₀ env.locals h ((I, io) :: news₁) →
      wpAny (model prog w) A (execs body env) (LEnd h₀ env.locals { s with heap := h, toks := tk } I io [(d, od)] (J (i + 1)) Q) E { s with heap := h, toks := tk })
    (fin : ∀ h' tk m' news', Fr h₀ env.locals h' m' → News h₀ env.locals h' news' → J kvs.length m' news' → Q .next { s with heap := h', toks := tk }) :
    wpAny (model prog w) A (pyIter (.ref d)) (fun it s₂ => LoopAtV prog w A h₀ env x body Q E it s₂) E s := by
  obtain ⟨ep, ha⟩ := KdkAt.of hd
  refine wpAny_pyIter_dict lo (ha.dictAt (N _ hm).1) ?_
  have hoff : ∀ q ∈ news, q.1 ≠ s.heap.objs.size := fun q hq => Nat.ne_of_lt (Heap.lt_size (N q hq).1)
  have hne : d ≠ s.heap.objs.size := hoff _ hm
  have F4 := Fr.push F { cls := .type "dict_keyiterator", data := .fields #[.ref d, .int ((0 : Nat) : Int) 0, .int (kvs.length : Int) 0, .int (ep : Int) 0] }
  have N4 := News.push F N { cls := .type "dict_keyiterator", data := .fields #[.ref d, .int ((0 : Nat) : Int) 0, .int (kvs.length : Int) 0, .int (ep : Int) 0] }
  have hit := (N4 _ (.head _)).1
  have hd4 := ha.dictAt (N4 _ (.tail _ hm)).1
  generalize s.heap.objs.size = I at *
  have W : Walks prog w A I (I :: [(d, od)].map (·.1)) [I] kvs.length _ _ := Walks.dictKeys (knd := PySem.intKind prog w) hh I d hne kvs ep
  refine loopW (s := { s with heap := s.heap.push { cls := .type "dict_keyiterator", data := .fields #[.ref d, .int ((0 : Nat) : Int) 0, .int (kvs.length : Int) 0, .int (ep : Int) 0] } }) (keep := [(d, od)]) W ⟨⟨_, hit, rfl, rfl⟩, hd4⟩ (fun i h st => by obtain ⟨o, e, _⟩ := st.1; exact ⟨o, e⟩) F4 N4 hoff (fun q hq => by rw [List.mem_singleton.mp hq]; exact hm) J h0 ?_ ?_
  · rintro i v m₁ news₁ io h tk hi ⟨k, x', hx, hk⟩ hJ ho hkp F5 N5
    exact step i k x' v m₁ news₁ I io h tk hi hx hk hJ ho (hkp _ (.head _)) F5 N5
  · intro h' tk m' news' F5 N5 hJ
    exact fin h' tk m' news' F5 N5 hJ
end
end
section
-- S6
theorem fresh_S6 : True := by
  w_top off
  trivial
set_option maxHeartbeats 8000000
/-- where a line ends -/
noncomputable def lend (z : Int) : List (Nat × Nat) → Int
  | [] => z
  | q :: r => lend (z + 1 + (q.2 : Int)) r
theorem lends_snoc (q : Nat × Nat) : ∀ (ws : List (Nat × Nat)) (z : Int), lends z (ws ++ [q]) = lends z ws ++ [lend z ws + 1 + (q.2 : Int)] ∧ lend z (ws ++ [q]) = lend z ws + 1 + (q.2 : Int)
  | [], z => ⟨rfl, rfl⟩
  | p :: r, z => by
    obtain ⟨a, b⟩ := lends_snoc q r (z + 1 + (p.2 : Int))
    refine ⟨?_, b⟩
    show (z + 1 + (p.2 : Int)) :: lends (z + 1 + (p.2 : Int)) (r ++ [q]) = _
    rw [a]
    rfl
theorem lends_length : ∀ (z : Int) (ws : List (Nat × Nat)), (lends z ws).length = ws.length
  | _, [] => rfl
  | z, q :: r => by
    show (lends (z + 1 + (q.2 : Int)) r).length + 1 = _
    rw [lends_length _ r]
    rfl
theorem strv_get : ∀ {l : List (Str × Tok)} {i : Nat} {v : Value}, (strValues l)[i]? = some v → ∃ x t, v = .str x t ∧ (l.map (·.1))[i]? = some x
  | [], i, v, h => by simp [strValues] at h
  | (x, t) :: l, 0, v, h => ⟨x, t, by simpa [strValues] using h.symm, rfl⟩
  | (x, t) :: l, i + 1, v, h => by
    obtain ⟨y, u, a, b⟩ := strv_get (l := l) (i := i) (by simpa [strValues] using h)
    exact ⟨y, u, a, by simpa using b⟩
section
variable {prog : Program} {w : World} {A : Around} {E : Value → Shared → Prop} {s : Shared} {h₀ : Heap} {L : Addr} {m : Str → Option Value} {news : List (Addr × Obj)}
/-- xs[a:b] of a list that is a call's value -/
theorem cut_tmp {value slice : Expr} {l : Addr} {its zs : List Value} {n : Nat} {vl vu : Value} {lo hi : Option Int} {Q : Value → Shared → Prop} (F : Fr h₀ L s.heap m) (N : News h₀ L s.heap news) (hm : (l, listOf its.toArray n) ∈ news) (pl : IsPart vl lo) (pu : IsPart vu hi) (hz : its.length ≤ 1000) (e : kms_pick its lo hi = zs)
    (h : ∀ D h', Fr h₀ L h' m → News h₀ L h' ((D, listOf zs.toArray 0) :: news) → (∀ p ∈ news, p.1 < D) → Q (.ref D) { s with heap := h' })
    (hs : subscripted slice false (.ref l) (.ref s.heap.objs.size) = operate [.ref s.heap.objs.size, .ref l] (getItem (.ref l) (.ref s.heap.objs.size))) :
    wpAny (model prog w) A (subscriptTail value slice (.ref l) (.ref s.heap.objs.size)) Q E { s with heap := s.heap.push { cls := .type "slice", data := .fields #[vl, vu, .none] } } := by
  have hl : s.heap.IsList l its.toArray := News.isList N hm
  have hT : ({ s with heap := s.heap.push { cls := .type "slice", data := .fields #[vl, vu, .none] } } : Shared).TypeIs (.ref l) "list" := Heap.IsList.typeIs (s := { s with heap := s.heap.push { cls := .type "slice", data := .fields #[vl, vu, .none] } }) (hl.push _)
  have key : wpAny (model prog w) A (getItem (.ref l) (.ref s.heap.objs.size)) Q E { s with heap := s.heap.push { cls := .type "slice", data := .fields #[vl, vu, .none] } } := by
    refine wpAny_getItem_list_slice (hl.push _) (Heap.IsSliceOf.new ..) pl pu .none (by simp) ?_ (by rw [List.size_toArray, sizeLine_eq]; (first | exact om449 hz | omega))
    have N1 := News.push (F.push { cls := .type "slice", data := .fields #[vl, vu, .none] }) (N.grown fun _ _ e => Heap.get?_push_of_some _ e) { cls := .type "list", data := .seq (slicePick its.toArray lo hi none) }
    rw [kms_pick_eq] at N1 ⊢
    rw [show its.toArray.toList = its from rfl, e] at N1 ⊢
    refine h _ _ ((F.push _).push _) N1 fun p hp => ?_
    have := Heap.lt_size (N p hp).1
    rw [Heap.size_push]
    exact Nat.lt_succ_of_lt this
  unfold subscriptTail
  refine wpAny_bind ?_
  rw [getitemInPython_of_ne hT.not_modules]
  refine wpAny_bind (wpAny_specialOf hT slot_list_getitem.lookup ?_)
  have done : wpAny (model prog w) A (subscripted slice false (.ref l) (.ref s.heap.objs.size)) (fun r s₃ => wpAny (model prog w) A (letTemporaryGo value (.ref l) r >>= fun _ => pure r) Q E s₃) E { s with heap := s.heap.push { cls := .type "slice", data := .fields #[vl, vu, .none] } } := by
    rw [hs]
    exact wpAny_operating (wpAny_mono key (fun r s₃ h₃ => wpAny_bind (wpAny_letTemporaryGo (wpAny_pure h₃))) fun _ _ x => x)
  exact wpAny_pure (wpAny_bind done)
end
theorem ends_ok {w : World} {A A₀ : Around} {env : Env} {outer : List Env} {base h₀ : Heap} {L : Addr} {m : Str → Option Value} {news : List (Addr × Obj)} {s : Shared}
    {p : Program} {loose : List Str} {mean : ExcName → Option Value} {mg mb : Str → Option Value}
    {ws : List (Nat × Nat)} {z : Int} {u t : Tok} {Q E : Value → Shared → Prop}
    (B : Below A₀ base outer h₀) (F : Fr h₀ L s.heap m) (X : (hd.heap_39 w.params).In h₀) (N : News h₀ L s.heap news) (T : Top p loose mean mg mb h₀)
    (hA : A.frames = some (env :: outer)) (hf : env.frame = some L) (hke : env.scope.kind = .function)
    (hH : A.handled = none) (hroom : A.depth + 2 < recursionLimit) (hu : A.units + 40 < cLine) (hws : WsOk ws) (hz : 0 ≤ z ∧ z < 6)
    (ret : ∀ h' tk' D vs n', Fr h₀ L h' m → News h₀ L h' ((D, listOf vs.toArray n') :: news) → IntsAre vs (lends z ws) → (∀ q ∈ news, q.1 < D) → Q (.ref D) { s with heap := h', toks := tk' }) :
    wpAny (model Challenge.rw_nb0237_01.row.prog w) A (call (.ref 243) [.str (lineOf ws) u, .int z t]) Q E s := by
  revert X; k_fill; intro X
  refine wpAny_call ?_
  refine code_def (binds := [(Str.ofString "line", .str (lineOf ws) u), (Str.ofString "head", .int z t)]) B F X N T hA hf hke (by k_is) (by k_is) (by (first | exact om71 hroom | omega)) (BindsTo.of_eq rfl) (locs rfl) ?_ rfl rfl rfl (by decide)
  intro g' L' h' FG' F' N' B' X' T'
  try dsimp only
  iterate 13 walk1
  rename Fr g' L' _ _ => F0
  refine For_invVF F0 (by rfl) (by rfl) ?_
  iterate 8 walk1
  rename Fr g' L' _ _ => F1
  rename News g' L' _ _ => N1
  refine KSpl.split1 F1 N1 (by decide) ?_ ?_
  · intro D l h2 k2 e2 a2 F2 N2 l2
    rw [split_line hws.2] at e2
    obtain ⟨t0, l', rfl, e3⟩ := KSpl.cons_of e2
    iterate 5 walk1
    k_dflt (refine' cut_tmp (its := strValues ((Str.empty, t0) :: l')) (n := 0) (lo := some 1) (hi := none) (zs := strValues l') ?sgF ?sgN ?sgl ?sgp ?sgq ?sgz ?sge ?_ ?sgs; (case sgF => exact F2); (case sgN => exact N2); (case sgl => exact .head _); (case sgp => kmk_part); (case sgq => kmk_part); (case sgs => with_unfolding_all rfl))
    case sge =>
      have : ∀ l : List Value, kms_pick (.str Str.empty t0 :: l) (some 1) none = l := by
        intro l
        simp [kms_pick, kms_lo, kms_hi]
      exact this _
    case sgz =>
      have h1 : l'.length = ws.length := by have := congrArg List.length e3; simpa using this
      have := hws.1
      simp [strValues]
      (first | exact om450 h1 this | omega)
    intro D3 h3 F3 N3 l3
    rename_i en _ lt1 _ _
    have hlw : l'.length = ws.length := by have := congrArg List.length e3; simpa using this
    refine loop_list (its := strValues l') (nn := 0) hH F3 (News.reord N3 (l' := (D3, listOf (strValues l').toArray 0) :: (en, listOf [].toArray 0) :: news) (by exact sub_ixr [0] 2 rfl)) (.head _) (fun i mm nn' => mm (Str.ofString "ends") = some (.ref en) ∧ ∃ k vs t', mm (Str.ofString "end") = some (.int (lend z (ws.take i)) t') ∧ nn' = (D3, listOf (strValues l').toArray 0) :: (en, listOf vs.toArray k) :: news ∧ IntsAre vs (lends z (ws.take i))) ⟨rfl, 0, [], _, rfl, rfl, .nil⟩ ?_ ?_
    · rintro i v m₁ news₁ I io h4 tk4 hi hv ⟨c1, k, vs, t', c2, rfl, hvs⟩ hI hmm F4 N4
      obtain ⟨x, tx, rfl, hx⟩ := strv_get hv
      rw [e3, List.getElem?_map] at hx
      obtain ⟨q, hq, rfl⟩ := Option.map_eq_some_iff.mp hx
      have hq9 := hws.2 q (List.mem_of_getElem? hq)
      have hwq : (wtx q).length = q.2 := wtext_len q.1 hq9.1 q.2 (by (first | exact om265 hq9 | omega))
      have htk : ws.take (i + 1) = ws.take i ++ [q] := by rw [List.take_add_one, hq]; rfl
      obtain ⟨q1, q2⟩ := lends_snoc q (ws.take i) z
      rw [htk]
      rw [q1, q2]
      replace F4 := fr_kst [(Str.ofString "word", .str (wtx q) tx), (Str.ofString "ends", .ref en), (Str.ofString "end", .int (lend z (ws.take i)) t')] (all_cons (by first | rfl | assumption) (all_cons (by first | rfl | assumption) (all_cons (by first | rfl | assumption) (fun _ h => nomatch h)))) F4
      walk_at "my go"
      rename Fr g' L' _ _ => F5
      rw [hwq] at F5 ⊢
      rename News g' L' _ _ => N5
      have lD : en < D3 := l3 (en, listOf #[] 0) (.tail _ (.head _))
      refine r_append (xs := vs) F5 (News.reord N5 (l' := (en, listOf vs.toArray k) :: (I, io) :: (D3, listOf (strValues l').toArray 0) :: news) (by exact sub_ixr [2, 0, 1] 3 rfl)) (all_cons (Ne.symm (hI (en, listOf vs.toArray k) (.tail _ (.head _)))) (all_cons (Nat.ne_of_gt lD) fun r hr => Nat.ne_of_lt (lt1 r hr))) ?_ ?_
      · have h1 := hvs.length
        have h2 := lends_length z (ws.take i)
        have h3 := hws.1
        have h4 : (ws.take i).length ≤ ws.length := by rw [List.length_take]; omega
        (first | exact om452 h1 h2 h3 h4 | omega)
      intro h6 F6 N6
      walk_at "my go"
      rename Fr g' L' _ _ => F7
      rename News g' L' _ _ => N7
      refine LEnd.intro F7 (News.reord N7 (l' := (I, io) :: (D3, listOf (strValues l').toArray 0) :: (en, listOf (vs ++ [Value.int (lend z (ws.take i) + 1 + (q.2 : Int)) _]).toArray (k + 1)) :: news) (by exact sub_ixr [1, 2, 0] 3 rfl)) (all_cons (hI (D3, listOf (strValues l').toArray 0) (.head _)) (all_cons (hI (en, listOf vs.toArray k) (.tail _ (.head _))) fun r hr => hI r (.tail _ (.tail _ hr)))) (fun r hr => by rw [List.mem_singleton.mp hr]; exact .head _) ⟨rfl, k + 1, _, _, rfl, rfl, ints_snoc hvs⟩
    · rintro h4 tk4 m₁ news₁ F4 N4 ⟨c1, k, vs, t', c2, rfl, hvs⟩
      have e9 : (strValues l').length = ws.length := by simp [strValues, hlw]
      rw [e9, List.take_length] at hvs
      replace F4 := fr_kst [(Str.ofString "ends", .ref en)] (by intro q hq; rw [List.mem_singleton.mp hq]; exact c1) F4
      walk_at "my go"
      rename Fr h₀ L _ _ => F5
      rename News h₀ L _ _ => N5
      exact ret _ _ en vs k F5 (News.reord N5 (by exact sub_ixr [] 1 rfl)) hvs lt1
  · have := line_len hws
    rw [sizeLine_eq]
    (first | exact om453 this | omega)
end
section
-- S7
theorem fresh_S7 : True := by
  w_top off
  trivial
set_option maxHeartbeats 8000000
open PyProof.Rows.LCg (NsObj lst Off3 Off1 SrcAt)
/-- the body of the for that stands first -/
noncomputable def fBody : List Stmt → List Stmt
  | .For _ _ b _ _ :: _ => b
  | _ => []
theorem strs_get : ∀ {vs : List Value} {xs : List Str} {i : Nat} {v : Value}, StrsAre vs xs → vs[i]? = some v → ∃ x t, v = .str x t ∧ xs[i]? = some x
  | _, _, i, v, .nil, h => by simp at h
  | _, _, 0, v, .cons x t _, h => ⟨x, t, (Option.some.inj h).symm, rfl⟩
  | _, _, i + 1, v, .cons x t hr, h => by
    obtain ⟨a, b, c, d⟩ := strs_get (i := i) hr (by simpa using h)
    exact ⟨a, b, c, by simpa using d⟩
theorem strs_snoc {x : Str} {t : Tok} : ∀ {vs : List Value} {xs : List Str}, StrsAre vs xs → StrsAre (vs ++ [.str x t]) (xs ++ [x])
  | _, _, .nil => .cons x t .nil
  | _, _, .cons a u h => .cons a u (strs_snoc h)
theorem blanks_sum : ∀ {ws : List (Nat × Nat)}, (∀ q ∈ ws, q.1 < 9 ∧ 1 ≤ q.2 ∧ q.2 ≤ 6) → ((ws.map fun q => Str.ofString " " ++ wtx q).map (·.length)).sum ≤ 7 * ws.length
  | [], _ => by simp
  | q :: r, h => by
    have ih := blanks_sum fun x hx => h x (.tail _ hx)
    have hq := h q (.head _)
    have e1 : (Str.ofString " ").length = 1 := by decide
    have e2 : (wtx q).length = q.2 := wtext_len q.1 hq.1 q.2 (by (first | exact om265 hq | omega))
    rw [List.map_cons, List.map_cons, List.sum_cons, Str.length_append, e1, e2, List.length_cons]
    (first | exact om454 ih hq | omega)
theorem strs_app : ∀ {vs vs' : List Value} {xs xs' : List Str}, StrsAre vs xs → StrsAre vs' xs' → StrsAre (vs ++ vs') (xs ++ xs')
  | _, _, _, _, .nil, h => h
  | _, _, _, _, .cons a u h, h' => .cons a u (strs_app h h')
theorem ints_app : ∀ {vs vs' : List Value} {xs xs' : List Int}, IntsAre vs xs → IntsAre vs' xs' → IntsAre (vs ++ vs') (xs ++ xs')
  | _, _, _, _, .nil, h => h
  | _, _, _, _, .cons a u h, h' => .cons a u (ints_app h h')
theorem row_turn {w : World} {base h₀ : Heap} {L fa : Nat} {cd : Value} {m : Str → Option Value} {s : Shared}
    {p : Program} {loose : List Str} {mean : ExcName → Option Value} {mg mb : Str → Option Value} {DL hl sh en : Nat} {k : Nat} {lv hv S E : List Value} {xs : List Str} {es : List Int} {ws : List (Nat × Nat)} {z : Int} {nd nh ns ne : Nat} {t u tk : Tok} {news : List (Addr × Obj)}
    {R : Flow → Shared → Prop}
    (B : Below callerA base [] h₀) (F : Fr h₀ L s.heap m) (X : (hd.heap_39 w.params).In h₀) (T : Top p loose mean mg mb h₀)
    (N : News h₀ L s.heap ((DL, listOf lv.toArray nd) :: (hl, listOf hv.toArray nh) :: (sh, listOf S.toArray ns) :: (en, listOf E.toArray ne) :: news))
    (hm1 : m (Str.ofString "lines") = some (.ref DL)) (hm2 : m (Str.ofString "heads") = some (.ref hl)) (hm3 : m (Str.ofString "shown") = some (.ref sh)) (hm4 : m (Str.ofString "ends") = some (.ref en)) (hm5 : m (Str.ofString "k") = some (.int (k : Int) tk))
    (hk : k < 3) (hlv : lv.length = 3) (hhv : hv.length = 3) (hl1 : lv.getD k .none = .str (lineOf ws) t) (hh1 : hv.getD k .none = .int z u) (hws : WsOk ws) (hz : 0 ≤ z ∧ z < 6) (hsort : (ws.map (·.2)).Pairwise (· ≤ ·))
    (hS : StrsAre S xs) (hE : IntsAre E es) (hxs : xs.length ≤ 100) (hes : es.length ≤ 100)
    (next : ∀ h' tk m' (sh' en' : Nat) S' E' ns' ne', Fr h₀ L h' m' → m' (Str.ofString "lines") = some (.ref DL) → m' (Str.ofString "heads") = some (.ref hl) → m' (Str.ofString "due") = m (Str.ofString "due") → m' (Str.ofString "told") = m (Str.ofString "told") → m' (Str.ofString "shown") = some (.ref sh') → m' (Str.ofString "ends") = some (.ref en') →
      News h₀ L h' ((DL, listOf lv.toArray nd) :: (hl, listOf hv.toArray nh) :: (sh', listOf S'.toArray ns') :: (en', listOf E'.toArray ne') :: news) → StrsAre S' (xs ++ ws.map wtx) → IntsAre E' (es ++ lends z ws) →
      (∀ r ∈ (DL, listOf lv.toArray nd) :: (hl, listOf hv.toArray nh) :: news, r.1 < sh' ∧ r.1 < en') → 
      R .next { s with heap := h', toks := tk }) :
    wpAny (model Challenge.rw_nb0237_01.row.prog w) (callerA.deeper (lawEnv w L fa cd)) (execs (fBody ((lawFn w).1.drop 17)) (lawEnv w L fa cd)) R (fun _ _ => False) s := by
  revert X; k_fill; intro X
  have hfn := law_eq (w := w) (by k_is)
  unfold lawEnv
  rw [hfn]
  dsimp only [fnOfObj, List.drop, fBody]
  clear hfn
  have hfl := line_len hws
  replace F := fr_kst [(Str.ofString "lines", .ref DL), (Str.ofString "heads", .ref hl), (Str.ofString "shown", .ref sh), (Str.ofString "ends", .ref en), (Str.ofString "k", .int (k : Int) tk)] (all_cons (by assumption) (all_cons (by assumption) (all_cons (by assumption) (all_cons (by assumption) (all_cons (by assumption) (fun _ h => nomatch h)))))) F
  iterate 7 walk1
  rename Fr h₀ L _ _ => F1
  rename News h₀ L _ _ => N1
  refine r_item (a := DL) (k := ((k : Nat) : Int)) (xs := lv) (n := nd) N1 (.head _) (by (first | exact om2 | omega)) (by (first | exact om455 hk hlv | omega)) (by (first | exact om212 hk | omega)) ?_
  have el : lv.getD ((k : Nat) : Int).toNat .none = .str (lineOf ws) t := hl1
  rw [el]
  iterate 5 walk1
  rename Fr h₀ L _ _ => F2
  rename News h₀ L _ _ => N2
  refine KSpl.split1 F2 N2 (by decide) ?_ (by rw [sizeLine_eq]; (first | exact om453 hfl | omega))
  intro D l h2 k2 e2 a2 F3 N3 l3
  rw [split_line hws.2] at e2
  obtain ⟨t0, l', rfl, e3⟩ := KSpl.cons_of e2
  have hlw : l'.length = ws.length := by have := congrArg List.length e3; simpa using this
  iterate 5 walk1
  k_dflt (refine' cut_tmp (its := strValues ((Str.empty, t0) :: l')) (n := 0) (lo := some 1) (hi := none) (zs := strValues l') ?sgF ?sgN ?sgl ?sgp ?sgq ?sgz ?sge ?_ ?sgs; (case sgF => exact F3); (case sgN => exact N3); (case sgl => exact .head _); (case sgp => kmk_part); (case sgq => kmk_part); (case sgs => with_unfolding_all rfl))
  case sge =>
    have : ∀ l : List Value, kms_pick (.str Str.empty t0 :: l) (some 1) none = l := by
      intro l
      simp [kms_pick, kms_lo, kms_hi]
    exact this _
  case sgz =>
    have := hws.1
    simp [strValues]
    (first | exact om450 hlw this | omega)
  intro D3 h3 F4 N4 l4
  have hrow : StrsAre (strValues l') (ws.map wtx) := by rw [← e3]; exact strsAre_of_values l'
  generalize strValues l' = rv at *
  iterate 8 walk1
  rename Fr h₀ L _ _ => F5
  rename News h₀ L _ _ => N5
  refine r_item (a := DL) (k := ((k : Nat) : Int)) (xs := lv) (n := nd) N5 (by exact mem_ix 2 rfl) (by (first | exact om2 | omega)) (by (first | exact om455 hk hlv | omega)) (by (first | exact om212 hk | omega)) ?_
  rw [el]
  iterate 5 walk1
  rename Fr h₀ L _ _ => F6
  rename News h₀ L _ _ => N6
  refine ListComp_JG (Gp := fun gs => gs = s.gens) F6 (by with_unfolding_all rfl) (by decide) (by rfl) (by decide) (by rfl) ?_
  walk1
  refine ⟨rfl, rfl, _, _, _, (fun i ys nn => StrsAre ys ((ws.map fun q => Str.ofString " " ++ wtx q).take i) ∧ nn = (D3, listOf rv.toArray 0) :: (DL, listOf lv.toArray nd) :: (hl, listOf hv.toArray nh) :: (sh, listOf S.toArray ns) :: (en, listOf E.toArray ne) :: news), _, .inl ⟨D3, rv.toArray, rfl, .inr ⟨_, .head _, rfl, _, rfl⟩, rfl, rfl, rfl⟩, ?_, F6, News.reord N6 (by exact sub_ixr [0] 2 rfl), ⟨.nil, rfl⟩, ?_, ?_⟩
  · have h1 := hrow.length
    have h2 := hws.1
    simp at h1 ⊢
    (first | exact om456 h2 h1 | omega)
  · rintro I i v ys oI C oC D5 m₂ h tk5 gs news₁ E' hi hP hyl ⟨hys, rfl⟩ rfl hS hn5 hx5 F7 N7 of7 ne7
    obtain ⟨x, tx, rfl, hx⟩ := strs_get hrow (show rv[i]? = some v by simpa using hP)
    rw [List.getElem?_map] at hx
    obtain ⟨q, hq, rfl⟩ := Option.map_eq_some_iff.mp hx
    have hq9 := hws.2 q (List.mem_of_getElem? hq)
    have hwq : (wtx q).length = q.2 := wtext_len q.1 hq9.1 q.2 (by (first | exact om265 hq9 | omega))
    have e1 : (Str.ofString " ").length = 1 := by decide
    iterate 3 walk1
    refine PyProof.Rows.add_str (x := Str.ofString " ") (y := wtx q) ?_ (by rw [sizeLine_eq, e1, hwq]; (first | exact om457 hq9 | omega))
    intro t6 k6
    rename Fr h₀ L _ _ => F8
    rename News h₀ L _ _ => N8
    refine CEndG.intro F8 N8 rfl ((D3, listOf rv.toArray 0) :: (DL, listOf lv.toArray nd) :: (hl, listOf hv.toArray nh) :: (sh, listOf S.toArray ns) :: (en, listOf E.toArray ne) :: news) (by exact sub_ixr [] 0 rfl) of7 (.inr ⟨_, .head _, rfl, _, rfl⟩) ⟨?_, rfl⟩
    rw [List.take_add_one, List.getElem?_map, hq]
    exact strs_snoc hys
  · rintro ys news' hyl ⟨hys, rfl⟩ D6 h9 tk9 gs9 rfl F9 N9 o9
    have hjn : ys.length = ws.length := by
      have := hrow.length
      simp at this hyl
      (first | exact om310 this hyl | omega)
    have hys2 : StrsAre ys (ws.map fun q => Str.ofString " " ++ wtx q) := by
      have h1 := hrow.length
      rw [List.take_of_length_le (by simp at hyl h1 ⊢; (first | exact om458 hjn hyl | omega))] at hys
      exact hys
    iterate 1 walk1
    refine join_listC (items := ys.toArray) (ys := ws.map fun q => Str.ofString " " ++ wtx q) (News.isList N9 (.head _)) hys2 (by decide) ?_ ?_
    · have h1 := blanks_sum hws.2
      have h2 := hws.1
      simp only [List.length_map]
      omega
    intro t10 k10
    have ejoin : Txt.join (Str.ofString "") (ws.map fun q => Str.ofString " " ++ wtx q) = lineOf ws := by
      show _ = ptext (ptx ws)
      unfold ptext
      rw [List.map_map]
      rfl
    rw [ejoin]
    iterate 2 walk1
    rw [if_neg (by simp)]
    iterate 4 walk1
    have hsz : rv.toArray.size ≤ 100000 := by
      have h1 := hrow.length
      have h2 := hws.1
      simp at h1 ⊢
      (first | exact om456 h2 h1 | omega)
    have hrl : rv.length = ws.length := by
      have := hrow.length
      simpa using this
    rename Fr h₀ L _ _ => F20
    rename News h₀ L _ _ => N20
    refine ListComp_JG (Gp := fun gs => gs = s.gens) F20 (by with_unfolding_all rfl) (by decide) (by rfl) (by decide) (by rfl) ?_
    walk1
    refine ⟨rfl, rfl, _, _, _, (fun i ys nn => IntsAre ys ((ws.map fun q => (q.2 : Int)).take i) ∧ nn = (D3, listOf rv.toArray 0) :: (DL, listOf lv.toArray nd) :: (hl, listOf hv.toArray nh) :: (sh, listOf S.toArray ns) :: (en, listOf E.toArray ne) :: news), _, .inl ⟨D3, rv.toArray, rfl, .inr ⟨_, (by exact mem_ix 0 rfl), rfl, _, rfl⟩, rfl, rfl, rfl⟩, hsz, F20, News.reord N20 (by exact sub_ixr [] 1 rfl), ⟨.nil, rfl⟩, ?_, ?_⟩
    · rintro I i v ys oI C oC D5 m₂ h tk5 gs news₁ E' hi hP hyl ⟨hys, rfl⟩ rfl hS hn5 hx5 F7 N7 of7 ne7
      obtain ⟨x, tx, rfl, hx⟩ := strs_get hrow (show rv[i]? = some v by simpa using hP)
      rw [List.getElem?_map] at hx
      obtain ⟨q, hq, rfl⟩ := Option.map_eq_some_iff.mp hx
      have hq9 := hws.2 q (List.mem_of_getElem? hq)
      have hwq : (wtx q).length = q.2 := wtext_len q.1 hq9.1 q.2 (by (first | exact om265 hq9 | omega))
      walk_at "my go"
      rename Fr h₀ L _ _ => F8
      rename News h₀ L _ _ => N8
      rw [hwq]
      refine CEndG.intro F8 N8 rfl ((D3, listOf rv.toArray 0) :: (DL, listOf lv.toArray nd) :: (hl, listOf hv.toArray nh) :: (sh, listOf S.toArray ns) :: (en, listOf E.toArray ne) :: news) (by exact sub_ixr [] 0 rfl) of7 (.inr ⟨_, (by exact mem_ix 0 rfl), rfl, _, rfl⟩) ⟨?_, rfl⟩
      rw [List.take_add_one, List.getElem?_map, hq]
      exact ints_snoc hys
    · rintro vs20 news' hyl20 ⟨hvs20, rfl⟩ D20 h9 tk9 gs9 rfl F9 N9 o9
      have hvs20 : IntsAre vs20 (ws.map fun q => (q.2 : Int)) := by
        rw [List.take_of_length_le (by simp at hyl20 ⊢; (first | exact om434 hrl | omega))] at hvs20
        exact hvs20
      iterate 4 walk1
      rename Fr h₀ L _ _ => F21
      rename News h₀ L _ _ => N21
      refine ListComp_JG (Gp := fun gs => gs = s.gens) F21 (by with_unfolding_all rfl) (by decide) (by rfl) (by decide) (by rfl) ?_
      walk1
      refine ⟨rfl, rfl, _, _, _, (fun i ys nn => IntsAre ys ((ws.map fun q => (q.2 : Int)).take i) ∧ nn = (D20, lst vs20) :: (D3, listOf rv.toArray 0) :: (DL, listOf lv.toArray nd) :: (hl, listOf hv.toArray nh) :: (sh, listOf S.toArray ns) :: (en, listOf E.toArray ne) :: news), _, .inl ⟨D3, rv.toArray, rfl, .inr ⟨_, (by exact mem_ix 1 rfl), rfl, _, rfl⟩, rfl, rfl, rfl⟩, hsz, F21, News.reord N21 (by exact sub_ixr [] 0 rfl), ⟨.nil, rfl⟩, ?_, ?_⟩
      · rintro I i v ys oI C oC D5 m₂ h tk5 gs news₁ E' hi hP hyl ⟨hys, rfl⟩ rfl hS hn5 hx5 F7 N7 of7 ne7
        obtain ⟨x, tx, rfl, hx⟩ := strs_get hrow (show rv[i]? = some v by simpa using hP)
        rw [List.getElem?_map] at hx
        obtain ⟨q, hq, rfl⟩ := Option.map_eq_some_iff.mp hx
        have hq9 := hws.2 q (List.mem_of_getElem? hq)
        have hwq : (wtx q).length = q.2 := wtext_len q.1 hq9.1 q.2 (by (first | exact om265 hq9 | omega))
        walk_at "my go"
        rename Fr h₀ L _ _ => F8
        rename News h₀ L _ _ => N8
        rw [hwq]
        refine CEndG.intro F8 N8 rfl ((D20, lst vs20) :: (D3, listOf rv.toArray 0) :: (DL, listOf lv.toArray nd) :: (hl, listOf hv.toArray nh) :: (sh, listOf S.toArray ns) :: (en, listOf E.toArray ne) :: news) (by exact sub_ixr [] 0 rfl) of7 (.inr ⟨_, (by exact mem_ix 1 rfl), rfl, _, rfl⟩) ⟨?_, rfl⟩
        rw [List.take_add_one, List.getElem?_map, hq]
        exact ints_snoc hys
      · rintro vs21 news' hyl21 ⟨hvs21, rfl⟩ D21 h9 tk9 gs9 rfl F9 N9 o9
        have hvs21 : IntsAre vs21 (ws.map fun q => (q.2 : Int)) := by
          rw [List.take_of_length_le (by simp at hyl21 ⊢; (first | exact om434 hrl | omega))] at hvs21
          exact hvs21
        have hsi : (ws.map fun q => (q.2 : Int)).Pairwise (· ≤ ·) := by
          rw [List.pairwise_map] at hsort ⊢
          exact hsort.imp fun {a b} h => by (first | exact om459 h | omega)
        have hlz : (ws.map fun q => (q.2 : Int)).length ≤ 9 := by rw [List.length_map]; exact hws.1
        iterate 3 walk1
        rename Fr h₀ L _ _ => F30
        rename News h₀ L _ _ => N30
        replace N30 := News.reord N30 (l' := (D3, listOf rv.toArray 0) :: (DL, listOf lv.toArray nd) :: (hl, listOf hv.toArray nh) :: (sh, listOf S.toArray ns) :: (en, listOf E.toArray ne) :: news) (by exact sub_ixr [] 3 rfl)
        iterate 8 walk1
        rename Fr h₀ L _ _ => F31
        rename News h₀ L _ _ => N31
        refine PyProof.Rows.add_lists (vs := S) (ws := rv) F31 N31 (News.isList N31 (by exact mem_ix 3 rfl)) (News.isList N31 (.head _)) ?_ (by have := hS.length; have := hws.1; rw [sizeLine_eq]; (first | exact om461 hxs hyl hjn hsz hrl (by assumption) | omega))
        intro h32 F32 N32
        have lsh : ∀ r ∈ (D3, listOf rv.toArray 0) :: (DL, listOf lv.toArray nd) :: (hl, listOf hv.toArray nh) :: (sh, listOf S.toArray ns) :: (en, listOf E.toArray ne) :: news, r.1 < Array.size _ := fun r hr => Heap.lt_size (N31 r hr).1
        generalize hsh : Array.size _ = sh2 at N32 lsh ⊢
        iterate 12 walk1
        rename Fr h₀ L _ _ => F33
        rename News h₀ L _ _ => N33
        refine r_item (a := DL) (k := ((k : Nat) : Int)) (xs := lv) (n := nd) N33 (by exact mem_ix 2 rfl) (by (first | exact om2 | omega)) (by (first | exact om455 hk hlv | omega)) (by (first | exact om212 hk | omega)) ?_
        rw [el]
        iterate 4 walk1
        rename Fr h₀ L _ _ => F34
        rename News h₀ L _ _ => N34
        refine r_item (a := hl) (k := ((k : Nat) : Int)) (xs := hv) (n := nh) N34 (by exact mem_ix 3 rfl) (by (first | exact om2 | omega)) (by (first | exact om455 hk hhv | omega)) (by (first | exact om212 hk | omega)) ?_
        have eh : hv.getD ((k : Nat) : Int).toNat .none = .int z u := hh1
        rw [eh]
        iterate 1 walk1
        rename Fr h₀ L _ _ => F35
        rename News h₀ L _ _ => N35
        refine ⟨X.keeps F35.keep, ?_⟩
        refine ends_ok B F35 X N35 T rfl rfl rfl rfl (by show callerA.depth + 1 + 2 < recursionLimit; decide) (by show callerA.units + 3 + 40 < cLine; decide) hws hz ?_
        intro h36 tk36 D36 vs36 n36 F36 N36 i36 l36
        refine PyProof.Rows.add_lists (vs := E) (ws := vs36) F36 N36 (News.isList N36 (by exact mem_ix 6 rfl)) (News.isList N36 (.head _)) ?_ (by have := hE.length; have := i36.length; have := lends_length z ws; have := hws.1; rw [sizeLine_eq]; (first | exact om462 hes hyl hjn hsz (by assumption) (by assumption) (by assumption) | omega))
        intro h37 F37 N37
        have len : ∀ r ∈ (D36, listOf vs36.toArray n36) :: _, r.1 < Array.size _ := fun r hr => Heap.lt_size (N36 r hr).1
        generalize hen : Array.size _ = en2 at N37 len ⊢
        iterate 3 walk1
        rename Fr h₀ L _ _ => F38
        rename News h₀ L _ _ => N38
        refine next _ _ _ sh2 en2 _ _ 0 0 F38 rfl rfl rfl rfl rfl rfl (News.reord N38 (l' := (DL, listOf lv.toArray nd) :: (hl, listOf hv.toArray nh) :: (sh2, listOf (S ++ rv).toArray 0) :: (en2, listOf (E ++ vs36).toArray 0) :: news) (by exact sub_ixr [4, 5, 2, 0] 8 rfl)) (strs_app hS hrow) (ints_app hE i36) ?_
        exact all_cons ⟨lsh _ (.tail _ (.head _)), len _ (.tail _ (.tail _ (.tail _ (.head _))))⟩ (all_cons ⟨lsh _ (.tail _ (.tail _ (.head _))), len _ (.tail _ (.tail _ (.tail _ (.tail _ (.head _)))))⟩ fun r hr => ⟨lsh r (.tail _ (.tail _ (.tail _ (.tail _ (.tail _ hr))))), len r (.tail _ (.tail _ (.tail _ (.tail _ (.tail _ (.tail _ (.tail _ hr)))))))⟩)
end
section
-- S8
theorem fresh_S8 : True := by
  w_top off
  trivial
set_option maxHeartbeats 8000000
/-- the words shown up to line i -/
noncomputable def concS (ws : Nat → List (Nat × Nat)) : Nat → List Str
  | 0 => []
  | i + 1 => concS ws i ++ (ws i).map wtx
noncomputable def concE (z : Nat → Int) (ws : Nat → List (Nat × Nat)) : Nat → List Int
  | 0 => []
  | i + 1 => concE z ws i ++ lends (z i) (ws i)
theorem concS_len {ws : Nat → List (Nat × Nat)} : ∀ i, (∀ k, k < i → (ws k).length ≤ 9) → (concS ws i).length ≤ 9 * i
  | 0, _ => by simp [concS]
  | i + 1, h => by
    have ih := concS_len i fun k hk => h k (by (first | exact om152 hk | omega))
    have := h i (by (first | exact om151 | omega))
    simp only [concS, List.length_append, List.length_map]
    (first | exact om463 ih this | omega)
theorem concE_len {z : Nat → Int} {ws : Nat → List (Nat × Nat)} : ∀ i, (∀ k, k < i → (ws k).length ≤ 9) → (concE z ws i).length ≤ 9 * i
  | 0, _ => by simp [concE]
  | i + 1, h => by
    have ih := concE_len (z := z) i fun k hk => h k (by (first | exact om152 hk | omega))
    have := h i (by (first | exact om151 | omega))
    simp only [concE, List.length_append, lends_length]
    (first | exact om463 ih this | omega)
theorem stage5 {w : World} {base h₀ : Heap} {L fa : Nat} {cd : Value} {m : Str → Option Value} {s : Shared}
    {p : Program} {loose : List Str} {mean : ExcName → Option Value} {mg mb : Str → Option Value} {DL hl : Nat} {lv hv : List Value} {ws : Nat → List (Nat × Nat)} {z : Nat → Int} {nd nh : Nat} {t u : Nat → Tok} {news : List (Addr × Obj)}
    {Q : Flow → Shared → Prop}
    (B : Below callerA base [] h₀) (F : Fr h₀ L s.heap m) (X : (hd.heap_39 w.params).In h₀) (T : Top p loose mean mg mb h₀)
    (N : News h₀ L s.heap ((DL, listOf lv.toArray nd) :: (hl, listOf hv.toArray nh) :: news))
    (hm1 : m (Str.ofString "lines") = some (.ref DL)) (hm2 : m (Str.ofString "heads") = some (.ref hl))
    (hlv : lv.length = 3) (hhv : hv.length = 3) (hl1 : ∀ k, k < 3 → lv.getD k .none = .str (lineOf (ws k)) (t k)) (hh1 : ∀ k, k < 3 → hv.getD k .none = .int (z k) (u k)) (hws : ∀ k, k < 3 → WsOk (ws k)) (hz : ∀ k, k < 3 → 0 ≤ z k ∧ z k < 6) (hsort : ∀ k, k < 3 → ((ws k).map (·.2)).Pairwise (· ≤ ·))
    (next : ∀ h' tk m' (sh' en' : Nat) S' E' ns' ne', Fr h₀ L h' m' → m' (Str.ofString "heads") = some (.ref hl) → m' (Str.ofString "due") = m (Str.ofString "due") → m' (Str.ofString "told") = m (Str.ofString "told") → m' (Str.ofString "shown") = some (.ref sh') → m' (Str.ofString "ends") = some (.ref en') →
      News h₀ L h' ((sh', listOf S'.toArray ns') :: (en', listOf E'.toArray ne') :: (DL, listOf lv.toArray nd) :: (hl, listOf hv.toArray nh) :: news) → StrsAre S' (concS ws 3) → IntsAre E' (concE z ws 3) →
      wpAny (model Challenge.rw_nb0237_01.row.prog w) (callerA.deeper (lawEnv w L fa cd)) (execs ((lawFn w).1.drop 18) (lawEnv w L fa cd)) Q (fun _ _ => False) { s with heap := h', toks := tk }) :
    wpAny (model Challenge.rw_nb0237_01.row.prog w) (callerA.deeper (lawEnv w L fa cd)) (execs ((lawFn w).1.drop 15) (lawEnv w L fa cd)) Q (fun _ _ => False) s := by
  revert X; k_fill; intro X
  have hfn := law_eq (w := w) (by k_is)
  have S := @row_turn w base h₀ L fa cd
  unfold lawEnv at next S ⊢
  rw [hfn] at next S ⊢
  dsimp only [fnOfObj, List.drop, fBody] at next S ⊢
  clear hfn
  have F0 := fr_kst [(Str.ofString "lines", .ref DL), (Str.ofString "heads", .ref hl)] (all_cons (by assumption) (all_cons (by assumption) (fun _ h => nomatch h))) F
  clear F
  iterate 15 walk1
  rename Fr h₀ L _ _ => F1
  refine For_invVF F1 (by rfl) (by rfl) ?_
  iterate 7 walk1
  rename Fr h₀ L _ _ => F2
  rename News h₀ L _ _ => N2
  rename IsRange _ _ _ _ _ _ _ _ => hR
  rename_i sh0 _ _ _ _ en0 _ _ _ _ _ _ _ _ _ _ _

  refine loop_range rfl hR (n := 3) (by decide) F2 (News.reord N2 (l' := (DL, listOf lv.toArray nd) :: (hl, listOf hv.toArray nh) :: (sh0, listOf [].toArray 0) :: (en0, listOf [].toArray 0) :: news) (by exact sub_ixr [2, 3, 1, 0] 4 rfl)) (fun i mm nn' => mm (Str.ofString "lines") = some (.ref DL) ∧ mm (Str.ofString "heads") = some (.ref hl) ∧ mm (Str.ofString "due") = m (Str.ofString "due") ∧ mm (Str.ofString "told") = m (Str.ofString "told") ∧
    ∃ sh en : Nat, ∃ Sv Ev ns ne, mm (Str.ofString "shown") = some (.ref sh) ∧ mm (Str.ofString "ends") = some (.ref en) ∧ nn' = (DL, listOf lv.toArray nd) :: (hl, listOf hv.toArray nh) :: (sh, listOf Sv.toArray ns) :: (en, listOf Ev.toArray ne) :: news ∧ StrsAre Sv (concS ws i) ∧ IntsAre Ev (concE z ws i)) ⟨rfl, rfl, rfl, rfl, sh0, en0, [], [], 0, 0, rfl, rfl, rfl, .nil, .nil⟩ ?_ ?_
  · rintro i tk1 m₁ news₁ I io h tk hlt ⟨c1, c2, c3, c4, sh, en, Sv, Ev, ns, ne, c5, c6, rfl, hSv, hEv⟩ hI F5 N5
    have b1 := concS_len (ws := ws) i fun k hk => (hws k (by (first | exact om464 hlt hk | omega))).1
    have b2 := concE_len (z := z) (ws := ws) i fun k hk => (hws k (by (first | exact om464 hlt hk | omega))).1
    refine @S _ _ _ _ _ _ _ DL hl sh en i lv hv Sv Ev (concS ws i) (concE z ws i) (ws i) (z i) nd nh ns ne (t i) (u i) tk1 ((I, io) :: news) _ B F5 X T (News.reord N5 (by exact sub_ixr [1, 2, 3, 4, 0] 5 rfl)) c1 c2 c5 c6 rfl hlt hlv hhv (hl1 i hlt) (hh1 i hlt) (hws i hlt) (hz i hlt) (hsort i hlt) hSv hEv (by (first | exact om465 hlt b1 | omega)) (by (first | exact om465 hlt b2 | omega)) ?_
    intro h6 tk6 m6 sh6 en6 S6 E6 ns6 ne6 F6 d1 d2 d3 d4 d5 d6 N6 hS6 hE6 l6
    have lI := l6 (I, io) (.tail _ (.tail _ (.head _)))
    exact LEnd.intro F6 (News.reord N6 (l' := (I, io) :: (DL, listOf lv.toArray nd) :: (hl, listOf hv.toArray nh) :: (sh6, listOf S6.toArray ns6) :: (en6, listOf E6.toArray ne6) :: news) (by exact sub_ixr [4, 0, 1, 2, 3] 5 rfl)) (all_cons (hI (DL, listOf lv.toArray nd) (.head _)) (all_cons (hI (hl, listOf hv.toArray nh) (.tail _ (.head _))) (all_cons (Nat.ne_of_gt lI.1) (all_cons (Nat.ne_of_gt lI.2) fun r hr => hI r (.tail _ (.tail _ (.tail _ (.tail _ hr)))))))) (fun _ h => nomatch h) ⟨d1, d2, d3.trans c3, d4.trans c4, sh6, en6, S6, E6, ns6, ne6, d5, d6, rfl, hS6, hE6⟩
  · rintro h6 tk6 m6 news6 F6 N6 ⟨c1, c2, c3, c4, sh, en, Sv, Ev, ns, ne, c5, c6, rfl, hSv, hEv⟩
    exact next h6 tk6 m6 sh en Sv Ev ns ne F6 c2 c3 c4 c5 c6 (News.reord N6 (by exact sub_ixr [2, 3, 0, 1] 4 rfl)) hSv hEv
end
section
-- P11
theorem fresh_P11 : True := by
  w_top off
  trivial
set_option maxHeartbeats 400000
theorem lt_le {x p : Str} (h : ltCps x.cps.toList p.cps.toList = false) : p.cps.toList ≤ x.cps.toList := by
  rw [ltCps_eq] at h
  exact of_decide_eq_false h
theorem rising_pair : ∀ (r : List Str) (p : Str), risingS p r = true → (∀ x ∈ r, p.cps.toList ≤ x.cps.toList) ∧ r.Pairwise (fun a b => a.cps.toList ≤ b.cps.toList)
  | [], p, _ => ⟨(fun _ h => nomatch h), .nil⟩
  | x :: r, p, h => by
    have h' : (!ltCps x.cps.toList p.cps.toList && risingS x r) = true := h
    rw [Bool.and_eq_true] at h'
    obtain ⟨a, b⟩ := h'
    have a' : ltCps x.cps.toList p.cps.toList = false := by simpa using a
    have hpx := lt_le a'
    obtain ⟨c, d⟩ := rising_pair r x b
    refine ⟨fun y hy => ?_, List.pairwise_cons.mpr ⟨c, d⟩⟩
    rcases List.mem_cons.mp hy with rfl | hy
    · exact hpx
    · exact List.le_trans hpx (c y hy)
theorem sortedS_pair : ∀ {l : List Str}, sortedS l = true → l.Pairwise (fun a b => a.cps.toList ≤ b.cps.toList)
  | [], _ => .nil
  | x :: r, h => by
    obtain ⟨c, d⟩ := rising_pair r x h
    exact List.pairwise_cons.mpr ⟨c, d⟩
theorem sortedS_eq {l l' : List Str} (h : l.Perm l') (h1 : sortedS l = true) (h2 : sortedS l' = true) : l = l' :=
  pair_eq_of_perm (fun a b x y => str_ext (List.le_antisymm x y)) h (sortedS_pair h1) (sortedS_pair h2)
theorem ints_eq {l l' : List Int} (h : l.Perm l') (h1 : l.Pairwise (· ≤ ·)) (h2 : l'.Pairwise (· ≤ ·)) : l = l' :=
  pair_eq_of_perm (fun a b x y => Int.le_antisymm x y) h h1 h2
end
section
-- S9
theorem fresh_S9 : True := by
  w_top off
  trivial
set_option maxHeartbeats 8000000
open PyProof.Rows.LCg (NsObj lst Off3 Off1 SrcAt)
/-- the words of a list of references, as (place, length) -/
inductive DueIs (news : List (Addr × Obj)) : List Value → List (Nat × Nat) → Prop where
  | nil : DueIs news [] []
  | cons {v : Value} {p l : Nat} {vs : List Value} {ds : List (Nat × Nat)} : WordAt news v p l → DueIs news vs ds → DueIs news (v :: vs) ((p, l) :: ds)
theorem DueIs.mono {news news' : List (Addr × Obj)} (hs : ∀ q ∈ news, q ∈ news') : ∀ {vs : List Value} {ds : List (Nat × Nat)}, DueIs news vs ds → DueIs news' vs ds
  | _, _, .nil => .nil
  | _, _, .cons h r => .cons (h.mono hs) (r.mono hs)
theorem DueIs.length {news : List (Addr × Obj)} : ∀ {vs : List Value} {ds : List (Nat × Nat)}, DueIs news vs ds → vs.length = ds.length
  | _, _, .nil => rfl
  | _, _, .cons _ r => by simp [r.length]
theorem DueIs.get {news : List (Addr × Obj)} : ∀ {vs : List Value} {ds : List (Nat × Nat)} {i : Nat} {v : Value}, DueIs news vs ds → vs[i]? = some v → ∃ p l, WordAt news v p l ∧ ds[i]? = some (p, l)
  | _, _, i, v, .nil, h => by simp at h
  | _, _, 0, v, .cons h0 _, h => ⟨_, _, (by rw [← Option.some.inj h]; exact h0), rfl⟩
  | _, _, i + 1, v, .cons _ r, h => by
    obtain ⟨a, b, c, d⟩ := r.get (i := i) (by simpa using h)
    exact ⟨a, b, c, by simpa using d⟩
theorem stage6a {w : World} {base h₀ : Heap} {L fa : Nat} {cd : Value} {m : Str → Option Value} {s : Shared}
    {p : Program} {loose : List Str} {mean : ExcName → Option Value} {mg mb : Str → Option Value} {sh en du td : Nat} {S Ev due told : List Value} {xs : List Str} {es ns : List Int} {ds : List (Nat × Nat)} {n1 n2 n3 n4 : Nat} {news : List (Addr × Obj)}
    {Q : Flow → Shared → Prop}
    (B : Below callerA base [] h₀) (F : Fr h₀ L s.heap m) (X : (hd.heap_39 w.params).In h₀) (T : Top p loose mean mg mb h₀)
    (N : News h₀ L s.heap ((sh, listOf S.toArray n1) :: (en, listOf Ev.toArray n2) :: (td, listOf told.toArray n3) :: (du, listOf due.toArray n4) :: news))
    (hm1 : m (Str.ofString "shown") = some (.ref sh)) (hm2 : m (Str.ofString "ends") = some (.ref en)) (hm3 : m (Str.ofString "told") = some (.ref td)) (hm4 : m (Str.ofString "due") = some (.ref du))
    (hS : StrsAre S xs) (hE : IntsAre Ev es) (hT : IntsAre told ns) (hD : DueIs news due ds) (hds : ∀ q ∈ ds, q.1 < 9 ∧ 1 ≤ q.2 ∧ q.2 ≤ 6) (hdl : ds.length ≤ 9) (hnl : ns.length ≤ 9) (hp1 : xs.Perm (ds.map wtx)) (hp2 : es.Perm ns) (hns : ns.Pairwise (· ≤ ·))
    (next : ∀ h' tk, Fr h₀ L h' m → News h₀ L h' ((sh, listOf S.toArray n1) :: (en, listOf Ev.toArray n2) :: (td, listOf told.toArray n3) :: (du, listOf due.toArray n4) :: news) →
      wpAny (model Challenge.rw_nb0237_01.row.prog w) (callerA.deeper (lawEnv w L fa cd)) (execs ((lawFn w).1.drop 19) (lawEnv w L fa cd)) Q (fun _ _ => False) { s with heap := h', toks := tk }) :
    wpAny (model Challenge.rw_nb0237_01.row.prog w) (callerA.deeper (lawEnv w L fa cd)) (execs ((lawFn w).1.drop 18) (lawEnv w L fa cd)) Q (fun _ _ => False) s := by
  revert X; k_fill; intro X
  have hfn := law_eq (w := w) (by k_is)
  unfold lawEnv at next ⊢
  rw [hfn] at next ⊢
  dsimp only [fnOfObj, List.drop] at next ⊢
  clear hfn
  have F0 := fr_kst [(Str.ofString "shown", .ref sh), (Str.ofString "ends", .ref en), (Str.ofString "told", .ref td), (Str.ofString "due", .ref du)] (all_cons (by assumption) (all_cons (by assumption) (all_cons (by assumption) (all_cons (by assumption) (fun _ h => nomatch h))))) F
  clear F
  have hxl : xs.length ≤ 9 := by rw [hp1.length_eq, List.length_map]; exact hdl
  have hel : es.length = ns.length := hp2.length_eq
  iterate 10 walk1
  rename Fr h₀ L _ _ => F1
  rename News h₀ L _ _ => N1
  refine PyProof.Rows.sorted_N_str F1 N1 (News.isList N1 (.head _)) hS (by rw [hS.length]; (first | exact om460 hxl | omega)) ?_
  intro h2 vs2 ss2 e2 F2 N2 a2 b2 c2
  generalize hsD : Array.size _ + 1 = D2 at N2 ⊢
  iterate 4 walk1
  rename Fr h₀ L _ _ => F3
  rename News h₀ L _ _ => N3
  refine ListComp_JG (Gp := fun gs => gs = s.gens) F3 (by with_unfolding_all rfl) (by decide) (by rfl) (by decide) (by rfl) ?_
  walk1
  refine ⟨rfl, rfl, _, _, _, (fun i ys nn => StrsAre ys ((ds.map wtx).take i) ∧ nn = (D2, listOf vs2.toArray e2) :: (sh, listOf S.toArray n1) :: (en, listOf Ev.toArray n2) :: (td, listOf told.toArray n3) :: (du, listOf due.toArray n4) :: news), _, .inl ⟨du, due.toArray, rfl, .inr ⟨_, (by exact mem_ix 4 rfl), rfl, _, rfl⟩, rfl, rfl, rfl⟩, (by have := hD.length; simp; (first | exact om456 hdl this | omega)), F3, News.reord N3 (by exact sub_ixr [] 0 rfl), ⟨.nil, rfl⟩, ?_, ?_⟩
  · rintro I i v ys oI C oC D5 m₂ h tk5 gs news₁ E' hi hP hyl ⟨hys, rfl⟩ rfl hS5 hn5 hx5 F7 N7 of7 ne7
    obtain ⟨pp, ll, hw, hdi⟩ := hD.get (show due[i]? = some v by simpa using hP)
    obtain ⟨a, t1, t2, t3, na, rfl, hma⟩ := hw
    iterate 3 walk1
    rename Fr h₀ L _ _ => F8
    rename News h₀ L _ _ => N8
    refine r_item (a := a) (k := 2) (xs := [.int ((ll : Int) + 1) t1, .int (pp : Int) t2, .str (wtext pp ll) t3]) (n := na) N8 (by repeat (first | exact hma | apply List.Mem.tail)) (by omega) (by simp) (by omega) ?_
    refine CEndG.intro F8 N8 rfl ((D2, listOf vs2.toArray e2) :: (sh, listOf S.toArray n1) :: (en, listOf Ev.toArray n2) :: (td, listOf told.toArray n3) :: (du, listOf due.toArray n4) :: news) (by exact sub_ixr [] 0 rfl) of7 (.inr ⟨_, (by exact mem_ix 4 rfl), rfl, _, rfl⟩) ⟨?_, rfl⟩
    rw [List.take_add_one, List.getElem?_map, hdi]
    exact strs_snoc hys
  · rintro vs3 news' hyl ⟨hvs3, rfl⟩ D3 h9 tk9 gs9 rfl F9 N9 o9
    replace hvs3 : StrsAre vs3 (ds.map wtx) := by
      have h1 := hD.length
      rw [List.take_of_length_le (by simp at hyl ⊢; (first | exact om434 h1 | omega))] at hvs3
      exact hvs3
    iterate 1 walk1
    rename Fr h₀ L _ _ => F10
    rename News h₀ L _ _ => N10
    refine PyProof.Rows.sorted_N_str F10 N10 (News.isList N10 (.head _)) hvs3 (by rw [hvs3.length, List.length_map]; (first | exact om460 hdl | omega)) ?_
    intro h4 vs4 ss4 e4 F11 N11 a4 b4 c4
    have ess : ss2 = ss4 := sortedS_eq (b2.trans (hp1.trans b4.symm)) c2 c4
    subst ess
    have okS : ∀ x ∈ ss2, PyData.strOk x = true := by
      intro x hx
      obtain ⟨q, hq, rfl⟩ := List.mem_map.mp ((b2.trans hp1).mem_iff.mp hx)
      have := hds q hq
      exact wtext_ok q.1 this.1 q.2 (by (first | exact om265 this | omega))
    refine strs_same N11 (by exact mem_ix 2 rfl) (.head _) a2 a4 okS (by show callerA.units + 3 + 64 < cLine; decide) ?_
    iterate 1 walk1
    rw [if_neg Bool.false_ne_true]
    iterate 8 walk1
    rename Fr h₀ L _ _ => F12
    rename News h₀ L _ _ => N12
    refine kso_sorted F12 N12 (News.isList N12 (by exact mem_ix 4 rfl)) hE (by (first | exact om466 hnl hel | omega)) ?_
    intro D5 vs5 ns5 c5 h5 F13 N13 l13 i5 e5 p5 o5 _
    have ens : ns5 = ns := ints_eq (p5.trans hp2) o5 hns
    subst ens
    iterate 2 walk1
    iterate 1 walk1
    rw [if_neg Bool.false_ne_true]
    iterate 3 walk1
    rename Fr h₀ L _ _ => F14
    rename News h₀ L _ _ => N14
    have ek : kstB m [(Str.ofString "shown", .ref sh), (Str.ofString "ends", .ref en), (Str.ofString "told", .ref td), (Str.ofString "due", .ref du)] = m := by
      funext y
      exact kstB_eq (all_cons (by assumption) (all_cons (by assumption) (all_cons (by assumption) (all_cons (by assumption) (fun _ h => nomatch h))))) fun _ => rfl
    rw [ek] at F14
    exact next _ _ F14 (News.reord N14 (by exact sub_ixr [] 4 rfl))
end
section
-- P5
theorem fresh_P5 : True := by
  w_top off
  trivial
set_option maxHeartbeats 400000
noncomputable def stepOf (c : Nat) : Int := [100, 10, 1].getD c 0
/-- how many words each line has, as one number -/
noncomputable def keyOf (cs : List Nat) : Int := 100 * cnt 0 cs + 10 * cnt 1 cs + cnt 2 cs
theorem keyOf_cons {c : Nat} (hc : c < 3) (cs : List Nat) : keyOf (c :: cs) = keyOf cs + stepOf c := by
  have h : c = 0 ∨ c = 1 ∨ c = 2 := by (first | exact om198 hc | omega)
  unfold keyOf
  simp only [cnt_cons]
  rcases h with rfl | rfl | rfl <;> simp [stepOf] <;> (first | exact om392 | exact om393 | exact om394 | omega)
theorem cnt_le (c : Nat) : ∀ l : List Nat, cnt c l ≤ l.length
  | [] => Int.le_refl _
  | x :: r => by have := cnt_le c r; rw [cnt_cons, List.length_cons]; push_cast; split <;> (first | exact om395 this | exact om396 this | omega)
/-- a line's number, read off the key as the program does -/
noncomputable def cntOf (k : Int) (c : Nat) : Int := [k.fdiv 100, (k.fdiv 10).fmod 10, k.fmod 10].getD c 0
theorem cntOf_key {cs : List Nat} (hl : cs.length ≤ 9) {c : Nat} (hc : c < 3) : cntOf (keyOf cs) c = cnt c cs := by
  have a0 := cnt_nonneg 0 cs
  have a1 := cnt_nonneg 1 cs
  have a2 := cnt_nonneg 2 cs
  have b0 := cnt_le 0 cs
  have b1 := cnt_le 1 cs
  have b2 := cnt_le 2 cs
  have hk : 0 ≤ keyOf cs := by unfold keyOf; (first | exact om397 a0 a1 a2 | omega)
  have e1 : (keyOf cs).fdiv 100 = keyOf cs / 100 := Int.fdiv_eq_ediv_of_nonneg _ (by decide)
  have e2 : (keyOf cs).fdiv 10 = keyOf cs / 10 := Int.fdiv_eq_ediv_of_nonneg _ (by decide)
  have e3 : (keyOf cs).fmod 10 = keyOf cs % 10 := Int.fmod_eq_emod_of_nonneg _ (by decide)
  have e4 : (keyOf cs / 10).fmod 10 = keyOf cs / 10 % 10 := Int.fmod_eq_emod_of_nonneg _ (by decide)
  have h : c = 0 ∨ c = 1 ∨ c = 2 := by (first | exact om198 hc | omega)
  unfold cntOf
  rw [e1, e2, e3, e4]
  unfold keyOf
  rcases h with rfl | rfl | rfl
  · show (100 * cnt 0 cs + 10 * cnt 1 cs + cnt 2 cs) / 100 = _
    omega
  · show (100 * cnt 0 cs + 10 * cnt 1 cs + cnt 2 cs) / 10 % 10 = _
    omega
  · show (100 * cnt 0 cs + 10 * cnt 1 cs + cnt 2 cs) % 10 = _
    omega
theorem valueAt_some {kvs : List (Int × Value)} {k : Int} {v : Value} (h : valueAt kvs k = some v) : (k, v) ∈ kvs := by
  unfold valueAt at h
  obtain ⟨a, ha, rfl⟩ := Option.map_eq_some_iff.mp h
  have h1 := List.mem_of_find?_eq_some ha
  have h2 := List.find?_some ha
  have h3 : a.1 = k := by simpa using h2
  rw [← h3]; exact h1
theorem mem_stored {kvs : List (Int × Value)} {k k' : Int} {v v' : Value} (h : (k', v') ∈ stored kvs k v) : (k' = k ∧ v' = v) ∨ (k', v') ∈ kvs := by
  unfold stored at h
  split at h
  · obtain ⟨a, ha, e⟩ := List.mem_map.mp h
    split at e
    · rename_i hk
      cases e
      exact .inl ⟨hk, rfl⟩
    · rw [← e]; exact .inr ha
  · rcases List.mem_append.mp h with h | h
    · exact .inr h
    · have e := List.mem_singleton.mp h
      cases e
      exact .inl ⟨rfl, rfl⟩
theorem valueAt_map_self {k : Int} {v : Value} : ∀ {kvs : List (Int × Value)}, kvs.any (fun kv => kv.1 = k) = true → valueAt (kvs.map (fun kv => if kv.1 = k then (kv.1, v) else kv)) k = some v
  | [], h => by simp at h
  | a :: r, h => by
    unfold valueAt
    rw [List.map_cons]
    by_cases ha : a.1 = k
    · rw [if_pos ha, List.find?_cons_of_pos (by simpa using ha)]
      rfl
    · rw [if_neg ha, List.find?_cons_of_neg (by simpa using ha)]
      have h' : r.any (fun kv => kv.1 = k) = true := by simpa [ha] using h
      exact valueAt_map_self h'
theorem valueAt_map_ne {k k' : Int} {v : Value} (hne : k' ≠ k) : ∀ {kvs : List (Int × Value)}, valueAt (kvs.map (fun kv => if kv.1 = k then (kv.1, v) else kv)) k' = valueAt kvs k'
  | [] => rfl
  | a :: r => by
    unfold valueAt
    rw [List.map_cons]
    by_cases ha : a.1 = k
    · rw [if_pos ha, List.find?_cons_of_neg (by simp; (first | exact om398 hne ha | omega)), List.find?_cons_of_neg (by simp; (first | exact om398 hne ha | omega))]
      exact valueAt_map_ne hne
    · rw [if_neg ha]
      by_cases hb : a.1 = k'
      · rw [List.find?_cons_of_pos (by simpa using hb), List.find?_cons_of_pos (by simpa using hb)]
      · rw [List.find?_cons_of_neg (by simpa using hb), List.find?_cons_of_neg (by simpa using hb)]
        exact valueAt_map_ne hne
theorem valueAt_stored_self (kvs : List (Int × Value)) (k : Int) (v : Value) : valueAt (stored kvs k v) k = some v := by
  unfold stored
  split
  · rename_i h; exact valueAt_map_self h
  · rename_i h
    have hn : kvs.find? (fun kv => decide (kv.1 = k)) = none := by
      rw [List.find?_eq_none]
      intro x hx hk
      exact h (List.any_eq_true.mpr ⟨x, hx, hk⟩)
    unfold valueAt
    rw [List.find?_append, hn]
    simp
theorem valueAt_stored_ne (kvs : List (Int × Value)) {k k' : Int} (v : Value) (hne : k' ≠ k) : valueAt (stored kvs k v) k' = valueAt kvs k' := by
  unfold stored
  split
  · exact valueAt_map_ne hne
  · unfold valueAt
    rw [List.find?_append]
    have : [(k, v)].find? (fun kv => decide (kv.1 = k')) = none := by
      rw [List.find?_cons_of_neg (by simp; (first | exact om399 hne | omega))]; rfl
    rw [this]
    simp
noncomputable def Sound (h : Nat → Int) (ps : List Int) (kvs : List (Int × Value)) : Prop :=
  ∀ k v, (k, v) ∈ kvs → ∃ x t cs, v = .int x t ∧ cs.length = ps.length ∧ (∀ c ∈ cs, c < 3) ∧ keyOf cs = k ∧ tcost h ps cs = x
noncomputable def Compl (h : Nat → Int) (ps : List Int) (kvs : List (Int × Value)) : Prop :=
  ∀ cs, cs.length = ps.length → (∀ c ∈ cs, c < 3) → ∃ x t, valueAt kvs (keyOf cs) = some (.int x t) ∧ x ≤ tcost h ps cs
/-- the turn for (key, line) is done -/
noncomputable def Did (h : Nat → Int) (p : Int) (wk : List (Int × Value)) (k x : Int) (c : Nat) : Prop :=
  ∃ y t, valueAt wk (k + stepOf c) = some (.int y t) ∧ y ≤ x + h c + p * (cntOf k c + 1)
theorem Sound.zero (h : Nat → Int) (t : Tok) : Sound h [] [(0, .int 0 t)] := by
  intro k v hm
  cases List.mem_singleton.mp hm
  exact ⟨0, t, [], rfl, rfl, (fun _ h => nomatch h), rfl, rfl⟩
theorem Compl.zero (h : Nat → Int) (t : Tok) : Compl h [] [(0, .int 0 t)] := by
  intro cs hl _
  have e : cs = [] := List.length_eq_zero_iff.mp hl
  subst e
  exact ⟨0, t, rfl, Int.le_refl _⟩
/-- the cost that the program reckons for (key, line) is that of a way -/
theorem cost_is {h : Nat → Int} {p : Int} {ps : List Int} {cs : List Nat} (hl : cs.length = ps.length) (h9 : ps.length ≤ 9) {c : Nat} (hc : c < 3) :
    tcost h ps cs + h c + p * (cntOf (keyOf cs) c + 1) = tcost h (p :: ps) (c :: cs) := by
  rw [cntOf_key (by (first | exact om400 hl h9 | omega)) hc]; rfl
/-- storing a cost: sound, and what was done stays done -/
theorem Sound.put {h : Nat → Int} {p : Int} {ps : List Int} {wk : List (Int × Value)} {k x : Int} {c : Nat} {t : Tok} {cs : List Nat} (hS : Sound h (p :: ps) wk) (hl : cs.length = ps.length) (h9 : ps.length ≤ 9) (hcs : ∀ d ∈ cs, d < 3) (hk : keyOf cs = k) (hx : tcost h ps cs = x) (hc : c < 3) :
    Sound h (p :: ps) (stored wk (k + stepOf c) (.int (x + h c + p * (cntOf k c + 1)) t)) := by
  intro k' v' hm
  rcases mem_stored hm with ⟨rfl, rfl⟩ | hm
  · refine ⟨_, t, c :: cs, rfl, by simp [hl], ?_, ?_, ?_⟩
    · intro d hd
      rcases List.mem_cons.mp hd with rfl | hd
      · exact hc
      · exact hcs d hd
    · rw [keyOf_cons hc, hk]
    · rw [← cost_is hl h9 hc, hk, hx]
  · exact hS k' v' hm
theorem Did.put {h : Nat → Int} {p : Int} {wk : List (Int × Value)} {k x k2 : Int} {c c2 : Nat} {y : Int} {t : Tok} (hD : Did h p wk k x c) (hlow : ∀ z u, valueAt wk (k2 + stepOf c2) = some (.int z u) → y ≤ z) :
    Did h p (stored wk (k2 + stepOf c2) (.int y t)) k x c := by
  obtain ⟨z, u, e, hz⟩ := hD
  by_cases hq : k + stepOf c = k2 + stepOf c2
  · refine ⟨y, t, by rw [hq]; exact valueAt_stored_self _ _ _, ?_⟩
    have := hlow z u (by rw [← hq]; exact e)
    (first | exact om401 hz this | omega)
  · exact ⟨z, u, by rw [valueAt_stored_ne _ _ hq]; exact e, hz⟩
/-- all turns done: the new table is complete -/
theorem Compl.next {h : Nat → Int} {p : Int} {ps : List Int} {kvs wk : List (Int × Value)} (hC : Compl h ps kvs) (hD : ∀ k x t c, (k, Value.int x t) ∈ kvs → c < 3 → Did h p wk k x c) (h9 : ps.length ≤ 9) : Compl h (p :: ps) wk := by
  intro cs hl hcs
  cases cs with
  | nil => simp at hl
  | cons c cs =>
    have hc := hcs c (.head _)
    have hl' : cs.length = ps.length := by simpa using hl
    obtain ⟨x, t, e, hx⟩ := hC cs hl' (fun d hd => hcs d (.tail _ hd))
    obtain ⟨y, u, e2, hy⟩ := hD _ x t c (valueAt_some e) hc
    refine ⟨y, u, by rw [keyOf_cons hc]; exact e2, ?_⟩
    rw [← cost_is hl' h9 hc]
    (first | exact om402 hx hy | omega)
/-- the least of the values is the least of all ways -/
theorem dp_least {h : Nat → Int} {ps : List Int} {kvs : List (Int × Value)} {r : Int} (hS : Sound h ps kvs) (hC : Compl h ps kvs) (hr : ∃ k t, (k, Value.int r t) ∈ kvs) (hm : ∀ k x t, (k, Value.int x t) ∈ kvs → r ≤ x) :
    (∃ cs, cs.length = ps.length ∧ (∀ c ∈ cs, c < 3) ∧ tcost h ps cs = r) ∧ ∀ cs, cs.length = ps.length → (∀ c ∈ cs, c < 3) → r ≤ tcost h ps cs := by
  obtain ⟨k, t, hk⟩ := hr
  constructor
  · obtain ⟨x, u, cs, e, q1, q2, _, q3⟩ := hS k _ hk
    cases e
    exact ⟨cs, q1, q2, q3⟩
  · intro cs hl hcs
    obtain ⟨x, u, e, hx⟩ := hC cs hl hcs
    exact Int.le_trans (hm _ x u (valueAt_some e)) hx
end
section
-- K1
theorem fresh_K1 : True := by
  w_top off
  trivial
set_option maxHeartbeats 1000000
theorem valueAt_of_get {k : Int} {v : Value} : ∀ {kvs : List (Int × Value)} {j : Nat}, kvs[j]? = some (k, v) → (kvs.map (·.1)).Nodup → valueAt kvs k = some v
  | [], j, h, _ => by simp at h
  | a :: r, 0, h, _ => by
    cases h
    unfold valueAt
    rw [List.find?_cons_of_pos (by simp)]
    rfl
  | a :: r, j + 1, h, hn => by
    have hn' := List.nodup_cons.mp (show (a.1 :: r.map (·.1)).Nodup from hn)
    have hm : (k, v) ∈ r := List.mem_of_getElem? (show r[j]? = some (k, v) from h)
    have hne : ¬ a.1 = k := fun e => hn'.1 (by rw [e]; exact List.mem_map_of_mem (f := (·.1)) hm)
    unfold valueAt
    rw [List.find?_cons_of_neg (by simpa using hne)]
    exact valueAt_of_get (show r[j]? = some (k, v) from h) hn'.2
theorem dict_nodup {prog : Program} {w : World} {o : Obj} {kvs : List (Int × Value)} (h : o.IsDictOf (PySem.intKind prog w) kvs) : (kvs.map (·.1)).Nodup := by
  obtain ⟨_, _, _, _, _, _, hn⟩ := h
  exact hn
theorem bits_small {z : Int} (h0 : 0 ≤ z) (h1 : z ≤ 10) : Builtin.Int.intBits z ≤ 64 := by
  have h : z = 0 ∨ z = 1 ∨ z = 2 ∨ z = 3 ∨ z = 4 ∨ z = 5 ∨ z = 6 ∨ z = 7 ∨ z = 8 ∨ z = 9 ∨ z = 10 := by omega
  rcases h with rfl | rfl | rfl | rfl | rfl | rfl | rfl | rfl | rfl | rfl | rfl <;> decide
theorem stored_len (kvs : List (Int × Value)) (k : Int) (v : Value) : (stored kvs k v).length ≤ kvs.length + 1 := by
  unfold stored
  split <;> simp
theorem isInt_self (k : Int) (t : Tok) : Value.isInt k (.int k t) = true := by simp [Value.isInt]
theorem isk {prog : Program} {w : World} (k : Int) (c : Nat) (t : Tok) : (PySem.intKind prog w).is (k + stepOf c) (.int (k + [100, 10, 1].getD c 0) t) = true := by
  show Value.isInt (k + stepOf c) (.int (k + stepOf c) t) = true
  exact isInt_self _ t
theorem off_map {I : Addr} {l l' : List (Addr × Obj)} (h : ∀ p ∈ l, p.1 ≠ I) (e : l.map (·.1) = l'.map (·.1)) : ∀ p ∈ l', p.1 ≠ I := by
  intro p hp q
  have h1 : p.1 ∈ l.map (·.1) := by rw [e]; exact List.mem_map_of_mem (f := (·.1)) hp
  obtain ⟨r, hr, e2⟩ := List.mem_map.mp h1
  exact h r hr (e2.trans q)
theorem ints_get : ∀ {vs : List Value} {ns : List Int} {i : Nat} {v : Value}, IntsAre vs ns → vs[i]? = some v → ∃ n t, v = .int n t ∧ ns[i]? = some n
  | _, _, i, v, .nil, h => by simp at h
  | _, _, 0, v, .cons n t _, h => ⟨n, t, (Option.some.inj h).symm, rfl⟩
  | _, _, i + 1, v, .cons n t hr, h => by
    obtain ⟨a, b, c, d⟩ := ints_get (i := i) hr (by simpa using h)
    exact ⟨a, b, c, by simpa using d⟩
theorem take_rev {ds : List Int} {i : Nat} {p : Int} (h : ds[i]? = some p) : (ds.take (i + 1)).reverse = p :: (ds.take i).reverse := by
  rw [List.take_add_one, h]
  simp
theorem ints_snoc' {n : Int} {t : Tok} : ∀ {vs : List Value} {ns : List Int}, IntsAre vs ns → IntsAre (vs ++ [.int n t]) (ns ++ [n])
  | _, _, .nil => .cons n t .nil
  | _, _, .cons a u h => .cons a u (ints_snoc' h)
noncomputable def valOf : Int × Value → Int
  | (_, .int x _) => x
  | _ => 0
theorem k1_a {a b : Int} {n : Nat} (h1 : a = b) (h2 : b ≤ (n : Int)) (h3 : n ≤ 8) : a + 1 ≤ 10 := by omega
inductive KOut (w : World) (lens : Nat → Int) (ds : List Int) (dA : Nat) (oA : Obj) (c st hl : Nat) (oS : Obj) (R : List (Addr × Obj)) (i : Nat) (mm : Str → Option Value) : List (Addr × Obj) → Prop
  | mk (d' : Nat) (od' oc' : Obj) (kvs : List (Int × Value)) (e1 : mm (Str.ofString "steps") = some (.ref st)) (e2 : mm (Str.ofString "heads") = some (.ref hl)) (h1 : oc'.data = .cell (some (.ref d'))) (h2 : od'.IsDictOf (PySem.intKind Challenge.rw_nb0237_01.row.prog w) kvs) (h3 : (d' == sysModules) = false)
      (h4 : Sound lens (ds.take i).reverse kvs) (h5 : Compl lens (ds.take i).reverse kvs) (h6 : kvs.length ≤ 3 ^ i) (h7 : st < d') (h8 : c < d') (h9 : d' ≠ dA) (h10 : ∀ q ∈ R, q.1 < d') : KOut w lens ds dA oA c st hl oS R i mm ((dA, oA) :: (c, oc') :: (d', od') :: (st, oS) :: R)
inductive KMid (w : World) (lens : Nat → Int) (S : List Int) (p0 : Int) (kvs : List (Int × Value)) (wd st hl : Nat) (tp : Tok) (a1 a2 a3 a4 : Addr × Obj) (R : List (Addr × Obj)) (j : Nat) (mm : Str → Option Value) : List (Addr × Obj) → Prop
  | mk (ow' : Obj) (wk : List (Int × Value)) (e1 : mm (Str.ofString "wider") = some (.ref wd)) (e2 : mm (Str.ofString "size") = some (.int p0 tp)) (e3 : mm (Str.ofString "steps") = some (.ref st)) (e4 : mm (Str.ofString "heads") = some (.ref hl)) (h1 : ow'.IsDictOf (PySem.intKind Challenge.rw_nb0237_01.row.prog w) wk) (h2 : wk.length ≤ 3 * j)
      (h3 : Sound lens S wk) (h4 : ∀ i' k x t c, i' < j → kvs[i']? = some (k, Value.int x t) → c < 3 → Did lens p0 wk k x c) : KMid w lens S p0 kvs wd st hl tp a1 a2 a3 a4 R j mm (a1 :: a2 :: a3 :: a4 :: (wd, ow') :: R)
inductive KInn (w : World) (lens : Nat → Int) (S : List Int) (p0 k x : Int) (kvs : List (Int × Value)) (cl wd st hl : Nat) (tkv tp : Tok) (a1 a2 a3 a4 a5 a6 : Addr × Obj) (R : List (Addr × Obj)) (j q : Nat) (mm : Str → Option Value) : List (Addr × Obj) → Prop
  | mk (ow' : Obj) (wk : List (Int × Value)) (e0 : mm (Str.ofString "key") = some (.int k tkv)) (e5 : mm (Str.ofString "counts") = some (.ref cl)) (e1 : mm (Str.ofString "wider") = some (.ref wd)) (e2 : mm (Str.ofString "size") = some (.int p0 tp)) (e3 : mm (Str.ofString "steps") = some (.ref st)) (e4 : mm (Str.ofString "heads") = some (.ref hl))
      (h1 : ow'.IsDictOf (PySem.intKind Challenge.rw_nb0237_01.row.prog w) wk) (h2 : wk.length ≤ 3 * j + q) (h3 : Sound lens S wk) (h4 : ∀ i' k x t c, i' < j → kvs[i']? = some (k, Value.int x t) → c < 3 → Did lens p0 wk k x c) (h5 : ∀ c, c < q → Did lens p0 wk k x c) : KInn w lens S p0 k x kvs cl wd st hl tkv tp a1 a2 a3 a4 a5 a6 R j q mm (a1 :: a2 :: a3 :: a4 :: a5 :: a6 :: (wd, ow') :: R)
theorem least_ok {w : World} {A A₀ : Around} {env : Env} {outer : List Env} {base h₀ : Heap} {L : Addr} {m : Str → Option Value} {news : List (Addr × Obj)} {s : Shared}
    {p : Program} {loose : List Str} {mean : ExcName → Option Value} {mg mb : Str → Option Value}
    {sl hl : Addr} {sv : List Value} {ns : List Int} {n n2 : Nat} {z0 z1 z2 : Int} {t1 t2 t3 : Tok} {Q E : Value → Shared → Prop}
    (B : Below A₀ base outer h₀) (F : Fr h₀ L s.heap m) (X : (hd.heap_39 w.params).In h₀) (N : News h₀ L s.heap ((sl, listOf sv.toArray n) :: (hl, listOf #[.int z0 t1, .int z1 t2, .int z2 t3] n2) :: news)) (T : Top p loose mean mg mb h₀)
    (hA : A.frames = some (env :: outer)) (hf : env.frame = some L) (hke : env.scope.kind = .function)
    (hH : A.handled = none) (hroom : A.depth + 2 < recursionLimit) (hu : A.units + 40 < cLine) (G : AllBare s.gens) (hi : IntsAre sv ns) (hlen : 1 ≤ ns.length ∧ ns.length ≤ 9)
    (ret : ∀ h' tk' gs' r t ds, AllBare gs' → ds.Perm ns → ds.Pairwise (· ≤ ·) → (∃ cs : List Nat, cs.length = ds.length ∧ (∀ c ∈ cs, c < 3) ∧ tcost (fun k => [z0, z1, z2].getD k 0) ds cs = r) → (∀ cs : List Nat, cs.length = ds.length → (∀ c ∈ cs, c < 3) → r ≤ tcost (fun k => [z0, z1, z2].getD k 0) ds cs) →
      Fr h₀ L h' m → News h₀ L h' ((sl, listOf sv.toArray n) :: (hl, listOf #[.int z0 t1, .int z1 t2, .int z2 t3] n2) :: news) → Q (.int r t) { s with heap := h', toks := tk', gens := gs' }) :
    wpAny (model Challenge.rw_nb0237_01.row.prog w) A (call (.ref 236) [.ref sl, .ref hl]) Q E s := by
  revert X; k_fill; intro X
  refine wpAny_call ?_
  refine code_defC (binds := [(Str.ofString "sizes", .ref sl), (Str.ofString "heads", .ref hl)]) B F X N T hA hf hke (by k_is) (by k_is) (by (first | exact om71 hroom | omega)) (BindsTo.of_eq rfl) (by exact rfl) (by decide +kernel) ?_ rfl rfl rfl
  intro g' L' h' tk' cells' FG' F' N' Y' B' X' T' l1
  have l1c := l1
  replace l1 := allLt_of l1
  simp only [AllLt] at l1
  k_cells Y'
  (try simp only [List.cons_append, List.nil_append] at N')
  try dsimp only
  walk_at "my go"
  rename Fr g' L' _ _ => F1
  rename News g' L' _ _ => N1
  rename Obj.IsDictOf _ _ _ => hD
  rename _ ∧ _ ∧ _ ∧ _ ∧ AllLt _ _ => l2
  have hcell : ∃ v₀, Obj.data _ = Data.cell v₀ := ⟨_, by assumption⟩
  obtain ⟨tz, hD⟩ : ∃ t, Obj.IsDictOf (PySem.intKind Challenge.rw_nb0237_01.row.prog w) _ [((0 : Int), Value.int 0 t)] := ⟨_, hD⟩
  generalize Array.size _ = d at *
  obtain ⟨v₀, hcell⟩ := hcell
  rename_i oc _ st _ lst8 _ _ _ _ _ od _ _ lo ap
  refine storeX_C (c := L' + 1) F1 (News.reord N1 (l' := (L' + 1, oc) :: (d, od) :: (st, listOf #[.int 100 tk', .int 10 (tk' + 1), .int 1 (tk' + 1 + 1)] 0) :: (sl, listOf sv.toArray n) :: (hl, listOf #[.int z0 t1, .int z1 t2, .int z2 t3] n2) :: news) (by exact sub_ixr [2, 0, 1] 3 rfl)) rfl (UpdF.head ?_) hcell ?_
  · refine all_cons (by refine neN ?_; dsimp only; omega) (all_cons (by refine neN ?_; dsimp only; omega) (all_cons (by refine neN ?_; dsimp only; omega) (all_cons (by refine neN ?_; dsimp only; omega) ?_)))
    intro q hq
    have := ltN (l1c q (.tail _ (.tail _ hq)))
    refine neN ?_
    (first | exact om207 this | omega)
  intro h2 oc2 F2 N2 hoc2
  dsimp only at F2 N2 ⊢
  clear N1
  walk_at "my go"
  rename Fr g' L' _ _ => F3
  rename News g' L' _ _ => N3
  rename IntsAre _ _ => hdi
  rename List.Perm _ ns => hdp
  rename List.Pairwise (fun x y => y ≤ x) _ => hds
  rename _ ∧ _ ∧ _ ∧ _ ∧ _ ∧ AllLt _ _ => l3
  rename_i dA dl ds dc _ hde _
  have hdl : dl.length = ds.length := hdi.length
  have hLn : L' < L' + 1 := Nat.lt_succ_self _
  refine loop_list (its := dl) (nn := dc) hH F3 N3 (.head _) (KOut w (fun k => [z0, z1, z2].getD k 0) ds dA (listOf dl.toArray dc) (L' + 1) st hl (listOf #[.int 100 tk', .int 10 (tk' + 1), .int 1 (tk' + 1 + 1)] 0) ((sl, listOf sv.toArray n) :: (hl, listOf #[.int z0 t1, .int z1 t2, .int z2 t3] n2) :: news))
    ⟨d, od, oc2, _, rfl, rfl, hoc2, hD, lo, Sound.zero _ _, Compl.zero _ _, Nat.le_refl _, l2.1, l2.2.1, by omega, ktn_ltOf (l := (sl, listOf sv.toArray n) :: (hl, listOf #[.int z0 t1, .int z1 t2, .int z2 t3] n2) :: news) l2.2.2⟩ ?_ ?_
  · rintro i v m₁ news₁ I1 io1 h4 tk4 hi4 hv4 ⟨d', od', oc', kvs, e1, e2, hoc', hD', lo', hS, hC, hkl, od1, od2, od3, od4⟩ hI1 - F4 N4
    obtain ⟨p0, tp, rfl, hp0⟩ : ∃ p0 tp, v = .int p0 tp ∧ ds[i]? = some p0 := ints_get hdi hv4
    have hi9 : i < 9 := by (first | exact om209 hlen hde hdl hi4 | omega)
    have h3p : 3 ^ i ≤ 3 ^ 8 := Nat.pow_le_pow_right (by decide) (by (first | exact om210 hi9 | omega))
    have h3q : 3 ^ 8 = 6561 := by decide
    replace F4 := fr_kst [(Str.ofString "size", .int p0 tp), (Str.ofString "steps", .ref st), (Str.ofString "heads", .ref hl)] (all_cons (by first | rfl | assumption) (all_cons (by first | rfl | assumption) (all_cons (by first | rfl | assumption) (fun _ h => nomatch h)))) F4
    iterate 5 walk1
    rename Fr g' L' _ _ => F5
    rename News g' L' _ _ => N5
    refine For_invVF F5 (by rfl) (by rfl) ?_
    walk1
    rename_i wd _ ow _ _ lo5 _ _ hW0 _ l5 _
    refine loop_dict (kvs := kvs) hH F5 (News.reord N5 (l' := (I1, io1) :: (dA, listOf dl.toArray dc) :: (L' + 1, oc') :: (d', od') :: (wd, ow) :: (st, listOf #[.int 100 tk', .int 10 (tk' + 1), .int 1 (tk' + 1 + 1)] 0) :: (sl, listOf sv.toArray n) :: (hl, listOf #[.int z0 t1, .int z1 t2, .int z2 t3] n2) :: news) (by exact sub_ixr [1, 2, 3, 4, 0] 5 rfl)) (.tail _ (.tail _ (.tail _ (.head _)))) hD' lo'
      (KMid w (fun k => [z0, z1, z2].getD k 0) (p0 :: (ds.take i).reverse) p0 kvs wd st hl tp (I1, io1) (dA, listOf dl.toArray dc) (L' + 1, oc') (d', od') ((st, listOf #[.int 100 tk', .int 10 (tk' + 1), .int 1 (tk' + 1 + 1)] 0) :: (sl, listOf sv.toArray n) :: (hl, listOf #[.int z0 t1, .int z1 t2, .int z2 t3] n2) :: news))
      ⟨ow, [], rfl, rfl, rfl, rfl, hW0, Nat.le_refl _, (fun _ _ h => nomatch h), fun i' _ _ _ _ h => absurd h (Nat.not_lt_zero _)⟩ ?_ ?_
    · rintro j k v kv m₂ news₂ I2 io2 h6 tk6 hj6 hk6 hkv ⟨ow', wk, f1, f2, f3, f4, hwk, hwl, hwS, hwD⟩ hI2 - F6 N6
      obtain ⟨tkv, rfl⟩ := Value.isInt_shape hkv
      obtain ⟨x, tx, cs, rfl, hcl, hc3, hck, hcx⟩ := hS k v (List.mem_of_getElem? hk6)
      replace F6 := fr_kst [(Str.ofString "key", .int k tkv), (Str.ofString "wider", .ref wd), (Str.ofString "size", .int p0 tp), (Str.ofString "steps", .ref st), (Str.ofString "heads", .ref hl)] (all_cons (by first | rfl | assumption) (all_cons (by first | rfl | assumption) (all_cons (by first | rfl | assumption) (all_cons (by first | rfl | assumption) (all_cons (by first | rfl | assumption) (fun _ h => nomatch h)))))) F6
      iterate 26 walk1
      rename Fr g' L' _ _ => F7
      rename News g' L' _ _ => N7
      rename (I2 < _) ∧ _ => l7
      rename_i cl _ _ _ _
      refine For_invVF F7 (by rfl) (by rfl) ?_
      iterate 7 walk1
      rename Fr g' L' _ _ => F8
      rename News g' L' _ _ => N8
      rename IsRange _ _ _ _ _ _ _ _ => hRg
      generalize hca : tk6 + 1 = ca at *
      generalize hcb : ca + 1 + 1 + 1 + 1 = cb at *
      generalize hcc : cb + 1 + 1 = cc at *
      refine loop_range (n := 3) hH hRg (by decide) F8 N8
        (KInn w (fun k => [z0, z1, z2].getD k 0) (p0 :: (ds.take i).reverse) p0 k x kvs cl wd st hl tkv tp (cl, listOf #[.int (k.fdiv 100) ca, .int ((k.fdiv 10).fmod 10) cb, .int (k.fmod 10) cc] 0) (I2, io2) (I1, io1) (dA, listOf dl.toArray dc) (L' + 1, oc') (d', od') ((st, listOf #[.int 100 tk', .int 10 (tk' + 1), .int 1 (tk' + 1 + 1)] 0) :: (sl, listOf sv.toArray n) :: (hl, listOf #[.int z0 t1, .int z1 t2, .int z2 t3] n2) :: news) j)
        ⟨ow', wk, rfl, rfl, rfl, rfl, rfl, rfl, hwk, hwl, hwS, hwD, fun c hc => absurd hc (Nat.not_lt_zero _)⟩ ?_ ?_
      · clear F8 N8 hwk hwl hwS hwD
        rintro c tc m₃ news₃ I3 io3 h9 tk9 hc9 ⟨ow', wk, g1, g2, g3, g4, g5, g6, hwk, hwl, hwS, hwD, hwE⟩ hI3 F9 N9
        replace F9 := fr_kst [(Str.ofString "place", .int ((c : Nat) : Int) tc), (Str.ofString "key", .int k tkv), (Str.ofString "counts", .ref cl), (Str.ofString "wider", .ref wd), (Str.ofString "size", .int p0 tp), (Str.ofString "steps", .ref st), (Str.ofString "heads", .ref hl)] (all_cons (by first | rfl | assumption) (all_cons (by first | rfl | assumption) (all_cons (by first | rfl | assumption) (all_cons (by first | rfl | assumption) (all_cons (by first | rfl | assumption) (all_cons (by first | rfl | assumption) (all_cons (by first | rfl | assumption) (fun _ h => nomatch h)))))))) F9
        walk_at "my go"
        rename Fr g' _ _ _ => F10
        rename News g' _ _ _ => N10
        refine kda_item (k := k) (v := .int x tx) N10 (by exact mem_ix 6 rfl) hD' (isInt_self k tkv) (valueAt_of_get hk6 (dict_nodup hD')) ?_
        walk_at "my go"
        have hcl8 : cs.length ≤ 8 := by rw [hcl, List.length_reverse]; exact Nat.le_trans (List.length_take_le _ _) (Nat.le_of_lt_succ hi9)
        have hcn : cntOf k c = cnt c cs := by rw [← hck]; exact cntOf_key (Nat.le_succ_of_le hcl8) hc9
        have ecn : [k.fdiv 100, (k.fdiv 10).fmod 10, k.fmod 10].getD ((c : Nat) : Int).toNat 0 = cntOf k c := by simp [cntOf]
        have cb0 := cnt_nonneg c cs
        have cb1 := cnt_le c cs
        rw [ecn]
        refine mul_int ?_ (.of_right (bits_small (by (first | exact om213 hcn cb0 | omega)) (k1_a hcn cb1 hcl8)))
        walk_at "my go"
        rename Fr g' _ _ _ => F11
        rename News g' _ _ _ => N11
        simp only [Int.toNat_natCast] at F11 ⊢
        have h9 : (ds.take i).reverse.length ≤ 9 := by rw [List.length_reverse]; exact Nat.le_trans (List.length_take_le _ _) (Nat.le_of_lt hi9)
        have h3i : 3 * j + c ≤ 100000 := by (first | exact om214 hkl h3p hj6 hc9 | omega)
        have hwoff : ∀ q ∈ (I3, io3) :: (cl, listOf #[.int (k.fdiv 100) ca, .int ((k.fdiv 10).fmod 10) cb, .int (k.fmod 10) cc] 0) :: (I2, io2) :: (I1, io1) :: (dA, listOf dl.toArray dc) :: (L' + 1, oc') :: (d', od') :: (st, listOf #[.int 100 tk', .int 10 (tk' + 1), .int 1 (tk' + 1 + 1)] 0) :: (sl, listOf sv.toArray n) :: (hl, listOf #[.int z0 t1, .int z1 t2, .int z2 t3] n2) :: news, q.1 ≠ wd := by
          refine all_cons (Ne.symm (hI3 (wd, ow') (by exact mem_ix 6 rfl))) (all_cons (by refine neN ?_; dsimp only; omega) (all_cons (Ne.symm (hI2 (wd, _) (by exact mem_ix 4 rfl))) ?_))
          repeat (refine all_cons (by refine neN ?_; dsimp only; omega) ?_)
          exact fun q hq => Nat.ne_of_lt (ktn_ltOf (l := news) l5.2.2.2.2.2.2.2 q hq)
        refine wpAny_notIn_of (k := k + stepOf c) (isk k c _) lo5 (kda_dict N11 (by exact mem_ix 7 rfl) hwk).mapOf ?_
        cases hva : valueAt wk (k + stepOf c) with
        | none =>
          simp only [Option.isSome_none, Bool.not_false]
          walk_at "my go"
          rename Fr g' _ _ _ => F12
          rename News g' _ _ _ => N12
          refine kda_set (k := k + stepOf c) F12 (News.reord N12 (l' := (wd, ow') :: (I3, io3) :: (cl, listOf #[.int (k.fdiv 100) ca, .int ((k.fdiv 10).fmod 10) cb, .int (k.fmod 10) cc] 0) :: (I2, io2) :: (I1, io1) :: (dA, listOf dl.toArray dc) :: (L' + 1, oc') :: (d', od') :: (st, listOf #[.int 100 tk', .int 10 (tk' + 1), .int 1 (tk' + 1 + 1)] 0) :: (sl, listOf sv.toArray n) :: (hl, listOf #[.int z0 t1, .int z1 t2, .int z2 t3] n2) :: news) (by exact sub_ixr [7, 0, 1, 2, 3, 4, 5, 6] 8 rfl)) (UpdF.head hwoff) hwk (isk k c _) (by rw [sizeLine_eq]; (first | exact om215 hwl h3i | omega)) ?_
          intro h13 ow2 F13 N13 hwk2
          walk_at "my go"
          rename Fr g' _ _ _ => F14
          rename News g' _ _ _ => N14
          refine LEnd.intro F14 (News.reord N14 (l' := (I3, io3) :: (cl, listOf #[.int (k.fdiv 100) ca, .int ((k.fdiv 10).fmod 10) cb, .int (k.fmod 10) cc] 0) :: (I2, io2) :: (I1, io1) :: (dA, listOf dl.toArray dc) :: (L' + 1, oc') :: (d', od') :: (wd, ow2) :: (st, listOf #[.int 100 tk', .int 10 (tk' + 1), .int 1 (tk' + 1 + 1)] 0) :: (sl, listOf sv.toArray n) :: (hl, listOf #[.int z0 t1, .int z1 t2, .int z2 t3] n2) :: news) (by exact sub_ixr [1, 2, 3, 4, 5, 6, 7, 0] 8 rfl)) (off_map hI3 rfl) (fun _ h => nomatch h) ⟨ow2, _, rfl, rfl, rfl, rfl, rfl, rfl, hwk2, ?_, hwS.put (cs := cs) hcl h9 hc3 hck hcx hc9, ?_, ?_⟩
          · exact Nat.le_trans (stored_len _ _ _) (by (first | exact om216 hwl | omega))
          · intro i' k2 x2 t2 c2 h1 h2 h3
            exact (hwD i' k2 x2 t2 c2 h1 h2 h3).put (fun z u hz => by rw [hva] at hz; cases hz)
          · intro c2 h1
            by_cases e : c2 = c
            · subst e
              exact ⟨_, _, valueAt_stored_self _ _ _, Int.le_refl _⟩
            · exact (hwE c2 (by (first | exact om217 h1 e | omega))).put (fun z u hz => by rw [hva] at hz; cases hz)
        | some vy =>
          obtain ⟨y, ty, cs2, rfl, _⟩ := hwS _ vy (valueAt_some hva)
          simp only [Option.isSome_some, Bool.not_true]
          walk_at "my go"
          rename Fr g' _ _ _ => F12
          rename News g' _ _ _ => N12
          refine kda_item (k := k + stepOf c) (v := .int y ty) N12 (by exact mem_ix 7 rfl) hwk (isk k c _) hva ?_
          walk_at "my go"
          · rename Fr g' _ _ _ => F12
            rename News g' _ _ _ => N12
            refine kda_set (k := k + stepOf c) F12 (News.reord N12 (l' := (wd, ow') :: (I3, io3) :: (cl, listOf #[.int (k.fdiv 100) ca, .int ((k.fdiv 10).fmod 10) cb, .int (k.fmod 10) cc] 0) :: (I2, io2) :: (I1, io1) :: (dA, listOf dl.toArray dc) :: (L' + 1, oc') :: (d', od') :: (st, listOf #[.int 100 tk', .int 10 (tk' + 1), .int 1 (tk' + 1 + 1)] 0) :: (sl, listOf sv.toArray n) :: (hl, listOf #[.int z0 t1, .int z1 t2, .int z2 t3] n2) :: news) (by exact sub_ixr [7, 0, 1, 2, 3, 4, 5, 6] 8 rfl)) (UpdF.head hwoff) hwk (isk k c _) (by rw [sizeLine_eq]; (first | exact om215 hwl h3i | omega)) ?_
            intro h13 ow2 F13 N13 hwk2
            walk_at "my go"
            rename Fr g' _ _ _ => F14
            rename News g' _ _ _ => N14
            refine LEnd.intro F14 (News.reord N14 (l' := (I3, io3) :: (cl, listOf #[.int (k.fdiv 100) ca, .int ((k.fdiv 10).fmod 10) cb, .int (k.fmod 10) cc] 0) :: (I2, io2) :: (I1, io1) :: (dA, listOf dl.toArray dc) :: (L' + 1, oc') :: (d', od') :: (wd, ow2) :: (st, listOf #[.int 100 tk', .int 10 (tk' + 1), .int 1 (tk' + 1 + 1)] 0) :: (sl, listOf sv.toArray n) :: (hl, listOf #[.int z0 t1, .int z1 t2, .int z2 t3] n2) :: news) (by exact sub_ixr [1, 2, 3, 4, 5, 6, 7, 0] 8 rfl)) (off_map hI3 rfl) (fun _ h => nomatch h) ⟨ow2, _, rfl, rfl, rfl, rfl, rfl, rfl, hwk2, ?_, hwS.put (cs := cs) hcl h9 hc3 hck hcx hc9, ?_, ?_⟩
            · exact Nat.le_trans (stored_len _ _ _) (by (first | exact om216 hwl | omega))
            · intro i' k2 x2 t2 c2 h1 h2 h3
              exact (hwD i' k2 x2 t2 c2 h1 h2 h3).put (fun z u hz => by rw [hva] at hz; cases hz; (first | exact om218 (by assumption) | omega))
            · intro c2 h1
              by_cases e : c2 = c
              · subst e
                exact ⟨_, _, valueAt_stored_self _ _ _, Int.le_refl _⟩
              · exact (hwE c2 (by (first | exact om217 h1 e | omega))).put (fun z u hz => by rw [hva] at hz; cases hz; (first | exact om218 (by assumption) | omega))
          · rename Fr g' _ _ _ => F14
            rename News g' _ _ _ => N14
            refine LEnd.intro F14 (News.reord N14 (l' := (I3, io3) :: (cl, listOf #[.int (k.fdiv 100) ca, .int ((k.fdiv 10).fmod 10) cb, .int (k.fmod 10) cc] 0) :: (I2, io2) :: (I1, io1) :: (dA, listOf dl.toArray dc) :: (L' + 1, oc') :: (d', od') :: (wd, ow') :: (st, listOf #[.int 100 tk', .int 10 (tk' + 1), .int 1 (tk' + 1 + 1)] 0) :: (sl, listOf sv.toArray n) :: (hl, listOf #[.int z0 t1, .int z1 t2, .int z2 t3] n2) :: news) (by exact sub_ixr [] 0 rfl)) hI3 (fun _ h => nomatch h) ⟨ow', wk, rfl, rfl, rfl, rfl, rfl, rfl, hwk, by (first | exact om219 hwl | omega), hwS, hwD, ?_⟩
            intro c2 h1
            by_cases e : c2 = c
            · subst e
              exact ⟨y, ty, hva, by show y ≤ x + [z0, z1, z2].getD c2 0 + p0 * (cntOf k c2 + 1); (first | exact om220 (by assumption) | omega)⟩
            · exact hwE c2 (by (first | exact om217 h1 e | omega))
      · rintro h9 tk9 m₃ news₃ F9 N9 ⟨ow', wk, g1, g2, g3, g4, g5, g6, hwk, hwl, hwS, hwD, hwE⟩
        walk_at "my go"
        refine LEnd.intro F9 (News.reord N9 (l' := (I2, io2) :: (I1, io1) :: (dA, listOf dl.toArray dc) :: (L' + 1, oc') :: (d', od') :: (wd, ow') :: (st, listOf #[.int 100 tk', .int 10 (tk' + 1), .int 1 (tk' + 1 + 1)] 0) :: (sl, listOf sv.toArray n) :: (hl, listOf #[.int z0 t1, .int z1 t2, .int z2 t3] n2) :: news) (by exact sub_ixr [] 1 rfl)) (off_map hI2 rfl) (fun q hq => by rw [List.mem_singleton.mp hq]; exact (by exact mem_ix 3 rfl)) ⟨ow', wk, g3, g4, g5, g6, hwk, by (first | exact om221 hwl | omega), hwS, ?_⟩
        intro i' k2 x2 t2 c2 h1 h2 h3
        by_cases e : i' = j
        · subst e
          rw [hk6] at h2
          cases h2
          exact hwE c2 h3
        · exact hwD i' k2 x2 t2 c2 (by (first | exact om217 h1 e | omega)) h2 h3
    · rintro h6 tk6 m₂ news₂ F6 N6 ⟨ow', wk, f1, f2, f3, f4, hwk, hwl, hwS, hwD⟩
      replace F6 := fr_kst [(Str.ofString "wider", .ref wd), (Str.ofString "steps", .ref st), (Str.ofString "heads", .ref hl)] (all_cons (by assumption) (all_cons (by assumption) (all_cons (by assumption) (fun _ h => nomatch h)))) F6
      iterate 3 walk1
      rename Fr g' _ _ _ => F7
      rename News g' _ _ _ => N7
      have hnl := ktn_ltOf (l := (sl, listOf sv.toArray n) :: (hl, listOf #[.int z0 t1, .int z1 t2, .int z2 t3] n2) :: news) l5.2.2.2.2.2
      refine storeX_C (c := L' + 1) F7 (News.reord N7 (l' := (L' + 1, oc') :: (I1, io1) :: (dA, listOf dl.toArray dc) :: (wd, ow') :: (st, listOf #[.int 100 tk', .int 10 (tk' + 1), .int 1 (tk' + 1 + 1)] 0) :: (sl, listOf sv.toArray n) :: (hl, listOf #[.int z0 t1, .int z1 t2, .int z2 t3] n2) :: news) (by exact sub_ixr [2, 0, 1] 4 rfl)) rfl (UpdF.head ?_) hoc' ?_
      · refine all_cons (Ne.symm (hI1 (L' + 1, oc') (by exact mem_ix 1 rfl))) (all_cons (by refine neN ?_; dsimp only; omega) (all_cons (by refine neN ?_; dsimp only; omega) (all_cons (by refine neN ?_; dsimp only; omega) (all_cons (by refine neN ?_; dsimp only; omega) (all_cons (by refine neN ?_; dsimp only; omega) ?_)))))
        intro q hq
        have := ltN (l1c q (.tail _ (.tail _ hq)))
        refine neN ?_
        (first | exact om207 this | omega)
      intro h8 oc3 F8 N8 hoc3
      walk_at "my go"
      rename Fr g' _ _ _ => F9
      rename News g' _ _ _ => N9
      refine LEnd.intro F9 (News.reord N9 (l' := (I1, io1) :: (dA, listOf dl.toArray dc) :: (L' + 1, oc3) :: (wd, ow') :: (st, listOf #[.int 100 tk', .int 10 (tk' + 1), .int 1 (tk' + 1 + 1)] 0) :: (sl, listOf sv.toArray n) :: (hl, listOf #[.int z0 t1, .int z1 t2, .int z2 t3] n2) :: news) (by exact sub_ixr [1, 2, 0] 3 rfl)) ?_ (fun q hq => by rw [List.mem_singleton.mp hq]; exact (by exact mem_ix 0 rfl)) ⟨wd, ow', oc3, wk, rfl, rfl, hoc3, hwk, lo5, by rw [take_rev hp0]; exact hwS, ?_, ?_, l5.2.2.2.2.1, l5.2.2.1, by omega, hnl⟩
      · refine all_cons (hI1 (dA, listOf dl.toArray dc) (by exact mem_ix 0 rfl)) (all_cons (hI1 (L' + 1, oc') (by exact mem_ix 1 rfl)) (all_cons (by refine neN ?_; dsimp only; omega) fun q hq => hI1 q (.tail _ (.tail _ (.tail _ hq)))))
      · rw [take_rev hp0]
        refine hC.next ?_ (by rw [List.length_reverse]; exact Nat.le_trans (List.length_take_le _ _) (Nat.le_of_lt hi9))
        intro k x t c hk hc
        obtain ⟨i', hi'⟩ := List.mem_iff_getElem?.mp hk
        exact hwD i' k x t c (List.getElem?_eq_some_iff.mp hi').1 hi' hc
      · rw [Nat.pow_succ]
        exact Nat.le_trans hwl (by rw [Nat.mul_comm (3 ^ i)]; exact Nat.mul_le_mul_left 3 hkl)
  · rintro h4 tk4 m₁ news₁ F4 N4 ⟨d', od', oc', kvs, e1, e2, hoc', hD', lo', hS, hC, hkl, od1, od2, od3, od4⟩
    have hdn := hdl
    rw [hdl, List.take_length] at hS hC
    iterate 6 walk1
    rename Fr g' L' _ _ => F5
    rename News g' L' _ _ => N5
    refine ListComp_JG (Gp := AllBare) F5 (by with_unfolding_all rfl) (by decide) (by rfl) (by decide) (by rfl) ?_
    walk1
    have h3p : 3 ^ dl.length ≤ 3 ^ 9 := Nat.pow_le_pow_right (by decide) (by (first | exact om222 hlen hde hdl | omega))
    have h3q : 3 ^ 9 = 19683 := by decide
    refine ⟨G, hH, kvs.length, _, _, (fun i ys nn' => IntsAre ys ((kvs.take i).map valOf) ∧ nn' = (dA, listOf dl.toArray dc) :: (L' + 1, oc') :: (d', od') :: (st, listOf #[.int 100 tk', .int 10 (tk' + 1), .int 1 (tk' + 1 + 1)] 0) :: (sl, listOf sv.toArray n) :: (hl, listOf #[.int z0 t1, .int z1 t2, .int z2 t3] n2) :: news), _, .inr (.inr ⟨d', od', kvs, rfl, (by exact mem_ix 2 rfl), hD', lo', rfl, rfl, rfl⟩), by (first | exact om223 hkl h3p | omega), F5, N5, ⟨.nil, rfl⟩, ?_, ?_⟩
    · rintro I i v ys oI C oC D m₂ h5 tk5 gs5 news₁ E' hi5 ⟨k, x, hkx, hk⟩ hyl ⟨hys, rfl⟩ Gs hSS hn6 hx6 F6 N6 of6 ne6
      obtain ⟨tkv, rfl⟩ := Value.isInt_shape hk
      obtain ⟨xv, tx, cs, rfl, _⟩ := hS k x (List.mem_of_getElem? hkx)
      iterate 3 walk1
      rename Fr g' L' _ _ => F7
      rename News g' L' _ _ => N7
      refine kda_item (k := k) (v := .int xv tx) N7 (by exact mem_ix 5 rfl) hD' (isInt_self k tkv) (valueAt_of_get hkx (dict_nodup hD')) ?_
      refine CEndG.intro F7 N7 Gs _ (fun _ h => h) of6 hSS ⟨?_, rfl⟩
      rw [List.take_add_one, hkx]
      simpa [valOf] using ints_snoc' hys
    · rintro ys news' hyl ⟨hys, rfl⟩
      intro D h9 tk9 gs9 G9 F9 N9 o9
      rw [List.take_length] at hys
      walk_at "my go"
      rename Fr g' L' _ _ => F10
      rename News g' L' _ _ => N10
      have hk0 : 0 < kvs.length := by
        obtain ⟨x, t, e, _⟩ := hC (List.replicate ds.reverse.length 0) (by simp) (fun c hc => by rw [List.eq_of_mem_replicate hc]; decide)
        exact List.length_pos_of_mem (valueAt_some e)
      refine kso_min F10 N10 (News.isList N10 (.head _)) hys (by simpa using hk0) hH ?_
      intro h11 r t11 tk11 F11 N11 hrm hrl
      have hr1 : ∃ k t, (k, Value.int r t) ∈ kvs := by
        obtain ⟨kv, hkv, e⟩ := List.mem_map.mp hrm
        obtain ⟨x, t, cs, e2, _⟩ := hS kv.1 kv.2 hkv
        have e3 : kv = (kv.1, Value.int x t) := Prod.ext rfl e2
        rw [e3] at e hkv
        have e4 : x = r := e
        subst e4
        exact ⟨_, _, hkv⟩
      have hr2 : ∀ k x t, (k, Value.int x t) ∈ kvs → r ≤ x := fun k x t hk => hrl x (List.mem_map.mpr ⟨_, hk, rfl⟩)
      obtain ⟨q1, q2⟩ := dp_least hS hC hr1 hr2
      walk_at "my go"
      rename Fr h₀ L _ _ => F12
      rename News h₀ L _ _ => N12
      exact ret _ _ _ r t11 ds.reverse G9 ((List.reverse_perm ds).trans hdp) (List.pairwise_reverse.mpr hds) q1 q2 F12 (News.reord N12 (by exact sub_ixr [] 5 rfl))
end
section
-- S10
theorem fresh_S10 : True := by
  w_top off
  trivial
set_option maxHeartbeats 8000000
open PyProof.Rows.LCg (NsObj lst Off3 Off1 SrcAt)
theorem stage6b {w : World} {base h₀ : Heap} {L fa : Nat} {cd : Value} {m : Str → Option Value} {s : Shared}
    {p : Program} {loose : List Str} {mean : ExcName → Option Value} {mg mb : Str → Option Value} {en du hl : Nat} {Ev due : List Value} {es : List Int} {ds : List (Nat × Nat)} {n2 n3 n4 : Nat} {z0 z1 z2 : Int} {t1 t2 t3 : Tok} {news : List (Addr × Obj)}
    {Q : Flow → Shared → Prop}
    (B : Below callerA base [] h₀) (F : Fr h₀ L s.heap m) (X : (hd.heap_39 w.params).In h₀) (T : Top p loose mean mg mb h₀) (G : AllBare s.gens)
    (N : News h₀ L s.heap ((en, listOf Ev.toArray n2) :: (hl, listOf #[.int z0 t1, .int z1 t2, .int z2 t3] n3) :: (du, listOf due.toArray n4) :: news))
    (hm2 : m (Str.ofString "ends") = some (.ref en)) (hm3 : m (Str.ofString "heads") = some (.ref hl)) (hm4 : m (Str.ofString "due") = some (.ref du))
    (hE : IntsAre Ev es) (hD : DueIs news due ds) (hdl : 1 ≤ ds.length ∧ ds.length ≤ 9)
    (hmain : ∀ (r : Int) (ps : List Int), ps.Perm (ds.map fun q => (q.2 : Int) + 1) → ps.Pairwise (· ≤ ·) → (∃ cs : List Nat, cs.length = ps.length ∧ (∀ c ∈ cs, c < 3) ∧ tcost (fun k => [z0, z1, z2].getD k 0) ps cs = r) → (∀ cs : List Nat, cs.length = ps.length → (∀ c ∈ cs, c < 3) → r ≤ tcost (fun k => [z0, z1, z2].getD k 0) ps cs) → es.sum = r)
    (fin : ∀ h' tk gs, AllBare gs → Fr h₀ L h' m → News h₀ L h' news → Q (.ret (.bool true)) { s with heap := h', toks := tk, gens := gs }) :
    wpAny (model Challenge.rw_nb0237_01.row.prog w) (callerA.deeper (lawEnv w L fa cd)) (execs ((lawFn w).1.drop 19) (lawEnv w L fa cd)) Q (fun _ _ => False) s := by
  revert X; k_fill; intro X
  have hfn := law_eq (w := w) (by k_is)
  unfold lawEnv
  rw [hfn]
  dsimp only [fnOfObj, List.drop]
  clear hfn
  have F0 := fr_kst [(Str.ofString "ends", .ref en), (Str.ofString "heads", .ref hl), (Str.ofString "due", .ref du)] (all_cons (by assumption) (all_cons (by assumption) (all_cons (by assumption) (fun _ h => nomatch h)))) F
  clear F
  iterate 9 walk1
  rename Fr h₀ L _ _ => F1
  rename News h₀ L _ _ => N1
  refine sumK rfl F1 N1 (News.isList N1 (.head _)) hE ?_
  intro h2 tk2 ts F2 N2
  iterate 4 walk1
  rename Fr h₀ L _ _ => F3
  rename News h₀ L _ _ => N3
  refine ListComp_JG (Gp := fun gs => gs = s.gens) F3 (by with_unfolding_all rfl) (by decide) (by rfl) (by decide) (by rfl) ?_
  walk1
  refine ⟨rfl, rfl, _, _, _, (fun i ys nn => IntsAre ys ((ds.map fun q => (q.2 : Int) + 1).take i) ∧ nn = (en, listOf Ev.toArray n2) :: (hl, listOf #[.int z0 t1, .int z1 t2, .int z2 t3] n3) :: (du, listOf due.toArray n4) :: news), _, .inl ⟨du, due.toArray, rfl, .inr ⟨_, (by exact mem_ix 2 rfl), rfl, _, rfl⟩, rfl, rfl, rfl⟩, (by have := hD.length; simp; (first | exact om433 hdl this | omega)), F3, N3, ⟨.nil, rfl⟩, ?_, ?_⟩
  · rintro I i v ys oI C oC D5 m₂ h tk5 gs news₁ E' hi hP hyl ⟨hys, rfl⟩ rfl hS5 hn5 hx5 F7 N7 of7 ne7
    obtain ⟨pp, ll, hw, hdi⟩ := hD.get (show due[i]? = some v by simpa using hP)
    obtain ⟨a, b1, b2, b3, na, rfl, hma⟩ := hw
    iterate 3 walk1
    rename Fr h₀ L _ _ => F8
    rename News h₀ L _ _ => N8
    refine r_item (a := a) (k := 0) (xs := [.int ((ll : Int) + 1) b1, .int (pp : Int) b2, .str (wtext pp ll) b3]) (n := na) N8 (by repeat (first | exact hma | apply List.Mem.tail)) (by omega) (by simp) (by omega) ?_
    refine CEndG.intro F8 N8 rfl ((en, listOf Ev.toArray n2) :: (hl, listOf #[.int z0 t1, .int z1 t2, .int z2 t3] n3) :: (du, listOf due.toArray n4) :: news) (by exact sub_ixr [] 0 rfl) of7 (.inr ⟨_, (by exact mem_ix 2 rfl), rfl, _, rfl⟩) ⟨?_, rfl⟩
    rw [List.take_add_one, List.getElem?_map, hdi]
    exact ints_snoc hys
  · rintro vs3 news' hyl ⟨hvs3, rfl⟩ D3 h9 tk9 gs9 rfl F9 N9 o9
    replace hvs3 : IntsAre vs3 (ds.map fun q => (q.2 : Int) + 1) := by
      have h1 := hD.length
      rw [List.take_of_length_le (by simp at hyl ⊢; (first | exact om434 h1 | omega))] at hvs3
      exact hvs3
    iterate 3 walk1
    rename Fr h₀ L _ _ => F10
    rename News h₀ L _ _ => N10
    refine ⟨X.keeps F10.keep, ?_⟩
    refine least_ok B F10 X (News.reord N10 (l' := (D3, lst vs3) :: (hl, listOf #[.int z0 t1, .int z1 t2, .int z2 t3] n3) :: (en, listOf Ev.toArray n2) :: (du, listOf due.toArray n4) :: news) (by exact sub_ixr [0, 2, 1] 3 rfl)) T rfl rfl rfl rfl (by show callerA.depth + 1 + 2 < recursionLimit; decide) (by show callerA.units + 3 + 40 < cLine; decide) G hvs3 (by rw [List.length_map]; exact hdl) ?_
    intro h11 tk11 gs11 r tr ps G11 q1 q2 q3 q4 F11 N11
    have er := hmain r ps q1 q2 q3 q4
    rw [← er]
    iterate 1 walk1
    have e1 : (es.sum == es.sum) = true := by simp
    rw [e1]
    have ek : kstB m [(Str.ofString "ends", .ref en), (Str.ofString "heads", .ref hl), (Str.ofString "due", .ref du)] = m := by
      funext y
      exact kstB_eq (all_cons (by assumption) (all_cons (by assumption) (all_cons (by assumption) (fun _ h => nomatch h)))) fun _ => rfl
    rw [ek] at F11
    exact fin _ _ _ G11 F11 (News.reord N11 (by exact sub_ixr [] 4 rfl))
end
section
-- P12
theorem fresh_P12 : True := by
  w_top off
  trivial
set_option maxHeartbeats 1000000
section
variable {κ κ2 : Value → Int × Int} {lens : Nat → Int} {W0 : List Value} {others : List (Addr × Obj)} {log : List (Value × Nat)} {H : List Value} {it : Nat → List Value} {told : List Value}
noncomputable abbrev dsOf (κ : Value → Int × Int) (log : List (Value × Nat)) : List (Nat × Nat) := (entl κ log).map (·.1)
theorem due_of : ∀ {log : List (Value × Nat)}, (∀ v ∈ log.map (·.1), ∃ p l, p < 9 ∧ 1 ≤ l ∧ l ≤ 6 ∧ WordAt others v p l ∧ κ v = ((l : Int) + 1, (p : Int))) → DueIs others (log.map (·.1)) (dsOf κ log)
  | [], _ => .nil
  | e :: r, h => by
    obtain ⟨p, l, _, _, _, hw, hk⟩ := h e.1 (.head _)
    have ih := due_of (log := r) fun v hv => h v (.tail _ hv)
    have e1 : (((κ e.1).2.toNat, ((κ e.1).1 - 1).toNat) : Nat × Nat) = (p, l) := by
      rw [hk]
      simp
    show DueIs others (e.1 :: r.map (·.1)) (((κ e.1).2.toNat, ((κ e.1).1 - 1).toNat) :: dsOf κ r)
    rw [e1]
    exact .cons hw ih
theorem TInv.words' (I : TInv κ κ2 lens W0 others log [] H it told) : ∀ v ∈ log.map (·.1), ∃ p l, p < 9 ∧ 1 ≤ l ∧ l ≤ 6 ∧ WordAt others v p l ∧ κ v = ((l : Int) + 1, (p : Int)) := fun v hv =>
  I.words.2.1 v (I.perm.mem_iff.mp (List.mem_append_left _ hv))
theorem TInv.ents (I : TInv κ κ2 lens W0 others log [] H it told) : ∀ e ∈ entl κ log, e.1.1 < 9 ∧ 1 ≤ e.1.2 ∧ e.1.2 ≤ 6 := ent_ok I.words I.perm
theorem TInv.len (I : TInv κ κ2 lens W0 others log [] H it told) : log.length = W0.length := by
  have := I.perm.length_eq
  simpa using this
theorem TInv.lt3 (I : TInv κ κ2 lens W0 others log [] H it told) : ∀ e ∈ entl κ log, e.2 < 3 := by
  intro e he
  exact greedy_lt I.greedy (((e.1.2 : Int) + 1, e.2)) (List.mem_map.mpr ⟨e, he, rfl⟩)
theorem TInv.wsok (I : TInv κ κ2 lens W0 others log [] H it told) (k : Nat) : WsOk (onl k (entl κ log)) := by
  refine ⟨?_, onl_ok I.ents⟩
  have h1 := onl_length k (entl κ log)
  have h2 : (entl κ log).length = log.length := by simp [entl]
  have h3 := I.len
  have h4 := I.words.1
  (first | exact om267 h1 h2 h3 h4 | omega)
theorem TInv.lensorted (I : TInv κ κ2 lens W0 others log [] H it told) : ((entl κ log).map fun e => e.1.2).Pairwise (· ≤ ·) := by
  have h := I.sorted
  rw [List.pairwise_map] at h
  rw [List.map_map, List.pairwise_map]
  refine h.imp fun {a b} hab => ?_
  have := klt_ff.mp hab
  show ((κ a.1).1 - 1).toNat ≤ ((κ b.1).1 - 1).toNat
  omega
theorem TInv.szsorted (I : TInv κ κ2 lens W0 others log [] H it told) : ((szl (entl κ log)).map (·.1)).Pairwise (· ≤ ·) := by
  have h := I.lensorted
  rw [List.pairwise_map] at h
  unfold szl
  rw [List.map_map, List.pairwise_map]
  exact h.imp fun {a b} hab => by
    show ((a.1.2 : Int) + 1) ≤ ((b.1.2 : Int) + 1)
    (first | exact om268 hab | omega)
theorem TInv.endsorted (I : TInv κ κ2 lens W0 others log [] H it told) : (ends lens (szl (entl κ log))).Pairwise (· ≤ ·) := by
  refine ends_sorted _ _ I.greedy (greedy_lt I.greedy) ?_ I.szsorted
  intro e he
  obtain ⟨x, hx, rfl⟩ := List.mem_map.mp he
  show 0 ≤ ((x.1.2 : Int) + 1)
  (first | exact om269 | omega)
theorem TInv.shownperm (I : TInv κ κ2 lens W0 others log [] H it told) : (concS (fun k => onl k (entl κ log)) 3).Perm ((dsOf κ log).map wtx) := by
  have h := (onl_perm (entl κ log) I.lt3).symm.map wtx
  rw [List.map_append, List.map_append] at h
  simpa [concS] using h
theorem TInv.endperm (I : TInv κ κ2 lens W0 others log [] H it told) : (concE lens (fun k => onl k (entl κ log)) 3).Perm (ends lens (szl (entl κ log))) := by
  have h := (ends_perm (entl κ log) lens I.lt3).symm
  simpa [concE] using h
theorem TInv.due_eq (I : TInv κ κ2 lens W0 others log [] H it told) {due : List Value} (hp : due.Perm W0) (hs : due.Pairwise (fun u v => klt (κ v) (κ u) = false)) : due = log.map (·.1) := by
  have hq : (log.map (·.1)).Perm W0 := by simpa using I.perm
  refine (hp.trans hq.symm).eq_of_pairwise ?_ hs I.sorted
  intro a b ha hb x y
  have hx := klt_ff.mp x
  have hy := klt_ff.mp y
  have h2 : (κ a).2 = (κ b).2 := by (first | exact om270 hx hy | omega)
  have ha' := hp.mem_iff.mp ha
  have hb' := hq.mem_iff.mp hb
  have hpw := I.words.2.2
  obtain ⟨i, hi, rfl⟩ := List.mem_iff_getElem.mp ha'
  obtain ⟨j, hj, rfl⟩ := List.mem_iff_getElem.mp hb'
  by_cases e : i = j
  · subst e; rfl
  · have hg := List.pairwise_iff_getElem.mp hpw
    rcases Nat.lt_or_gt_of_ne e with hlt | hlt
    · exact absurd h2 (hg i j hi hj hlt)
    · exact absurd h2.symm (hg j i hj hi hlt)
theorem TInv.least (I : TInv κ κ2 lens W0 others log [] H it told) (r : Int) (ps : List Int) (h1 : ps.Perm ((dsOf κ log).map fun q => (q.2 : Int) + 1)) (h2 : ps.Pairwise (· ≤ ·)) (h3 : ∃ cs : List Nat, cs.length = ps.length ∧ (∀ c ∈ cs, c < 3) ∧ tcost lens ps cs = r) (h4 : ∀ cs : List Nat, cs.length = ps.length → (∀ c ∈ cs, c < 3) → r ≤ tcost lens ps cs) :
    (concE lens (fun k => onl k (entl κ log)) 3).sum = r := by
  have e1 : (dsOf κ log).map (fun q => (q.2 : Int) + 1) = (szl (entl κ log)).map (·.1) := by
    unfold szl dsOf entl
    simp only [List.map_map]
    rfl
  rw [e1] at h1
  have e2 : ps = (szl (entl κ log)).map (·.1) := ints_eq h1 h2 I.szsorted
  subst e2
  rw [sum_perm I.endperm]
  have e3 := ends_sum lens (szl (entl κ log))
  obtain ⟨cs, c1, c2, rfl⟩ := h3
  refine Int.le_antisymm ?_ ?_
  · exact greedy_least _ _ cs I.greedy I.szsorted (by simpa using c1) c2
  · rw [e3]
    refine h4 _ (by simp) ?_
    intro c hc
    obtain ⟨e, he, rfl⟩ := List.mem_map.mp hc
    exact greedy_lt I.greedy e he
end
end
section
-- S11
theorem fresh_S11 : True := by
  w_top off
  trivial
set_option maxHeartbeats 8000000
open PyProof.Rows.LCg (NsObj lst Off3 Off1 SrcAt)
theorem perm_of_sub : ∀ {C F : List Nat}, C.Nodup → (∀ x ∈ C, x ∈ F) → F.length ≤ C.length → F.Perm C
  | [], F, _, _, h => by
    have : F = [] := List.length_eq_zero_iff.mp (Nat.le_zero.mp h)
    rw [this]
  | x :: r, F, hn, hs, hl => by
    obtain ⟨a, b, rfl⟩ := List.append_of_mem (hs x (.head _))
    have hn' := List.nodup_cons.mp hn
    have ih : (a ++ b).Perm r := perm_of_sub hn'.2 (fun y hy => by
      have := hs y (.tail _ hy)
      have hne : y ≠ x := fun e => hn'.1 (e ▸ hy)
      simp only [List.mem_append, List.mem_cons] at this ⊢
      rcases this with h | h | h
      · exact .inl h
      · exact absurd h hne
      · exact .inr h) (by simp only [List.length_append, List.length_cons] at hl ⊢; (first | exact om435 hl | omega))
    exact List.perm_middle.trans (.cons _ ih)
theorem mem_two {x a b : Nat} {l : List Nat} (h1 : x ∉ l) (h : x ∈ l ++ [a, b]) (h2 : x ≠ a) (h3 : x ≠ b) : False := by
  rcases List.mem_append.mp h with h | h
  · exact h1 h
  · rcases List.mem_cons.mp h with e | h
    · exact h2 e
    · exact h3 (List.mem_singleton.mp h)
theorem fix_nodup {L hl wl du mk hp td ld : Nat} {M0 M1 M2 : MkD} (hO : OrdM L hl wl du mk M0 M1 M2) (h1 : M2.a < td) (h2 : mk < td) (h3 : hp < td) (h4 : td < ld) (hhp : hp ∉ [182, 189, mk, M0.a, M0.v, M0.d, M0.da, M0.ln, M1.a, M1.v, M1.d, M1.da, M1.ln, M2.a, M2.v, M2.d, M2.da, M2.ln, du, wl, hl, L + 1]) : (fixA L hl wl du mk hp td ld M0 M1 M2).Nodup := by
  have inc : Inc 0 [182, 189, L + 1, hl, wl, du, M0.d, M0.v, M0.ln, M0.da, M0.a, M1.d, M1.v, M1.ln, M1.da, M1.a, M2.d, M2.v, M2.ln, M2.da, M2.a, td, ld] :=
    ⟨by decide, by decide, Nat.lt_succ_of_lt hO.hL, hO.h1, hO.h2, hO.h3, hO.h4, hO.o0.1, hO.o0.2.1, hO.o0.2.2.1, hO.o0.2.2.2, hO.h5, hO.o1.1, hO.o1.2.1, hO.o1.2.2.1, hO.o1.2.2.2, hO.h6, hO.o2.1, hO.o2.2.1, hO.o2.2.2.1, hO.o2.2.2.2, h1, h4, trivial⟩
  have hn : (mk :: hp :: [182, 189, L + 1, hl, wl, du, M0.d, M0.v, M0.ln, M0.da, M0.a, M1.d, M1.v, M1.ln, M1.da, M1.a, M2.d, M2.v, M2.ln, M2.da, M2.a, td, ld]).Nodup := by
    refine List.nodup_cons.mpr ⟨fun hm => ?_, List.nodup_cons.mpr ⟨fun hm => ?_, inc.nodup.2⟩⟩
    · rcases List.mem_cons.mp hm with e | hm
      · exact hhp (e ▸ mem_ix 2 rfl)
      · exact mem_two hO.hmk hm (Nat.ne_of_lt h2) (Nat.ne_of_lt (Nat.lt_trans h2 h4))
    · exact mem_two (l := [182, 189, L + 1, hl, wl, du, M0.d, M0.v, M0.ln, M0.da, M0.a, M1.d, M1.v, M1.ln, M1.da, M1.a, M2.d, M2.v, M2.ln, M2.da, M2.a]) (fun h => hhp (sub_ix [0, 1, 21, 20, 19, 18, 5, 4, 7, 6, 3, 10, 9, 12, 11, 8, 15, 14, 17, 16, 13] rfl hp h)) hm (Nat.ne_of_lt h3) (Nat.ne_of_lt (Nat.lt_trans h3 h4))
  refine (perm_of_sub (F := fixA L hl wl du mk hp td ld M0 M1 M2) hn ?_ (Nat.le_refl _)).nodup_iff.mpr hn
  unfold fixA
  exact sub_ix [2, 24, 0, 1, 21, 20, 19, 18, 5, 4, 7, 6, 3, 10, 9, 12, 11, 8, 15, 14, 17, 16, 13, 23, 22] rfl
end
section
-- S12
theorem fresh_S12 : True := by
  w_top off
  trivial
set_option maxHeartbeats 8000000
open PyProof.Rows.LCg (NsObj lst Off3 Off1 SrcAt)
theorem nm_of {x : Nat} {l : List Nat} {LED : List (Addr × Obj)} (h : ∀ r ∈ LED, r.1 ≠ x) (hs : ∀ y ∈ l, y ∈ LED.map (·.1)) : x ∉ l := by
  intro hm
  obtain ⟨r, hr, e⟩ := List.mem_map.mp (hs x hm)
  exact h r hr e
theorem notfix {L hl wl du mk hp td ld x : Nat} {M0 M1 M2 : MkD} (hO : OrdM L hl wl du mk M0 M1 M2) (h4 : td < ld) (h : M2.a < x ∨ (wl < x ∧ x < du)) (h1 : x ≠ mk) (h2 : x ≠ hp) (h3 : x < td) : x ∉ fixA L hl wl du mk hp td ld M0 M1 M2 := by
  have sub : ∀ y ∈ fixA L hl wl du mk hp td ld M0 M1 M2, y ∈ mk :: hp :: td :: ld :: ([182, 189, L + 1, hl, wl] ++ [du, M0.d, M0.v, M0.ln, M0.da, M0.a, M1.d, M1.v, M1.ln, M1.da, M1.a, M2.d, M2.v, M2.ln, M2.da, M2.a]) := by
    show ∀ y ∈ fixA L hl wl du mk hp td ld M0 M1 M2, y ∈ mk :: hp :: td :: ld :: [182, 189, L + 1, hl, wl, du, M0.d, M0.v, M0.ln, M0.da, M0.a, M1.d, M1.v, M1.ln, M1.da, M1.a, M2.d, M2.v, M2.ln, M2.da, M2.a]
    unfold fixA
    exact sub_ix [4, 5, 0, 14, 11, 10, 13, 12, 19, 16, 15, 18, 17, 24, 21, 20, 23, 22, 9, 8, 7, 6, 3, 2, 1] rfl
  intro hm
  rcases List.mem_cons.mp (sub x hm) with e | hm
  · exact h1 e
  rcases List.mem_cons.mp hm with e | hm
  · exact h2 e
  rcases List.mem_cons.mp hm with e | hm
  · exact Nat.ne_of_lt h3 e
  rcases List.mem_cons.mp hm with e | hm
  · exact Nat.ne_of_lt (Nat.lt_trans h3 h4) e
  rcases h with h | h
  · have inc : (([182, 189, L + 1, hl, wl] ++ [du, M0.d, M0.v, M0.ln, M0.da, M0.a, M1.d, M1.v, M1.ln, M1.da, M1.a, M2.d, M2.v, M2.ln, M2.da, M2.a]) ++ [x]).Nodup := (Inc.nodup (x := 0) (l := [182, 189, L + 1, hl, wl, du, M0.d, M0.v, M0.ln, M0.da, M0.a, M1.d, M1.v, M1.ln, M1.da, M1.a, M2.d, M2.v, M2.ln, M2.da, M2.a, x]) ⟨by decide, by decide, Nat.lt_succ_of_lt hO.hL, hO.h1, hO.h2, hO.h3, hO.h4, hO.o0.1, hO.o0.2.1, hO.o0.2.2.1, hO.o0.2.2.2, hO.h5, hO.o1.1, hO.o1.2.1, hO.o1.2.2.1, hO.o1.2.2.2, hO.h6, hO.o2.1, hO.o2.2.1, hO.o2.2.2.1, hO.o2.2.2.2, h, trivial⟩).2
    exact (List.nodup_append.mp inc).2.2 x hm x (.head _) rfl
  · have inc : ([182, 189, L + 1, hl, wl] ++ x :: [du, M0.d, M0.v, M0.ln, M0.da, M0.a, M1.d, M1.v, M1.ln, M1.da, M1.a, M2.d, M2.v, M2.ln, M2.da, M2.a]).Nodup := (Inc.nodup (x := 0) (l := [182, 189, L + 1, hl, wl, x, du, M0.d, M0.v, M0.ln, M0.da, M0.a, M1.d, M1.v, M1.ln, M1.da, M1.a, M2.d, M2.v, M2.ln, M2.da, M2.a]) ⟨by decide, by decide, Nat.lt_succ_of_lt hO.hL, hO.h1, hO.h2, h.1, h.2, hO.h4, hO.o0.1, hO.o0.2.1, hO.o0.2.2.1, hO.o0.2.2.2, hO.h5, hO.o1.1, hO.o1.2.1, hO.o1.2.2.1, hO.o1.2.2.2, hO.h6, hO.o2.1, hO.o2.2.1, hO.o2.2.2.1, hO.o2.2.2.2, trivial⟩).2
    have inc2 := List.nodup_append.mp inc
    rcases List.mem_append.mp hm with hm | hm
    · exact inc2.2.2 x hm x (.head _) rfl
    · exact (List.nodup_cons.mp inc2.2.1).1 hm
/-- statements 0 to 10 -/
theorem law_a {w : World} {h₀ : Heap} {L fa : Nat} {cd : Value} {m : Str → Option Value} {s : Shared} {oc : Obj} {v₀ : Option Value}
    {p : Program} {loose : List Str} {mean : ExcName → Option Value} {mg mb : Str → Option Value} {sc : Addr} {vs : List Value} {ns : List Int}
    {Q : Flow → Shared → Prop}
    (B : Below callerA h₀ [] h₀) (F : Fr h₀ L s.heap m) (X : (hd.heap_39 w.params).In h₀) (N : News h₀ L s.heap [(L + 1, oc), (182, tabObj #[]), (189, tabObj #[])]) (T : Top p loose mean mg mb h₀) (hcl : oc.data = .cell v₀) (hLL : 189 < L) (G : AllBare s.gens)
    (hm : m (Str.ofString "script") = some (.ref sc)) (hsc : h₀.IsList sc vs.toArray) (hi : IntsAre vs ns) (hlen : ns.length ≤ 63)
    (next : ∀ h' tk gs m' (wl hl du mk hp td ld : Nat) (M0 M1 M2 : MkD) ps oc' log it told W0 H others κ κ2 k0 k1 k2 l0 l1 l2 z0 z1 z2 t1 t2 t3 nd nw n2 nl nt nh, AllBare gs → Fr h₀ L h' m' → (m' (Str.ofString "words") = some (.ref wl) ∧ m' (Str.ofString "heads") = some (.ref hl) ∧ m' (Str.ofString "due") = some (.ref du) ∧ m' (Str.ofString "heap") = some (.ref hp) ∧ m' (Str.ofString "laid") = some (.ref ld) ∧ m' (Str.ofString "told") = some (.ref td)) →
      News h₀ L h' (ledM mk M0 M1 M2 ps #[] (it 0) (it 1) (it 2) k0 k1 k2 z0 z1 z2 t1 t2 t3 [] [] [] l0 l1 l2 ((du, listOf (log.map (·.1)).toArray nd) :: (wl, listOf ([] : List Value).toArray nw) :: (hl, listOf #[.int z0 t1, .int z1 t2, .int z2 t3] n2) :: (L + 1, oc') :: (ld, listOf (log.map (·.1)).toArray nl) :: (td, listOf told.toArray nt) :: (hp, listOf H.toArray nh) :: others)) →
      oc'.data = .cell (some (.ref mk)) → TabOk ⟨139, 19, 139, 63⟩ ps → (fixA L hl wl du mk hp td ld M0 M1 M2).Nodup → (∀ r ∈ others, r.1 ∉ fixA L hl wl du mk hp td ld M0 M1 M2) → 0 ≤ z0 ∧ z0 < 6 → 0 ≤ z1 ∧ z1 < 6 → 0 ≤ z2 ∧ z2 < 6 → TInv κ κ2 (fun k => [z0, z1, z2].getD k 0) W0 others log [] H it told → 4 ≤ W0.length →
      wpAny (model Challenge.rw_nb0237_01.row.prog w) (callerA.deeper (lawEnv w L fa cd)) (execs ((lawFn w).1.drop 11) (lawEnv w L fa cd)) Q (fun _ _ => False) { s with heap := h', toks := tk, gens := gs }) :
    wpAny (model Challenge.rw_nb0237_01.row.prog w) (callerA.deeper (lawEnv w L fa cd)) (execs (lawFn w).1 (lawEnv w L fa cd)) Q (fun _ _ => False) s := by
  refine stage1 B F X N T hm hsc hi hlen ?_
  intro h1 tk1 m1 wl hl W nw n2 z0 z1 z2 t1 t2 t3 rest κ n F1 e1 e2 N1 hord hoff hW hn hz0 hz1 hz2
  refine stage2a B F1 X T hcl N1 e1 e2 ⟨Nat.lt_trans (by decide) hLL, hLL⟩ hord hoff hW hn hz0 hz1 hz2 ?_
  intro h2 tk2 m2 M0 M1 M2 mk du due nd oc' k0 k1 k2 l0 l1 l2 F2 e21 e22 e23 N2 hoc' hdu hd0 o0 hd1 o1 hd2 o2 hmk hdp hds
  have hduwl : wl < du := ltN (hdu _ (.head _))
  have hO : OrdM L hl wl du mk M0 M1 M2 := ⟨hLL, hord.1, hord.2.2.2, hduwl, hd0, o0, hd1, o1, hd2, o2, nm_of hmk (by simp only [mk5, List.map_cons]; exact sub_ix [19, 20, 18, 17, 16, 15, 12, 11, 14, 13, 10, 7, 6, 9, 8, 5, 2, 1, 4, 3, 0] rfl)⟩
  refine stage2b (rest := rest) (n := n) B F2 X T hoc' G (News.reord N2 (by exact sub_ixr [20, 21, 0, 11, 12, 13, 14, 15, 6, 7, 8, 9, 10, 1, 2, 3, 4, 5, 16, 17, 18, 19] 22 rfl)) e21 e22 e23 hO hz0 hz1 hz2 (fun q hq => ⟨hoff q hq, hdu q (by repeat (first | exact hq | apply List.Mem.tail)), hmk q (by simp only [mk5]; repeat (first | exact hq | apply List.Mem.tail))⟩) ?_
  intro h3 tk3 gs3 m3 hp q0 q1 q2 ps ta0 ta1 ta2 tb0 tb1 tb2 nn0 nn1 nn2 G3 F3 e31 e32 e33 e34 N3 hps hq ohp
  have ohp' := off1_mem ohp
  have hκ0 : kput (kput (kput (fun _ => (0, 0)) q0 (z0, 0)) q1 (z1, 1)) q2 (z2, 2) (.ref q0) = (z0, 0) := by
    rw [kput_ne _ _ (Nat.ne_of_lt (Nat.lt_trans hq.2.2.2.1 hq.2.2.2.2)), kput_ne _ _ (Nat.ne_of_lt hq.2.2.2.1), kput_self]
  have hκ1 : kput (kput (kput (fun _ => (0, 0)) q0 (z0, 0)) q1 (z1, 1)) q2 (z2, 2) (.ref q1) = (z1, 1) := by
    rw [kput_ne _ _ (Nat.ne_of_lt hq.2.2.2.2), kput_self]
  have hκ2 : kput (kput (kput (fun _ => (0, 0)) q0 (z0, 0)) q1 (z1, 1)) q2 (z2, 2) (.ref q2) = (z2, 2) := kput_self _ _ _
  generalize kput (kput (kput (fun _ => (0, 0)) q0 (z0, 0)) q1 (z1, 1)) q2 (z2, 2) = κ2 at hκ0 hκ1 hκ2
  refine stage2c (rest := (182, tabObj ps) :: (189, tabObj #[]) :: (mk, listOf [.ref M0.v, .ref M1.v, .ref M2.v].toArray 3) :: mk5 M0 [] k0 z0 t1 [] l0 (mk5 M1 [] k1 z1 t2 [] l1 (mk5 M2 [] k2 z2 t3 [] l2 ((du, listOf due.toArray nd) :: (wl, listOf W.toArray nw) :: (L + 1, oc') :: rest)))) B F3 X T G3 (News.reord N3 (by simp only [ledM, mk5]; exact sub_ixr [0, 1, 2, 3, 24, 4, 5, 6, 7, 8, 9, 10, 11, 12, 13, 14, 15, 16, 17, 18, 19, 20, 21, 22, 23] 25 rfl)) e32 e34 κ2 hκ0 hκ1 hκ2 (fun q hq => ohp' q ((show ∀ q ∈ _, q ∈ _ by simp only [ledM, mk5]; exact sub_ixr [0, 1, 2, 23, 3, 4, 5, 6, 7, 8, 9, 10, 11, 12, 13, 14, 15, 16, 17, 18, 19, 20, 21, 22] 24 rfl) q hq)) ?_
  intro h4 tk4 gs4 td ld H G4 F4 N4 ltd hld hH hHp
  have hhp : hp ∉ [182, 189, mk, M0.a, M0.v, M0.d, M0.da, M0.ln, M1.a, M1.v, M1.d, M1.da, M1.ln, M2.a, M2.v, M2.d, M2.da, M2.ln, du, wl, hl, L + 1] := nm_of ohp' (by simp only [ledM, mk5, List.map_cons]; exact sub_ix [3, 4, 5, 6, 7, 8, 9, 10, 11, 12, 13, 14, 15, 16, 17, 18, 19, 20, 21, 22, 23, 24] rfl)
  have t1' : M2.a < td := ltN (ltd (M2.a, accObj M2.da [] k2) (by simp only [mk5]; repeat (first | exact List.Mem.head _ | apply List.Mem.tail)))
  have t2' : mk < td := ltN (ltd (mk, listOf [.ref M0.v, .ref M1.v, .ref M2.v].toArray 3) (by simp only [mk5]; repeat (first | exact List.Mem.head _ | apply List.Mem.tail)))
  have t3' : hp < td := ltN (ltd _ (.head _))
  have hFix := fix_nodup hO t1' t2' t3' hld hhp
  have lq2 : q2 < td := ltN (ltd _ (.tail _ (.head _)))
  have lq1 : q1 < td := ltN (ltd _ (.tail _ (.tail _ (.head _))))
  have lq0 : q0 < td := ltN (ltd _ (.tail _ (.tail _ (.tail _ (.head _)))))
  have hr9 : ∀ r ∈ rest, r.1 < td := fun r hr => ltd r (by simp only [mk5]; repeat (first | exact hr | apply List.Mem.tail))
  have hr8 : ∀ r ∈ rest, r.1 ≠ hp := fun r hr => ohp' r (by simp only [ledM, mk5]; repeat (first | exact hr | apply List.Mem.tail))
  have hr7 : ∀ r ∈ rest, r.1 ≠ mk := fun r hr => hmk r (by simp only [mk5]; repeat (first | exact hr | apply List.Mem.tail))
  have hr6 : ∀ r ∈ rest, r.1 < du := fun r hr => hdu r (by repeat (first | exact hr | apply List.Mem.tail))
  have hoth : ∀ r ∈ (q2, listOf #[.int z2 ta2, .int ((2 : Nat) : Int) tb2] nn2) :: (q1, listOf #[.int z1 ta1, .int ((1 : Nat) : Int) tb1] nn1) :: (q0, listOf #[.int z0 ta0, .int ((0 : Nat) : Int) tb0] nn0) :: rest, r.1 ∉ fixA L hl wl du mk hp td ld M0 M1 M2 :=
    all_cons (notfix hO hld (.inl ((Nat.lt_trans hq.1 (Nat.lt_trans hq.2.2.2.1 hq.2.2.2.2)))) (Nat.ne_of_gt (Nat.lt_trans hq.2.1 (Nat.lt_trans hq.2.2.2.1 hq.2.2.2.2))) (ohp' _ (.head _)) lq2) (all_cons (notfix hO hld (.inl ((Nat.lt_trans hq.1 hq.2.2.2.1))) (Nat.ne_of_gt (Nat.lt_trans hq.2.1 hq.2.2.2.1)) (ohp' _ (.tail _ (.head _))) lq1) (all_cons (notfix hO hld (.inl (hq.1)) (Nat.ne_of_gt hq.2.1) (ohp' _ (.tail _ (.tail _ (.head _)))) lq0)
      fun r hr => notfix hO hld (.inr ⟨hoff r hr, hr6 r hr⟩) (hr7 r hr) (hr8 r hr) (hr9 r hr)))
  have I0 : TInv κ κ2 (fun k => [z0, z1, z2].getD k 0) W ((q2, listOf #[.int z2 ta2, .int ((2 : Nat) : Int) tb2] nn2) :: (q1, listOf #[.int z1 ta1, .int ((1 : Nat) : Int) tb1] nn1) :: (q0, listOf #[.int z0 ta0, .int ((0 : Nat) : Int) tb0] nn0) :: rest) [] W H (fun _ => []) [] := by
    refine ⟨⟨by rw [hW.1]; exact hn.2, fun v hv => ?_, hW.2.2.2⟩, .refl _, hW.2.1, hH, ?_, ?_, trivial, .nil, (fun _ h => nomatch h), .nil, fun k _ => .nil, fun _ _ _ h => nomatch h⟩
    · obtain ⟨p, l, a1, a2, a3, a4, a5⟩ := hW.2.2.1 v hv
      exact ⟨p, l, Nat.lt_of_lt_of_le a1 hn.2, a2, a3, a4.mono (by exact sub_ixr [] 3 rfl), a5⟩
    · have := hHp.map κ2
      rw [List.map_cons, List.map_cons, List.map_cons, List.map_nil, hκ0, hκ1, hκ2] at this
      exact this
    · intro v hv
      have hv' := hHp.mem_iff.mp hv
      simp only [List.mem_cons, List.not_mem_nil, or_false] at hv'
      rcases hv' with rfl | rfl | rfl
      · rw [hκ0]; exact ⟨q0, _, _, _, rfl, (by exact mem_ix 2 rfl)⟩
      · rw [hκ1]; exact ⟨q1, _, _, _, rfl, (by exact mem_ix 1 rfl)⟩
      · rw [hκ2]; exact ⟨q2, _, _, _, rfl, (by exact mem_ix 0 rfl)⟩
  refine stage3 (others := (q2, listOf #[.int z2 ta2, .int ((2 : Nat) : Int) tb2] nn2) :: (q1, listOf #[.int z1 ta1, .int ((1 : Nat) : Int) tb1] nn1) :: (q0, listOf #[.int z0 ta0, .int ((0 : Nat) : Int) tb0] nn0) :: rest) κ κ2 B F4 X T hoc' G4 (News.reord N4 (by simp only [ledM, mk5]; exact sub_ixr [7, 8, 9, 10, 11, 12, 13, 14, 15, 16, 17, 18, 19, 20, 21, 22, 23, 24, 25, 26, 6, 27, 0, 1, 2, 3, 4, 5] 28 rfl)) ⟨e31, e32, e33, e34, rfl, rfl⟩ hFix hoth hps hz0 hz1 hz2 I0 ?_
  intro h5 tk5 gs5 m5 ps5 log it told H5 others5 κ5 n05 n15 n25 nw5 nl5 nt5 nh5 G5 F5 e5 N5 hps5 hoth5 I5
  have edue : due = log.map (·.1) := I5.due_eq hdp hds
  subst edue
  exact next h5 tk5 gs5 m5 wl hl du mk hp td ld M0 M1 M2 ps5 oc' log it told W H5 others5 κ κ5 n05 n15 n25 l0 l1 l2 z0 z1 z2 t1 t2 t3 nd nw5 n2 nl5 nt5 nh5 G5 F5 e5 N5 hoc' hps5 hFix hoth5 hz0 hz1 hz2 I5 (by rw [hW.1]; exact hn.1)
end
section
-- S13
theorem fresh_S13 : True := by
  w_top off
  trivial
set_option maxHeartbeats 8000000
open PyProof.Rows.LCg (NsObj lst Off3 Off1 SrcAt)
/-- statements 11 to 19 -/
theorem law_b {w : World} {h₀ : Heap} {L fa : Nat} {cd : Value} {m : Str → Option Value} {s : Shared} {oc : Obj}
    {p : Program} {loose : List Str} {mean : ExcName → Option Value} {mg mb : Str → Option Value}
    {wl hl du mk hp td ld : Nat} {M0 M1 M2 : MkD} {ps : Array Value} {log : List (Value × Nat)} {it : Nat → List Value} {told W0 H : List Value} {others : List (Addr × Obj)} {κ κ2 : Value → Int × Int} {k0 k1 k2 l0 l1 l2 : Nat} {z0 z1 z2 : Int} {t1 t2 t3 : Tok} {nd nw n2 nl nt nh : Nat}
    {Q : Flow → Shared → Prop}
    (B : Below callerA h₀ [] h₀) (F : Fr h₀ L s.heap m) (X : (hd.heap_39 w.params).In h₀) (T : Top p loose mean mg mb h₀) (G : AllBare s.gens)
    (hm : m (Str.ofString "words") = some (.ref wl) ∧ m (Str.ofString "heads") = some (.ref hl) ∧ m (Str.ofString "due") = some (.ref du) ∧ m (Str.ofString "heap") = some (.ref hp) ∧ m (Str.ofString "laid") = some (.ref ld) ∧ m (Str.ofString "told") = some (.ref td))
    (N : News h₀ L s.heap (ledM mk M0 M1 M2 ps #[] (it 0) (it 1) (it 2) k0 k1 k2 z0 z1 z2 t1 t2 t3 [] [] [] l0 l1 l2 ((du, listOf (log.map (·.1)).toArray nd) :: (wl, listOf ([] : List Value).toArray nw) :: (hl, listOf #[.int z0 t1, .int z1 t2, .int z2 t3] n2) :: (L + 1, oc) :: (ld, listOf (log.map (·.1)).toArray nl) :: (td, listOf told.toArray nt) :: (hp, listOf H.toArray nh) :: others)))
    (hcl : oc.data = .cell (some (.ref mk))) (hps : TabOk ⟨139, 19, 139, 63⟩ ps) (hFix : (fixA L hl wl du mk hp td ld M0 M1 M2).Nodup) (hoth : ∀ r ∈ others, r.1 ∉ fixA L hl wl du mk hp td ld M0 M1 M2) (hz0 : 0 ≤ z0 ∧ z0 < 6) (hz1 : 0 ≤ z1 ∧ z1 < 6) (hz2 : 0 ≤ z2 ∧ z2 < 6)
    (I : TInv κ κ2 (fun k => [z0, z1, z2].getD k 0) W0 others log [] H it told) (h4 : 4 ≤ W0.length)
    (fin : ∀ h' tk gs m' ps' qs', AllBare gs → Fr h₀ L h' m' → News h₀ L h' [(182, tabObj ps'), (189, tabObj qs')] → Q (.ret (.bool true)) { s with heap := h', toks := tk, gens := gs }) :
    wpAny (model Challenge.rw_nb0237_01.row.prog w) (callerA.deeper (lawEnv w L fa cd)) (execs ((lawFn w).1.drop 11) (lawEnv w L fa cd)) Q (fun _ _ => False) s := by
  obtain ⟨e1, e2, e3, e4, e5, e6⟩ := hm
  have hends := ends_length (szl (entl κ log)) (fun k => [z0, z1, z2].getD k 0)
  have hszl : (szl (entl κ log)).length = log.length := by simp [szl, entl]
  have hlog := I.len
  have h9 := I.words.1
  have hdl : (dsOf κ log).length = log.length := by simp [entl]
  refine stage4a (base := h₀) (news := (182, tabObj ps) :: (189, tabObj #[]) :: (mk, listOf [.ref M0.v, .ref M1.v, .ref M2.v].toArray 3) :: mk5 M0 (it 0) k0 z0 t1 [] l0 (mk5 M1 (it 1) k1 z1 t2 [] l1 (mk5 M2 (it 2) k2 z2 t3 [] l2 ((hl, listOf #[.int z0 t1, .int z1 t2, .int z2 t3] n2) :: (L + 1, oc) :: (hp, listOf H.toArray nh) :: others)))) B F X T (News.reord N (by simp only [ledM, mk5]; exact sub_ixr [19, 22, 23, 18, 0, 1, 2, 3, 4, 5, 6, 7, 8, 9, 10, 11, 12, 13, 14, 15, 16, 17, 20, 21] 24 rfl)) e1 e3 e5 e6 (fun v hv => ?_) I.told I.endsorted (by (first | exact om436 hends hszl hlog h9 | omega)) ?_
  · obtain ⟨p, l, a1, a2, a3, a4, a5⟩ := I.words' v hv
    exact ⟨p, l, a1, by (first | exact om437 a3 | omega), a4.mono (by simp only [mk5]; exact sub_ixr [] 21 rfl)⟩
  intro h1 tk1 F1 N1
  have hsubB : ∀ x ∈ fixB L mk M0 M1 M2, x ∈ fixA L hl wl du mk hp td ld M0 M1 M2 := by unfold fixA fixB; exact sub_ix [0, 1, 2, 3, 4, 5, 6, 7, 8, 9, 10, 11, 12, 13, 14, 15, 16, 17, 21] rfl
  have hFixB : (fixB L mk M0 M1 M2).Nodup := List.Nodup.sublist (by unfold fixA fixB; repeat (first | exact .slnil | apply List.Sublist.cons_cons | apply List.Sublist.cons)) hFix
  have hdis : ∀ x ∈ [du, wl, hl, ld, td, hp], x ∉ fixB L mk M0 M1 M2 := by
    have hp9 : (fixB L mk M0 M1 M2 ++ [du, wl, hl, ld, td, hp]).Perm (fixA L hl wl du mk hp td ld M0 M1 M2) := perm_of_sub hFix (by
      show ∀ x ∈ fixA L hl wl du mk hp td ld M0 M1 M2, x ∈ [182, 189, mk, M0.a, M0.v, M0.d, M0.da, M0.ln, M1.a, M1.v, M1.d, M1.da, M1.ln, M2.a, M2.v, M2.d, M2.da, M2.ln, L + 1, du, wl, hl, ld, td, hp]
      unfold fixA
      exact sub_ix [0, 1, 2, 3, 4, 5, 6, 7, 8, 9, 10, 11, 12, 13, 14, 15, 16, 17, 19, 20, 21, 18, 22, 23, 24] rfl) (Nat.le_refl _)
    have hn := List.nodup_append.mp (hp9.nodup_iff.mpr hFix)
    exact fun x hx hm => hn.2.2 x hm x hx rfl
  have hrest : ∀ r ∈ (du, listOf (log.map (·.1)).toArray nd) :: (wl, listOf ([] : List Value).toArray nw) :: (hl, listOf #[.int z0 t1, .int z1 t2, .int z2 t3] n2) :: (ld, listOf (log.map (·.1)).toArray nl) :: (td, listOf told.toArray nt) :: (hp, listOf H.toArray nh) :: others, r.1 ∉ fixB L mk M0 M1 M2 :=
    all_cons (hdis _ (.head _)) (all_cons (hdis _ (.tail _ (.head _))) (all_cons (hdis _ (.tail _ (.tail _ (.head _)))) (all_cons (hdis _ (.tail _ (.tail _ (.tail _ (.head _))))) (all_cons (hdis _ (.tail _ (.tail _ (.tail _ (.tail _ (.head _)))))) (all_cons (hdis _ (.tail _ (.tail _ (.tail _ (.tail _ (.tail _ (.head _))))))) fun r hr hm => hoth r hr (hsubB _ hm))))))
  refine stage4b (it := it) (ws := fun k => onl k (entl κ log)) (rest := (du, listOf (log.map (·.1)).toArray nd) :: (wl, listOf ([] : List Value).toArray nw) :: (hl, listOf #[.int z0 t1, .int z1 t2, .int z2 t3] n2) :: (ld, listOf (log.map (·.1)).toArray nl) :: (td, listOf told.toArray nt) :: (hp, listOf H.toArray nh) :: others) B F1 X T hcl G (News.reord N1 (by simp only [ledM, mk5]; exact sub_ixr [4, 5, 6, 7, 8, 9, 10, 11, 12, 13, 14, 15, 16, 17, 18, 19, 20, 21, 23, 3, 0, 22, 1, 2] 24 rfl)) hps (.inl rfl) hFixB hrest hz0 hz1 hz2 (fun k _ => I.wsok k) (fun k hk => (I.parts k hk).mono (by exact sub_ixr [] 6 rfl)) (fun k hk v hv => ?_) ?_
  · obtain ⟨T9, v1, v2, a, b⟩ := I.tup0 k hk v hv
    exact ⟨T9, v1, v2, a, by repeat (first | exact b | apply List.Mem.tail)⟩
  intro h2 tk2 gs2 D ps2 qs2 L0 L1 L2 nk0 nk1 nk2 tz0 tz1 tz2 nl0 nl1 nl2 u0 u1 u2 G2 F2 N2 hps2 hqs2 hs0 hs1 hs2 hD
  have hDL : D ∉ fixB L mk M0 M1 M2 := nm_of hD (by unfold fixB; simp only [ledM, mk5, List.map_cons]; exact sub_ix [0, 1, 2, 3, 4, 5, 6, 7, 8, 9, 10, 11, 12, 13, 14, 15, 16, 17, 18] rfl)
  refine stage4c (base := h₀) (DL := D) (ws := (fun k => onl k (entl κ log))) (rest := (du, listOf (log.map (·.1)).toArray nd) :: (wl, listOf ([] : List Value).toArray nw) :: (hl, listOf #[.int z0 t1, .int z1 t2, .int z2 t3] n2) :: (ld, listOf (log.map (·.1)).toArray nl) :: (td, listOf told.toArray nt) :: (hp, listOf H.toArray nh) :: others) B F2 X T hcl G2 (News.reord N2 (by simp only [ledM, mk5]; exact sub_ixr [1, 2, 3, 4, 5, 6, 7, 8, 9, 10, 11, 12, 13, 14, 15, 16, 17, 18, 19, 0] 20 rfl)) rfl hps2 hqs2 hFixB hDL hrest (fun k _ => I.wsok k) hs0 hs1 hs2 ?_
  rintro h3 tk3 gs3 G3 F3 N3 ⟨ps3, qs3, hps3, hqs3, N3'⟩
  have N3a : News h₀ L h3 ((D, listOf [.str (lineOf (onl 0 (entl κ log))) u0, .str (lineOf (onl 1 (entl κ log))) u1, .str (lineOf (onl 2 (entl κ log))) u2].toArray 3) :: (hl, listOf [.int z0 t1, .int z1 t2, .int z2 t3].toArray n2) :: (182, tabObj ps3) :: (189, tabObj qs3) :: (du, listOf (log.map (·.1)).toArray nd) :: (td, listOf told.toArray nt) :: others) := by
    intro q hq
    rcases List.mem_cons.mp hq with rfl | hq
    · exact N3 _ (.head _)
    rcases List.mem_cons.mp hq with rfl | hq
    · exact N3 _ (.tail _ (.tail _ (.tail _ (.head _))))
    rcases List.mem_cons.mp hq with rfl | hq
    · exact N3' _ (.head _)
    rcases List.mem_cons.mp hq with rfl | hq
    · exact N3' _ (.tail _ (.head _))
    rcases List.mem_cons.mp hq with rfl | hq
    · exact N3 _ (.tail _ (.head _))
    rcases List.mem_cons.mp hq with rfl | hq
    · exact N3 _ (.tail _ (.tail _ (.tail _ (.tail _ (.tail _ (.head _))))))
    · exact N3 q (.tail _ (.tail _ (.tail _ (.tail _ (.tail _ (.tail _ (.tail _ hq)))))))
  refine stage5 (base := h₀) (ws := (fun k => onl k (entl κ log))) (z := fun k => [z0, z1, z2].getD k 0) (t := fun k => [u0, u1, u2].getD k 0) (u := fun k => [t1, t2, t3].getD k 0) B F3 X T N3a rfl e2 rfl rfl ?_ ?_ (fun k _ => I.wsok k) ?_ (fun k _ => onl_sorted k _ I.lensorted) ?_
  · intro k hk
    have hk3 : k = 0 ∨ k = 1 ∨ k = 2 := by (first | exact om198 hk | omega)
    rcases hk3 with rfl | rfl | rfl <;> rfl
  · intro k hk
    have hk3 : k = 0 ∨ k = 1 ∨ k = 2 := by (first | exact om198 hk | omega)
    rcases hk3 with rfl | rfl | rfl <;> rfl
  · intro k hk
    have hk3 : k = 0 ∨ k = 1 ∨ k = 2 := by (first | exact om198 hk | omega)
    rcases hk3 with rfl | rfl | rfl
    · exact hz0
    · exact hz1
    · exact hz2
  intro h5 tk5 m5 sh en S5 E5 ns5 ne5 F5 f1 f2 f3 f4 f5 N5 hS5 hE5
  have hdue := due_of (others := others) (κ := κ) I.words'
  refine stage6a (base := h₀) (news := (hl, listOf [.int z0 t1, .int z1 t2, .int z2 t3].toArray n2) :: (182, tabObj ps3) :: (189, tabObj qs3) :: others) B F5 X T (News.reord N5 (by exact sub_ixr [0, 1, 7, 6, 3, 4, 5] 8 rfl)) f4 f5 (f3.trans e6) (f2.trans e3) hS5 hE5 I.told (hdue.mono (by exact sub_ixr [] 3 rfl)) ?_ (by (first | exact om438 hlog h9 hdl | omega)) (by (first | exact om436 hends hszl hlog h9 | omega)) I.shownperm I.endperm I.endsorted ?_
  · intro q hq
    obtain ⟨e, he, rfl⟩ := List.mem_map.mp hq
    exact I.ents e he
  intro h6 tk6 F6 N6
  refine stage6b (base := h₀) (news := (182, tabObj ps3) :: (189, tabObj qs3) :: others) B F6 X T G3 (News.reord N6 (by exact sub_ixr [1, 4, 3] 5 rfl)) f5 f1 (f2.trans e3) hE5 (hdue.mono (by exact sub_ixr [] 2 rfl)) (by (first | exact om439 h4 hlog h9 hdl | omega)) I.least ?_
  intro h7 tk7 gs7 G7 F7 N7
  exact fin h7 tk7 gs7 m5 ps3 qs3 G7 F7 (News.reord N7 (by exact sub_ix [0, 1] rfl))
/-- the law -/
theorem law_ok {w : World} {h₀ : Heap} {L fa : Nat} {cd : Value} {m : Str → Option Value} {s : Shared} {oc : Obj} {v₀ : Option Value}
    {p : Program} {loose : List Str} {mean : ExcName → Option Value} {mg mb : Str → Option Value} {sc : Addr} {vs : List Value} {ns : List Int}
    {Q : Flow → Shared → Prop}
    (B : Below callerA h₀ [] h₀) (F : Fr h₀ L s.heap m) (X : (hd.heap_39 w.params).In h₀) (N : News h₀ L s.heap [(L + 1, oc), (182, tabObj #[]), (189, tabObj #[])]) (T : Top p loose mean mg mb h₀) (hcl : oc.data = .cell v₀) (hLL : 189 < L) (G : AllBare s.gens)
    (hm : m (Str.ofString "script") = some (.ref sc)) (hsc : h₀.IsList sc vs.toArray) (hi : IntsAre vs ns) (hlen : ns.length ≤ 63)
    (fin : ∀ h' tk gs m' ps' qs', AllBare gs → Fr h₀ L h' m' → News h₀ L h' [(182, tabObj ps'), (189, tabObj qs')] → Q (.ret (.bool true)) { s with heap := h', toks := tk, gens := gs }) :
    wpAny (model Challenge.rw_nb0237_01.row.prog w) (callerA.deeper (lawEnv w L fa cd)) (execs (lawFn w).1 (lawEnv w L fa cd)) Q (fun _ _ => False) s := by
  refine law_a B F X N T hcl hLL G hm hsc hi hlen ?_
  intro h1 tk1 gs1 m1 wl hl du mk hp td ld M0 M1 M2 ps oc' log it told W0 H others κ κ2 k0 k1 k2 l0 l1 l2 z0 z1 z2 t1 t2 t3 nd nw n2 nl nt nh G1 F1 e1 N1 hc1 hps hFix hoth hz0 hz1 hz2 I h4
  exact law_b B F1 X T G1 e1 N1 hc1 hps hFix hoth hz0 hz1 hz2 I h4 fin
end
section
theorem fresh_Z : True := by
  w_top off
  trivial
theorem my_post {M : Model} {A : Around} {cd : Code} {s s₁ : Shared} {cw : ClaimW} {cl : Str → Option Addr} {mean : ExcName → Option Value} {args : List WData} {tabs : List (Addr × Addr)} (hT : TabsAt tabs s₁.heap) (hr : ∀ a x, cw.raises a x = false)
    (h : codeAny M A cd (fun r s' => GoodW cw cl mean args { s₁ with heap := ghostOf s₁.heap tabs } r { s' with gens := s₁.gens } ∧ GrownAll tabs s'.heap ∧ AllBare s'.gens) s) : codeAny M A cd (GoodWG cw cl mean args s₁) s :=
  codeAny_mono h fun r s' ⟨⟨hc, hk, hos, hg⟩, hgr, hab⟩ => by
    have keep : ∀ b o, b ∉ tabs.map (·.2) → s₁.heap.get? b = some o → s'.heap.get? b = some o := fun b o hb e => hk b o (ghost_ne e hb)
    have grown : ∀ b o, b ∈ tabs.map (·.2) → s₁.heap.get? b = some o → isCodeTable s₁.heap b ∧ o = PySem.W.tabObj #[] ∧ ∃ ps, s'.heap.get? b = some (PySem.W.tabObj ps) := fun b o hb e => by
      obtain ⟨q, hq, rfl⟩ := List.mem_map.mp hb
      have e2 := (hT q hq).2
      rw [e] at e2
      exact ⟨((hT q hq).1.tab (hT q hq).2).isCodeTable, Option.some.inj e2, hgr.get q hq⟩
    refine ⟨?_, ⟨fun b o e => ?_, fun b o e => ?_⟩, hos, hab⟩
    · rcases hc with ⟨v, d, as, r1, r2, r3, r4, r5⟩ | ⟨e, ob, x, _, _, _, r4, _⟩
      · refine .inl ⟨v, d, as, r1, r2, r3, r4, fun q => ⟨(r5 q).1, fun a ha => ?_⟩⟩
        cases q1 : s₁.heap.get? a with
        | none => rfl
        | some o =>
          by_cases hb : a ∈ tabs.map (·.2)
          · obtain ⟨_, _, ps, hP⟩ := grown a o hb q1
            exact absurd ha (readsW_apart hP rfl r3)
          · have e3 := (r5 q).2 a ha
            rw [show (ghostOf s₁.heap tabs).get? a = some o from ghost_ne q1 hb] at e3
            cases e3
      · rw [hr] at r4; cases r4
    · by_cases hb : b ∈ tabs.map (·.2)
      · obtain ⟨ht, rfl, ps, hP⟩ := grown b o hb e
        exact .inr (.inl ⟨ht, rfl, #[], ps, rfl, by rw [Array.empty_append]; exact hP⟩)
      · exact .inl (keep b o hb e)
    · by_cases hb : b ∈ tabs.map (·.2)
      · obtain ⟨_, _, ps, hP⟩ := grown b o hb e
        exact ⟨_, hP⟩
      · exact ⟨o, keep b o hb e⟩
end
end Mine
set_option maxHeartbeats 8000000 in
theorem PySem.Challenge.cw_nb0237_01_holds : PySem.Challenge.rw_nb0237_01.Holds := by
  exact Mine.hd (by
      k_fill
      intro w s₀ s₁ mg mb G Y fa o pm cd doc dV kV ho hd hcd hD hmg hg args vals as hpre hlay hrd hwl hlo
      have KX := km_in_of Y
      have hT8 := km_tabs_of Y
      have hT9 : TabsAt [(186, 182), (193, 189)] s₁.heap := List.forall_mem_cons.mpr ⟨⟨codeHd_of_K (c := 186) (P := 182) KX (by kernel_rfl), hT8 182 (by decide)⟩, List.forall_mem_cons.mpr ⟨⟨codeHd_of_K (c := 193) (P := 189) KX (by kernel_rfl), hT8 189 (by decide)⟩, fun _ h => nomatch h⟩⟩
      have X := (Ground.X G).1
      have V := (Ground.X G).2
      refine Ground.open G ?_
      intro T B D TE TW
      try (refine guard_noD D (by decide +kernel) ?_; clear D)
      clear hmg
      wrow_args hpre hlay hrd hwl hlo
      all_goals (
        first | refine callC_kw (enter_call ?_) | refine enter_call ?_
        w_top on
        refine Mine.my_post hT9 (fun _ _ => rfl) ?_
        w_call any ho hd hcd hD T F
        clear hd
        kn_ghosts F T
        k_drop
        skip)
      rename Below _ _ _ _ => BB
      rename Fr _ _ _ _ => FF
      rename News _ _ _ _ => NN
      rename (182 < _) ∧ (189 < _) => LL
      rename Frag.In _ _ => XX
      rename Top _ _ _ _ _ _ => TT
      rename IntsAre _ _ => II
      rename Heap.IsList _ _ _ => LI
      have key := @Mine.law_ok w (ghostOf s₁.heap [(186, 182), (193, 189)]) s₁.heap.objs.size fa cd
      unfold Mine.lawEnv at key
      rw [Mine.law_eq (by k_is)] at key
      dsimp only [Mine.fnOfObj] at key
      have hcl : ∃ v₀, Obj.data _ = Data.cell v₀ := ⟨_, by assumption⟩
      obtain ⟨v₀, hcl⟩ := hcl
      refine wpAny_mono (key BB FF XX NN TT hcl LL.2 (AllBare.of_eq hg) rfl LI II (by (first | exact om467 (by assumption) | omega)) ?_) (fun _ _ h => h) (fun _ _ h => h.elim)
      intro h7 tk7 gs7 m7 ps7 qs7 G7 F7 N7
      clear key
      refine ⟨goodW_bool F7 hg (fun _ => rfl) ?_, ⟨⟨ps7, (N7 _ (.head _)).1⟩, ⟨qs7, (N7 _ (.tail _ (.head _))).1⟩, trivial⟩, G7⟩
      with_unfolding_all rfl)
