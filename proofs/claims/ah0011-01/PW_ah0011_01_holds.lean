import PyProof.Rows.All
import Wide.All
import OpenK.AllK
import Wide.FinOn
import PySem.Challenge.RW_ah0011_01
open PySem PySem.W PyProof.Rows
set_option Elab.async false
/- ah0011-01: the Islamic calendar's law.
   1. What the small defs reckon (leap, to_jd, month_length), as plain functions of ints, and the plain laws about them.
   2. Step rules: values rewritten by those laws; calls whose ways meet in one value; the two comprehensions over thirty years.
   3. The walk's own lines, each local; last the theorem. -/
namespace Hijri
def leapF (y : Int) : Bool := decide (Int.fmod (y * 11 + 14) 30 < 11)
def toJ (y m d : Int) : Int := d + -(Int.fdiv (-59 * (m - 1)) 2) + (y - 1) * 354 + Int.fdiv (3 + 11 * y) 30 + 1948440 - 1
def odds (m : Int) : Bool := ([1, 3, 5, 7, 9, 11] : List Int).any fun x => x == m
def mlen (y m : Int) : Int := if odds m = true then 30 else if m = 12 ∧ leapF y = true then 30 else 29
theorem ml_ne (y m : Int) : mlen y m ≠ 0 := by
  unfold mlen; split
  · decide
  · split <;> decide
theorem fd (a : Int) (b : Int) (h : 0 ≤ b) : Int.fdiv a b = a / b := Int.fdiv_eq_ediv_of_nonneg a h
theorem fm (a : Int) (b : Int) (h : 0 ≤ b) : Int.fmod a b = a % b := Int.fmod_eq_emod_of_nonneg a h
theorem leap_iff (y : Int) : leapF y = true ↔ 19 ≤ (3 + 11 * y) % 30 := by
  unfold leapF; rw [fm _ _ (by decide), decide_eq_true_iff, show y * 11 + 14 = (3 + 11 * y) + 11 by omega]
  generalize 3 + 11 * y = x; omega
theorem leap_not (y : Int) : leapF y = false ↔ (3 + 11 * y) % 30 < 19 := by
  rw [← Bool.not_eq_true, leap_iff]; omega
theorem toJ_eq (y m d : Int) : toJ y m d = d + -((-59 * (m - 1)) / 2) + (y - 1) * 354 + (3 + 11 * y) / 30 + 1948440 - 1 := by
  unfold toJ; rw [fd _ _ (by decide), fd _ _ (by decide)]
theorem leap_shift (y t : Int) : leapF (y + 210 * t) = leapF y := by
  have e : (3 + 11 * (y + 210 * t)) % 30 = (3 + 11 * y) % 30 := by
    rw [show 3 + 11 * (y + 210 * t) = (3 + 11 * y) + 30 * (77 * t) by omega]
    exact Int.add_mul_emod_self_left _ _ _
  cases h : leapF y
  · rw [leap_not] at *; omega
  · rw [leap_iff] at *; omega
theorem mlen_shift (y m t : Int) : mlen (y + 210 * t) m = mlen y m := by
  unfold mlen; rw [leap_shift]
/-- what the law's month and day are -/
structure Dated (y m d : Int) : Prop where
  lo : 1 ≤ m
  hi : m ≤ 12
  d1 : 1 ≤ d
  d2 : d ≤ mlen y m
theorem odds_iff (m : Int) : odds m = true ↔ (m = 1 ∨ m = 3 ∨ m = 5 ∨ m = 7 ∨ m = 9 ∨ m = 11) := by
  unfold odds
  simp only [List.any_cons, List.any_nil, Bool.or_false, Bool.or_eq_true, beq_iff_eq]
  omega
theorem mlen_cases (y m : Int) (lo : 1 ≤ m) (hi : m ≤ 12) :
    ((m = 1 ∨ m = 3 ∨ m = 5 ∨ m = 7 ∨ m = 9 ∨ m = 11) ∧ mlen y m = 30) ∨ ((m = 2 ∨ m = 4 ∨ m = 6 ∨ m = 8 ∨ m = 10) ∧ mlen y m = 29) ∨
    (m = 12 ∧ 19 ≤ (3 + 11 * y) % 30 ∧ mlen y m = 30) ∨ (m = 12 ∧ ¬ 19 ≤ (3 + 11 * y) % 30 ∧ mlen y m = 29) := by
  unfold mlen
  by_cases h : odds m = true
  · rw [if_pos h]; rw [odds_iff] at h; exact .inl ⟨h, rfl⟩
  · rw [if_neg h]; rw [odds_iff] at h
    by_cases h2 : m = 12
    · by_cases h3 : leapF y = true
      · rw [if_pos ⟨h2, h3⟩]; rw [leap_iff] at h3; exact .inr (.inr (.inl ⟨h2, h3, rfl⟩))
      · rw [if_neg (fun x => h3 x.2)]; rw [leap_iff] at h3; exact .inr (.inr (.inr ⟨h2, h3, rfl⟩))
    · rw [if_neg (fun x => h2 x.1)]; exact .inr (.inl ⟨by omega, rfl⟩)
theorem Dated.of (y c e : Int) : Dated y (1 + c.fmod 12) (1 + e.fmod (mlen y (1 + c.fmod 12))) := by
  have e1 : c.fmod 12 = c % 12 := fm _ _ (by decide)
  rw [e1]
  have lo : 1 ≤ 1 + c % 12 := by omega
  have hi : 1 + c % 12 ≤ 12 := by omega
  have hp : 0 < mlen y (1 + c % 12) := by
    have := mlen_cases y _ lo hi; omega
  rw [fm _ _ (by omega)]
  have := Int.emod_nonneg e (Int.ne_of_gt hp)
  have := Int.emod_lt_of_pos e hp
  exact ⟨lo, hi, by omega, by omega⟩
theorem Dated.shift {y m d : Int} (h : Dated y m d) (t : Int) : Dated (y + 210 * t) m d := ⟨h.lo, h.hi, h.d1, by rw [mlen_shift]; exact h.d2⟩
theorem year_back {y m d : Int} (h : Dated y m d) : (30 * (toJ y m d - 1948440) + 10646).fdiv 10631 = y := by
  obtain ⟨lo, hi, d1, d2⟩ := h
  rw [fd _ _ (by decide), toJ_eq]
  have hm := mlen_cases y m lo hi
  generalize mlen y m = L at *
  have h1 : 10631 * y ≤ 30 * (d + -(-59 * (m - 1) / 2) + (y - 1) * 354 + (3 + 11 * y) / 30 + 1948440 - 1 - 1948440) + 10646 := by omega
  have h2 : 30 * (d + -(-59 * (m - 1) / 2) + (y - 1) * 354 + (3 + 11 * y) / 30 + 1948440 - 1 - 1948440) + 10646 < 10631 * (y + 1) := by omega
  generalize 30 * (d + -(-59 * (m - 1) / 2) + (y - 1) * 354 + (3 + 11 * y) / 30 + 1948440 - 1 - 1948440) + 10646 = N at *
  omega
theorem month_back {y m d : Int} (h : Dated y m d) : (if -((-2 * (toJ y m d - (29 + toJ y 1 1))).fdiv 59) + 1 < 12 then -((-2 * (toJ y m d - (29 + toJ y 1 1))).fdiv 59) + 1 else 12) = m := by
  obtain ⟨lo, hi, d1, d2⟩ := h
  rw [fd _ _ (by decide), toJ_eq, toJ_eq]
  have hm := mlen_cases y m lo hi
  generalize mlen y m = L at *
  have e : d + -(-59 * (m - 1) / 2) + (y - 1) * 354 + (3 + 11 * y) / 30 + 1948440 - 1 - (29 + (1 + -(-59 * (1 - 1) / 2) + (y - 1) * 354 + (3 + 11 * y) / 30 + 1948440 - 1)) = d + -(-59 * (m - 1) / 2) - 30 := by omega
  rw [e]
  split <;> omega
theorem day_back (y m d : Int) : toJ y m d - toJ y m 1 + 1 = d := by
  rw [toJ_eq, toJ_eq]; omega
theorem turns_ne (y m d t : Int) : ((toJ (y + 210 * t) m d - toJ y m d) != 74417 * t) = false := by
  rw [toJ_eq, toJ_eq]
  have : d + -(-59 * (m - 1) / 2) + (y + 210 * t - 1) * 354 + (3 + 11 * (y + 210 * t)) / 30 + 1948440 - 1 - (d + -(-59 * (m - 1) / 2) + (y - 1) * 354 + (3 + 11 * y) / 30 + 1948440 - 1) = 74417 * t := by omega
  rw [this]; exact bne_self_eq_false _
theorem year_days (y : Int) : toJ (y + 1) 1 1 - toJ y 1 1 = if leapF y = true then 355 else 354 := by
  rw [toJ_eq, toJ_eq, show 3 + 11 * (y + 1) = (3 + 11 * y) + 11 by omega]
  have h := leap_iff y
  generalize 3 + 11 * y = x at *
  split
  · rename_i g; rw [h] at g; omega
  · rename_i g; rw [h] at g; omega
theorem bne_of {a b : Int} (h : a = b) : (a != b) = false := by rw [h]; exact bne_self_eq_false _
structure YearIs (y : Int) : Prop where
structure DueMark : Prop where
structure MlMark : Prop where
theorem ml_a {y m : Int} (h : (([1, 3, 5, 7, 9, 11] : List Int).any fun x => x == m) = true) : mlen y m = 30 := by
  have h : odds m = true := h
  unfold mlen; rw [if_pos h]
theorem ml_b {y m : Int} (h : (([1, 3, 5, 7, 9, 11] : List Int).any fun x => x == m) = false) (e : m = 12) (l : leapF y = true) : mlen y m = 30 := by
  have h : odds m = false := h
  unfold mlen; simp [e, l]
theorem ml_c {y m : Int} (h : (([1, 3, 5, 7, 9, 11] : List Int).any fun x => x == m) = false) (e : m = 12) (l : leapF y = false) : mlen y m = 29 := by
  have h : odds m = false := h
  unfold mlen; rw [h]; simp [l]
theorem ml_d {y m : Int} (h : (([1, 3, 5, 7, 9, 11] : List Int).any fun x => x == m) = false) (e : ¬ m = 12) : mlen y m = 29 := by
  have h : odds m = false := h
  unfold mlen; rw [h]; simp [e]
theorem due_a {y m : Int} {n : Nat} (k : m = 1 + (n : Int)) (l : n < (13 - 1 : Int).toNat) (h : m.fmod 2 = 1) : mlen y m = 30 := by
  rw [fm _ _ (by decide)] at h
  have := mlen_cases y m (by omega) (by omega)
  omega
theorem due_b1 {y m : Int} {n : Nat} (k : m = 1 + (n : Int)) (l0 : n < (13 - 1 : Int).toNat) (e : m = 12) (l : leapF y = true) : mlen y m = 30 := by
  unfold mlen; rw [e, l]; simp
theorem due_b2 {y m : Int} {n : Nat} (k : m = 1 + (n : Int)) (l0 : n < (13 - 1 : Int).toNat) (e : m = 12) (l : leapF y = false) : mlen y m = 29 := by
  unfold mlen; rw [e, l]; simp [show odds 12 = false by decide]
theorem due_c {y m : Int} {n : Nat} (k : m = 1 + (n : Int)) (l : n < (13 - 1 : Int).toNat) (h : ¬ m.fmod 2 = 1) (e : ¬ m = 12) : mlen y m = 29 := by
  rw [fm _ _ (by decide)] at h
  have := mlen_cases y m (by omega) (by omega)
  omega
theorem mlen_short (y m : Int) (e : ¬ m = 12) : mlen y m = if odds m = true then 30 else 29 := by
  unfold mlen; simp [e]
theorem months_ne {y m : Int} {n : Nat} (k : m = 1 + (n : Int)) (l : m < 12) : (toJ y (m + 1) 1 - toJ y m 1 != mlen y m) = false := by
  refine bne_of ?_
  rw [toJ_eq, toJ_eq, mlen_short y m (by omega)]
  have h : 1 + -(-59 * (m + 1 - 1) / 2) + (y - 1) * 354 + (3 + 11 * y) / 30 + 1948440 - 1 - (1 + -(-59 * (m - 1) / 2) + (y - 1) * 354 + (3 + 11 * y) / 30 + 1948440 - 1) = -(-59 * (m + 1 - 1) / 2) + (-59 * (m - 1) / 2) := by
    generalize -59 * (m + 1 - 1) / 2 = p
    generalize -59 * (m - 1) / 2 = q
    omega
  rw [h]
  have c : m = 1 ∨ m = 2 ∨ m = 3 ∨ m = 4 ∨ m = 5 ∨ m = 6 ∨ m = 7 ∨ m = 8 ∨ m = 9 ∨ m = 10 ∨ m = 11 := by omega
  clear h k l
  rcases c with h | h | h | h | h | h | h | h | h | h | h <;> (rw [h]; decide)
section
variable {M : Model} {A : Around} {E : Value → Shared → Prop} {s : Shared}
theorem st_int {n : Str} {env : Env} {a b : Int} {t : Tok} {Q : Unit → Shared → Prop} (e : a = b) (h : wpAny M A (storeName env n (.int b t)) Q E s) :
    wpAny M A (storeName env n (.int a t)) Q E s := by subst e; exact h
theorem ite_leap {y : Int} {env : Env} {x z kx kz} {px pz : Pos} {Q : Value → Shared → Prop} (h : Q (.int (if leapF y = true then x else z) s.toks) { s with toks := s.toks + 1 }) :
    if leapF y = true then wpAny M A (eval (.Constant (.int x) kx px) env) Q E s else wpAny M A (eval (.Constant (.int z) kz pz) env) Q E s := by
  cases e : leapF y
  · rw [e] at h; exact wpAny_Constant_int h
  · rw [e] at h; exact wpAny_Constant_int h
theorem ml_join {h₀ : Heap} {L : Addr} {m₀ : Str → Option Value} {news : List (Addr × Obj)} {y m : Int} {t u : Tok} {f : Addr} {Q : Value → Shared → Prop}
    (F : Fr h₀ L s.heap m₀) (N : News h₀ L s.heap news)
    (hc : MlMark → wpAny M A (call (.ref f) [.int y t, .int m u]) (fun v s₂ => KCj (fun (b : Int) (t : Tok) => Value.int b t) h₀ L m₀ news s (mlen y m) v s₂) E s)
    (hk : KCjDone (∀ (t : Tok) (h : Heap) (tk : Nat), Fr h₀ L h m₀ → News h₀ L h news → Q (.int (mlen y m) t) { s with heap := h, toks := tk })) :
    wpAny M A (call (.ref f) [.int y t, .int m u]) Q E s := kcj (fun (b : Int) (t : Tok) => Value.int b t) (fun _ => mlen y m) F N (fun _ _ => hc ⟨⟩) hk
theorem due_join {h₀ : Heap} {L : Addr} {m₀ : Str → Option Value} {news : List (Addr × Obj)} {y m : Int} {n : Nat} {c : Sem Value} {Q : Value → Shared → Prop}
    (hY : YearIs y) (hm : m = 1 + (n : Int)) (F : Fr h₀ L s.heap m₀) (N : News h₀ L s.heap news)
    (hc : DueMark → wpAny M A c (fun v s₂ => KCj (fun (b : Int) (t : Tok) => Value.int b t) h₀ L m₀ news s (mlen y m) v s₂) E s)
    (hk : KCjDone (∀ (t : Tok) (h : Heap) (tk : Nat), Fr h₀ L h m₀ → News h₀ L h news → Q (.int (mlen y m) t) { s with heap := h, toks := tk })) :
    wpAny M A c Q E s := kcj (fun (b : Int) (t : Tok) => Value.int b t) (fun _ => mlen y m) F N (fun _ _ => hc ⟨⟩) hk
structure LawMark : Prop where
end
section
variable {prog : Program} {w : World} {A : Around} {E : Value → Shared → Prop} {s : Shared}
theorem ne_false {a b : Int} {t u : Tok} {Q : Value → Shared → Prop} (e : (a != b) = false) (h : Q (.bool false) s) : wpAny (model prog w) A (compareOp .NotEq (.int a t) (.int b u)) Q E s :=
  ne_int (by rw [e]; exact h)
theorem mod_ml2 {a y m : Int} {t u : Tok} {Q : Value → Shared → Prop} (h : Q (.int (a.fmod (mlen y m)) s.toks) { s with toks := s.toks + 1 }) :
    wpAny (model prog w) A (binaryOp .Mod (.int a t) (.int (mlen y m) u)) Q E s := mod_int' (ml_ne y m) h
end
def marksOf (y : Int) (n : Nat) : List Value := (List.range n).map fun (j : Nat) => .bool (leapF (y + (j : Int)))
structure Marks (y : Int) (ys : List Value) : Prop where
  eq : ys = marksOf y 30
theorem marksOf_succ (y : Int) (i : Nat) : marksOf y (i + 1) = marksOf y i ++ [.bool (leapF (y + (i : Int)))] := by
  unfold marksOf; rw [List.range_succ, List.map_append]; rfl
theorem marksOf_get (y : Int) {n i : Nat} (h : i < n) : (marksOf y n)[i]? = some (.bool (leapF (y + (i : Int)))) := by
  unfold marksOf; simp [h]
theorem marksOf_len (y : Int) (n : Nat) : (marksOf y n).length = n := by unfold marksOf; simp
theorem Marks.size {y : Int} {ys : List Value} (M : Marks y ys) : ys.toArray.size ≤ sizeLine := by
  rw [List.size_toArray, M.eq, marksOf_len]; exact Nat.le_of_ble_eq_true rfl
/-- the thirty marks, taken as numbers 1 where they are True -/
def ones (y : Int) (n : Nat) : List Int := ((List.range n).filter fun (j : Nat) => leapF (y + (j : Int))).map fun _ => 1
theorem ones_yes (y : Int) (i : Nat) (h : leapF (y + (i : Int)) = true) : ones y (i + 1) = ones y i ++ [1] := by
  unfold ones; rw [List.range_succ, List.filter_append, List.map_append]; simp [h]
theorem ones_no (y : Int) (i : Nat) (h : leapF (y + (i : Int)) = false) : ones y (i + 1) = ones y i := by
  unfold ones; rw [List.range_succ, List.filter_append, List.map_append]; simp [h]
theorem ones_len (y : Int) (n : Nat) : (ones y n).length ≤ n := by
  unfold ones; rw [List.length_map]; exact Nat.le_trans (List.length_filter_le _ _) (by simp)
theorem leap_rest (y : Int) (j : Nat) : leapF (y + (j : Int)) = decide (19 ≤ ((3 + 11 * y) % 30 + 11 * (j : Int)) % 30) := by
  have e : (3 + 11 * (y + (j : Int))) % 30 = ((3 + 11 * y) % 30 + 11 * (j : Int)) % 30 := by
    rw [Int.emod_add_emod]; congr 1; omega
  cases h : leapF (y + (j : Int))
  · rw [leap_not] at h; exact (decide_eq_false (by omega)).symm
  · rw [leap_iff] at h; exact (decide_eq_true (by omega)).symm
def onesOf (r : Nat) : Int := (((List.range 30).filter fun j => decide (19 ≤ (r + 11 * j) % 30)).map fun _ => (1 : Int)).sum
theorem onesOf_all : ∀ r : Fin 30, onesOf r.val = 11 := by decide +kernel
theorem ones_sum (y : Int) : (ones y 30).sum = 11 := by
  have h0 : 0 ≤ (3 + 11 * y) % 30 := Int.emod_nonneg _ (by decide)
  have h1 : (3 + 11 * y) % 30 < 30 := Int.emod_lt_of_pos _ (by decide)
  obtain ⟨r, hr⟩ := Int.eq_ofNat_of_zero_le h0
  have hlt : r < 30 := by omega
  have e : (fun j : Nat => leapF (y + (j : Int))) = fun j => decide (19 ≤ (r + 11 * j) % 30) := by
    funext j
    rw [leap_rest, hr]
    apply decide_eq_decide.mpr
    have c : (((r + 11 * j : Nat) : Int)) = (r : Int) + 11 * (j : Int) := by omega
    rw [← c]
    generalize r + 11 * j = q
    constructor <;> (intro h; omega)
  unfold ones
  rw [e]
  exact onesOf_all ⟨r, hlt⟩
theorem ones_ne (y : Int) : ((ones y 30).sum != 11) = false := by rw [ones_sum]; rfl
theorem no_two (y k : Int) (a : leapF (y + k) = true) (b : leapF (y + (k + 1)) = true) : False := by
  rw [leap_iff] at a b
  rw [show 3 + 11 * (y + (k + 1)) = 3 + 11 * (y + k) + 11 by omega] at b
  generalize 3 + 11 * (y + k) = x at *
  omega
theorem no_gap (y k : Int) (a : leapF (y + k) = false) (b : leapF (y + (k + 1)) = false) (c : leapF (y + (k + 2)) = false) : False := by
  rw [leap_not] at a b c
  rw [show 3 + 11 * (y + (k + 1)) = 3 + 11 * (y + k) + 11 by omega] at b
  rw [show 3 + 11 * (y + (k + 2)) = 3 + 11 * (y + k) + 22 by omega] at c
  generalize 3 + 11 * (y + k) = x at *
  omega
theorem no_two_at {y k : Int} {n : Nat} (hY : YearIs y) (hk : k = 0 + (n : Int)) (a : leapF (y + k) = true) (b : leapF (y + (k + 1)) = true) : False := no_two y k a b
theorem no_gap_at {y k : Int} {n : Nat} (hY : YearIs y) (hk : k = 0 + (n : Int)) (a : leapF (y + k) = false) (b : leapF (y + (k + 1)) = false) (c : leapF (y + (k + 2)) = false) : False := no_gap y k a b c
section
variable {prog : Program} {w : World} {A : Around} {h₀ : Heap} {L : Addr} {m : Str → Option Value} {env : Env} {ct elt : Expr} {x : Str} {scope : Scope} {cl : List (Str × Addr)} {s : Shared} {S : List (Addr × Obj) → Prop} {Fin : List Value → List (Addr × Obj) → Prop} {news : List (Addr × Obj)}
def MkEl (news : List (Addr × Obj)) (b : Bool) (y : Value) (news' : List (Addr × Obj)) : Prop := news' = news ∧ y = .bool b
theorem marks_made {y : Int} (hY : YearIs y)
    (turn : ∀ k t I oI C oC D m₂ ys h tk (E' : Value → Shared → Prop), LCg.NsObj oC m₂ → m₂ x = some (.int k t) → Fr h₀ L h m → News h₀ L h ((I, oI) :: (C, oC) :: (D, LCg.lst ys) :: news) → LCg.Off3 I C D news → ((@Ne Nat I C) ∧ (@Ne Nat I D) ∧ (@Ne Nat C D)) →
      wpAny (model prog w) A (eval elt (compEnvC scope cl C env)) (LCg.CompEnd h₀ L m { s with heap := h, toks := tk } I oI C oC D (LCg.lst ys) S (fun v news' => MkEl news (leapF (y + k)) v news')) E' { s with heap := h, toks := tk })
    (fin : KPfDone (∀ ys, Marks y ys → Fin ys news)) : LCg.CompRest prog w A h₀ L m env elt x scope cl s S (fun i v => ∃ t, v = .int (0 + (i : Int)) t) Fin 30 0 [] news := by
  have fin : ∀ ys, Marks y ys → Fin ys news := fin
  have go : ∀ j i : Nat, i + j = 30 → LCg.CompRest prog w A h₀ L m env elt x scope cl s S (fun i v => ∃ t, v = .int (0 + (i : Int)) t) Fin j i (marksOf y i) news := by
    intro j
    induction j with
    | zero => intro i hi; exact LCg.CompRest.zero (fin _ ⟨by rw [show i = 30 by omega]⟩)
    | succ j ih =>
      intro i hi
      refine LCg.CompRest.succ fun v I oI C oC D m₂ h tk E' hv hC hx F N off ne => ?_
      obtain ⟨t, rfl⟩ := hv
      rw [Int.zero_add] at hx
      refine wpAny_mono (turn _ t I oI C oC D m₂ _ h tk E' hC hx F N off ne) (fun u s₂ hq => ?_) fun _ _ z => z
      obtain ⟨h', tk', nw, e, F', N', off', hS, hn, hu⟩ := hq
      subst hn
      refine ⟨h', tk', nw, e, F', N', off', hS, ?_⟩
      dsimp only
      rw [hu, ← marksOf_succ]
      exact ih (i + 1) (by omega)
  exact go 30 0 rfl
def OneEl (news : List (Addr × Obj)) (b : Bool) (y : Value) (news' : List (Addr × Obj)) : Prop := news' = news ∧ b = true ∧ ∃ t : Tok, y = .int 1 t
def OneNo (news : List (Addr × Obj)) (b : Bool) (news' : List (Addr × Obj)) : Prop := news' = news ∧ b = false
theorem ones_made {y : Int} {vs : List Value} (M : Marks y vs)
    (turn : ∀ (k : Int) I oI C oC D m₂ ys h tk (E' : Value → Shared → Prop), LCg.NsObj oC m₂ → m₂ x = some (.bool (leapF (y + k))) → Fr h₀ L h m → News h₀ L h ((I, oI) :: (C, oC) :: (D, LCg.lst ys) :: news) → LCg.Off3 I C D news → ((@Ne Nat I C) ∧ (@Ne Nat I D) ∧ (@Ne Nat C D)) →
      wpAny (model prog w) A (isTrue ct (compEnvC scope cl C env) (eval ct (compEnvC scope cl C env))) (fun b s' => if b = true then wpAny (model prog w) A (eval elt (compEnvC scope cl C env)) (LCg.CompEnd h₀ L m { s with heap := h, toks := tk } I oI C oC D (LCg.lst ys) S (fun v news' => OneEl news (leapF (y + k)) v news')) E' s'
        else LCg.CompEnd h₀ L m { s with heap := h, toks := tk } I oI C oC D (LCg.lst ys) S (fun _ news' => OneNo news (leapF (y + k)) news') Value.none s') E' { s with heap := h, toks := tk })
    (fin : KPfDone (∀ ys, IntsAre ys (ones y 30) → Fin ys news)) : LCt.CompRestT prog w A h₀ L m env ct elt x scope cl s S (fun i v => vs.toArray[i]? = some v) Fin vs.toArray.size 0 [] news := by
  have fin : ∀ ys, IntsAre ys (ones y 30) → Fin ys news := fin
  have hl : vs.toArray.size = 30 := by rw [List.size_toArray, M.eq, marksOf_len]
  have go : ∀ (j i : Nat) (ys : List Value), i + j = 30 → IntsAre ys (ones y i) → LCt.CompRestT prog w A h₀ L m env ct elt x scope cl s S (fun i v => vs.toArray[i]? = some v) Fin j i ys news := by
    intro j
    induction j with
    | zero => intro i ys hi hy; exact LCt.CompRestT.zero (fin _ (by rw [show i = 30 by omega] at hy; exact hy))
    | succ j ih =>
      intro i ys hi hy
      refine LCt.CompRestT.succ fun v I oI C oC D m₂ h tk E' hv hC hx F N off ne => ?_
      have hv : v = .bool (leapF (y + (i : Int))) := by
        rw [List.getElem?_toArray, M.eq, marksOf_get y (by omega)] at hv
        exact (Option.some.inj hv).symm
      rw [hv] at hx
      refine wpAny_mono (turn _ I oI C oC D m₂ _ h tk E' hC hx F N off ne) (fun b s₂ hq => ?_) fun _ _ z => z
      cases b with
      | true =>
        simp only [if_true] at hq ⊢
        refine wpAny_mono hq (fun u s₃ hr => ?_) fun _ _ z => z
        obtain ⟨h', tk', nw, e, F', N', off', hS, hn, hb, t, hu⟩ := hr
        subst hn
        refine ⟨h', tk', nw, e, F', N', off', hS, ih (i + 1) _ (by omega) ?_⟩
        rw [hu, ones_yes y i hb]
        exact IntsAre.append hy (.cons 1 t .nil)
      | false =>
        simp only [Bool.false_eq_true, if_false] at hq ⊢
        obtain ⟨h', tk', nw, e, F', N', off', hS, hn, hb⟩ := hq
        subst hn
        refine ⟨h', tk', nw, e, F', N', off', hS, ih (i + 1) _ (by omega) ?_⟩
        rw [ones_no y i hb]
        exact hy
  rw [hl]
  exact go 30 0 [] rfl (by show IntsAre [] []; exact .nil)
theorem marks_sub {E : Value → Shared → Prop} {y k : Int} {u : Tok} {D : Addr} {ys : List Value} {n : Nat} {value slice : PySem.Expr} {Q : Value → Shared → Prop} (M : Marks y ys) (N : News h₀ L s.heap news) (hm : (D, ({ cls := .type "list", data := .seq ys.toArray n } : Obj)) ∈ news)
    (h0 : 0 ≤ k) (h1 : k < 30) (h : Q (.bool (leapF (y + k))) s)
    (hs : subscripted slice false (.ref D) (.int k u) = operate [.ref D, .int k u] (getItem (.ref D) (.int k u)) := by with_unfolding_all rfl) :
    wpAny (model prog w) A (subscriptTail value slice (.ref D) (.int k u)) Q E s := by
  have hl : s.heap.IsList D ys.toArray := PySem.IsL.isList (n := n) (N _ hm).1
  have hk : ((k.toNat : Nat) : Int) = k := Int.toNat_of_nonneg h0
  have hx : ys.toArray[k.toNat]? = some (.bool (leapF (y + k))) := by
    rw [List.getElem?_toArray, M.eq, marksOf_get y (by omega), hk]
  exact tail_any hl.typeIs slot_list_getitem.lookup (wpAny_getItem_list hl h0 (by omega) hx h) hs
end
section
variable {M : Model} {A : Around} {E : Value → Shared → Prop} {s : Shared}
theorem len_join2 {h₀ : Heap} {L : Addr} {m₀ : Str → Option Value} {news : List (Addr × Obj)} {y z : Int} {t u : Tok} {f : Addr} {Q : Value → Shared → Prop}
    (F : Fr h₀ L s.heap m₀) (N : News h₀ L s.heap news)
    (hc : YearIs y → LawMark → wpAny M A (call (.ref f) [.int y t, .int z u]) (fun v s₂ => KCj (fun (b : Bool) (_ : Tok) => Value.bool b) h₀ L m₀ news s true v s₂) E s)
    (hk : YearIs y → KCjDone (∀ (t : Tok) (h : Heap) (tk : Nat), Fr h₀ L h m₀ → News h₀ L h news → Q (.bool true) { s with heap := h, toks := tk })) :
    wpAny M A (call (.ref f) [.int y t, .int z u]) Q E s := kcj (fun (b : Bool) (_ : Tok) => Value.bool b) (fun _ => true) F N (fun _ _ => hc ⟨⟩ ⟨⟩) (hk ⟨⟩)
end
end Hijri
open Hijri
local macro_rules | `(tactic| walk_at "compareOp In int ref") => `(tactic| (k_here; (with_reducible show wpAny _ _ (compareOp CmpOp.In (Value.int _ _) (Value.ref _)) _ _ _); (with_unfolding_all refine' in_tuple_ints (Fr.tup ?F (tupK ?X ?l)) ?i ?_; (case F => k_asm); (case X => k_asm); (case l => k_is); (case i => l_ints); k_whole)))
local macro_rules | `(tactic| walk_at "binaryOp Mod int int") => `(tactic| (k_here; with_reducible refine mod_ml2 ?_))
local macro_rules | `(tactic| walk_at "compareOp NotEq int int") => `(tactic| (k_here; refine ne_false (by first | (simp only [turns_ne]; done) | (simp only [year_days, bne_self_eq_false]; done) | (simp only [ones_ne]; done) | exact months_ne (by assumption) (by assumption)) ?_))
local macro_rules | `(tactic| walk_at "storeName") => `(tactic| (k_here; first
  | with_reducible refine st_int (year_back (Dated.of _ _ _)) ?_
  | with_reducible refine st_int (year_back ((Dated.of _ _ _).shift _)) ?_
  | with_reducible refine st_int (month_back (Dated.of _ _ _)) ?_
  | with_reducible refine st_int (month_back ((Dated.of _ _ _).shift _)) ?_
  | with_reducible refine st_int (day_back _ _ _) ?_))
local macro_rules | `(tactic| walk_at "ite") => `(tactic| (k_here; with_reducible refine ite_leap ?_))
local macro_rules | `(tactic| walk_at "eval IfExp") => `(tactic| (k_here; (with_reducible show wpAny _ _ (eval (Expr.IfExp (Expr.BoolOp _ _ _) _ _ _) _) _ _ _); (fail_if_success (with_reducible rename DueMark => xM)); (rename Fr _ _ _ _ => cF'); (rename News _ _ _ _ => cN'); (refine due_join (by assumption) (by assumption) cF' cN' (fun hMark' => ?_) ?_); (all_goals (try k_fold)); walk_say "DUE"))
local macro_rules | `(tactic| walk_at "call ref") => `(tactic| (k_here; (with_reducible show wpAny _ _ (call (Value.ref 43) [Value.int _ _, Value.int _ _]) _ _ _); (fail_if_success (with_reducible rename MlMark => xM)); (rename Fr _ _ _ _ => cF'); (rename News _ _ _ _ => cN'); (refine ml_join cF' cN' (fun hMark' => ?_) ?_); (all_goals (try k_fold)); walk_say "ML"))
local macro_rules | `(tactic| walk_at "call ref") => `(tactic| (k_here; (with_reducible show wpAny _ _ (call (Value.ref 57) [Value.int _ _, Value.int _ _]) _ _ _); (fail_if_success (with_reducible rename LawMark => xM)); (rename Fr _ _ _ _ => cF'); (rename News _ _ _ _ => cN'); (refine len_join2 cF' cN' (fun yMark' hMark' => ?_) (fun yMark' => ?_)); (all_goals (try k_fold)); walk_say "LENGTHS"))
local macro_rules | `(tactic| walk_at "eval Call") => `(tactic| (k_here; (with_reducible show wpAny _ _ (eval (Expr.Call (Expr.Name (Str.ofString "month_length") _) _ _ _) _) _ _ _); refine Call_ ?_))
local macro_rules | `(tactic| walk_at "KCj") => `(tactic| ((refine' kcj_end ?kce ?kv rfl ?kF ?kN ?kA); (case kv => with_unfolding_all rfl); (case kF => assumption); (case kN => assumption); (case kA => first | with_reducible exact fun _ hp => hp | exact fun _ hp => hp | kcj_all); (case kce => first
  | rfl
  | with_reducible exact ml_a (by assumption)
  | with_reducible exact ml_b (by assumption) (by assumption) (by assumption)
  | with_reducible exact ml_c (by assumption) (by assumption) (by assumption)
  | with_reducible exact ml_d (by assumption) (by assumption)
  | with_reducible exact due_a (by assumption) (by assumption) (by assumption)
  | with_reducible exact due_b1 (by assumption) (by assumption) (by assumption) (by assumption)
  | with_reducible exact due_b2 (by assumption) (by assumption) (by assumption) (by assumption)
  | with_reducible exact due_c (by assumption) (by assumption) (by assumption) (by assumption)); (all_goals exact (0 : Nat))))
local macro_rules | `(tactic| walk_at "CompSrc") => `(tactic| (k_here; k_dflt (refine LCg.CompSrc.range (by rfl) (by k_asm) (by k_asm) (by assumption) (by decide) (by rfl) (by exact Nat.le_of_ble_eq_true rfl) ?_); intro g'; (refine' marks_made (by assumption) (fun k' t' I' oI' C' oC' D' m' ys' h' tk' E' hC' hx' F' N' off' ne' => ?_) ?_); (all_goals (try (simp only [LCg.Off3, and_true] at off'))); (all_goals (try k_fold)); walk_say "MARKS"))
local macro_rules | `(tactic| walk_at "CompSrcT") => `(tactic| (k_here; k_dflt (refine LCt.CompSrcT.ledger (by rfl) (by k_asm) (by k_asm) (by k_mem) (by exact Marks.size (by assumption)) ?_); intro g'; (refine' ones_made (by assumption) (fun k' I' oI' C' oC' D' m' ys' h' tk' E' hC' hx' F' N' off' ne' => ?_) ?_); (all_goals (try (simp only [LCg.Off3, and_true] at off'))); (all_goals (try k_fold)); walk_say "ONES"))
local macro_rules | `(tactic| walk_at "CompEnd") => `(tactic| (k_here; (refine LCg.CompEnd.intro (by assumption) (by assumption) _ (by first | with_reducible exact fun _ hp => hp | exact fun _ hp => hp) (by first | assumption | (simp only [LCg.Off3, and_true]; done) | (simp only [LCg.Off3, and_true]; assumption)) (by first | exact True.intro | assumption | lcg_src) ?_)))
local macro_rules | `(tactic| walk_at "MkEl") => `(tactic| exact ⟨rfl, rfl⟩)
local macro_rules | `(tactic| walk_at "OneEl") => `(tactic| exact ⟨rfl, by assumption, _, rfl⟩)
local macro_rules | `(tactic| walk_at "OneNo") => `(tactic| exact ⟨rfl, by assumption⟩)
local macro_rules | `(tactic| walk_at "subscriptTail") => `(tactic| (k_here; (with_reducible show wpAny _ _ (subscriptTail _ _ (Value.ref _) (Value.int _ _)) _ _ _); k_dflt (refine' marks_sub ?M ?N ?hm ?h0 ?h1 ?_ ?hs; (case M => assumption); (case N => k_asm); (case hm => k_mem); (case h0 => omega); (case h1 => omega); (case hs => with_unfolding_all rfl); k_whole)))
local macro_rules | `(tactic| walk_at "exec Return some") => `(tactic| (k_here; (with_reducible show wpAny _ _ (exec (Stmt.Return (some (Expr.Constant (Const.bool false) _ _)) _) _) _ _ _); exfalso; first | exact no_two_at (by assumption) (by assumption) (by assumption) (by assumption) | exact no_gap_at (by assumption) (by assumption) (by assumption) (by assumption) (by assumption)))
local macro_rules | `(tactic| walk_at "eval ListComp") => `(tactic| (k_here; k_dflt (refine LCt.ListComp_T (F₀ := by k_asm) (by with_unfolding_all rfl) (by decide) (by rfl) (by decide) (by rfl) ?_)))
set_option maxRecDepth 100000 in
set_option maxHeartbeats 8000000 in
theorem PySem.Challenge.cw_ah0011_01_holds : PySem.Challenge.rw_ah0011_01.Holds := by
  (k_with "call ref" => k_call_by "leap" leapF)
  (k_with "call ref" => k_call_by "to_jd" toJ)
  (k_with "pyIter ref" => k_search (fun pre => True))
  (k_with "tree" => simp only [leapF])
  (k_with "tree" => simp only [toJ])
  open_k
