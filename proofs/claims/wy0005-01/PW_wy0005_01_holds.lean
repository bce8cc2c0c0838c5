import PyProof.Rows.All
import Wide.All
import OpenK.AllK
import Wide.FinOn
import PySem.Challenge.RW_wy0005_01
open PySem PySem.W PyProof.Rows
set_option Elab.async false
set_option maxRecDepth 100000

namespace Mine
/-- the places of the ones of n, highest first -/
theorem top_lt {n : Nat} (h : n ≠ 0) : n - 2 ^ n.log2 < n := by
  have := Nat.two_pow_pos n.log2
  omega
def bits (n : Nat) : List Int := if h : n = 0 then [] else (n.log2 : Int) :: bits (n - 2 ^ n.log2)
termination_by n
decreasing_by exact top_lt h
theorem bits_zero : bits 0 = [] := by unfold bits; simp
theorem bits_pos {n : Nat} (h : n ≠ 0) : bits n = (n.log2 : Int) :: bits (n - 2 ^ n.log2) := by
  rw [bits]; simp [h]
theorem rest_lt {n : Nat} (h : n ≠ 0) : n - 2 ^ n.log2 < 2 ^ n.log2 := by
  have h1 : n < 2 ^ (n.log2 + 1) := (Nat.log2_lt h).mp (Nat.lt_succ_self _)
  rw [Nat.pow_succ] at h1
  omega
theorem bits_lt (k : Nat) : ∀ n, n < 2 ^ k → ∀ p ∈ bits n, p < (k : Int) := by
  intro n
  induction n using Nat.strongRecOn generalizing k with
  | _ n ih =>
    intro hn p hp
    by_cases h : n = 0
    · subst h; rw [bits_zero] at hp; exact absurd hp (List.not_mem_nil)
    · rw [bits_pos h] at hp
      have hk : n.log2 < k := (Nat.log2_lt h).mpr hn
      rcases List.mem_cons.mp hp with rfl | hp
      · omega
      · have := ih _ (top_lt h) n.log2 (rest_lt h) p hp
        omega
theorem bits_len (k : Nat) : ∀ n, n < 2 ^ k → (bits n).length ≤ k := by
  intro n
  induction n using Nat.strongRecOn generalizing k with
  | _ n ih =>
    intro hn
    by_cases h : n = 0
    · subst h; rw [bits_zero]; exact Nat.zero_le _
    · rw [bits_pos h, List.length_cons]
      have hk : n.log2 < k := (Nat.log2_lt h).mpr hn
      have := ih _ (top_lt h) n.log2 (rest_lt h)
      omega
theorem bits_sorted : ∀ n, (bits n).Pairwise (fun a b => b < a) := by
  intro n
  induction n using Nat.strongRecOn with
  | _ n ih =>
    by_cases h : n = 0
    · subst h; rw [bits_zero]; exact .nil
    · rw [bits_pos h]
      exact .cons (fun p hp => bits_lt _ _ (rest_lt h) p hp) (ih _ (top_lt h))

/-- the value of _high_bit -/
def hb (n : Int) : Int := (Builtin.Int.intBits n : Int) - 1
theorem hb_zero : hb 0 = -1 := by decide
theorem hb_ne {n : Int} (h : n ≠ 0) : hb n = (n.natAbs.log2 : Int) := by
  unfold hb Builtin.Int.intBits
  have : (n == 0) = false := by simp [h]
  rw [this]
  simp only [Bool.false_eq_true, if_false]
  omega
theorem hb_neg (n : Int) : hb (0 - n) = hb n := by
  by_cases h : n = 0
  · subst h; rfl
  · rw [hb_ne h, hb_ne (by omega)]
    have : (0 - n).natAbs = n.natAbs := by omega
    rw [this]
theorem hb_lo (n : Int) : -1 ≤ hb n := by unfold hb; omega
theorem natAbs_of {n : Int} (h : 0 ≤ n) : n.natAbs = n.toNat := by omega
theorem hb_hi {n : Int} (h0 : 0 ≤ n) (h1 : n < 2 ^ 300) : hb n ≤ 299 := by
  by_cases h : n = 0
  · subst h; decide
  · rw [hb_ne h]
    have h2 : n.natAbs < 2 ^ 300 := by
      have e : ((2 ^ 300 : Nat) : Int) = (2 : Int) ^ 300 := by rw [Int.natCast_pow]; rfl
      rw [← e] at h1
      omega
    have := (Nat.log2_lt (n := n.natAbs) (k := 300) (by omega)).mpr h2
    omega

structure Inv (size left : Int) (places : List Int) : Prop where
  lo : 0 ≤ left
  le : left ≤ size
  hi : size < 2 ^ 300
  all : places ++ bits left.toNat = bits size.toNat
theorem toNat_lt {n : Int} (h1 : n < 2 ^ 300) : n.toNat < 2 ^ 300 := by
  have e : ((2 ^ 300 : Nat) : Int) = (2 : Int) ^ 300 := by rw [Int.natCast_pow]; rfl
  rw [← e] at h1
  have := Nat.two_pow_pos 300
  omega
theorem Inv.len {size left : Int} {places : List Int} (h : Inv size left places) : (places.length : Int) ≤ 300 := by
  have h1 := congrArg List.length h.all
  rw [List.length_append] at h1
  have h2 := bits_len 300 size.toNat (toNat_lt h.hi)
  omega
theorem Inv.hb {size left : Int} {places : List Int} (h : Inv size left places) : hb left ≤ 299 :=
  hb_hi h.lo (Int.lt_of_le_of_lt h.le h.hi)
theorem sz_facts {m sz : Int} (h : m.fmod (1 * 2 ^ Int.toNat 300) = sz) : Inv sz sz [] := by
  have e : (1 * 2 ^ Int.toNat 300 : Int) = 2 ^ 300 := by rw [Int.one_mul]; rfl
  rw [e] at h
  have p : (0 : Int) < 2 ^ 300 := Int.pow_pos (by omega)
  subst h
  have h1 := Int.fmod_nonneg_of_pos m p
  exact ⟨h1, Int.le_refl _, Int.fmod_lt_of_pos m p, rfl⟩
theorem hb_left {l : Int} (h : 0 < l) : hb l = (l.toNat.log2 : Int) := by rw [hb_ne (by omega), natAbs_of (by omega)]
theorem two_pow_cast (k : Nat) : ((2 ^ k : Nat) : Int) = (2 : Int) ^ k := by rw [Int.natCast_pow]; rfl
theorem pw {l : Int} (h : 0 < l) : (2 : Int) ^ (hb l).toNat = ((2 ^ l.toNat.log2 : Nat) : Int) := by
  rw [hb_left h, Int.toNat_natCast, two_pow_cast]
theorem pw_le {l : Int} (h : 0 < l) : (2 : Int) ^ (hb l).toNat ≤ l := by
  rw [pw h]
  have := Nat.log2_self_le (n := l.toNat) (by omega)
  omega
theorem lt_pw {l : Int} (h : 0 < l) : l < 2 * (2 : Int) ^ (hb l).toNat := by
  rw [pw h]
  have := rest_lt (n := l.toNat) (by omega)
  omega
/-- the shifted rest is one -/
theorem shift_one {l : Int} (h : 0 < l) : l.fdiv (2 ^ (hb l).toNat) = 1 := by
  have h1 := pw_le h
  have h2 := lt_pw h
  have p : (0 : Int) < 2 ^ (hb l).toNat := Int.pow_pos (by omega)
  rw [Int.fdiv_eq_ediv_of_nonneg _ (Int.le_of_lt p)]
  refine Int.le_antisymm ?_ ?_
  · refine Int.lt_add_one_iff.mp (Int.ediv_lt_of_lt_mul p ?_)
    omega
  · exact (Int.le_ediv_iff_mul_le p).mpr (by omega)
theorem Inv.step {size l : Int} {places : List Int} (h : Inv size l places) (hl : 0 < l) : Inv size (l - 1 * 2 ^ (Mine.hb l).toNat) (places ++ [Mine.hb l]) := by
  have h1 := pw_le hl
  have p : (0 : Int) < 2 ^ (Mine.hb l).toNat := Int.pow_pos (by omega)
  refine ⟨by omega, by have := h.le; omega, h.hi, ?_⟩
  have hn : l.toNat ≠ 0 := by omega
  rw [← h.all, bits_pos hn, List.append_assoc, hb_left hl]
  congr 1
  rw [List.singleton_append]
  congr 2
  have := pw hl
  rw [hb_left hl, Int.toNat_natCast] at this
  rw [Int.toNat_natCast, this]
  omega
theorem Inv.down {l : Int} (hl : 0 < l) : (l - 1 * 2 ^ (Mine.hb l).toNat).toNat < l.toNat := by
  have p : (0 : Int) < 2 ^ (Mine.hb l).toNat := Int.pow_pos (by omega)
  omega
theorem Inv.above {size l : Int} {places : List Int} (h : Inv size l places) (hl : 0 < l) : ∀ p ∈ places, Mine.hb l < p := by
  intro p hp
  have hn : l.toNat ≠ 0 := by omega
  have hs := bits_sorted size.toNat
  rw [← h.all, bits_pos hn, ← hb_left hl] at hs
  exact (List.pairwise_append.mp hs).2.2 p hp _ (.head _)
theorem Inv.last {size l : Int} {places : List Int} {j : Nat} (h : Inv size l places) (hl : 0 < l) (hj : j < places.length) : Mine.hb l < places.getD j 0 := by
  refine h.above hl _ ?_
  rw [List.getD_eq_getElem?_getD, List.getElem?_eq_getElem hj]
  exact List.getElem_mem hj
theorem Inv.done {size l : Int} {places : List Int} (h : Inv size l places) (hl : ¬ 0 < l) : l = 0 ∧ places = bits size.toNat := by
  have := h.lo
  have e : l = 0 := by omega
  subst e
  have h2 := h.all
  rw [Int.toNat_zero, bits_zero, List.append_nil] at h2
  exact ⟨rfl, h2⟩

/-- the value of _is_single_bit -/
def sb (n : Int) : Bool := if n = 0 then false else decide (Builtin.bitAnd n (n - 1) = 0)
theorem sb_neg {n : Int} (h : 0 ≤ n) : sb (0 - n) = false := by
  unfold sb
  by_cases e : n = 0
  · subst e; rfl
  · rw [if_neg (by omega)]
    refine decide_eq_false ?_
    unfold Builtin.bitAnd
    rw [decide_eq_false (show ¬ 0 ≤ 0 - n by omega), decide_eq_false (show ¬ 0 ≤ 0 - n - 1 by omega)]
    show Builtin.bitNot _ ≠ 0
    unfold Builtin.bitNot
    omega
end Mine
namespace Mine
theorem hb_pos {l : Int} (h : 0 < l) : ¬ hb l < 0 := by rw [hb_left h]; omega
theorem inv_start {sz : Int} (h : Inv sz sz []) : 0 ≤ sz ∧ ((([] : List Int).length : Nat) : Int) ≤ 300 ∧ hb sz ≤ 299 ∧ Inv sz sz [] := ⟨h.lo, by decide, h.hb, h⟩
theorem inv_step {sz l : Int} {places : List Int} (h : Inv sz l places) (hl : 0 < l) :
    0 ≤ l - 1 * 2 ^ (hb l).toNat ∧ (((places ++ [hb l]).length : Nat) : Int) ≤ 300 ∧ hb (l - 1 * 2 ^ (hb l).toNat) ≤ 299 ∧ Inv sz (l - 1 * 2 ^ (hb l).toNat) (places ++ [hb l]) :=
  ⟨(h.step hl).lo, (h.step hl).len, (h.step hl).hb, h.step hl⟩
end Mine
namespace Mine
theorem no_hb {l : Int} {P : Prop} (h : hb l < 0) (hl : 0 < l) : P := absurd h (hb_pos hl)
theorem no_shift {l : Int} {P : Prop} (h : l.fdiv (2 ^ (hb l).toNat) ≠ 1) (hl : 0 < l) : P := absurd (shift_one hl) h
theorem no_ge {sz l : Int} {places : List Int} {j : Nat} {P : Prop} (h : hb l ≥ places.getD j 0) (hI : Inv sz l places) (hl : 0 < l) (hj : j < places.length) : P := by
  have := hI.last hl hj
  omega
theorem no_left {sz l : Int} {places : List Int} {P : Prop} (h : l ≠ 0) (h1 : ¬ 0 < l) (hI : Inv sz l places) : P := absurd (hI.done h1).1 h
theorem ne_pos {ns : List Int} (h : decide (ns = []) = false) : 0 < ns.length := by
  cases ns with
  | nil => exact absurd h (by decide)
  | cons a r => exact Nat.succ_pos _
theorem bin_small {sz : Int} (h : Inv sz sz []) : (baseText "0b" 2 sz).length ≤ sizeLine := by
  have h1 := toDigits_len_pow (b := 2) (k := 300) (n := sz.natAbs) (by decide) (by decide) (by
    have := toNat_lt h.hi
    rw [natAbs_of h.lo]
    exact this)
  unfold baseText
  rw [Str.length_append, Str.length_append, sizeLine_eq]
  have h5 := ofString_ofList_length (Nat.toDigits 2 sz.natAbs)
  have h3 : (Str.ofString (if sz < 0 then "-" else "")).length ≤ 1 := by
    split <;> (rw [PyProof.Rows.ofString_len]; decide)
  have h4 : (Str.ofString "0b").length = 2 := by rw [PyProof.Rows.ofString_len]; rfl
  omega
end Mine
namespace Mine
open PySem.Spec
theorem length_eq_one {n : Nat} : (bits n).length = 1 ↔ (n ≠ 0 ∧ n = 2 ^ n.log2) := by
  by_cases h : n = 0
  · subst h; rw [bits_zero]; simp
  · rw [bits_pos h, List.length_cons]
    have hle := Nat.log2_self_le h
    constructor
    · intro e
      refine ⟨h, ?_⟩
      by_cases h2 : n - 2 ^ n.log2 = 0
      · omega
      · rw [bits_pos h2, List.length_cons] at e
        omega
    · rintro ⟨_, e⟩
      have e2 : n - 2 ^ n.log2 = 0 := by omega
      rw [e2, bits_zero]
      rfl

theorem digitChar_one (m : Nat) : (Nat.digitChar (m % 2) = '1') ↔ m % 2 = 1 := by
  have : m % 2 = 0 ∨ m % 2 = 1 := by omega
  rcases this with e | e <;> rw [e] <;> decide
/-- the ones among the binary figures, by halving -/
def ones (n : Nat) : Nat := if h : n = 0 then 0 else n % 2 + ones (n / 2)
termination_by n
decreasing_by omega
theorem ones_zero : ones 0 = 0 := by unfold ones; simp
theorem ones_pos {n : Nat} (h : n ≠ 0) : ones n = n % 2 + ones (n / 2) := by rw [ones]; simp [h]
theorem count_core : ∀ (fuel n : Nat) (ds : List Char), n < fuel → (Nat.toDigitsCore 2 fuel n ds).count '1' = ones n + ds.count '1'
  | 0, _, _, h => absurd h (Nat.not_lt_zero _)
  | fuel + 1, n, ds, h => by
    have hc : (Nat.digitChar (n % 2) :: ds).count '1' = n % 2 + ds.count '1' := by
      rw [List.count_cons]
      have := digitChar_one n
      by_cases e : n % 2 = 1
      · rw [if_pos (by rw [beq_iff_eq]; exact this.mpr e)]; omega
      · rw [if_neg (by rw [beq_iff_eq]; exact fun x => e (this.mp x))]; omega
    unfold Nat.toDigitsCore
    by_cases h0 : n / 2 = 0
    · simp only [h0, if_true]
      rw [hc]
      by_cases hn : n = 0
      · subst hn; rw [ones_zero] <;> omega
      · rw [ones_pos hn, h0, ones_zero]; omega
    · simp only [h0, if_false]
      rw [count_core fuel (n / 2) _ (by omega), hc, ones_pos (n := n) (by omega)]
      omega
theorem count_digits (n : Nat) : (Nat.toDigits 2 n).count '1' = ones n := by
  unfold Nat.toDigits
  rw [count_core (n + 1) n [] (by omega)]
  simp
theorem ones_add (k : Nat) : ∀ r, r < 2 ^ k → ones (2 ^ k + r) = 1 + ones r := by
  induction k with
  | zero =>
    intro r hr
    have : r = 0 := by omega
    subst this
    rw [ones_pos (by decide)]
  | succ k ih =>
    intro r hr
    have e : 2 ^ (k + 1) = 2 * 2 ^ k := by rw [Nat.pow_succ]; omega
    rw [e] at hr ⊢
    have hp := Nat.two_pow_pos k
    have d1 : (2 * 2 ^ k + r) / 2 = 2 ^ k + r / 2 := by omega
    have d2 : (2 * 2 ^ k + r) % 2 = r % 2 := by omega
    rw [ones_pos (by omega), d1, d2, ih (r / 2) (by omega)]
    by_cases hr0 : r = 0
    · subst hr0; rw [ones_zero]
    · rw [ones_pos hr0]; omega
theorem ones_bits : ∀ n, ones n = (bits n).length := by
  intro n
  induction n using Nat.strongRecOn with
  | _ n ih =>
    by_cases h : n = 0
    · subst h; rw [ones_zero, bits_zero]; rfl
    · rw [bits_pos h, List.length_cons, ← ih _ (top_lt h)]
      have h1 := Nat.log2_self_le h
      have h2 := ones_add n.log2 _ (rest_lt h)
      rw [Nat.add_sub_cancel' h1] at h2
      omega
theorem same_one (c : Nat) : PySem.Spec.same (.str ⟨#[c]⟩) (.str (Str.ofString "1")) = (c == 49) := by
  show ((⟨#[c]⟩ : Str) == Str.ofString "1") = (c == 49)
  have e : Str.ofString "1" = ⟨#[49]⟩ := by decide +kernel
  rw [e]
  by_cases h : c = 49
  · subst h; rfl
  · have h2 : (⟨#[c]⟩ : Str) ≠ ⟨#[49]⟩ := by
      intro x
      injection x with x
      injection x with x
      injection x with x
      exact h x
    rw [beq_eq_false_iff_ne.mpr h2, beq_eq_false_iff_ne.mpr h]
end Mine

namespace Mine
open PySem.Spec
theorem countIn_codes : ∀ cs : List Nat, Spec.countIn (.str (Str.ofString "1")) (List.map PyData.str (cs.map fun n => (⟨#[n]⟩ : Str))) = ((cs.count 49 : Nat) : Int)
  | [] => rfl
  | c :: r => by
    rw [List.map_cons, List.map_cons, Spec.countIn, countIn_codes r, same_one, List.count_cons]
    by_cases h : (c == 49) = true
    · rw [if_pos h, if_pos h]; omega
    · rw [if_neg h, if_neg h]; omega
theorem toNat_one (c : Char) : (c.toNat == 49) = (c == '1') := by
  rw [Bool.eq_iff_iff, beq_iff_eq, beq_iff_eq]
  constructor
  · intro h
    apply Char.ext
    apply UInt32.toNat_inj.mp
    exact h
  · rintro rfl; rfl
theorem count_codes : ∀ l : List Char, (l.map Char.toNat).count 49 = l.count '1'
  | [] => rfl
  | c :: r => by rw [List.map_cons, List.count_cons, List.count_cons, count_codes r, toNat_one]
theorem count_bin {sz : Int} (h : 0 ≤ sz) : Spec.countIn (.str (Str.ofString "1")) (List.map PyData.str (signs (baseText "0b" 2 sz))) = ((bits sz.toNat).length : Int) := by
  unfold signs
  rw [countIn_codes, baseText_nonneg h, Str.cps_append, Str.cps_append, Array.toList_append, Array.toList_append, List.count_append, List.count_append]
  have e1 : (Str.ofString "").cps.toList.count 49 = 0 := by decide +kernel
  have e2 : (Str.ofString "0b").cps.toList.count 49 = 0 := by decide +kernel
  have e3 : (Str.ofString (String.ofList (Nat.toDigits 2 sz.natAbs))).cps.toList.count 49 = (bits sz.toNat).length := by
    rw [Str.ofString_eq_toList, String.toList_ofList, count_codes, count_digits, ones_bits, natAbs_of h]
  rw [e1, e2, e3]
  omega

section
variable {prog : Program} {w : World} {A : Around} {E : Value → Shared → Prop} {s : Shared}
theorem count_method {D : Addr} {news : List (Addr × Obj)} {items : Array Value} {pl : Sem Bool} {Q : Value × List Value → Shared → Prop} (hp : NewPlain s.heap news D items)
    (h : Q (.builtin "list.count", [.ref D]) s) : wpAny (model prog w) A (getMethod (.ref D) (Str.ofString "count") pl) Q E s := by
  obtain ⟨n, e⟩ := hp.1
  exact getMethod_builtin hp.1.isList.typeIs PySem.F.plainAttrs_list PySem.F.slot_list_count PySem.F.type_list_count (fun a e2 => by cases e2; exact ⟨_, e, rfl⟩) h
theorem count_call {D : Addr} {news : List (Addr × Obj)} {ys : List Value} {sz : Int} {t : Tok} {Q : Value → Shared → Prop} (hp : NewPlain s.heap news D ys.toArray)
    (hc : CarriedAll ys (List.map PyData.str (List.filter (fun _ => true) (signs (baseText "0b" 2 sz))))) (hI : Inv sz sz [])
    (h : Q (.int ((bits sz.toNat).length : Int) s.toks) { s with toks := s.toks + 1 }) : wpAny (model prog w) A (call (.builtin "list.count") [.ref D, .str (Str.ofString "1") t]) Q E s := by
  rw [filter_allG] at hc
  have hs : StrsAre ys (signs (baseText "0b" 2 sz)) := by
    have := CarriedAll.strsOf (f := fun x : Str => x) hc
    simpa using this
  refine count_list_strs hp.1.isList hs ?_
  rw [count_bin hI.lo]
  exact h
end
end Mine
namespace Mine
theorem no_len {sz l : Int} {places : List Int} {P : Prop} (h : (places.length : Int) ≠ ((bits sz.toNat).length : Int)) (h1 : ¬ 0 < l) (hI : Inv sz l places) : P :=
  absurd (by rw [(hI.done h1).2]) h
end Mine

namespace Mine
theorem and_pred {n : Nat} (h : n ≠ 0) : n &&& (n - 1) = 0 ↔ n = 2 ^ n.log2 := by
  have hp := Nat.two_pow_pos n.log2
  have hle := Nat.log2_self_le h
  have hlt := rest_lt h
  constructor
  · intro e
    by_cases h2 : n - 2 ^ n.log2 = 0
    · omega
    · exfalso
      have t1 : n.testBit n.log2 = true := by
        rw [Nat.testBit_eq_decide_div_mod_eq]
        have : n / 2 ^ n.log2 = 1 := by
          rw [Nat.div_eq_iff hp]
          omega
        rw [this]; rfl
      have t2 : (n - 1).testBit n.log2 = true := by
        rw [Nat.testBit_eq_decide_div_mod_eq]
        have : (n - 1) / 2 ^ n.log2 = 1 := by
          rw [Nat.div_eq_iff hp]
          omega
        rw [this]; rfl
      have t3 : (n &&& (n - 1)).testBit n.log2 = true := by rw [Nat.testBit_and, t1, t2]; rfl
      rw [e, Nat.zero_testBit] at t3
      exact absurd t3 (by decide)
  · intro e
    rw [e]
    generalize n.log2 = k
    rw [Nat.and_two_pow_sub_one_eq_mod, Nat.mod_self]
theorem sb_nat {n : Int} (h : 0 ≤ n) : sb n = decide (n.toNat ≠ 0 ∧ n.toNat = 2 ^ n.toNat.log2) := by
  unfold sb
  by_cases e : n = 0
  · subst e; rfl
  · rw [if_neg e]
    have hn : n.toNat ≠ 0 := by omega
    have e1 : Builtin.bitAnd n (n - 1) = ((n.toNat &&& (n.toNat - 1) : Nat) : Int) := by
      unfold Builtin.bitAnd
      rw [decide_eq_true h, decide_eq_true (show 0 ≤ n - 1 by omega)]
      have : (n - 1).toNat = n.toNat - 1 := by omega
      rw [this]
    rw [e1]
    refine decide_eq_decide.mpr ?_
    rw [show (((n.toNat &&& (n.toNat - 1) : Nat) : Int) = 0 ↔ n.toNat &&& (n.toNat - 1) = 0) from by omega, and_pred hn]
    exact ⟨fun x => ⟨hn, x⟩, fun x => x.2⟩
theorem sb_bits {n : Int} (h : 0 ≤ n) : sb n = (((bits n.toNat).length : Int) == 1) := by
  rw [sb_nat h, Bool.eq_iff_iff, decide_eq_true_iff, beq_iff_eq, ← length_eq_one]
  omega
theorem sb_pow (k : Nat) : sb (1 * 2 ^ k) = true := by
  have hp := Nat.two_pow_pos k
  have e : (1 * 2 ^ k : Int) = ((2 ^ k : Nat) : Int) := by rw [Int.one_mul, two_pow_cast]
  rw [e, sb_nat (by omega), Int.toNat_natCast, Nat.log2_two_pow]
  exact decide_eq_true ⟨by omega, rfl⟩
theorem hb_pow {k : Int} (h : 0 ≤ k) : hb (1 * 2 ^ k.toNat) = k := by
  have hp := Nat.two_pow_pos k.toNat
  have e : (1 * 2 ^ k.toNat : Int) = ((2 ^ k.toNat : Nat) : Int) := by rw [Int.one_mul, two_pow_cast]
  rw [e, hb_ne (by omega), Int.natAbs_natCast, Nat.log2_two_pow]
  omega
theorem sb_neg_pow (k : Nat) : sb (0 - 1 * 2 ^ k) = false := by
  refine sb_neg ?_
  rw [Int.one_mul, ← two_pow_cast]
  exact Int.natCast_nonneg _
theorem sb_three (k : Nat) : sb (1 * 2 ^ k + 1 * 2 ^ k + 1 * 2 ^ k) = false := by
  have hp := Nat.two_pow_pos k
  have e : (1 * 2 ^ k + 1 * 2 ^ k + 1 * 2 ^ k : Int) = ((2 ^ k + 2 ^ k + 2 ^ k : Nat) : Int) := by rw [Int.one_mul, ← two_pow_cast]; omega
  rw [e, sb_nat (by omega), Int.toNat_natCast]
  refine decide_eq_false ?_
  rintro ⟨h0, h1⟩
  have hl : (2 ^ k + 2 ^ k + 2 ^ k).log2 = k + 1 := by
    rw [Nat.log2_eq_iff h0, Nat.pow_succ, Nat.pow_succ]
    omega
  rw [hl, Nat.pow_succ] at h1
  omega
theorem first_bits {sz : Int} (h : 0 ≤ sz) : (bits sz.toNat ++ [0 - 1]).getD (Int.toNat 0) 0 = hb sz := by
  by_cases e : sz = 0
  · subst e; rw [Int.toNat_zero, bits_zero]; rfl
  · rw [bits_pos (show sz.toNat ≠ 0 by omega), hb_left (by omega)]; rfl

theorem no_first {sz l : Int} {places : List Int} {P : Prop} (h : hb sz ≠ (places ++ [0 - 1]).getD (Int.toNat 0) 0) (h1 : ¬ 0 < l) (hI : Inv sz l places) (h0 : Inv sz sz []) : P :=
  absurd (by rw [(hI.done h1).2, first_bits h0.lo]) h
theorem no_first_neg {sz l : Int} {places : List Int} {P : Prop} (h : hb (0 - sz) ≠ (places ++ [0 - 1]).getD (Int.toNat 0) 0) (h1 : ¬ 0 < l) (hI : Inv sz l places) (h0 : Inv sz sz []) : P :=
  absurd (by rw [(hI.done h1).2, first_bits h0.lo, hb_neg]) h
theorem no_sb_neg {sz : Int} {P : Prop} (h : sb (0 - sz) = true) (h0 : Inv sz sz []) : P := by
  rw [sb_neg h0.lo] at h
  exact absurd h (by decide)
theorem no_sb {sz l : Int} {places : List Int} {P : Prop} (h : (sb sz != ((places.length : Int) == 1)) = true) (h1 : ¬ 0 < l) (hI : Inv sz l places) (h0 : Inv sz sz []) : P := by
  rw [(hI.done h1).2, sb_bits h0.lo, bne_self_eq_false] at h
  exact absurd h (by decide)
theorem no_sb_pow {k : Nat} {P : Prop} (h : sb (1 * 2 ^ k) = false) : P := by
  rw [sb_pow] at h
  exact absurd h (by decide)
theorem no_hb_pow {k : Int} {P : Prop} (h : hb (1 * 2 ^ k.toNat) ≠ k) (h0 : 0 ≤ k) : P := absurd (hb_pow h0) h
theorem no_sb_neg_pow {k : Nat} {P : Prop} (h : sb (0 - 1 * 2 ^ k) = true) : P := by
  rw [sb_neg_pow] at h
  exact absurd h (by decide)
theorem no_sb_three {k : Nat} {P : Prop} (h : sb (1 * 2 ^ k + 1 * 2 ^ k + 1 * 2 ^ k) = true) : P := by
  rw [sb_three] at h
  exact absurd h (by decide)
end Mine

local macro_rules | `(tactic| walk_at "storeName") => `(tactic| ((fail_if_success (rename Mine.Inv _ _ _ => x9)); goal_has Int.fmod; generalize hSz : Int.fmod _ (1 * 2 ^ Int.toNat 300) = sz; have hInv := Mine.sz_facts hSz; clear hSz))
local macro_rules | `(tactic| walk_at "subscriptTail Name BinOp ref int") => `(tactic| (k_here; (with_reducible show wpAny _ _ (subscriptTail _ _ (Value.ref _) (Value.int _ _)) _ _ _); (have hLen9 := Mine.ne_pos (by assumption)); k_dflt (refine' ksa_sub ?k1 ?k2 ?k3 ?k4 ?k5 ?k6 ?_ ?k7; (case k1 => k_asm); (case k2 => k_mem); (case k3 => with_reducible assumption); (case k4 => omega); (case k5 => omega); (case k6 => omega); (case k7 => with_unfolding_all rfl); k_whole); intro _))
local macro_rules | `(tactic| size_fits) => `(tactic| exact Mine.bin_small (by assumption))
local macro_rules | `(tactic| walk_at "getMethod ref") => `(tactic| ((with_reducible show wpAny _ _ (getMethod (Value.ref _) (Str.ofString "count") _) _ _ _); refine Mine.count_method (by assumption) ?_))
local macro_rules | `(tactic| walk_at "call builtin:list.count") => `(tactic| (refine Mine.count_call (by assumption) (by assumption) (by assumption) ?_))
local macro_rules | `(tactic| walk_at "call ref") => `(tactic| first | k_call_by "_is_single_bit" Mine.sb | k_call_by "_high_bit" Mine.hb)
local macro_rules | `(tactic| walk_at "eval Call") => `(tactic| (k_here; (with_reducible show wpAny _ _ (eval (Expr.Call (Expr.Name (Str.ofString "_is_single_bit") _) _ _ _) _) _ _ _); k_dflt (refine Call_ ?_)))
set_option maxRecDepth 100000 in
set_option maxHeartbeats 8000000 in
theorem PySem.Challenge.cw_wy0005_01_holds : PySem.Challenge.rw_wy0005_01.Holds := by
  k_with "pyIter ref" => k_search (fun _ => True)
  k_with "exec While Compare cons nil" => k_while_given ["size"] (fun size _ left places => 0 ≤ left ∧ (places.length : Int) ≤ 300 ∧ Mine.hb left ≤ 299 ∧ Mine.Inv size left places) (fun size _ left _ => left.toNat) "left" "places"
  k_with "end" => exact Mine.no_first (by assumption) (by assumption) (by assumption) (by assumption)
  k_with "end" => exact Mine.no_first_neg (by assumption) (by assumption) (by assumption) (by assumption)
  k_with "end" => exact Mine.no_sb_neg (by assumption) (by assumption)
  k_with "end" => exact Mine.no_sb (by assumption) (by assumption) (by assumption) (by assumption)
  k_with "end" => exact Mine.no_sb_pow (by assumption)
  k_with "end" => exact Mine.no_hb_pow (by assumption) (by assumption)
  k_with "end" => exact Mine.no_sb_neg_pow (by assumption)
  k_with "end" => exact Mine.no_sb_three (by assumption)
  k_with "end" => exact Mine.no_hb (by assumption) (by assumption)
  k_with "end" => exact Mine.no_shift (by assumption) (by assumption)
  k_with "end" => exact Mine.no_ge (by assumption) (by assumption) (by assumption) (by omega)
  k_with "end" => exact Mine.no_left (by assumption) (by assumption) (by assumption)
  k_with "end" => exact Mine.no_len (by assumption) (by assumption) (by assumption)
  k_with "state" => exact Mine.inv_start (by assumption)
  k_with "state" => exact Mine.inv_step (by assumption) (by assumption)
  k_with "measure" => exact Mine.Inv.down (by assumption)
  k_with "tree" => simp only [Mine.sb]
  open_k
