import PyProof.Rows.All
import Wide.All
import OpenK.AllK
import Wide.FinOn
import Lean
import PySem.Challenge.RW_pk0003_01
open PySem PySem.W PyProof.Rows
set_option Elab.async false
set_option linter.unusedVariables false
set_option linter.unusedSimpArgs false
namespace Mine

/-! ## the checksum, plainly -/

theorem xlc (a b c : Nat) : a ^^^ (b ^^^ c) = b ^^^ (a ^^^ c) := by
  rw [← Nat.xor_assoc, Nat.xor_comm a b, Nat.xor_assoc]
theorem xmod2 (a b : Nat) : (a ^^^ b) % 2 = (a + b) % 2 := by
  have h := Nat.xor_mod_two_pow (a := a) (b := b) (n := 1)
  rw [Nat.pow_one] at h
  rw [h]
  have hc : a % 2 = 0 ∨ a % 2 = 1 := by omega
  have hd : b % 2 = 0 ∨ b % 2 = 1 := by omega
  rcases hc with hc | hc <;> rcases hd with hd | hd <;> rw [hc, hd] <;> simp <;> omega
theorem nat_xor_and (a : Nat) : ∀ b : Nat, (a ^^^ b) + 2 * (a &&& b) = a + b := by
  induction a using Nat.strongRecOn with
  | _ a ih =>
    intro b
    by_cases ha : a = 0
    · subst ha; simp
    · have h := ih (a / 2) (by omega) (b / 2)
      have e1 : (a ^^^ b) / 2 = (a / 2) ^^^ (b / 2) := Nat.xor_div_two
      have e2 : (a &&& b) / 2 = (a / 2) &&& (b / 2) := Nat.and_div_two
      have e3 : (a ^^^ b) % 2 = (a + b) % 2 := xmod2 a b
      have e4 : (a &&& b) % 2 = (a % 2) &&& (b % 2) := by
        have := Nat.and_mod_two_pow (a := a) (b := b) (n := 1)
        rwa [Nat.pow_one] at this
      rw [← e1, ← e2] at h
      generalize (a ^^^ b) = X at *
      generalize (a &&& b) = Y at *
      have hc : a % 2 = 0 ∨ a % 2 = 1 := by omega
      have hd : b % 2 = 0 ∨ b % 2 = 1 := by omega
      rcases hc with hc | hc <;> rcases hd with hd | hd <;> rw [hc, hd] at e4
      · have e5 : Y % 2 = 0 := e4
        omega
      · have e5 : Y % 2 = 0 := e4
        omega
      · have e5 : Y % 2 = 0 := e4
        omega
      · have e5 : Y % 2 = 1 := e4
        omega

theorem bitXor_nat (a b : Nat) : Builtin.bitXor (a : Int) (b : Int) = ((a ^^^ b : Nat) : Int) := by
  have h := nat_xor_and a b
  rw [bitXor_and]
  have e : Builtin.bitAnd (a : Int) (b : Int) = ((a &&& b : Nat) : Int) := by
    unfold Builtin.bitAnd
    have h1 : decide ((0 : Int) ≤ (a : Int)) = true := by simp
    have h2 : decide ((0 : Int) ≤ (b : Int)) = true := by simp
    rw [h1, h2]
    simp
  rw [e]
  omega

theorem bitAnd_one (a : Nat) : Builtin.bitAnd (a : Int) 1 = ((a % 2 : Nat) : Int) := by
  unfold Builtin.bitAnd
  have h1 : decide ((0 : Int) ≤ (a : Int)) = true := by simp
  have h2 : decide ((0 : Int) ≤ 1) = true := by simp
  rw [h1, h2]
  simp [Nat.and_one_is_mod]

def poly : Nat := 3988292384
/-- one turn of _gen_crc -/
def stp (c : Nat) : Nat := if c % 2 = 1 then (c / 2) ^^^ poly else c / 2
def genN : Nat → Nat → Nat
  | 0, c => c
  | n + 1, c => genN n (stp c)
def gen (c : Nat) : Nat := genN 8 c
def runC (c : Nat) (t : List Nat) : Nat := t.foldl (fun c x => gen (c ^^^ x)) c

theorem stp_lt {c : Nat} (h : c < 2 ^ 32) : stp c < 2 ^ 32 := by
  unfold stp
  split
  · exact Nat.xor_lt_two_pow (by omega) (by decide)
  · omega
theorem genN_lt : ∀ (n c : Nat), c < 2 ^ 32 → genN n c < 2 ^ 32
  | 0, _, h => h
  | n + 1, c, h => genN_lt n _ (stp_lt h)
theorem gen_lt {c : Nat} (h : c < 2 ^ 32) : gen c < 2 ^ 32 := genN_lt 8 c h
theorem runC_lt : ∀ (t : List Nat) (c : Nat), c < 2 ^ 32 → (∀ x ∈ t, x < 256) → runC c t < 2 ^ 32
  | [], _, h, _ => h
  | x :: t, c, h, hx => by
    refine runC_lt t _ (gen_lt (Nat.xor_lt_two_pow h ?_)) (fun y hy => hx y (List.mem_cons_of_mem _ hy))
    have := hx x (List.mem_cons_self ..)
    omega

theorem stp_xor (a b : Nat) : stp (a ^^^ b) = stp a ^^^ stp b := by
  have e1 : (a ^^^ b) / 2 = (a / 2) ^^^ (b / 2) := Nat.xor_div_two
  have e3 : (a ^^^ b) % 2 = (a + b) % 2 := xmod2 a b
  unfold stp
  rw [e1, e3]
  have hc : a % 2 = 0 ∨ a % 2 = 1 := by omega
  have hd : b % 2 = 0 ∨ b % 2 = 1 := by omega
  rcases hc with hc | hc <;> rcases hd with hd | hd
  · rw [if_neg (by omega), if_neg (by omega), if_neg (by omega)]
  · rw [if_pos (by omega), if_neg (by omega), if_pos (by omega), Nat.xor_assoc]
  · rw [if_pos (by omega), if_pos (by omega), if_neg (by omega), Nat.xor_assoc, Nat.xor_assoc, Nat.xor_comm poly]
  · rw [if_neg (by omega), if_pos (by omega), if_pos (by omega)]
    have : (a / 2 ^^^ poly) ^^^ (b / 2 ^^^ poly) = (a / 2 ^^^ b / 2) ^^^ (poly ^^^ poly) := by
      simp only [Nat.xor_assoc, Nat.xor_comm, xlc]
    rw [this, Nat.xor_self, Nat.xor_zero]
theorem genN_xor : ∀ (n a b : Nat), genN n (a ^^^ b) = genN n a ^^^ genN n b
  | 0, _, _ => rfl
  | n + 1, a, b => by show genN n (stp (a ^^^ b)) = _; rw [stp_xor, genN_xor n]; rfl
theorem gen_xor (a b : Nat) : gen (a ^^^ b) = gen a ^^^ gen b := genN_xor 8 a b

/-- three ways at once: a run is affine -/
theorem runC_xor3 : ∀ (t : List Nat) (a b c : Nat), runC (a ^^^ b ^^^ c) t = runC a t ^^^ runC b t ^^^ runC c t
  | [], _, _, _ => rfl
  | x :: t, a, b, c => by
    show runC (gen ((a ^^^ b ^^^ c) ^^^ x)) t = runC (gen (a ^^^ x)) t ^^^ runC (gen (b ^^^ x)) t ^^^ runC (gen (c ^^^ x)) t
    rw [← runC_xor3 t]
    congr 1
    rw [← gen_xor, ← gen_xor]
    congr 1
    have : (a ^^^ x) ^^^ (b ^^^ x) ^^^ (c ^^^ x) = (a ^^^ b ^^^ c) ^^^ x ^^^ (x ^^^ x) := by
      simp only [Nat.xor_assoc, Nat.xor_comm, xlc]
    rw [this, Nat.xor_self, Nat.xor_zero]
theorem runC_append (a b : List Nat) (c : Nat) : runC c (a ++ b) = runC (runC c a) b := by
  unfold runC; rw [List.foldl_append]

/-- the three spellings of one end together: two returns -/
theorem ends3 (c : Nat) : runC c [10] ^^^ runC c [13] ^^^ runC c [13, 10] = runC c [13, 13] := by
  show gen (c ^^^ 10) ^^^ gen (c ^^^ 13) ^^^ gen (gen (c ^^^ 13) ^^^ 10) = gen (gen (c ^^^ 13) ^^^ 13)
  simp only [gen_xor]
  generalize gen c = g
  generalize gen 10 = p
  generalize gen 13 = q
  generalize gen g = gg
  generalize gen p = gp
  generalize gen q = gq
  have : g ^^^ p ^^^ (g ^^^ q) ^^^ (gg ^^^ gq ^^^ p) = (g ^^^ g) ^^^ (p ^^^ p) ^^^ (gg ^^^ gq ^^^ q) := by
    simp only [Nat.xor_assoc, Nat.xor_comm, xlc]
  rw [this, Nat.xor_self, Nat.xor_self, Nat.zero_xor, Nat.zero_xor]

/-! ## the same, bit by bit, by the definition -/
def polyR : Nat := 79764919
def bstep (b : Nat) (r : Nat) : Nat := if r / 2 ^ 31 ≠ b then (r * 2 % 2 ^ 32) ^^^ polyR else r * 2 % 2 ^ 32
def bsteps (x : Nat) : Nat → Nat → Nat → Nat
  | 0, _, r => r
  | n + 1, k, r => bsteps x n (k + 1) (bstep (x / 2 ^ k % 2) r)
def byte (r x : Nat) : Nat := bsteps x 8 0 r
def restR (t : List Nat) : Nat := t.foldl byte (2 ^ 32 - 1)
def sumRev (r : Nat) : Nat → Nat
  | 0 => 0
  | n + 1 => sumRev r n + r / 2 ^ n % 2 * 2 ^ (31 - n)

theorem polyR_bits : ∀ i, i < 32 → polyR.testBit (31 - i) = poly.testBit i := by decide
theorem poly_hi {i : Nat} (h : 32 ≤ i) : poly.testBit i = false := Nat.testBit_lt_two_pow (Nat.lt_of_lt_of_le (by decide : poly < 2 ^ 32) (Nat.pow_le_pow_right (by decide) h))

/-- c is r read from its other end -/
def Rev (r c : Nat) : Prop := r < 2 ^ 32 ∧ c < 2 ^ 32 ∧ ∀ i, i < 32 → c.testBit i = r.testBit (31 - i)

def cstep (b c : Nat) : Nat := if c % 2 ≠ b then (c / 2) ^^^ poly else c / 2

theorem rev_step {r c b : Nat} (hb : b < 2) (h : Rev r c) : Rev (bstep b r) (cstep b c) := by
  obtain ⟨hr, hc, hbits⟩ := h
  have h0 : c % 2 = r / 2 ^ 31 := by
    have := hbits 0 (by decide)
    rw [Nat.testBit_zero, Nat.testBit_eq_decide_div_mod_eq] at this
    have h3 : r / 2 ^ 31 < 2 := by omega
    have h4 : r / 2 ^ (31 - 0) % 2 = r / 2 ^ 31 := Nat.mod_eq_of_lt h3
    rw [h4] at this
    have h5 : c % 2 < 2 := Nat.mod_lt _ (by decide)
    by_cases e : c % 2 = 1
    · rw [e] at this ⊢
      simp at this
      exact this.symm
    · have e' : c % 2 = 0 := by omega
      rw [e'] at this ⊢
      simp at this
      omega
  have hsh : ∀ i, i < 32 → (c / 2).testBit i = (r * 2 % 2 ^ 32).testBit (31 - i) := by
    intro i hi
    rw [Nat.testBit_mod_two_pow, show r * 2 = 2 ^ 1 * r by omega, Nat.testBit_two_pow_mul, Nat.testBit_div_two]
    have h1 : decide (31 - i < 32) = true := by simp; omega
    rw [h1, Bool.true_and]
    by_cases hi31 : i = 31
    · subst hi31
      rw [Nat.testBit_lt_two_pow (by omega)]
      simp
    · rw [hbits (i + 1) (by omega)]
      have h2 : decide (31 - i ≥ 1) = true := by simp; omega
      rw [h2, Bool.true_and]
      congr 1
  unfold bstep cstep
  rw [h0]
  have hlt : r * 2 % 2 ^ 32 < 2 ^ 32 := Nat.mod_lt _ (by decide)
  split
  · refine ⟨Nat.xor_lt_two_pow hlt (by decide), Nat.xor_lt_two_pow (by omega) (by decide), fun i hi => ?_⟩
    rw [Nat.testBit_xor, Nat.testBit_xor, hsh i hi, polyR_bits i hi]
  · exact ⟨hlt, by omega, hsh⟩

theorem stp_eq (c x : Nat) : stp (c ^^^ x) = cstep (x % 2) c ^^^ (x / 2) := by
  have e1 : (c ^^^ x) / 2 = (c / 2) ^^^ (x / 2) := Nat.xor_div_two
  have e3 : (c ^^^ x) % 2 = (c + x) % 2 := xmod2 c x
  unfold stp cstep
  rw [e1, e3]
  by_cases h : c % 2 = x % 2
  · rw [if_neg (by omega), if_neg (by omega)]
  · rw [if_pos (by omega), if_pos (by omega)]
    simp only [Nat.xor_comm, xlc]

theorem rev_steps (x : Nat) : ∀ (n k r c : Nat), Rev r c → ∃ c', Rev (bsteps x n k r) c' ∧ genN n (c ^^^ (x / 2 ^ k)) = c' ^^^ (x / 2 ^ (k + n))
  | 0, k, r, c, h => ⟨c, h, rfl⟩
  | n + 1, k, r, c, h => by
    obtain ⟨c', h1, h2⟩ := rev_steps x n (k + 1) _ _ (rev_step (b := x / 2 ^ k % 2) (Nat.mod_lt _ (by decide)) h)
    refine ⟨c', h1, ?_⟩
    show genN n (stp (c ^^^ (x / 2 ^ k))) = _
    rw [stp_eq, Nat.div_div_eq_div_mul, ← Nat.pow_succ, h2, show k + 1 + n = k + (n + 1) by omega]
theorem rev_byte {r c x : Nat} (hx : x < 256) (h : Rev r c) : Rev (byte r x) (gen (c ^^^ x)) := by
  obtain ⟨c', h1, h2⟩ := rev_steps x 8 0 r c h
  have e1 : x / 2 ^ 0 = x := by simp
  have e2 : x / 2 ^ (0 + 8) = 0 := Nat.div_eq_of_lt (by omega)
  rw [e1, e2, Nat.xor_zero] at h2
  show Rev (bsteps x 8 0 r) (genN 8 (c ^^^ x))
  rw [h2]
  exact h1
theorem rev_run : ∀ (t : List Nat) (r c : Nat), (∀ x ∈ t, x < 256) → Rev r c → Rev (t.foldl byte r) (runC c t)
  | [], _, _, _, h => h
  | x :: t, r, c, hx, h => rev_run t _ _ (fun y hy => hx y (List.mem_cons_of_mem _ hy)) (rev_byte (hx x (List.mem_cons_self ..)) h)

theorem rev_ones : Rev (2 ^ 32 - 1) (2 ^ 32 - 1) := by
  refine ⟨by decide, by decide, fun i hi => ?_⟩
  rw [Nat.testBit_two_pow_sub_one, Nat.testBit_two_pow_sub_one]
  simp
  omega

theorem sumRev_bits (r : Nat) : ∀ n, n ≤ 32 → (∀ i, (sumRev r n).testBit i = (decide (32 - n ≤ i) && decide (i < 32) && r.testBit (31 - i)))
  | 0, _, i => by
    show (0 : Nat).testBit i = _
    rw [Nat.zero_testBit]
    by_cases h : i < 32
    · have : ¬ (32 ≤ i) := by omega
      simp [this]
    · simp [h]
  | n + 1, h, i => by
    have ih := sumRev_bits r n (by omega)
    have hdvd : sumRev r n = sumRev r n / 2 ^ (32 - n) * 2 ^ (32 - n) := by
      apply Nat.eq_of_testBit_eq
      intro j
      rw [Nat.testBit_mul_two_pow, Nat.testBit_div_two_pow]
      by_cases hj : 32 - n ≤ j
      · have e : j - (32 - n) + (32 - n) = j := by omega
        simp [hj, e]
      · rw [ih j]
        simp [hj]
    have hb : r / 2 ^ n % 2 < 2 := Nat.mod_lt _ (by decide)
    have hlt : r / 2 ^ n % 2 * 2 ^ (31 - n) < 2 ^ (32 - n) := by
      have e : 32 - n = (31 - n) + 1 := by omega
      rw [e, Nat.pow_succ, Nat.mul_comm]
      exact Nat.mul_lt_mul_of_pos_left hb (Nat.two_pow_pos _)
    show (sumRev r n + r / 2 ^ n % 2 * 2 ^ (31 - n)).testBit i = _
    rw [hdvd, Nat.mul_comm (sumRev r n / 2 ^ (32 - n)), Nat.testBit_two_pow_mul_add _ hlt]
    by_cases hi : i < 32 - n
    · rw [if_pos hi, Nat.testBit_mul_two_pow]
      by_cases hi2 : 31 - n ≤ i
      · have e : i = 31 - n := by omega
        subst e
        have h2 : 31 - (31 - n) = n := by omega
        rw [h2, Nat.testBit_eq_decide_div_mod_eq (x := r)]
        have h3 : 31 - n < 32 := by omega
        have h4 : 32 - (n + 1) ≤ 31 - n := by omega
        simp [h3, h4, Nat.testBit_zero]
      · have h4 : ¬ (32 - (n + 1) ≤ i) := by omega
        simp [hi2, h4]
    · rw [if_neg hi, Nat.testBit_div_two_pow, ih]
      have e : i - (32 - n) + (32 - n) = i := by omega
      rw [e]
      have h3 : 32 - n ≤ i := by omega
      have h4 : decide (32 - (n + 1) ≤ i) = true := decide_eq_true (by omega)
      have h5 : decide (32 - n ≤ i) = true := decide_eq_true h3
      rw [h4, h5]
theorem sumRev_rev {r c : Nat} (h : Rev r c) : sumRev r 32 = c := by
  apply Nat.eq_of_testBit_eq
  intro i
  rw [sumRev_bits r 32 (by decide) i]
  by_cases hi : i < 32
  · rw [h.2.2 i hi]
    simp [hi]
  · have e : c.testBit i = false := Nat.testBit_lt_two_pow (Nat.lt_of_lt_of_le h.2.1 (Nat.pow_le_pow_right (by decide) (by omega)))
    rw [e]
    simp [hi]
theorem rest_run (t : List Nat) (h : ∀ x ∈ t, x < 256) : sumRev (restR t) 32 = runC (2 ^ 32 - 1) t := sumRev_rev (rev_run t _ _ h rev_ones)

end Mine

namespace Mine
open PySem.Builtin PySem.Builtin.Str PySem.StrLaws

/-! ## texts as lists of their signs' numbers -/
def txt (l : List Nat) : Str := ⟨l.toArray⟩
def lst (x : Str) : List Nat := x.cps.toList
theorem txt_lst (x : Str) : txt (lst x) = x := by cases x; simp [txt, lst]
theorem lst_txt (l : List Nat) : lst (txt l) = l := by simp [txt, lst]
theorem lst_inj {x y : Str} (h : lst x = lst y) : x = y := by rw [← txt_lst x, h, txt_lst]
theorem lst_append (x y : Str) : lst (x ++ y) = lst x ++ lst y := by simp [lst, Str.cps_append]
theorem txt_append (a b : List Nat) : txt a ++ txt b = txt (a ++ b) := lst_inj (by rw [lst_append]; simp only [lst_txt])
theorem len_lst (x : Str) : (lst x).length = x.length := by simp [lst, Str.length]
theorem len_txt (l : List Nat) : (txt l).length = l.length := by simp [txt, Str.length]

def inter (sep : List Nat) : List (List Nat) → List Nat
  | [] => []
  | [x] => x
  | x :: y :: r => x ++ sep ++ inter sep (y :: r)
theorem inter_cons (sep x : List Nat) (r : List (List Nat)) (h : r ≠ []) : inter sep (x :: r) = x ++ sep ++ inter sep r := by
  cases r with
  | nil => exact absurd rfl h
  | cons y r => rfl
theorem lst_join (sep : Str) : ∀ ps : List Str, lst (Str.join sep ps) = inter (lst sep) (ps.map lst)
  | [] => rfl
  | [x] => rfl
  | x :: y :: r => by
    show lst (x ++ sep ++ Str.join sep (y :: r)) = _
    rw [lst_append, lst_append, lst_join sep (y :: r)]
    rfl

/-- cut at y -/
def spl (y : List Nat) : Nat → List Nat → List (List Nat)
  | _, [] => [[]]
  | 0, c :: r => if (c :: r).take y.length = y then [] :: spl y (y.length - 1) r else match spl y 0 r with
    | [] => [[c]]
    | h :: t => (c :: h) :: t
  | k + 1, _ :: r => spl y k r
def scan (y : List Nat) : Nat → Nat → List Nat → List Nat
  | _, _, [] => []
  | skip, i, c :: r => if skip = 0 ∧ (c :: r).take y.length = y then i :: scan y (y.length - 1) (i + 1) r else scan y (skip - 1) (i + 1) r

theorem scan_hit {y : List Nat} {i c : Nat} {r : List Nat} (h : (c :: r).take y.length = y) : scan y 0 i (c :: r) = i :: scan y (y.length - 1) (i + 1) r := by
  conv => lhs; unfold scan
  rw [if_pos ⟨rfl, h⟩]
theorem scan_miss {y : List Nat} {i c : Nat} {r : List Nat} (h : ¬ (c :: r).take y.length = y) : scan y 0 i (c :: r) = scan y 0 (i + 1) r := by
  conv => lhs; unfold scan
  rw [if_neg (fun x => h x.2)]
theorem scan_skip {y : List Nat} {k i c : Nat} {r : List Nat} : scan y (k + 1) i (c :: r) = scan y k (i + 1) r := by
  conv => lhs; unfold scan
  rw [if_neg (fun x => Nat.succ_ne_zero _ x.1), Nat.add_sub_cancel]
theorem spl_hit {y : List Nat} {c : Nat} {r : List Nat} (h : (c :: r).take y.length = y) : spl y 0 (c :: r) = [] :: spl y (y.length - 1) r := by
  conv => lhs; unfold spl
  rw [if_pos h]
theorem spl_miss {y : List Nat} {c : Nat} {r h' : List Nat} {t : List (List Nat)} (h : ¬ (c :: r).take y.length = y) (e : spl y 0 r = h' :: t) : spl y 0 (c :: r) = (c :: h') :: t := by
  conv => lhs; unfold spl
  rw [if_neg h, e]
theorem spl_skip {y : List Nat} {k c : Nat} {r : List Nat} : spl y (k + 1) (c :: r) = spl y k r := by
  conv => lhs; unfold spl
theorem scan_occ (x y : Str) (hy : 1 ≤ y.length) (limit : Nat) : ∀ (k i free : Nat) (found : Array Nat), i + k = x.length + 1 → found.size + k ≤ limit →
    (forIn (List.range' i k) (found, free) (occBody x y x.length limit)).run.fst.toList = found.toList ++ scan (lst y) (free - i) i ((lst x).drop i)
  | 0, i, free, found, hk, _ => by
    have : (lst x).drop i = [] := List.drop_eq_nil_of_le (by rw [len_lst]; omega)
    rw [this]
    simp [scan]
  | k + 1, i, free, found, hk, hl => by
    rw [List.range'_succ, List.forIn_cons]
    unfold occBody
    by_cases hi : i < x.length
    · have hd : (lst x).drop i = (lst x)[i]'(by rw [len_lst]; exact hi) :: (lst x).drop (i + 1) := List.drop_eq_getElem_cons (by rw [len_lst]; exact hi)
      have hsub : subAt x y i = (((lst x).drop i).take (lst y).length == lst y) := by rw [subAt_eq, len_lst]; rfl
      split
      · rename_i hc
        have := scan_occ x y hy limit k (i + 1) (i + y.length) (found.push i) (by omega) (by rw [Array.size_push]; omega)
        simp only [pure_bind]
        refine this.trans ?_
        rw [Array.toList_push, hd]
        have hm : ((lst x)[i]'(by rw [len_lst]; exact hi) :: (lst x).drop (i + 1)).take (lst y).length = lst y := by
          have := hc.2
          rw [hsub, hd] at this
          exact eq_of_beq this
        have h0 : free - i = 0 := by have := hc.1.1.2; omega
        rw [h0, scan_hit hm, len_lst, show i + y.length - (i + 1) = y.length - 1 by omega]
        simp
      · rename_i hc
        have := scan_occ x y hy limit k (i + 1) free found (by omega) (by omega)
        simp only [pure_bind]
        refine this.trans ?_
        rw [hd]
        conv => rhs; unfold scan
        have hneg : ¬ (free - i = 0 ∧ ((lst x)[i]'(by rw [len_lst]; exact hi) :: (lst x).drop (i + 1)).take (lst y).length = lst y) := by
          rintro ⟨h0, hm⟩
          have hlen : i + y.length ≤ x.length := by
            have e := congrArg List.length hm
            rw [← hd, List.length_take, List.length_drop, len_lst, len_lst] at e
            omega
          exact hc ⟨⟨⟨by show found.size < limit; omega, by show free ≤ i; omega⟩, hlen⟩, by rw [hsub, hd]; exact beq_iff_eq.mpr hm⟩
        rw [if_neg hneg, show free - (i + 1) = free - i - 1 by omega]
    · have hc : ¬ (((found.size < limit ∧ free ≤ i) ∧ i + y.length ≤ x.length) ∧ subAt x y i = true) := fun h => by have := h.1.2; omega
      rw [if_neg hc]
      have := scan_occ x y hy limit k (i + 1) free found (by omega) (by omega)
      simp only [pure_bind]
      refine this.trans ?_
      have e1 : (lst x).drop i = [] := List.drop_eq_nil_of_le (by rw [len_lst]; omega)
      have e2 : (lst x).drop (i + 1) = [] := List.drop_eq_nil_of_le (by rw [len_lst]; omega)
      rw [e1, e2]
      simp [scan]
theorem occ_scan (x y : Str) (hy : 1 ≤ y.length) : occurrences x y 0 x.length (x.length + 1) = scan (lst y) 0 0 (lst x) := by
  rw [occ_eq, scan_occ x y hy (x.length + 1) (x.length + 1 - 0) 0 0 #[] (by omega) (by simp)]
  simp

theorem sub_list (x : Str) (i j : Nat) : lst (strSub x i j) = ((lst x).drop i).take (j - i) := strSub_toList x i j

theorem parts_scan (x y : Str) (hy : 1 ≤ y.length) : ∀ (l : List Nat) (i : Nat), l = (lst x).drop i →
    (∀ a, a ≤ i → ∃ h t, spl (lst y) 0 l = h :: t ∧ (partsFrom x y.length a (scan (lst y) 0 i l)).map lst = (((lst x).drop a).take (i - a) ++ h) :: t) ∧
    (∀ skip, (partsFrom x y.length (i + skip) (scan (lst y) skip i l)).map lst = spl (lst y) skip l)
  | [], i, hl => by
    have hi : x.length ≤ i := by
      have := congrArg List.length hl
      rw [List.length_drop, len_lst] at this
      simp at this
      omega
    constructor
    · intro a ha
      refine ⟨[], [], by simp [spl], ?_⟩
      simp only [scan, partsFrom, List.map_cons, List.map_nil, sub_list, List.append_nil]
      congr 1
      rw [List.take_of_length_le (by simp [len_lst]), List.take_of_length_le (by simp [len_lst]; omega)]
    · intro skip
      simp only [scan, partsFrom, List.map_cons, List.map_nil, sub_list]
      rw [List.drop_eq_nil_of_le (by rw [len_lst]; omega)]
      simp [spl]
  | c :: r, i, hl => by
    have hlt : i < (lst x).length := by
      have := congrArg List.length hl
      rw [List.length_drop, List.length_cons] at this
      omega
    have hd := List.drop_eq_getElem_cons hlt
    rw [hd] at hl
    injection hl with hcx hr
    obtain ⟨ih1, ih2⟩ := parts_scan x y hy r (i + 1) hr
    have p1 : ∀ a, a ≤ i → ∃ h t, spl (lst y) 0 (c :: r) = h :: t ∧ (partsFrom x y.length a (scan (lst y) 0 i (c :: r))).map lst = (((lst x).drop a).take (i - a) ++ h) :: t := by
      intro a ha
      by_cases hm : (c :: r).take (lst y).length = lst y
      · rw [scan_hit hm, spl_hit hm]
        refine ⟨[], _, rfl, ?_⟩
        simp only [partsFrom, List.map_cons, sub_list, List.append_nil]
        congr 1
        have := ih2 ((lst y).length - 1)
        rw [len_lst] at this ⊢
        rw [show i + 1 + (y.length - 1) = i + y.length by omega] at this
        exact this
      · obtain ⟨h, t, e1, e2⟩ := ih1 a (by omega)
        rw [scan_miss hm, spl_miss hm e1]
        refine ⟨c :: h, t, rfl, ?_⟩
        rw [e2]
        congr 1
        have e3 : ((lst x).drop a).take (i + 1 - a) = ((lst x).drop a).take (i - a) ++ [c] := by
          rw [show i + 1 - a = (i - a) + 1 by omega, List.take_add_one, List.getElem?_drop, show a + (i - a) = i by omega, List.getElem?_eq_getElem hlt, ← hcx]
          rfl
        rw [e3]
        simp
    refine ⟨p1, fun skip => ?_⟩
    cases skip with
    | zero =>
      obtain ⟨h, t, e1, e2⟩ := p1 i (Nat.le_refl _)
      rw [Nat.add_zero, e2, e1]
      simp
    | succ k =>
      rw [scan_skip, spl_skip, ← ih2 k, show i + (k + 1) = i + 1 + k by omega]

theorem split_spl (x y : Str) (hy : 1 ≤ y.length) (hk : Builtin.Str.strKind y = 1) : (Txt.split x y).map lst = spl (lst y) 0 (lst x) := by
  have hp := (parts_scan x y hy (lst x) 0 (by simp)).2 0
  rw [Nat.add_zero] at hp
  unfold Txt.split
  have hkx : 1 ≤ Builtin.Str.strKind x := by unfold Builtin.Str.strKind; split; omega; split <;> omega
  have hsingle : scan (lst y) 0 0 (lst x) = [] → spl (lst y) 0 (lst x) = [lst x] := by
    intro h
    rw [h] at hp
    simp only [partsFrom, List.map_cons, List.map_nil, sub_whole] at hp
    exact hp.symm
  split
  · rename_i hc
    rw [Bool.or_eq_true, decide_eq_true_eq, decide_eq_true_eq] at hc
    have hlen : x.length < y.length := by
      rcases hc with h | h
      · exact h
      · omega
    have hz : scan (lst y) 0 0 (lst x) = [] := by
      rw [← occ_scan x y hy]
      cases ho : occurrences x y 0 x.length (x.length + 1) with
      | nil => rfl
      | cons a r =>
        obtain ⟨f, hch⟩ := occ_chain x y (x.length + 1)
        rw [ho] at hch
        have := hch.2.1.1
        omega
    rw [hsingle hz]
    rfl
  · split
    · rename_i he
      rw [occ_scan x y hy] at he
      rw [hsingle (List.isEmpty_iff.mp he)]
      rfl
    · rw [partsBetween_eq, occ_scan x y hy]
      exact hp

theorem replace_spl (x y z : Str) (hy : 1 ≤ y.length) : lst (Txt.replace x y z) = inter (lst z) (spl (lst y) 0 (lst x)) := by
  have hp := (parts_scan x y hy (lst x) 0 (by simp)).2 0
  rw [Nat.add_zero] at hp
  unfold Txt.replace
  split
  · rename_i hc
    have h0 : (y.length == 0) = false := by simp; omega
    rw [h0, Bool.false_and, Bool.or_false, occ_scan x y hy] at hc
    rw [List.isEmpty_iff.mp hc] at hp
    simp only [partsFrom, List.map_cons, List.map_nil, sub_whole] at hp
    rw [← hp]
    rfl
  · rw [glued_eq_join, lst_join, partsBetween_eq, occ_scan x y hy, hp]

end Mine

namespace Mine

/-! ## what is sent -/
/-- each end as 13, 10; sk: a 13 stood right before -/
def nrm : Bool → List Nat → List Nat
  | _, [] => []
  | sk, c :: r => if c = 13 then 13 :: 10 :: nrm true r else if c = 10 then (if sk then nrm false r else 13 :: 10 :: nrm false r) else c :: nrm false r
/-- each end as 10 -/
def uni : Bool → List Nat → List Nat
  | _, [] => []
  | sk, c :: r => if c = 13 then 10 :: uni true r else if c = 10 then (if sk then uni false r else 10 :: uni false r) else c :: uni false r
def crlf : List Nat → List Nat
  | [] => []
  | c :: r => if c = 10 then 13 :: 10 :: crlf r else c :: crlf r
def stuff : Bool → List Nat → List Nat
  | _, [] => []
  | b, c :: r => if b = true ∧ c = 46 then 46 :: 46 :: stuff false r else c :: stuff (c == 10) r
def qd (t : List Nat) : List Nat := stuff true (nrm false t)
def dot (row : List Nat) : List Nat := if row.take 1 = [46] then 46 :: row else row

theorem nrm_cons (sk : Bool) (c : Nat) (r : List Nat) : nrm sk (c :: r) = if c = 13 then 13 :: 10 :: nrm true r else if c = 10 then (if sk then nrm false r else 13 :: 10 :: nrm false r) else c :: nrm false r := rfl
theorem stuff_cons (b : Bool) (c : Nat) (r : List Nat) : stuff b (c :: r) = if b = true ∧ c = 46 then 46 :: 46 :: stuff false r else c :: stuff (c == 10) r := rfl
theorem uni_cons (sk : Bool) (c : Nat) (r : List Nat) : uni sk (c :: r) = if c = 13 then 10 :: uni true r else if c = 10 then (if sk then uni false r else 10 :: uni false r) else c :: uni false r := rfl
theorem crlf_cons (c : Nat) (r : List Nat) : crlf (c :: r) = if c = 10 then 13 :: 10 :: crlf r else c :: crlf r := rfl
theorem nrm_crlf : ∀ (t : List Nat) (sk : Bool), nrm sk t = crlf (uni sk t)
  | [], _ => rfl
  | c :: r, sk => by
    unfold nrm uni
    split
    · rw [nrm_crlf r]; rfl
    · split
      · split
        · rw [nrm_crlf r]
        · rw [nrm_crlf r]; rfl
      · rw [nrm_crlf r]
        conv => rhs; unfold crlf
        rename_i h1 h2
        rw [if_neg h2]

theorem spl_ne (y : List Nat) : ∀ (l : List Nat) (k : Nat), ∃ h t, spl y k l = h :: t
  | [], k => ⟨[], [], by unfold spl; rfl⟩
  | c :: r, 0 => by
    by_cases hm : (c :: r).take y.length = y
    · exact ⟨_, _, spl_hit hm⟩
    · obtain ⟨h, t, e⟩ := spl_ne y r 0
      exact ⟨_, _, spl_miss hm e⟩
  | c :: r, k + 1 => by rw [spl_skip]; exact spl_ne y r k
theorem inter_head (sep : List Nat) (c : Nat) (h : List Nat) (t : List (List Nat)) : inter sep ((c :: h) :: t) = c :: inter sep (h :: t) := by
  cases t <;> rfl
theorem inter_nil_cons (sep : List Nat) (h : List Nat) (t : List (List Nat)) : inter sep ([] :: h :: t) = sep ++ inter sep (h :: t) := rfl

theorem rep_hit {y z : List Nat} {c : Nat} {r : List Nat} (h : (c :: r).take y.length = y) : inter z (spl y 0 (c :: r)) = z ++ inter z (spl y (y.length - 1) r) := by
  rw [spl_hit h]
  obtain ⟨h', t, e⟩ := spl_ne y r (y.length - 1)
  rw [e, inter_nil_cons]
theorem rep_miss {y z : List Nat} {c : Nat} {r : List Nat} (h : ¬ (c :: r).take y.length = y) : inter z (spl y 0 (c :: r)) = c :: inter z (spl y 0 r) := by
  obtain ⟨h', t, e⟩ := spl_ne y r 0
  rw [spl_miss h e, e, inter_head]

theorem rep_one (a z : Nat) : ∀ l : List Nat, inter [z] (spl [a] 0 l) = l.map fun c => if c = a then z else c
  | [] => by unfold spl; rfl
  | c :: r => by
    by_cases hc : c = a
    · subst hc
      rw [rep_hit (by simp)]
      simp [rep_one c z r]
    · rw [rep_miss (by simp [hc]), rep_one a z r]
      simp [hc]

theorem uni_flag {c : Nat} {r : List Nat} (h : c ≠ 10) (a b : Bool) : uni a (c :: r) = uni b (c :: r) := by
  rw [uni_cons, uni_cons, if_neg h, if_neg h]

theorem rep_uni : ∀ (n : Nat) (t : List Nat), t.length ≤ n → (inter [10] (spl [13, 10] 0 t)).map (fun c => if c = 13 then 10 else c) = uni false t
  | _, [], _ => by unfold spl; rfl
  | 0, _ :: _, h => by simp at h
  | n + 1, c :: r, hn => by
    have hr : r.length ≤ n := by simpa using hn
    by_cases hm : (c :: r).take ([13, 10] : List Nat).length = [13, 10]
    · rw [rep_hit hm]
      cases r with
      | nil => simp at hm
      | cons d r =>
        simp at hm
        obtain ⟨rfl, rfl⟩ := hm
        rw [show ([13, 10] : List Nat).length - 1 = 0 + 1 from rfl, spl_skip, List.map_append, rep_uni n r (by simp at hr; omega)]
        simp [uni]
    · rw [rep_miss hm, List.map_cons, rep_uni n r hr]
      by_cases hc : c = 13
      · subst hc
        conv => rhs; unfold uni
        rw [if_pos rfl, if_pos rfl]
        congr 1
        cases r with
        | nil => rfl
        | cons d r =>
          refine uni_flag ?_ _ _
          intro e
          subst e
          exact hm (by simp)
      · conv => rhs; unfold uni
        rw [if_neg hc, if_neg hc]
        by_cases h10 : c = 10
        · subst h10
          simp
        · rw [if_neg h10]

theorem uni_no13 : ∀ (t : List Nat) (sk : Bool), 13 ∉ uni sk t
  | [], _ => by simp [uni]
  | c :: r, sk => by
    unfold uni
    split
    · simp [uni_no13 r]
    · split
      · split
        · exact uni_no13 r _
        · simp [uni_no13 r]
      · rename_i h _
        simp [uni_no13 r, Ne.symm h]

theorem stuff_lines : ∀ (u : List Nat) (b : Bool), 13 ∉ u → ∃ h t, spl [10] 0 u = h :: t ∧ stuff b (crlf u) = inter [13, 10] ((if b then dot h else h) :: t.map dot)
  | [], b, _ => ⟨[], [], by unfold spl; rfl, by cases b <;> rfl⟩
  | c :: r, b, h13 => by
    rw [List.mem_cons, not_or] at h13
    by_cases hc : c = 10
    · subst hc
      obtain ⟨h, t, e, ih⟩ := stuff_lines r true h13.2
      refine ⟨[], h :: t, by rw [spl_hit (by simp)]; simp [e], ?_⟩
      unfold crlf
      rw [if_pos rfl]
      unfold stuff
      rw [if_neg (by simp)]
      conv => lhs; unfold stuff
      rw [if_neg (by simp)]
      show 13 :: 10 :: stuff true (crlf r) = _
      rw [ih]
      have e1 : (if b then dot [] else []) = ([] : List Nat) := by cases b <;> rfl
      rw [e1, if_pos rfl]
      rfl
    · obtain ⟨h, t, e, ih⟩ := stuff_lines r false h13.2
      refine ⟨c :: h, t, spl_miss (by simp [hc]) e, ?_⟩
      unfold crlf
      rw [if_neg hc]
      unfold stuff
      have hb : (c == 10) = false := by simp [hc]
      rw [hb, ih]
      simp only [Bool.false_eq_true, if_false]
      by_cases hd : b = true ∧ c = 46
      · obtain ⟨rfl, rfl⟩ := hd
        rw [if_pos ⟨rfl, rfl⟩, if_pos rfl]
        have : dot (46 :: h) = 46 :: 46 :: h := by simp [dot]
        rw [this, inter_head, inter_head]
      · rw [if_neg hd]
        have : (if b = true then dot (c :: h) else c :: h) = c :: h := by
          cases b with
          | false => rfl
          | true =>
            have h46 : c ≠ 46 := fun e => hd ⟨rfl, e⟩
            simp [dot, h46]
        rw [this, inter_head]

/-- the law's own reading of what is sent -/
theorem sent_qd (t : List Nat) : inter [13, 10] ((spl [10] 0 (inter [10] (spl [13] 0 (inter [10] (spl [13, 10] 0 t))))).map dot) = qd t := by
  rw [rep_one, rep_uni t.length t (Nat.le_refl _)]
  obtain ⟨h, t', e, ih⟩ := stuff_lines (uni false t) true (uni_no13 t false)
  unfold qd
  rw [nrm_crlf, ih, e]
  rfl

/-! ## the long mails -/
theorem nrm_x : ∀ (t r : List Nat) (sk : Bool), nrm sk (t ++ 120 :: 10 :: r) = nrm sk t ++ 120 :: 13 :: 10 :: nrm false r
  | [], r, sk => by simp [nrm]
  | c :: t, r, sk => by
    rw [List.cons_append, nrm_cons, nrm_cons sk c t]
    split
    · rw [nrm_x t r]; rfl
    · split
      · split
        · rw [nrm_x t r]
        · rw [nrm_x t r]; rfl
      · rw [nrm_x t r]; rfl
theorem stuff_x : ∀ (t r : List Nat) (b : Bool), stuff b (t ++ 120 :: 13 :: 10 :: r) = stuff b t ++ 120 :: 13 :: 10 :: stuff true r
  | [], r, b => by simp [stuff]
  | c :: t, r, b => by
    rw [List.cons_append, stuff_cons, stuff_cons b c t]
    split
    · rw [stuff_x t r]; rfl
    · rw [stuff_x t r]; rfl
theorem qd_x (t r : List Nat) : qd (t ++ [120, 10] ++ r) = qd t ++ [120, 13, 10] ++ qd r := by
  unfold qd
  rw [List.append_assoc]
  show stuff true (nrm false (t ++ 120 :: 10 :: r)) = _
  rw [nrm_x, stuff_x, List.append_assoc]
  rfl
theorem qd_long : ∀ ts : List (List Nat), qd (inter [120, 10] ts) = inter [120, 13, 10] (ts.map qd)
  | [] => rfl
  | [t] => rfl
  | t :: u :: r => by
    show qd (t ++ [120, 10] ++ inter [120, 10] (u :: r)) = _
    rw [qd_x, qd_long (u :: r)]
    rfl

theorem spl_free {y0 : Nat} {y' : List Nat} : ∀ (p r : List Nat), y0 ∉ p → spl (y0 :: y') 0 (p ++ (y0 :: y') ++ r) = p :: spl (y0 :: y') 0 r
  | [], r, _ => by
    rw [List.nil_append]
    show spl (y0 :: y') 0 (y0 :: (y' ++ r)) = _
    rw [spl_hit (by simp)]
    have : ∀ (k : List Nat), spl (y0 :: y') k.length (k ++ r) = spl (y0 :: y') 0 r := by
      intro k
      induction k with
      | nil => rfl
      | cons a k ih => rw [List.length_cons, List.cons_append, spl_skip, ih]
    rw [List.length_cons, Nat.add_sub_cancel, this]
  | c :: p, r, h => by
    rw [List.mem_cons, not_or] at h
    have e : (c :: p) ++ (y0 :: y') ++ r = c :: (p ++ (y0 :: y') ++ r) := by simp
    rw [e]
    exact spl_miss (by simp; intro e'; exact absurd e'.symm h.1) (spl_free p r h.2)
theorem spl_last {y0 : Nat} {y' : List Nat} : ∀ (p : List Nat), y0 ∉ p → spl (y0 :: y') 0 p = [p]
  | [], _ => by unfold spl; rfl
  | c :: p, h => by
    rw [List.mem_cons, not_or] at h
    exact spl_miss (by simp; intro e'; exact absurd e'.symm h.1) (spl_last p h.2)
theorem spl_inter {y0 : Nat} {y' : List Nat} : ∀ (ps : List (List Nat)), ps ≠ [] → (∀ p ∈ ps, y0 ∉ p) → spl (y0 :: y') 0 (inter (y0 :: y') ps) = ps
  | [], h, _ => absurd rfl h
  | [p], _, h => spl_last p (h p (List.mem_singleton.mpr rfl))
  | p :: q :: r, _, h => by
    show spl (y0 :: y') 0 (p ++ (y0 :: y') ++ inter (y0 :: y') (q :: r)) = _
    rw [spl_free p _ (h p (List.mem_cons_self ..)), spl_inter (q :: r) (List.cons_ne_nil _ _) (fun x hx => h x (List.mem_cons_of_mem _ hx))]

theorem nrm_mem : ∀ (t : List Nat) (sk : Bool) (x : Nat), x ∈ nrm sk t → x = 13 ∨ x = 10 ∨ x ∈ t
  | [], _, x, h => by simp [nrm] at h
  | c :: r, sk, x, h => by
    unfold nrm at h
    split at h
    · simp at h
      rcases h with h | h | h
      · exact .inl h
      · exact .inr (.inl h)
      · rcases nrm_mem r _ x h with h | h | h
        · exact .inl h
        · exact .inr (.inl h)
        · exact .inr (.inr (List.mem_cons_of_mem _ h))
    · split at h
      · split at h
        · rcases nrm_mem r _ x h with h | h | h
          · exact .inl h
          · exact .inr (.inl h)
          · exact .inr (.inr (List.mem_cons_of_mem _ h))
        · simp at h
          rcases h with h | h | h
          · exact .inl h
          · exact .inr (.inl h)
          · rcases nrm_mem r _ x h with h | h | h
            · exact .inl h
            · exact .inr (.inl h)
            · exact .inr (.inr (List.mem_cons_of_mem _ h))
      · simp at h
        rcases h with h | h
        · exact .inr (.inr (by simp [h]))
        · rcases nrm_mem r _ x h with h | h | h
          · exact .inl h
          · exact .inr (.inl h)
          · exact .inr (.inr (List.mem_cons_of_mem _ h))
theorem stuff_mem : ∀ (t : List Nat) (b : Bool) (x : Nat), x ∈ stuff b t → x = 46 ∨ x ∈ t
  | [], _, x, h => by simp [stuff] at h
  | c :: r, b, x, h => by
    unfold stuff at h
    split at h
    · simp at h
      rcases h with h | h
      · exact .inl h
      · exact (stuff_mem r _ x h).imp_right (List.mem_cons_of_mem _)
    · simp at h
      rcases h with h | h
      · exact .inr (by simp [h])
      · exact (stuff_mem r _ x h).imp_right (List.mem_cons_of_mem _)
theorem qd_mem {t : List Nat} {x : Nat} (h : x ∈ qd t) : x = 46 ∨ x = 13 ∨ x = 10 ∨ x ∈ t :=
  (stuff_mem _ _ x h).imp_right (nrm_mem _ _ x)
theorem qd_no120 {t : List Nat} (h : 120 ∉ t) : 120 ∉ qd t := fun hm => by
  rcases qd_mem hm with e | e | e | e
  · exact absurd e (by decide)
  · exact absurd e (by decide)
  · exact absurd e (by decide)
  · exact h e
theorem nrm_len : ∀ (t : List Nat) (sk : Bool), (nrm sk t).length ≤ 2 * t.length
  | [], _ => by simp [nrm]
  | c :: r, sk => by
    unfold nrm
    have h1 := nrm_len r true
    have h2 := nrm_len r false
    split
    · simp; omega
    · split
      · split
        · simp; omega
        · simp; omega
      · simp; omega
theorem stuff_len : ∀ (t : List Nat) (b : Bool), (stuff b t).length ≤ 2 * t.length
  | [], _ => by simp [stuff]
  | c :: r, b => by
    unfold stuff
    have h1 := stuff_len r false
    have h2 := stuff_len r (c == 10)
    split
    · simp; omega
    · simp; omega
theorem qd_len (t : List Nat) : (qd t).length ≤ 4 * t.length := by
  have h1 := nrm_len t false
  have h2 := stuff_len (nrm false t) true
  unfold qd
  omega

/-- the long mail, heard and cut again -/
theorem heard_eq (ts : List (List Nat)) (hne : ts ≠ []) (h : ∀ t ∈ ts, 120 ∉ t) : spl [120, 13, 10] 0 (qd (inter [120, 10] ts)) = ts.map qd := by
  rw [qd_long]
  refine spl_inter _ (by simpa using hne) ?_
  intro p hp
  obtain ⟨t, ht, rfl⟩ := List.mem_map.mp hp
  exact qd_no120 (h t ht)

end Mine

namespace Mine

/-! ## the mail's rows, and the 27 texts -/
def Plain (r : List Nat) : Prop := ∀ c ∈ r, c ≠ 13 ∧ c ≠ 10 ∧ c ≠ 120 ∧ c < 256
def ends : List (List Nat) := [[10], [13], [13, 10]]

theorem uni_row : ∀ (r x : List Nat) (sk : Bool), Plain r → uni sk (r ++ x) = r ++ uni (sk && r.isEmpty) x
  | [], x, sk, _ => by simp
  | c :: r, x, sk, h => by
    have hc := h c (List.mem_cons_self ..)
    rw [List.cons_append, uni_cons, if_neg hc.1, if_neg hc.2.1, uni_row r x false (fun y hy => h y (List.mem_cons_of_mem _ hy))]
    simp
def cnt (l : List Nat) : Nat := l.count 10
theorem cnt_row {r : List Nat} (h : Plain r) : cnt r = 0 := List.count_eq_zero.mpr fun hm => (h 10 hm).2.1 rfl
theorem cnt_append (a b : List Nat) : cnt (a ++ b) = cnt a + cnt b := List.count_append
theorem cnt_ten (b : List Nat) : cnt (10 :: b) = cnt b + 1 := List.count_cons_self
theorem cnt_crlf : ∀ u : List Nat, cnt (crlf u) = cnt u
  | [] => rfl
  | c :: r => by
    rw [crlf_cons]
    split
    · rename_i h
      subst h
      have : cnt (13 :: 10 :: crlf r) = cnt (10 :: crlf r) := by simp [cnt]
      rw [this, cnt_ten, cnt_ten, cnt_crlf r]
    · rename_i h
      have e1 : cnt (c :: crlf r) = cnt (crlf r) := List.count_cons_of_ne h
      have e2 : cnt (c :: r) = cnt r := List.count_cons_of_ne h
      rw [e1, e2, cnt_crlf r]
theorem cnt_stuff : ∀ (u : List Nat) (b : Bool), cnt (stuff b u) = cnt u
  | [], _ => rfl
  | c :: r, b => by
    rw [stuff_cons]
    split
    · rename_i h
      obtain ⟨_, rfl⟩ := h
      have e1 : cnt (46 :: 46 :: stuff false r) = cnt (stuff false r) := by simp [cnt]
      have e2 : cnt (46 :: r) = cnt r := by simp [cnt]
      rw [e1, e2, cnt_stuff r]
    · by_cases hc : c = 10
      · subst hc
        rw [cnt_ten, cnt_ten, cnt_stuff r]
      · have e1 : cnt (c :: stuff (c == 10) r) = cnt (stuff (c == 10) r) := List.count_cons_of_ne hc
        have e2 : cnt (c :: r) = cnt r := List.count_cons_of_ne hc
        rw [e1, e2, cnt_stuff r]
theorem cnt_qd (t : List Nat) : cnt (qd t) = cnt (uni false t) := by
  unfold qd
  rw [cnt_stuff, nrm_crlf, cnt_crlf]
theorem qd_of_uni {t u : List Nat} (h : uni false t = uni false u) : qd t = qd u := by
  unfold qd
  rw [nrm_crlf, nrm_crlf, h]

section
variable (r0 r1 r2 r3 : List Nat)
def text (e1 e2 e3 : List Nat) : List Nat := r0 ++ e1 ++ r1 ++ e2 ++ r2 ++ e3 ++ r3
/-- two ends that meet as one -/
def meets (e1 e2 e3 : List Nat) : Bool := (r1.isEmpty && e1 == [13] && e2 == [10]) || (r2.isEmpty && e2 == [13] && e3 == [10])
end
section
variable {r0 r1 r2 r3 : List Nat} (h0 : Plain r0) (h1 : Plain r1) (h2 : Plain r2) (h3 : Plain r3)
include h0 h1 h2 h3

theorem uni_end {e x : List Nat} (he : e ∈ ends) (sk : Bool) (hs : sk = true → e ≠ [10]) : uni sk (e ++ x) = 10 :: uni (e == [13]) x := by
  unfold ends at he
  simp only [List.mem_cons, List.not_mem_nil, or_false] at he
  rcases he with rfl | rfl | rfl
  · cases sk with
    | false => rfl
    | true => exact absurd rfl (hs rfl)
  · rfl
  · rfl

theorem uni_text {e1 e2 e3 : List Nat} (m1 : e1 ∈ ends) (m2 : e2 ∈ ends) (m3 : e3 ∈ ends) (hm : meets r1 r2 e1 e2 e3 = false) :
    uni false (text r0 r1 r2 r3 e1 e2 e3) = r0 ++ 10 :: (r1 ++ 10 :: (r2 ++ 10 :: r3)) := by
  unfold meets at hm
  rw [Bool.or_eq_false_iff] at hm
  unfold text
  simp only [List.append_assoc]
  rw [uni_row r0 _ false h0, uni_end h0 h1 h2 h3 m1 _ (by simp), uni_row r1 _ _ h1, uni_end h0 h1 h2 h3 m2, uni_row r2 _ _ h2, uni_end h0 h1 h2 h3 m3]
  · have := uni_row r3 [] (e3 == [13]) h3
    rw [List.append_nil] at this
    rw [this]
    simp [uni]
  · intro hs e
    subst e
    rw [Bool.and_eq_true] at hs
    have := hm.2
    rw [hs.2, hs.1] at this
    simp at this
  · intro hs e
    subst e
    rw [Bool.and_eq_true] at hs
    have := hm.1
    rw [hs.2, hs.1] at this
    simp at this

theorem uni_meets {e1 e2 e3 : List Nat} (m1 : e1 ∈ ends) (m2 : e2 ∈ ends) (m3 : e3 ∈ ends) (hm : meets r1 r2 e1 e2 e3 = true) :
    cnt (uni false (text r0 r1 r2 r3 e1 e2 e3)) ≤ 2 := by
  unfold meets at hm
  rw [Bool.or_eq_true] at hm
  unfold text
  simp only [List.append_assoc]
  have last : ∀ sk, cnt (uni sk r3) = 0 := fun sk => by
    have := uni_row r3 [] sk h3
    rw [List.append_nil] at this
    rw [this, cnt_append, cnt_row h3]
    cases (sk && r3.isEmpty) <;> rfl
  rcases hm with hm | hm
  · simp only [Bool.and_eq_true, beq_iff_eq, List.isEmpty_iff] at hm
    obtain ⟨⟨rfl, rfl⟩, rfl⟩ := hm
    rw [uni_row r0 _ false h0, uni_end h0 h1 h2 h3 m1 _ (by simp), List.nil_append]
    have e : uni (([13] : List Nat) == [13]) ([10] ++ (r2 ++ (e3 ++ r3))) = uni false (r2 ++ (e3 ++ r3)) := rfl
    rw [e, uni_row r2 _ _ h2, uni_end h0 h1 h2 h3 m3 _ (by simp)]
    rw [cnt_append, cnt_row h0, cnt_ten, cnt_append, cnt_row h2, cnt_ten, last]
    omega
  · simp only [Bool.and_eq_true, beq_iff_eq, List.isEmpty_iff] at hm
    obtain ⟨⟨rfl, rfl⟩, rfl⟩ := hm
    rw [uni_row r0 _ false h0, uni_end h0 h1 h2 h3 m1 _ (by simp), uni_row r1 _ _ h1, uni_end h0 h1 h2 h3 m2 _ (by intro _; decide), List.nil_append]
    have e : uni (([13] : List Nat) == [13]) ([10] ++ r3) = uni false r3 := rfl
    rw [e, cnt_append, cnt_row h0, cnt_ten, cnt_append, cnt_row h1, cnt_ten, last]
    omega

/-- what is sent as the mail with both signs at each end -/
theorem qd_alone {e1 e2 e3 : List Nat} (m1 : e1 ∈ ends) (m2 : e2 ∈ ends) (m3 : e3 ∈ ends) :
    (qd (text r0 r1 r2 r3 e1 e2 e3) == qd (text r0 r1 r2 r3 [13, 10] [13, 10] [13, 10])) = !meets r1 r2 e1 e2 e3 := by
  have m : ([13, 10] : List Nat) ∈ ends := by decide
  have hm0 : meets r1 r2 [13, 10] [13, 10] [13, 10] = false := by simp [meets]
  have ha := uni_text h0 h1 h2 h3 m m m hm0
  cases hm : meets r1 r2 e1 e2 e3 with
  | false =>
    rw [Bool.not_false, beq_iff_eq]
    exact qd_of_uni ((uni_text h0 h1 h2 h3 m1 m2 m3 hm).trans ha.symm)
  | true =>
    rw [Bool.not_true, beq_eq_false_iff_ne]
    intro e
    have e1 := congrArg cnt e
    rw [cnt_qd, cnt_qd, ha] at e1
    have e2 := uni_meets h0 h1 h2 h3 m1 m2 m3 hm
    rw [e1, cnt_append, cnt_row h0, cnt_ten, cnt_append, cnt_row h1, cnt_ten, cnt_append, cnt_row h2, cnt_ten, cnt_row h3] at e2
    omega
end

/-! ## the sums -/
def xall (l : List Nat) : Nat := l.foldl (· ^^^ ·) 0
theorem fold_xor (l : List Nat) : ∀ a, l.foldl (· ^^^ ·) a = a ^^^ xall l := by
  induction l with
  | nil => intro a; simp [xall]
  | cons b r ih =>
    intro a
    unfold xall
    rw [List.foldl_cons, ih, List.foldl_cons, ih, Nat.zero_xor, Nat.xor_assoc]
theorem xall_append (a b : List Nat) : xall (a ++ b) = xall a ^^^ xall b := by
  conv => lhs; unfold xall
  rw [List.foldl_append, fold_xor, fold_xor, Nat.zero_xor]
theorem xall_cons (a : Nat) (b : List Nat) : xall (a :: b) = a ^^^ xall b := by
  conv => lhs; unfold xall
  rw [List.foldl_cons, fold_xor, Nat.zero_xor]
theorem xall_nil : xall [] = 0 := rfl

theorem three (c : Nat) (r : List Nat) : runC c ([10] ++ r) ^^^ runC c ([13] ++ r) ^^^ runC c ([13, 10] ++ r) = runC c ([13, 13] ++ r) := by
  rw [runC_append, runC_append, runC_append, runC_append, ← runC_xor3, ends3]

def triples : List (List Nat × List Nat × List Nat) := ends.flatMap fun e1 => ends.flatMap fun e2 => ends.map fun e3 => (e1, e2, e3)
theorem xall_split {α : Type} (p : α → Bool) (f : α → Nat) : ∀ l : List α, xall ((l.filter p).map f) = xall (l.map f) ^^^ xall ((l.filter fun x => !p x).map f)
  | [] => by simp [xall]
  | a :: l => by
    have ih := xall_split p f l
    cases h : p a with
    | true => simp only [List.filter_cons, h, if_true, Bool.not_true, Bool.false_eq_true, if_false, List.map_cons, xall_cons, ih, Nat.xor_assoc]
    | false =>
      simp only [List.filter_cons, h, if_true, Bool.not_false, Bool.false_eq_true, if_false, List.map_cons, xall_cons, ih]
      have : f a ^^^ xall (l.map f) ^^^ (f a ^^^ xall ((l.filter fun x => !p x).map f)) = (f a ^^^ f a) ^^^ (xall (l.map f) ^^^ xall ((l.filter fun x => !p x).map f)) := by
        simp only [Nat.xor_assoc, Nat.xor_comm, xlc]
      rw [this, Nat.xor_self, Nat.zero_xor]
theorem xall_flat {α : Type} (f : α → List Nat) : ∀ l : List α, xall (l.flatMap f) = xall (l.map fun x => xall (f x))
  | [] => rfl
  | a :: l => by rw [List.flatMap_cons, xall_append, xall_flat f l, List.map_cons, xall_cons]
theorem xall_three (f : List Nat → Nat) : xall (ends.map f) = f [10] ^^^ f [13] ^^^ f [13, 10] := by
  show xall [f [10], f [13], f [13, 10]] = _
  simp only [xall_cons, xall_nil, Nat.xor_zero, Nat.xor_assoc]
theorem xall_ends (c : Nat) (r : List Nat) : xall (ends.map fun e => runC c (e ++ r)) = runC c ([13, 13] ++ r) := by rw [xall_three, three]
theorem xall_ends2 (c : Nat) (r t : List Nat) : xall (ends.map fun e => runC (runC c (e ++ r)) t) = runC (runC c ([13, 13] ++ r)) t := by rw [xall_three, ← runC_xor3, three]

section
variable (c0 : Nat) (r0 r1 r2 r3 : List Nat)
def crc3 (e : List Nat × List Nat × List Nat) : Nat := runC (runC (runC (runC c0 r0) (e.1 ++ r1)) (e.2.1 ++ r2)) (e.2.2 ++ r3)
def step (row : List Nat) (ws : List (List Nat × Nat)) : List (List Nat × Nat) := ws.flatMap fun w => ends.map fun e => (w.1 ++ e ++ row, runC w.2 (e ++ row))
def made : List (List Nat × Nat) := step r3 (step r2 (step r1 [(r0, runC c0 r0)]))
theorem made_gen {α : Type} (f : α → List Nat → α) (c : α) : ((([(r0, c)].flatMap fun w : List Nat × α => ends.map fun e => (w.1 ++ e ++ r1, f w.2 (e ++ r1))).flatMap fun w => ends.map fun e => (w.1 ++ e ++ r2, f w.2 (e ++ r2))).flatMap fun w => ends.map fun e => (w.1 ++ e ++ r3, f w.2 (e ++ r3)))
    = triples.map fun e => (text r0 r1 r2 r3 e.1 e.2.1 e.2.2, f (f (f c (e.1 ++ r1)) (e.2.1 ++ r2)) (e.2.2 ++ r3)) := rfl
theorem made_eq : made c0 r0 r1 r2 r3 = triples.map fun e => (text r0 r1 r2 r3 e.1 e.2.1 e.2.2, crc3 c0 r0 r1 r2 r3 e) := made_gen r0 r1 r2 r3 runC (runC c0 r0)
theorem crc3_eq (e : List Nat × List Nat × List Nat) : crc3 c0 r0 r1 r2 r3 e = runC c0 (text r0 r1 r2 r3 e.1 e.2.1 e.2.2) := by
  unfold crc3 text
  simp only [← runC_append, List.append_assoc]
theorem all27 : xall (triples.map (crc3 c0 r0 r1 r2 r3)) = runC c0 (r0 ++ [13, 13] ++ (r1 ++ [13, 13] ++ (r2 ++ [13, 13] ++ r3))) := by
  have e : triples.map (crc3 c0 r0 r1 r2 r3) = ends.flatMap fun e1 => ends.flatMap fun e2 => ends.map fun e3 => crc3 c0 r0 r1 r2 r3 (e1, e2, e3) := rfl
  rw [e, xall_flat]
  simp only [xall_flat]
  have h3 : ∀ e1 e2, xall (ends.map fun e3 => crc3 c0 r0 r1 r2 r3 (e1, e2, e3)) = runC (runC (runC (runC c0 r0) (e1 ++ r1)) (e2 ++ r2)) ([13, 13] ++ r3) := fun e1 e2 => xall_ends _ _
  have h2 : ∀ e1, xall (ends.map fun e2 => xall (ends.map fun e3 => crc3 c0 r0 r1 r2 r3 (e1, e2, e3))) = runC (runC (runC c0 r0) (e1 ++ r1)) ([13, 13] ++ r2 ++ ([13, 13] ++ r3)) := fun e1 => by
    rw [show (fun e2 => xall (ends.map fun e3 => crc3 c0 r0 r1 r2 r3 (e1, e2, e3))) = fun e2 => runC (runC (runC (runC c0 r0) (e1 ++ r1)) (e2 ++ r2)) ([13, 13] ++ r3) from funext (h3 e1), xall_ends2, ← runC_append]
  rw [show (fun e1 => xall (ends.map fun e2 => xall (ends.map fun e3 => crc3 c0 r0 r1 r2 r3 (e1, e2, e3)))) = fun e1 => runC (runC (runC c0 r0) (e1 ++ r1)) ([13, 13] ++ r2 ++ ([13, 13] ++ r3)) from funext h2, xall_ends2, ← runC_append, ← runC_append]
  simp only [List.append_assoc]

def laid2 : List (List Nat) := [r2 ++ [13, 13] ++ r3]
def laid3 : List (List Nat) := (laid2 r2 r3).map (r1 ++ [13, 13] ++ ·) ++ (if r2.isEmpty then [r1 ++ [13, 10] ++ r3] else [])
def laid4 : List (List Nat) := (laid3 r1 r2 r3).map (r0 ++ [13, 13] ++ ·) ++ (if r1.isEmpty then (laid2 r2 r3).map (r0 ++ [13, 10] ++ ·) else [])

theorem gone_ff : (triples.filter fun e => !(!meets r1 r2 e.1 e.2.1 e.2.2)) = triples.filter fun e => (r1.isEmpty && e.1 == [13] && e.2.1 == [10]) || (r2.isEmpty && e.2.1 == [13] && e.2.2 == [10]) := by
  simp only [Bool.not_not, meets]
theorem gone1 : xall ([([13], [10], [10]), ([13], [10], [13]), ([13], [10], [13, 10])].map (crc3 c0 r0 [] r2 r3)) = runC c0 (r0 ++ [13, 10] ++ (r2 ++ [13, 13] ++ r3)) := by
  have h := xall_ends (runC (runC (runC c0 r0) ([13] ++ [])) ([10] ++ r2)) r3
  refine Eq.trans ?_ (h.trans ?_)
  · rfl
  · simp only [← runC_append]
    congr 1
    simp
theorem gone2 : xall ([([10], [13], [10]), ([13], [13], [10]), ([13, 10], [13], [10])].map (crc3 c0 r0 r1 [] r3)) = runC c0 (r0 ++ [13, 13] ++ (r1 ++ [13, 10] ++ r3)) := by
  have h := xall_ends2 (runC c0 r0) r1 ([13] ++ ([] : List Nat) ++ ([10] ++ r3))
  refine Eq.trans ?_ (h.trans ?_)
  · show xall [runC (runC (runC (runC c0 r0) ([10] ++ r1)) ([13] ++ [])) ([10] ++ r3), runC (runC (runC (runC c0 r0) ([13] ++ r1)) ([13] ++ [])) ([10] ++ r3), runC (runC (runC (runC c0 r0) ([13, 10] ++ r1)) ([13] ++ [])) ([10] ++ r3)]
      = xall [runC (runC (runC c0 r0) ([10] ++ r1)) ([13] ++ [] ++ ([10] ++ r3)), runC (runC (runC c0 r0) ([13] ++ r1)) ([13] ++ [] ++ ([10] ++ r3)), runC (runC (runC c0 r0) ([13, 10] ++ r1)) ([13] ++ [] ++ ([10] ++ r3))]
    simp only [runC_append]
  · simp only [← runC_append]
    congr 1
    simp

theorem sums (h0 : Plain r0) (h1 : Plain r1) (h2 : Plain r2) (h3 : Plain r3) :
    xall (((made c0 r0 r1 r2 r3).filter fun p => qd p.1 == qd (r0 ++ [13, 10] ++ r1 ++ [13, 10] ++ r2 ++ [13, 10] ++ r3)).map (·.2)) = xall ((laid4 r0 r1 r2 r3).map (runC c0)) := by
  rw [made_eq, List.filter_map, List.map_map]
  have hc : triples.filter ((fun p : List Nat × Nat => qd p.1 == qd (r0 ++ [13, 10] ++ r1 ++ [13, 10] ++ r2 ++ [13, 10] ++ r3)) ∘ fun e => (text r0 r1 r2 r3 e.1 e.2.1 e.2.2, crc3 c0 r0 r1 r2 r3 e)) = triples.filter fun e => !meets r1 r2 e.1 e.2.1 e.2.2 := by
    refine List.filter_congr fun e he => ?_
    have hm : e.1 ∈ ends ∧ e.2.1 ∈ ends ∧ e.2.2 ∈ ends := by
      unfold triples at he
      simp only [List.mem_flatMap, List.mem_map] at he
      obtain ⟨a, ha, b, hb, c, hc, rfl⟩ := he
      exact ⟨ha, hb, hc⟩
    exact qd_alone h0 h1 h2 h3 hm.1 hm.2.1 hm.2.2
  rw [hc]
  have hf : (Prod.snd ∘ fun e : List Nat × List Nat × List Nat => (text r0 r1 r2 r3 e.1 e.2.1 e.2.2, crc3 c0 r0 r1 r2 r3 e)) = crc3 c0 r0 r1 r2 r3 := rfl
  rw [hf, xall_split, all27, gone_ff]
  unfold laid4 laid3 laid2
  by_cases e1 : r1 = [] <;> by_cases e2 : r2 = []
  · subst e1 e2
    have e : (triples.filter fun e => (([] : List Nat).isEmpty && e.1 == [13] && e.2.1 == [10]) || (([] : List Nat).isEmpty && e.2.1 == [13] && e.2.2 == [10])) = [([10], [13], [10]), ([13], [10], [10]), ([13], [10], [13]), ([13], [10], [13, 10]), ([13], [13], [10]), ([13, 10], [13], [10])] := by decide
    rw [e]
    have g1 := gone1 c0 r0 [] r3
    have g2 := gone2 c0 r0 [] r3
    simp only [List.map_cons, List.map_nil, xall_cons, xall_nil, Nat.xor_zero, List.isEmpty_nil, if_true, List.map_append, List.append_nil, List.nil_append, List.cons_append] at g1 g2 ⊢
    rw [← g1, ← g2]
    simp only [Nat.xor_assoc, Nat.xor_comm, xlc]
  · subst e1
    have e2' : r2.isEmpty = false := by cases r2 <;> simp_all
    have e : (triples.filter fun e => (([] : List Nat).isEmpty && e.1 == [13] && e.2.1 == [10]) || (r2.isEmpty && e.2.1 == [13] && e.2.2 == [10])) = [([13], [10], [10]), ([13], [10], [13]), ([13], [10], [13, 10])] := by rw [e2']; decide
    rw [e, gone1, e2']
    simp only [List.map_cons, List.map_nil, xall_cons, xall_nil, Nat.xor_zero, List.isEmpty_nil, if_true, List.map_append, List.append_nil, List.nil_append, List.cons_append, Bool.false_eq_true, if_false]
  · subst e2
    have e1' : r1.isEmpty = false := by cases r1 <;> simp_all
    have e : (triples.filter fun e => (r1.isEmpty && e.1 == [13] && e.2.1 == [10]) || (([] : List Nat).isEmpty && e.2.1 == [13] && e.2.2 == [10])) = [([10], [13], [10]), ([13], [13], [10]), ([13, 10], [13], [10])] := by rw [e1']; decide
    rw [e, gone2, e1']
    simp only [List.map_cons, List.map_nil, xall_cons, xall_nil, Nat.xor_zero, List.isEmpty_nil, if_true, List.map_append, List.append_nil, List.nil_append, List.cons_append, Bool.false_eq_true, if_false]
  · have e1' : r1.isEmpty = false := by cases r1 <;> simp_all
    have e2' : r2.isEmpty = false := by cases r2 <;> simp_all
    have e : (triples.filter fun e => (r1.isEmpty && e.1 == [13] && e.2.1 == [10]) || (r2.isEmpty && e.2.1 == [13] && e.2.2 == [10])) = [] := by rw [e1', e2']; decide
    rw [e, e1', e2']
    simp only [List.map_cons, List.map_nil, xall_cons, xall_nil, Nat.xor_zero, List.isEmpty_nil, if_true, List.map_append, List.append_nil, List.nil_append, List.cons_append, Bool.false_eq_true, if_false]
end

end Mine

namespace Mine
open PySem.Sre

/-! ## the matcher on the two patterns -/
def codeN : Array Nat := #[14, 9, 4, 1, 2, 16, 10, 16, 13, 0, 7, 7, 16, 13, 16, 10, 15, 18, 5, 16, 10, 15, 13, 11, 16, 13, 5, 5, 0, 16, 10, 1, 15, 2, 0, 1]
def codeD : Array Nat := #[14, 4, 0, 1, 1, 6, 1, 16, 46, 1]

def mst (code text : Array Nat) (lim start : Nat) (must : Bool) (pc pos handed : Nat) (om : Bool) (frames : List Sre.Frame) (weight : Nat) (answer : Option Bool) (seen : Sre.Seen) (outcome : Option Sre.Outcome) : Sre.M :=
  { code, text, lim, start, lastStart := lim, wholeText := false, mustAdvance := must, pc, pos, handed, outermost := om, marks := #[], lastmark := -1, lastindex := -1, loops := #[], inner := none, frames, weight, answer, seen, outcome }
def fr (wait : Wait) (pc pos : Nat) (om : Bool) : Sre.Frame := { wait, pc, pos, outermost := om }

section
variable {code text : Array Nat} {lim start : Nat} {must : Bool} {pc pos handed : Nat} {om : Bool} {frames : List Sre.Frame} {weight : Nat} {seen : Sre.Seen}

theorem st_exec (hpc : pc < code.size) : (mst code text lim start must pc pos handed om frames weight none seen none).step = (mst code text lim start must pc pos handed om frames weight none seen none).exec := by
  unfold Sre.M.step mst
  simp only [Option.isSome_none, Bool.false_eq_true, if_false, hpc, if_true]

theorem st_lit_ok (hpc : pc < code.size) (hop : ops[code.getD pc 0]? = some .LITERAL) (hlt : pos < lim) (hc : text.getD pos 0 = code.getD (pc + 1) 0) :
    ∃ seen', (mst code text lim start must pc pos handed om frames weight none seen none).step = mst code text lim start must (pc + 2) (pos + 1) handed om frames weight none seen' none := by
  refine ⟨seen.add (code.getD pc 0), ?_⟩
  rw [st_exec hpc]
  unfold Sre.M.exec mst Sre.M.word
  simp only [Nat.add_zero, hop]
  rw [if_neg (by omega : ¬ pos ≥ lim)]
  unfold accepts
  simp only [hop, hc, beq_self_eq_true]
  unfold itemWidth
  simp only [hop]
theorem st_lit_end (hpc : pc < code.size) (hop : ops[code.getD pc 0]? = some .LITERAL) (hlt : lim ≤ pos) :
    ∃ seen', (mst code text lim start must pc pos handed om frames weight none seen none).step = mst code text lim start must pc pos handed om frames weight (some false) seen' none := by
  refine ⟨seen.add (code.getD pc 0), ?_⟩
  rw [st_exec hpc]
  unfold Sre.M.exec mst Sre.M.word Sre.M.say
  simp only [Nat.add_zero, hop]
  rw [if_pos hlt]
theorem st_lit_no (hpc : pc < code.size) (hop : ops[code.getD pc 0]? = some .LITERAL) (hlt : pos < lim) (hc : text.getD pos 0 ≠ code.getD (pc + 1) 0) :
    ∃ seen', (mst code text lim start must pc pos handed om frames weight none seen none).step = mst code text lim start must pc pos handed om frames weight (some false) seen' none := by
  refine ⟨seen.add (code.getD pc 0), ?_⟩
  rw [st_exec hpc]
  unfold Sre.M.exec mst Sre.M.word Sre.M.say
  simp only [Nat.add_zero, hop]
  rw [if_neg (by omega : ¬ pos ≥ lim)]
  unfold accepts
  have hb : (text.getD pos 0 == code.getD (pc + 1) 0) = false := beq_eq_false_iff_ne.mpr hc
  simp only [hop, hb]
theorem st_lit_fail (hpc : pc < code.size) (hop : ops[code.getD pc 0]? = some .LITERAL) (h : pos < lim → text.getD pos 0 ≠ code.getD (pc + 1) 0) :
    ∃ seen', (mst code text lim start must pc pos handed om frames weight none seen none).step = mst code text lim start must pc pos handed om frames weight (some false) seen' none := by
  by_cases hlt : pos < lim
  · exact st_lit_no hpc hop hlt (h hlt)
  · exact st_lit_end hpc hop (by omega)
theorem st_jump (hpc : pc < code.size) (hop : ops[code.getD pc 0]? = some .JUMP) :
    ∃ seen', (mst code text lim start must pc pos handed om frames weight none seen none).step = mst code text lim start must (pc + 1 + code.getD (pc + 1) 0) pos handed om frames weight none seen' none := by
  refine ⟨seen.add (code.getD pc 0), ?_⟩
  rw [st_exec hpc]
  unfold Sre.M.exec mst Sre.M.word
  simp only [Nat.add_zero, hop]
theorem st_branch (hpc : pc < code.size) (hop : ops[code.getD pc 0]? = some .BRANCH) (ha : code.getD (pc + 1) 0 ≠ 0) (hw : weight < 1000) :
    ∃ seen', (mst code text lim start must pc pos handed om frames weight none seen none).step = mst code text lim start must (pc + 2) pos pos om (fr .nextBranch (pc + 1) pos om :: frames) (weight + 1) none seen' none := by
  refine ⟨seen.add (code.getD pc 0), ?_⟩
  rw [st_exec hpc]
  unfold Sre.M.exec mst Sre.M.word
  simp only [Nat.add_zero, hop]
  unfold Sre.M.alternative
  have hb : (code.getD (pc + 1) 0 == 0) = false := beq_eq_false_iff_ne.mpr ha
  simp only [hb, Bool.false_eq_true, if_false]
  unfold Sre.M.attempt Sre.M.frame Sre.M.keep fr
  simp only [Option.isSome_none, Bool.false_eq_true, if_false]
  rw [if_neg (by simp; omega)]
  simp
theorem st_success (hpc : pc < code.size) (hop : ops[code.getD pc 0]? = some .SUCCESS) :
    ∃ seen', (mst code text lim start false pc pos handed om frames weight none seen none).step = mst code text lim start false pc pos pos om frames weight (some true) seen' none := by
  refine ⟨seen.add (code.getD pc 0), ?_⟩
  rw [st_exec hpc]
  unfold Sre.M.exec mst Sre.M.word Sre.M.say
  simp only [Nat.add_zero, hop]
  simp
theorem st_assertNot (hpc : pc < code.size) (hop : ops[code.getD pc 0]? = some .ASSERT_NOT) (h0 : code.getD (pc + 2) 0 = 0) (hw : weight < 1000) :
    ∃ seen', (mst code text lim start must pc pos handed om frames weight none seen none).step = mst code text lim start must (pc + 3) pos pos false (fr .lookNot pc pos om :: frames) (weight + 1) none seen' none := by
  refine ⟨seen.add (code.getD pc 0), ?_⟩
  rw [st_exec hpc]
  unfold Sre.M.exec mst Sre.M.word
  simp only [Nat.add_zero, hop, h0]
  rw [if_neg (by omega)]
  unfold Sre.M.attempt Sre.M.frame Sre.M.keep fr
  simp only [Option.isSome_none, Bool.and_false, Bool.false_eq_true, if_false, if_true, Nat.sub_zero]
  rw [if_neg (by simp; omega)]
  simp
theorem st_at_ok (hpc : pc < code.size) (hop : ops[code.getD pc 0]? = some .AT) (h1 : code.getD (pc + 1) 0 = 1) (h : pos = 0 ∨ text.getD (pos - 1) 0 = 10) :
    ∃ seen', (mst code text lim start must pc pos handed om frames weight none seen none).step = mst code text lim start must (pc + 2) pos handed om frames weight none seen' none := by
  refine ⟨(seen.add (code.getD pc 0)).add (43 + 1), ?_⟩
  rw [st_exec hpc]
  unfold Sre.M.exec mst Sre.M.word
  simp only [Nat.add_zero, hop, h1]
  unfold Sre.M.isAt
  have hb : (pos == 0 || text.getD (pos - 1) 0 == 10) = true := by
    rcases h with h | h
    · simp [h]
    · rw [h]; simp
  simp only [hb, if_true]
theorem st_at_no (hpc : pc < code.size) (hop : ops[code.getD pc 0]? = some .AT) (h1 : code.getD (pc + 1) 0 = 1) (h : ¬ (pos = 0 ∨ text.getD (pos - 1) 0 = 10)) :
    ∃ seen', (mst code text lim start must pc pos handed om frames weight none seen none).step = mst code text lim start must pc pos handed om frames weight (some false) seen' none := by
  refine ⟨(seen.add (code.getD pc 0)).add (43 + 1), ?_⟩
  rw [st_exec hpc]
  unfold Sre.M.exec mst Sre.M.word Sre.M.say
  simp only [Nat.add_zero, hop, h1]
  unfold Sre.M.isAt
  have hb : (pos == 0 || text.getD (pos - 1) 0 == 10) = false := by
    rw [not_or] at h
    rw [Bool.or_eq_false_iff]
    exact ⟨beq_eq_false_iff_ne.mpr h.1, beq_eq_false_iff_ne.mpr h.2⟩
  simp only [hb, Bool.false_eq_true, if_false]

theorem st_back_branch_no {alt p : Nat} {o : Bool} (ha : code.getD (alt + code.getD alt 0) 0 ≠ 0) (hw : 1 ≤ weight ∧ weight < 1000) :
    (mst code text lim start must pc pos handed om (fr .nextBranch alt p o :: frames) weight (some false) seen none).step = mst code text lim start must (alt + code.getD alt 0 + 1) p p o (fr .nextBranch (alt + code.getD alt 0) p o :: frames) weight none seen none := by
  unfold Sre.M.step mst fr
  simp only [Option.isSome_none, Bool.false_eq_true, if_false]
  unfold Sre.M.resume Sre.M.putBack
  simp only [Bool.false_eq_true, if_false]
  unfold Sre.M.alternative
  have hb : (code.getD (alt + code.getD alt 0) 0 == 0) = false := beq_eq_false_iff_ne.mpr ha
  simp only [hb, Bool.false_eq_true, if_false]
  unfold Sre.M.attempt Sre.M.frame
  simp only
  rw [if_neg (by simp; omega)]
  have e : weight - (1 + (#[] : Array (Option Nat)).size) + 1 + (#[] : Array (Option Nat)).size = weight := by simp; omega
  simp only [e]
theorem st_back_yes {w : Wait} (hw : w = .nextBranch ∨ w = .nextStart) {alt p : Nat} {o : Bool} :
    (mst code text lim start must pc pos handed om (fr w alt p o :: frames) weight (some true) seen none).step = mst code text lim start must alt p handed o frames (weight - 1) (some true) seen none := by
  unfold Sre.M.step mst fr
  simp only [Option.isSome_none, Bool.false_eq_true, if_false]
  unfold Sre.M.resume Sre.M.say
  rcases hw with rfl | rfl <;> simp
theorem st_back_lookNot {alt p : Nat} {o : Bool} (hw : 1 ≤ weight ∧ weight < 1000) :
    (mst code text lim start must pc pos handed om (fr .lookNot alt p o :: frames) weight (some false) seen none).step = mst code text lim start must (alt + 1 + code.getD (alt + 1) 0) p handed o frames (weight - 1) none seen none := by
  unfold Sre.M.step mst fr
  simp only [Option.isSome_none, Bool.false_eq_true, if_false]
  unfold Sre.M.resume Sre.M.putBack Sre.M.word
  simp
theorem st_end {b : Bool} : (mst code text lim start must pc pos handed om [] weight (some b) seen none).step = mst code text lim start must pc pos handed om [] weight (some b) seen (some (if b then .matched else .failed)) := by
  unfold Sre.M.step mst
  simp only [Option.isSome_none, Bool.false_eq_true, if_false]
theorem st_next_none {alt p : Nat} {o : Bool} (h : lim ≤ p) :
    (mst code text lim start must pc pos handed om (fr .nextStart alt p o :: frames) weight (some false) seen none).step = mst code text lim start must alt p handed o frames (weight - 1) (some false) seen none := by
  unfold Sre.M.step mst fr
  simp only [Option.isSome_none, Bool.false_eq_true, if_false]
  unfold Sre.M.resume Sre.M.say
  simp only [Bool.false_eq_true, if_false]
  rw [if_neg (by omega)]
  simp
theorem st_next {alt p : Nat} {o : Bool} (h : p < lim) (hf : ops[code.getD 0 0]? = some .INFO) (h2 : code.getD 2 0 = 0) (hw : 1 ≤ weight ∧ weight < 1000) :
    (mst code text lim start must pc pos handed om (fr .nextStart alt p o :: frames) weight (some false) seen none).step = mst code text lim (p + 1) false alt (p + 1) (p + 1) false (fr .nextStart alt (p + 1) false :: frames) weight none seen none := by
  unfold Sre.M.step mst fr
  simp only [Option.isSome_none, Bool.false_eq_true, if_false]
  unfold Sre.M.resume
  simp only [Bool.false_eq_true, if_false]
  rw [if_pos h]
  unfold Sre.M.attemptFrom Sre.M.hasFirstSet
  simp only [hf, h2]
  rw [if_pos (by decide)]
  unfold Sre.M.attemptAt Sre.M.attempt
  simp only
  rw [if_neg (by simp; omega)]
  have e : weight - (1 + (#[] : Array (Option Nat)).size) + 1 + (#[] : Array (Option Nat)).size = weight := by simp; omega
  simp only [e]
end

/-! runs -/
theorem runFor_succ (n : Nat) (m : Sre.M) (h : m.outcome = none) : Sre.M.runFor (n + 1) m = Sre.M.runFor n m.step := by
  show (if m.outcome.isSome = true then m else Sre.M.runFor n m.step) = _
  rw [h]; rfl
theorem runFor_done : ∀ (n : Nat) (m : Sre.M), m.outcome.isSome = true → Sre.M.runFor n m = m
  | 0, _, _ => rfl
  | n + 1, m, h => by
    show (if m.outcome.isSome = true then m else Sre.M.runFor n m.step) = m
    rw [if_pos h]
theorem runFor_add : ∀ (a b : Nat) (m : Sre.M), Sre.M.runFor (a + b) m = Sre.M.runFor b (Sre.M.runFor a m)
  | 0, b, m => by rw [Nat.zero_add]; rfl
  | a + 1, b, m => by
    rw [show a + 1 + b = (a + b) + 1 by omega]
    show (if m.outcome.isSome = true then m else Sre.M.runFor (a + b) m.step) = Sre.M.runFor b (if m.outcome.isSome = true then m else Sre.M.runFor a m.step)
    split
    · rename_i h; rw [runFor_done b m h]
    · exact runFor_add a b m.step

/-- from m the matcher ends, within n steps, at an m' of which P holds -/
def Ends (n : Nat) (m : Sre.M) (P : Sre.M → Prop) : Prop := (Sre.M.runFor n m).outcome.isSome = true ∧ P (Sre.M.runFor n m)
theorem Ends.step {n : Nat} {m : Sre.M} {P : Sre.M → Prop} (h : m.outcome = none) (x : Ends n m.step P) : Ends (n + 1) m P := by
  unfold Ends; rw [runFor_succ n m h]; exact x
theorem Ends.now {m : Sre.M} {P : Sre.M → Prop} (h : m.outcome.isSome = true) (x : P m) : Ends 0 m P := ⟨h, x⟩
theorem Ends.more {n k : Nat} {m : Sre.M} {P : Sre.M → Prop} (x : Ends n m P) (h : n ≤ k) : Ends k m P := by
  have e : Sre.M.runFor k m = Sre.M.runFor n m := by
    rw [show k = n + (k - n) by omega, runFor_add, runFor_done _ _ x.1]
  unfold Ends; rw [e]; exact x
theorem Ends.to {n : Nat} {m m' : Sre.M} {P : Sre.M → Prop} (h : m.outcome = none) (e : m.step = m') (x : Ends n m' P) : Ends (n + 1) m P := Ends.step h (e ▸ x)

end Mine

namespace Mine
open PySem.Sre

def NL (text : Array Nat) (i : Nat) : Prop := text.getD i 0 = 10 ∨ text.getD i 0 = 13
def nlLen (text : Array Nat) (lim p : Nat) : Nat := if text.getD p 0 = 13 ∧ p + 1 < lim ∧ text.getD (p + 1) 0 = 10 then 2 else 1

def Found (p q : Nat) (m : Sre.M) : Prop := m.outcome = some .matched ∧ m.start = p ∧ m.handed = q

theorem N_yes {text : Array Nat} {lim p : Nat} {seen : Sre.Seen} {pos q : Nat} {alt1 : Nat} {rest : List Sre.Frame} :
    Ends 4 (mst codeN text lim p false 35 q p true [fr .nextBranch alt1 p true, fr .nextStart 10 p true] 2 none seen none) (Found p q) := by
  obtain ⟨s1, e1⟩ := st_success (code := codeN) (text := text) (lim := lim) (start := p) (pc := 35) (pos := q) (handed := p) (om := true) (frames := [fr .nextBranch alt1 p true, fr .nextStart 10 p true]) (weight := 2) (seen := seen) (by decide) rfl
  refine Ends.to rfl e1 ?_
  refine Ends.to rfl (st_back_yes (.inl rfl)) ?_
  refine Ends.to rfl (st_back_yes (.inr rfl)) ?_
  refine Ends.to rfl st_end ?_
  exact Ends.now rfl ⟨rfl, rfl, rfl⟩

theorem N_match {text : Array Nat} {lim p : Nat} {seen : Sre.Seen} (hp : p < lim) (hc : NL text p) :
    Ends 20 (mst codeN text lim p false 10 p p true [fr .nextStart 10 p true] 1 none seen none) (Found p (p + nlLen text lim p)) := by
  obtain ⟨s1, e1⟩ := st_branch (code := codeN) (text := text) (lim := lim) (start := p) (must := false) (pc := 10) (pos := p) (handed := p) (om := true) (frames := [fr .nextStart 10 p true]) (weight := 1) (seen := seen) (by decide) rfl (by decide) (by decide)
  refine Ends.to rfl e1 ?_
  rcases hc with hc | hc
  · have hlen : nlLen text lim p = 1 := by unfold nlLen; rw [if_neg (by rw [hc]; simp)]
    rw [hlen]
    obtain ⟨s2, e2⟩ := st_lit_no (code := codeN) (text := text) (lim := lim) (start := p) (must := false) (pc := 12) (pos := p) (handed := p) (om := true) (frames := [fr .nextBranch 11 p true, fr .nextStart 10 p true]) (weight := 2) (seen := s1) (by decide) rfl hp (by rw [hc]; decide)
    refine Ends.to rfl e2 ?_
    refine Ends.to rfl (st_back_branch_no (by decide) (by decide)) ?_
    obtain ⟨s3, e3⟩ := st_lit_ok (code := codeN) (text := text) (lim := lim) (start := p) (must := false) (pc := 19) (pos := p) (handed := p) (om := true) (frames := [fr .nextBranch 18 p true, fr .nextStart 10 p true]) (weight := 2) (seen := s2) (by decide) rfl hp (by rw [hc]; rfl)
    refine Ends.to rfl e3 ?_
    obtain ⟨s4, e4⟩ := st_jump (code := codeN) (text := text) (lim := lim) (start := p) (must := false) (pc := 21) (pos := p + 1) (handed := p) (om := true) (frames := [fr .nextBranch 18 p true, fr .nextStart 10 p true]) (weight := 2) (seen := s3) (by decide) rfl
    refine Ends.to rfl e4 ?_
    exact Ends.more (N_yes (pos := p) (rest := [])) (by decide)
  · obtain ⟨s2, e2⟩ := st_lit_ok (code := codeN) (text := text) (lim := lim) (start := p) (must := false) (pc := 12) (pos := p) (handed := p) (om := true) (frames := [fr .nextBranch 11 p true, fr .nextStart 10 p true]) (weight := 2) (seen := s1) (by decide) rfl hp (by rw [hc]; rfl)
    refine Ends.to rfl e2 ?_
    by_cases h2 : p + 1 < lim ∧ text.getD (p + 1) 0 = 10
    · have hlen : nlLen text lim p = 2 := by unfold nlLen; rw [if_pos ⟨hc, h2⟩]
      rw [hlen]
      obtain ⟨s3, e3⟩ := st_lit_ok (code := codeN) (text := text) (lim := lim) (start := p) (must := false) (pc := 14) (pos := p + 1) (handed := p) (om := true) (frames := [fr .nextBranch 11 p true, fr .nextStart 10 p true]) (weight := 2) (seen := s2) (by decide) rfl h2.1 (by rw [h2.2]; rfl)
      refine Ends.to rfl e3 ?_
      obtain ⟨s4, e4⟩ := st_jump (code := codeN) (text := text) (lim := lim) (start := p) (must := false) (pc := 16) (pos := p + 1 + 1) (handed := p) (om := true) (frames := [fr .nextBranch 11 p true, fr .nextStart 10 p true]) (weight := 2) (seen := s3) (by decide) rfl
      refine Ends.to rfl e4 ?_
      exact Ends.more (N_yes (pos := p) (rest := [])) (by decide)
    · have hlen : nlLen text lim p = 1 := by unfold nlLen; rw [if_neg (fun h => h2 h.2)]
      rw [hlen]
      have hno : p + 1 < lim → text.getD (p + 1) 0 ≠ 10 := fun h e => h2 ⟨h, e⟩
      obtain ⟨s3, e3⟩ := st_lit_fail (code := codeN) (text := text) (lim := lim) (start := p) (must := false) (pc := 14) (pos := p + 1) (handed := p) (om := true) (frames := [fr .nextBranch 11 p true, fr .nextStart 10 p true]) (weight := 2) (seen := s2) (by decide) rfl hno
      refine Ends.to rfl e3 ?_
      refine Ends.to rfl (st_back_branch_no (by decide) (by decide)) ?_
      obtain ⟨s4, e4⟩ := st_lit_no (code := codeN) (text := text) (lim := lim) (start := p) (must := false) (pc := 19) (pos := p) (handed := p) (om := true) (frames := [fr .nextBranch 18 p true, fr .nextStart 10 p true]) (weight := 2) (seen := s3) (by decide) rfl hp (by rw [hc]; decide)
      refine Ends.to rfl e4 ?_
      refine Ends.to rfl (st_back_branch_no (by decide) (by decide)) ?_
      obtain ⟨s5, e5⟩ := st_lit_ok (code := codeN) (text := text) (lim := lim) (start := p) (must := false) (pc := 24) (pos := p) (handed := p) (om := true) (frames := [fr .nextBranch 23 p true, fr .nextStart 10 p true]) (weight := 2) (seen := s4) (by decide) rfl hp (by rw [hc]; rfl)
      refine Ends.to rfl e5 ?_
      obtain ⟨s6, e6⟩ := st_assertNot (code := codeN) (text := text) (lim := lim) (start := p) (must := false) (pc := 26) (pos := p + 1) (handed := p) (om := true) (frames := [fr .nextBranch 23 p true, fr .nextStart 10 p true]) (weight := 2) (seen := s5) (by decide) rfl (by decide) (by decide)
      refine Ends.to rfl e6 ?_
      obtain ⟨s7, e7⟩ := st_lit_fail (code := codeN) (text := text) (lim := lim) (start := p) (must := false) (pc := 29) (pos := p + 1) (handed := p + 1) (om := false) (frames := [fr .lookNot 26 (p + 1) true, fr .nextBranch 23 p true, fr .nextStart 10 p true]) (weight := 3) (seen := s6) (by decide) rfl hno
      refine Ends.to rfl e7 ?_
      refine Ends.to rfl (st_back_lookNot (by decide)) ?_
      obtain ⟨s8, e8⟩ := st_jump (code := codeN) (text := text) (lim := lim) (start := p) (must := false) (pc := 32) (pos := p + 1) (handed := p + 1) (om := true) (frames := [fr .nextBranch 23 p true, fr .nextStart 10 p true]) (weight := 2) (seen := s7) (by decide) rfl
      refine Ends.to rfl e8 ?_
      obtain ⟨s9, e9⟩ := st_success (code := codeN) (text := text) (lim := lim) (start := p) (pc := 35) (pos := p + 1) (handed := p + 1) (om := true) (frames := [fr .nextBranch 23 p true, fr .nextStart 10 p true]) (weight := 2) (seen := s8) (by decide) rfl
      refine Ends.to rfl e9 ?_
      refine Ends.to rfl (st_back_yes (.inl rfl)) ?_
      refine Ends.to rfl (st_back_yes (.inr rfl)) ?_
      refine Ends.to rfl st_end ?_
      exact Ends.more (Ends.now rfl ⟨rfl, rfl, rfl⟩) (by decide)

theorem inSet_N (c : Nat) (seen : Sre.Seen) : ∃ seen', inSet codeN c codeN.size 5 true seen = .ok (decide (c = 10 ∨ c = 13), seen') := by
  rw [show codeN.size = 33 + 1 + 1 + 1 from rfl]
  unfold inSet
  simp only [show ops[codeN.getD (5 + 0) 0]? = some .LITERAL from rfl, show codeN.getD (5 + 1) 0 = 10 from rfl]
  generalize seen.add (codeN.getD (5 + 0) 0) = seen1
  by_cases h1 : c = 10
  · subst h1
    exact ⟨seen1, rfl⟩
  · rw [if_neg (by simpa using h1)]
    unfold inSet
    simp only [show ops[codeN.getD (5 + 2 + 0) 0]? = some .LITERAL from rfl, show codeN.getD (5 + 2 + 1) 0 = 13 from rfl]
    generalize seen1.add (codeN.getD (5 + 2 + 0) 0) = seen2
    by_cases h2 : c = 13
    · subst h2
      exact ⟨seen2, rfl⟩
    · rw [if_neg (by simpa using h2)]
      unfold inSet
      simp only [show ops[codeN.getD (5 + 2 + 2 + 0) 0]? = some .FAILURE from rfl]
      generalize seen2.add (codeN.getD (5 + 2 + 2 + 0) 0) = seen3
      refine ⟨seen3, ?_⟩
      rw [decide_eq_false (by rw [not_or]; exact ⟨h1, h2⟩)]
      rfl

theorem admitted_N {m : Sre.M} (hm : m.code = codeN) : ∀ (fuel s : Nat) (seen : Sre.Seen), m.lim + 1 ≤ fuel + s →
    (∃ p seen', s ≤ p ∧ p < m.lim ∧ NL m.text p ∧ (∀ i, s ≤ i → i < p → ¬ NL m.text i) ∧ m.admitted fuel s seen = .ok (some p, seen')) ∨
    (∃ seen', (∀ i, s ≤ i → i < m.lim → ¬ NL m.text i) ∧ m.admitted fuel s seen = .ok (none, seen'))
  | 0, s, seen, h => .inr ⟨seen, fun i h1 h2 => by omega, rfl⟩
  | fuel + 1, s, seen, h => by
    by_cases hs : m.lim ≤ s
    · refine .inr ⟨seen, fun i h1 h2 => by omega, ?_⟩
      unfold Sre.M.admitted
      rw [if_pos hs]
    · obtain ⟨seen', e⟩ := inSet_N (m.text.getD s 0) seen
      by_cases hc : NL m.text s
      · refine .inl ⟨s, seen', Nat.le_refl _, by omega, hc, fun i h1 h2 => by omega, ?_⟩
        unfold Sre.M.admitted
        rw [if_neg hs, hm, e, decide_eq_true (show m.text.getD s 0 = 10 ∨ m.text.getD s 0 = 13 from hc)]
      · have e' : m.admitted (fuel + 1) s seen = m.admitted fuel (s + 1) seen' := by
          conv => lhs; unfold Sre.M.admitted
          rw [if_neg hs, hm, e, decide_eq_false (show ¬ (m.text.getD s 0 = 10 ∨ m.text.getD s 0 = 13) from hc)]
        rw [e']
        rcases admitted_N hm fuel (s + 1) seen' (by omega) with ⟨p, s2, h1, h2, h3, h4, h5⟩ | ⟨s2, h4, h5⟩
        · refine .inl ⟨p, s2, by omega, h2, h3, fun i hi hi2 => ?_, h5⟩
          by_cases hi3 : i = s
          · subst hi3; exact hc
          · exact h4 i (by omega) hi2
        · refine .inr ⟨s2, fun i hi hi2 => ?_, h5⟩
          by_cases hi3 : i = s
          · subst hi3; exact hc
          · exact h4 i (by omega) hi2

theorem forSearch_N_end {text : Array Nat} {pos lim : Nat} {must : Bool} (h : lim ≤ pos) : ∃ m, forSearch codeN text 0 pos lim must = m ∧ m.outcome = none ∧ m.answer = some false ∧ m.frames = [] := by
  refine ⟨_, rfl, ?_⟩
  have e : forSearch codeN text 0 pos lim must = if (decide (pos > lim) || decide (lim - pos < 1)) = true then ({ mst codeN text lim pos must 10 pos pos true [] 0 none (({} : Sre.Seen).add 14) none with lastStart := 0 } : Sre.M).say false
      else (mst codeN text lim pos must 10 pos pos true [] 0 none (({} : Sre.Seen).add 14) none).attemptFrom pos true := rfl
  rw [e, if_pos (by rw [Bool.or_eq_true, decide_eq_true_eq, decide_eq_true_eq]; omega)]
  exact ⟨rfl, rfl, rfl⟩
theorem forSearch_N {text : Array Nat} {pos lim : Nat} {must : Bool} (h : pos < lim) : forSearch codeN text 0 pos lim must = (mst codeN text lim pos must 10 pos pos true [] 0 none (({} : Sre.Seen).add 14) none).attemptFrom pos true := by
  have e : forSearch codeN text 0 pos lim must = if (decide (pos > lim) || decide (lim - pos < 1)) = true then ({ mst codeN text lim pos must 10 pos pos true [] 0 none (({} : Sre.Seen).add 14) none with lastStart := 0 } : Sre.M).say false
      else (mst codeN text lim pos must 10 pos pos true [] 0 none (({} : Sre.Seen).add 14) none).attemptFrom pos true := rfl
  rw [e, if_neg (by rw [Bool.or_eq_true, decide_eq_true_eq, decide_eq_true_eq]; omega)]

theorem ends_false {m : Sre.M} (h1 : m.outcome = none) (h2 : m.answer = some false) (h3 : m.frames = []) : Ends 1 m (fun m => m.outcome = some .failed) := by
  have e : m.step = { m with outcome := some .failed } := by
    unfold Sre.M.step
    rw [h1, h2, h3]
    rfl
  refine Ends.to h1 e ?_
  exact Ends.now rfl rfl

theorem search_N {text : Array Nat} {pos lim : Nat} {must : Bool} (hle : pos ≤ lim) :
    (∃ p, pos ≤ p ∧ p < lim ∧ NL text p ∧ (∀ i, pos ≤ i → i < p → ¬ NL text i) ∧ Ends 20 (forSearch codeN text 0 pos lim must) (Found p (p + nlLen text lim p))) ∨
    ((∀ i, pos ≤ i → i < lim → ¬ NL text i) ∧ Ends 20 (forSearch codeN text 0 pos lim must) (fun m => m.outcome = some .failed)) := by
  by_cases hlt : pos < lim
  · rw [forSearch_N hlt]
    have hfs : (mst codeN text lim pos must 10 pos pos true [] 0 none (({} : Sre.Seen).add 14) none).hasFirstSet = true := rfl
    rcases admitted_N (m := mst codeN text lim pos must 10 pos pos true [] 0 none (({} : Sre.Seen).add 14) none) rfl (lim + 1 - pos) pos (({} : Sre.Seen).add 14) (by show lim + 1 ≤ lim + 1 - pos + pos; omega) with ⟨p, s2, h1, h2, h3, h4, h5⟩ | ⟨s2, h4, h5⟩
    · refine .inl ⟨p, h1, h2, h3, h4, ?_⟩
      have e : (mst codeN text lim pos must 10 pos pos true [] 0 none (({} : Sre.Seen).add 14) none).attemptFrom pos true = mst codeN text lim p false 10 p p true [fr .nextStart 10 p true] 1 none s2 none := by
        unfold Sre.M.attemptFrom
        rw [hfs]
        simp only [Bool.not_true, Bool.false_eq_true, if_false]
        have h5' : (mst codeN text lim pos must 10 pos pos true [] 0 none (({} : Sre.Seen).add 14) none).admitted ((mst codeN text lim pos must 10 pos pos true [] 0 none (({} : Sre.Seen).add 14) none).lim + 1 - pos) pos (mst codeN text lim pos must 10 pos pos true [] 0 none (({} : Sre.Seen).add 14) none).seen = .ok (some p, s2) := h5
        rw [h5']
        rfl
      rw [e]
      exact N_match h2 h3
    · refine .inr ⟨h4, ?_⟩
      have e : (mst codeN text lim pos must 10 pos pos true [] 0 none (({} : Sre.Seen).add 14) none).attemptFrom pos true = mst codeN text lim pos must 10 pos pos true [] 0 (some false) s2 none := by
        unfold Sre.M.attemptFrom
        rw [hfs]
        simp only [Bool.not_true, Bool.false_eq_true, if_false]
        have h5' : (mst codeN text lim pos must 10 pos pos true [] 0 none (({} : Sre.Seen).add 14) none).admitted ((mst codeN text lim pos must 10 pos pos true [] 0 none (({} : Sre.Seen).add 14) none).lim + 1 - pos) pos (mst codeN text lim pos must 10 pos pos true [] 0 none (({} : Sre.Seen).add 14) none).seen = .ok (none, s2) := h5
        rw [h5']
        rfl
      rw [e]
      exact Ends.more (ends_false rfl rfl rfl) (by decide)
  · obtain ⟨m, e, h1, h2, h3⟩ := forSearch_N_end (text := text) (pos := pos) (lim := lim) (must := must) (by omega)
    rw [e]
    exact .inr ⟨fun i h1 h2 => by omega, Ends.more (ends_false h1 h2 h3) (by decide)⟩

/-! the other pattern: a dot at a row's front -/
def Hit (text : Array Nat) (i : Nat) : Prop := (i = 0 ∨ text.getD (i - 1) 0 = 10) ∧ text.getD i 0 = 46

theorem D_from {text : Array Nat} {lim : Nat} : ∀ (k p : Nat) (om : Bool) (seen : Sre.Seen), lim - p = k → p ≤ lim →
    (∃ q, p ≤ q ∧ q < lim ∧ Hit text q ∧ (∀ i, p ≤ i → i < q → ¬ Hit text i) ∧ Ends (5 * (k + 1)) (mst codeD text lim p false 5 p p om [fr .nextStart 5 p om] 1 none seen none) (Found q (q + 1))) ∨
    ((∀ i, p ≤ i → i < lim → ¬ Hit text i) ∧ Ends (5 * (k + 1)) (mst codeD text lim p false 5 p p om [fr .nextStart 5 p om] 1 none seen none) (fun m => m.outcome = some .failed)) := by
  intro k
  induction k with
  | zero =>
    intro p om seen hk hp
    have hpl : p = lim := by omega
    refine .inr ⟨fun i h1 h2 => by omega, ?_⟩
    have fin : ∀ pc seen', Ends 2 (mst codeD text lim p false pc p p om [fr .nextStart 5 p om] 1 (some false) seen' none) (fun m => m.outcome = some .failed) := fun pc seen' =>
      Ends.to rfl (st_next_none (by omega)) (Ends.to rfl st_end (Ends.now rfl rfl))
    by_cases hat : p = 0 ∨ text.getD (p - 1) 0 = 10
    · obtain ⟨s1, e1⟩ := st_at_ok (code := codeD) (text := text) (lim := lim) (start := p) (must := false) (pc := 5) (pos := p) (handed := p) (om := om) (frames := [fr .nextStart 5 p om]) (weight := 1) (seen := seen) (by decide) rfl rfl hat
      obtain ⟨s2, e2⟩ := st_lit_end (code := codeD) (text := text) (lim := lim) (start := p) (must := false) (pc := 7) (pos := p) (handed := p) (om := om) (frames := [fr .nextStart 5 p om]) (weight := 1) (seen := s1) (by decide) rfl (by omega)
      exact Ends.more (Ends.to rfl e1 (Ends.to rfl e2 (fin _ _))) (by decide)
    · obtain ⟨s1, e1⟩ := st_at_no (code := codeD) (text := text) (lim := lim) (start := p) (must := false) (pc := 5) (pos := p) (handed := p) (om := om) (frames := [fr .nextStart 5 p om]) (weight := 1) (seen := seen) (by decide) rfl rfl hat
      exact Ends.more (Ends.to rfl e1 (fin _ _)) (by decide)
  | succ k ih =>
    intro p om seen hk hp
    have hlt : p < lim := by omega
    have again : ∀ pc seen', ¬ Hit text p →
        (∃ q, p ≤ q ∧ q < lim ∧ Hit text q ∧ (∀ i, p ≤ i → i < q → ¬ Hit text i) ∧ Ends (5 * (k + 1) + 1) (mst codeD text lim p false pc p p om [fr .nextStart 5 p om] 1 (some false) seen' none) (Found q (q + 1))) ∨
        ((∀ i, p ≤ i → i < lim → ¬ Hit text i) ∧ Ends (5 * (k + 1) + 1) (mst codeD text lim p false pc p p om [fr .nextStart 5 p om] 1 (some false) seen' none) (fun m => m.outcome = some .failed)) := by
      intro pc seen' hnh
      rcases ih (p + 1) false seen' (by omega) (by omega) with ⟨q, h1, h2, h3, h4, h5⟩ | ⟨h4, h5⟩
      · refine .inl ⟨q, by omega, h2, h3, fun i hi hi2 => ?_, Ends.to rfl (st_next hlt rfl rfl (by decide)) h5⟩
        by_cases hi3 : i = p
        · subst hi3; exact hnh
        · exact h4 i (by omega) hi2
      · refine .inr ⟨fun i hi hi2 => ?_, Ends.to rfl (st_next hlt rfl rfl (by decide)) h5⟩
        by_cases hi3 : i = p
        · subst hi3; exact hnh
        · exact h4 i (by omega) hi2
    by_cases hat : p = 0 ∨ text.getD (p - 1) 0 = 10
    · obtain ⟨s1, e1⟩ := st_at_ok (code := codeD) (text := text) (lim := lim) (start := p) (must := false) (pc := 5) (pos := p) (handed := p) (om := om) (frames := [fr .nextStart 5 p om]) (weight := 1) (seen := seen) (by decide) rfl rfl hat
      by_cases hd : text.getD p 0 = 46
      · refine .inl ⟨p, Nat.le_refl _, hlt, ⟨hat, hd⟩, fun i h1 h2 => by omega, ?_⟩
        obtain ⟨s2, e2⟩ := st_lit_ok (code := codeD) (text := text) (lim := lim) (start := p) (must := false) (pc := 7) (pos := p) (handed := p) (om := om) (frames := [fr .nextStart 5 p om]) (weight := 1) (seen := s1) (by decide) rfl hlt (by rw [hd]; rfl)
        obtain ⟨s3, e3⟩ := st_success (code := codeD) (text := text) (lim := lim) (start := p) (pc := 9) (pos := p + 1) (handed := p) (om := om) (frames := [fr .nextStart 5 p om]) (weight := 1) (seen := s2) (by decide) rfl
        refine Ends.more (Ends.to rfl e1 (Ends.to rfl e2 (Ends.to rfl e3 (Ends.to rfl (st_back_yes (.inr rfl)) (Ends.to rfl st_end (Ends.now rfl ⟨rfl, rfl, rfl⟩)))))) (by omega)
      · obtain ⟨s2, e2⟩ := st_lit_no (code := codeD) (text := text) (lim := lim) (start := p) (must := false) (pc := 7) (pos := p) (handed := p) (om := om) (frames := [fr .nextStart 5 p om]) (weight := 1) (seen := s1) (by decide) rfl hlt (by intro e; exact hd e)
        rcases again 7 s2 (fun h => hd h.2) with ⟨q, h1, h2, h3, h4, h5⟩ | ⟨h4, h5⟩
        · exact .inl ⟨q, h1, h2, h3, h4, Ends.more (Ends.to rfl e1 (Ends.to rfl e2 h5)) (by omega)⟩
        · exact .inr ⟨h4, Ends.more (Ends.to rfl e1 (Ends.to rfl e2 h5)) (by omega)⟩
    · obtain ⟨s1, e1⟩ := st_at_no (code := codeD) (text := text) (lim := lim) (start := p) (must := false) (pc := 5) (pos := p) (handed := p) (om := om) (frames := [fr .nextStart 5 p om]) (weight := 1) (seen := seen) (by decide) rfl rfl hat
      rcases again 5 s1 (fun h => hat h.1) with ⟨q, h1, h2, h3, h4, h5⟩ | ⟨h4, h5⟩
      · exact .inl ⟨q, h1, h2, h3, h4, Ends.more (Ends.to rfl e1 h5) (by omega)⟩
      · exact .inr ⟨h4, Ends.more (Ends.to rfl e1 h5) (by omega)⟩

theorem search_D {text : Array Nat} {pos lim : Nat} (hle : pos ≤ lim) :
    (∃ p, pos ≤ p ∧ p < lim ∧ Hit text p ∧ (∀ i, pos ≤ i → i < p → ¬ Hit text i) ∧ Ends (5 * (lim + 1)) (forSearch codeD text 0 pos lim false) (Found p (p + 1))) ∨
    ((∀ i, pos ≤ i → i < lim → ¬ Hit text i) ∧ Ends (5 * (lim + 1)) (forSearch codeD text 0 pos lim false) (fun m => m.outcome = some .failed)) := by
  have e : forSearch codeD text 0 pos lim false = if (decide (pos > lim) || decide (lim - pos < 1)) = true then ({ mst codeD text lim pos false 5 pos pos true [] 0 none (({} : Sre.Seen).add 14) none with lastStart := 0 } : Sre.M).say false
      else (mst codeD text lim pos false 5 pos pos true [] 0 none (({} : Sre.Seen).add 14) none).attemptFrom pos true := rfl
  by_cases hlt : pos < lim
  · rw [e, if_neg (by rw [Bool.or_eq_true, decide_eq_true_eq, decide_eq_true_eq]; omega)]
    have e2 : (mst codeD text lim pos false 5 pos pos true [] 0 none (({} : Sre.Seen).add 14) none).attemptFrom pos true = mst codeD text lim pos false 5 pos pos true [fr .nextStart 5 pos true] 1 none (({} : Sre.Seen).add 14) none := rfl
    rw [e2]
    rcases D_from (text := text) (lim := lim) (lim - pos) pos true (({} : Sre.Seen).add 14) rfl hle with ⟨q, h1, h2, h3, h4, h5⟩ | ⟨h4, h5⟩
    · exact .inl ⟨q, h1, h2, h3, h4, h5.more (by omega)⟩
    · exact .inr ⟨h4, h5.more (by omega)⟩
  · rw [e, if_pos (by rw [Bool.or_eq_true, decide_eq_true_eq, decide_eq_true_eq]; omega)]
    exact .inr ⟨fun i h1 h2 => by omega, Ends.more (ends_false rfl rfl rfl) (by omega)⟩

end Mine

namespace Mine
open PySem.Builtin.Re

theorem plainAttrs_re : PlainAttrs "re.Pattern" :=
  ⟨⟨"object.__getattribute__", by rw [typeLookup_type, builtinLookup_eq_fast]; kernel_rfl, by decide +kernel⟩, by rw [typeLookup_type, builtinLookup_eq_fast]; kernel_rfl⟩
theorem slot_re_sub : Slot "re.Pattern" "sub" "re.Pattern.sub" :=
  .of (owner := "re.Pattern") (n := "sub") (by rw [typeLookup_type, builtinLookup_eq_fast]; kernel_rfl) (by decide +kernel) (by decide +kernel) (by decide +kernel)
    (by first | exact .inl (by decide +kernel) | exact .inr (by decide +kernel)) (by rw [isSubtype_type]; kernel_rfl)
theorem type_re_sub : typeOf (.builtin "re.Pattern.sub") = pure (.type "method_descriptor") := by show builtinType _ = _; rw [builtinType_eq_fast]; kernel_rfl
theorem entry_re_sub : entryFor table "re.Pattern.sub" = some Builtin.«re.Pattern.sub» := entryFor_of_tree (by kernel_rfl)
theorem entry_re_loop : entryFor table "re.Pattern.sub.loop" = some Builtin.«re.Pattern.sub.loop» := entryFor_of_tree (by kernel_rfl)
theorem args_re_sub (a b c : Value) : argsOk "re.Pattern.sub" ⟨[a, b, c], []⟩ := by
  unfold argsOk; kernel_rfl
theorem noCall_str : typeLookup (.type "str") "__call__" = pure none := by rw [typeLookup_type, builtinLookup_eq_fast]; kernel_rfl

section
variable {prog : Program} {w : World} {A : Around} {E : Value → Shared → Prop} {s : Shared}

theorem drive {P : Sre.M → Prop} {Q : Sre.M → Shared → Prop} (hQ : ∀ m, m.outcome.isSome = true → P m → Q m s) : ∀ (T n : Nat) (m : Sre.M), Ends n m P → n ≤ 4 * T → 1 ≤ T →
    wpAny (model prog w) A (reDrive T m) Q E s
  | 0, _, _, _, _, h => absurd h (by decide)
  | T + 1, n, m, x, hn, _ => by
    show wpAny (model prog w) A (if (m.runFor 4).outcome.isSome = true then pure (m.runFor 4) else do rule "sre.turn"; reDrive T (m.runFor 4)) Q E s
    by_cases h4 : (m.runFor 4).outcome.isSome = true
    · rw [if_pos h4]
      refine wpAny_pure (hQ _ h4 ?_)
      have e : m.runFor 4 = m.runFor n := by
        rcases Nat.le_total n 4 with h | h
        · have := (x.more h)
          rw [show 4 = n + (4 - n) by omega, runFor_add, runFor_done _ _ x.1]
        · rw [show n = 4 + (n - 4) by omega, runFor_add, runFor_done _ _ h4]
      rw [e]; exact x.2
    · rw [if_neg h4]
      have hn4 : 4 < n := by
        rcases Nat.lt_or_ge 4 n with h | h
        · exact h
        · exact absurd (by rw [show 4 = n + (4 - n) by omega, runFor_add, runFor_done _ _ x.1]; exact x.1) h4
      have x' : Ends (n - 4) (m.runFor 4) P := by
        unfold Ends
        rw [← runFor_add, show 4 + (n - 4) = n by omega]
        exact x
      exact wpAny_bind (wpAny_rule (drive hQ T (n - 4) _ x' (by omega) (by omega)))

theorem quietFor {α : Type} {Q : PUnit → Shared → Prop} (f : α → PUnit → Sem (ForInStep PUnit)) (hf : ∀ x u (Q' : ForInStep PUnit → Shared → Prop), Q' (.yield ⟨⟩) s → wpAny (model prog w) A (f x u) Q' E s) (l : List α) (h : Q ⟨⟩ s) :
    wpAny (model prog w) A (forIn l PUnit.unit f) Q E s :=
  wpAny_forIn_list f (fun _ _ s' => s' = s) Q (fun x rest b s' e => by subst e; exact hf x b _ rfl) (fun b s' e => by subst e; exact h) l _ rfl

theorem runToEnd_found {n : Nat} {m : Sre.M} {p q : Nat} {Q : Option Sre.M → Shared → Prop} (x : Ends n m (Found p q)) (hn : n ≤ 2 ^ 60) (hQ : ∀ m', m'.start = p → m'.handed = q → Q (some m') s) :
    wpAny (model prog w) A (reRunToEnd m) Q E s := by
  unfold reRunToEnd
  refine wpAny_bind (drive (P := Found p q) (fun m' _ hm' => ?_) _ n m x (by omega) (by decide))
  obtain ⟨h1, h2, h3⟩ := hm'
  refine wpAny_bind (quietFor _ (fun i u Q' h => ?_) _ ?_)
  · split
    · exact wpAny_bind (wpAny_rule (wpAny_pure h))
    · exact wpAny_pure h
  · rw [h1]
    exact wpAny_pure (hQ m' h2 h3)
theorem runToEnd_failed {n : Nat} {m : Sre.M} {Q : Option Sre.M → Shared → Prop} (x : Ends n m (fun m => m.outcome = some .failed)) (hn : n ≤ 2 ^ 60) (hQ : Q none s) :
    wpAny (model prog w) A (reRunToEnd m) Q E s := by
  unfold reRunToEnd
  refine wpAny_bind (drive (P := fun m => m.outcome = some .failed) (fun m' _ hm' => ?_) _ n m x (by omega) (by decide))
  refine wpAny_bind (quietFor _ (fun i u Q' h => ?_) _ ?_)
  · split
    · exact wpAny_bind (wpAny_rule (wpAny_pure h))
    · exact wpAny_pure h
  · rw [hm']
    exact wpAny_pure hQ
end
end Mine

namespace Mine
open PySem.Builtin.Re PySem.Sre

structure IsPat (h : Heap) (a c : Addr) (code : Array Nat) : Prop where
  pat : ∃ o fs, h.get? a = some o ∧ o.cls = .type "re.Pattern" ∧ o.dict = none ∧ o.data = .fields fs ∧ fs.getD 6 .none = .int 0 0 ∧ fs.getD 2 .none = .int 0 0 ∧ fs.getD 5 .none = .ref c
  items : ∃ o xs n, h.get? c = some o ∧ o.data = .seq xs n ∧ (xs.map reRawOf).map (·.toNat) = code
theorem IsPat.at {h h' : Heap} {a c : Addr} {code : Array Nat} (x : IsPat h a c code) (h1 : ∀ o, h.get? a = some o → h'.get? a = some o) (h2 : ∀ o, h.get? c = some o → h'.get? c = some o) : IsPat h' a c code :=
  ⟨let ⟨o, fs, e, r⟩ := x.pat; ⟨o, fs, h1 _ e, r⟩, let ⟨o, xs, n, e, r⟩ := x.items; ⟨o, xs, n, h2 _ e, r⟩⟩

section
variable {prog : Program} {w : World} {A : Around} {E : Value → Shared → Prop} {s : Shared}

theorem wholeTarget {a c : Addr} {code : Array Nat} {x : Str} {t : Tok} {Q : ReTarget → Shared → Prop} (P : IsPat s.heap a c code)
    (hQ : Q { pattern := .ref a, string := .str x t, code := code, text := x.cps, kind := 0, groups := 0, pos := 0, lim := x.cps.size } s) :
    wpAny (model prog w) A (reWholeTarget (.ref a) (.str x t)) Q E s := by
  obtain ⟨o, fs, ho, hc, hdi, hd, h6, h2, h5⟩ := P.pat
  obtain ⟨oc, xs, n, hoc, hdc, hcode⟩ := P.items
  unfold reWholeTarget
  refine wpAny_bind (wpAny_fieldsOf ho hd ?_)
  refine wpAny_bind ?_
  unfold reTextOf
  refine wpAny_bind (wpAny_pure ?_)
  refine wpAny_pure ?_
  rw [h6, h2, h5]
  dsimp only
  unfold reNoCollectionInside reRawItems
  refine wpAny_bind (wpAny_pure ?_)
  refine wpAny_bind ?_
  refine wpAny_bind (wpAny_seqItems hoc hdc ?_)
  refine wpAny_pure (wpAny_pure ?_)
  rw [← hcode] at hQ
  exact hQ

theorem push_plain {D : Addr} {items : Array Value} {v : Value} {Q : Unit → Shared → Prop} (hl : s.heap.PlainList D items) (hsz : items.size ≤ sizeLine)
    (hQ : ∀ h', h'.PlainList D (items.push v) → Heap.SameBut D s.heap h' → Q () { s with heap := h' }) : wpAny (model prog w) A (updateSeq D (·.push v)) Q E s := by
  obtain ⟨n, ho⟩ := hl
  refine wpAny_updateSeq ho rfl (hQ _ ⟨n + 1, ?_⟩ (Heap.SameBut.update ..)) hsz (by rw [Array.size_push]; omega)
  rw [Heap.get?_update_self _ ho (by rw [Obj.mapSeq_push_plain]; rfl), Obj.mapSeq_push_plain]

theorem values_push (l : List (Str × Tok)) (y : Str) (u : Tok) : (strValues l).toArray.push (.str y u) = (strValues (l ++ [(y, u)])).toArray := by
  simp [strValues]
theorem values_len (l : List (Str × Tok)) : (strValues l).toArray.size = l.length := by simp [strValues]
theorem flat_push (l : List (Str × Tok)) (y : Str) (u : Tok) : ((l ++ [(y, u)]).map fun p => lst p.1).flatten = (l.map fun p => lst p.1).flatten ++ lst y := by simp
theorem sum_push (l : List (Str × Tok)) (y : Str) (u : Tok) : ((l ++ [(y, u)]).map (·.1.length)).sum = (l.map (·.1.length)).sum + y.length := by simp
theorem join_empty : ∀ l : List (List Nat), inter [] l = l.flatten
  | [] => rfl
  | [x] => by simp [inter]
  | x :: y :: r => by
    show x ++ [] ++ inter [] (y :: r) = _
    rw [join_empty (y :: r)]
    simp

theorem sub_loop {a c D : Addr} {code : Array Nat} {x rep : Str} {t tr : Tok} {R : Result → Shared → Prop} (spec : Nat → List Nat)
    (hS : ∀ st, st ≤ x.length → (∃ p q n, st ≤ p ∧ p < q ∧ q ≤ x.length ∧ n ≤ 2 ^ 60 ∧ Ends n (forSearch code x.cps 0 st x.cps.size false) (Found p q) ∧ spec st = ((lst x).drop st).take (p - st) ++ lst rep ++ spec q) ∨
      (∃ n, n ≤ 2 ^ 60 ∧ Ends n (forSearch code x.cps 0 st x.cps.size false) (fun m => m.outcome = some .failed) ∧ spec st = (lst x).drop st)) 
    (hDa : D ≠ a) (hDc : D ≠ c) (hx : x.length ≤ 65536) (hr : rep.length ≤ 16) :
    ∀ (k done cnt : Nat) (s : Shared) (l : List (Str × Tok)), k = x.length - done → done ≤ x.length → IsPat s.heap a c code → s.heap.PlainList D (strValues l).toArray → 
      l.length ≤ 2 * done → (l.map (·.1.length)).sum ≤ 17 * done →
      (∀ h' tk t', Heap.SameBut D s.heap h' → R (.ok (.ret (.str (txt ((l.map fun p => lst p.1).flatten ++ spec done)) t'))) { s with heap := h', toks := tk }) →
      codeAny (model prog w) A (.builtin "re.Pattern.sub.loop" ⟨[.ref a, .str x t, .str rep tr, .int 0 0, .int 0 0, .int cnt 0, .int done 0, .int done 0, .bool false, .ref D, .bool false], []⟩) R s := by
  intro k
  induction k using Nat.strongRecOn with
  | _ k ih =>
  intro done cnt s l hk hdone P hl hlen hsum hR
  refine codeAny_builtin entry_re_loop ?_
  unfold Builtin.«re.Pattern.sub.loop»
  dsimp only
  refine wpAny_bind (wholeTarget P ?_)
  dsimp only
  have hcps : x.cps.size = x.length := rfl
  have hA0 : ∀ o, s.heap.get? a = some o → True := fun _ _ => trivial
  -- what stands when a match has been found and its pieces are laid
  have go : ∀ (q : Nat) (s' : Shared) (l' : List (Str × Tok)) (h' : Heap) (tk : Nat), s' = { s with heap := h', toks := tk } → Heap.SameBut D s.heap h' → done < q → q ≤ x.length →
      h'.PlainList D (strValues l').toArray → l'.length ≤ 2 * q → (l'.map (·.1.length)).sum ≤ 17 * q →
      (l'.map fun p => lst p.1).flatten ++ spec q = (l.map fun p => lst p.1).flatten ++ spec done →
      codeAny (model prog w) A (.builtin "re.Pattern.sub.loop" ⟨[.ref a, .str x t, .str rep tr, .int 0 0, .int 0 0, .int ((cnt + 1 : Nat) : Int) 0, .int q 0, .int q 0, .bool false, .ref D, .bool false], []⟩) R s' := by
    intro q s' l' h' tk es hs hq1 hq2 hl' hlen' hsum' hspec
    subst es
    refine ih (x.length - q) (by omega) q (cnt + 1) _ l' rfl hq2 (P.at (fun o e => (hs.2 a (Ne.symm hDa)).trans e) (fun o e => (hs.2 c (Ne.symm hDc)).trans e)) hl' hlen' hsum' ?_
    intro h2 tk2 t2 hs2
    rw [hspec]
    exact hR h2 tk2 t2 ⟨hs2.1.trans hs.1, fun b hb => (hs2.2 b hb).trans (hs.2 b hb)⟩
  have hq0 : (Code.builtin "re.Pattern.sub.loop" ⟨[], []⟩).quiet = true := plainId_quiet (by decide +kernel) _
  have hszl : l.length ≤ sizeLine := by rw [sizeLine_eq]; omega
  refine wpAny_bind ?_
  unfold reLiteralCannotBeTurned
  refine wpAny_bind (wpAny_pure ?_)
  refine wpAny_pure ?_
  refine wpAny_bind ?_
  rw [if_neg (by simp)]
  unfold reNextFound
  dsimp only
  rw [Int.toNat_natCast]
  rcases hS done hdone with ⟨p, q, n, h1, h2, h3, h4, h5, h6⟩ | ⟨n, h4, h5, h6⟩
  · refine runToEnd_found h5 h4 fun m' hm1 hm2 => ?_
    dsimp only
    rw [hm1, hm2]
    have hne : (q == p) = false := by simp; omega
    rw [hne]
    by_cases hlt : done < p
    · rw [if_pos hlt]
      unfold reSlice
      refine wpAny_bind (wpAny_mkStr ?_ (by rw [sizeLine_eq]; show (x.cps.extract done p).size ≤ _; simp; omega))
      have e1 : lst (⟨x.cps.extract done p⟩ : Str) = ((lst x).drop done).take (p - done) := by simp [lst]
      have e1l : (⟨x.cps.extract done p⟩ : Str).length = p - done := by show (x.cps.extract done p).size = _; simp; omega
      refine wpAny_bind (push_plain hl (by rw [values_len]; exact hszl) fun h' hl' hs' => ?_)
      rw [values_push] at hl'
      rw [if_pos (by decide)]
      refine wpAny_bind (wpAny_pure ?_)
      rw [if_pos (by simp)]
      refine wpAny_bind (push_plain hl' (by rw [values_len, List.length_append, sizeLine_eq]; simp; omega) fun h2 hl2 hs2 => ?_)
      rw [values_push] at hl2
      refine wpAny_pure ⟨plainId_quiet (by decide +kernel) _, ?_⟩
      refine go q _ _ h2 (s.toks + 1) rfl ⟨hs2.1.trans hs'.1, fun b hb => (hs2.2 b hb).trans (hs'.2 b hb)⟩ (by omega) h3 hl2 (by simp; omega) (by rw [sum_push, sum_push, e1l]; omega) ?_
      rw [flat_push, flat_push, e1, h6]
      simp
    · rw [if_neg hlt]
      have hpd : p = done := by omega
      subst hpd
      rw [if_pos (by decide)]
      refine wpAny_bind (wpAny_pure ?_)
      rw [if_pos (by simp)]
      refine wpAny_bind (push_plain hl (by rw [values_len]; exact hszl) fun h2 hl2 hs2 => ?_)
      rw [values_push] at hl2
      refine wpAny_pure ⟨plainId_quiet (by decide +kernel) _, ?_⟩
      refine go q _ _ h2 s.toks rfl hs2 (by omega) h3 hl2 (by simp; omega) (by rw [sum_push]; omega) ?_
      rw [flat_push, h6]
      simp
  · refine runToEnd_failed h5 h4 ?_
    dsimp only
    unfold reSlice
    have hj : (⟨x.cps.extract 0 0⟩ : Str) = txt [] := by simp [txt]
    have last : ∀ (s' : Shared) (l' : List (Str × Tok)) (h' : Heap) (tk : Nat) (u : Tok), s' = { s with heap := h', toks := tk } → Heap.SameBut D s.heap h' → h'.PlainList D (strValues l').toArray → l'.length ≤ 2 * x.length + 1 → (l'.map (·.1.length)).sum ≤ 18 * x.length →
        (l'.map fun p => lst p.1).flatten = (l.map fun p => lst p.1).flatten ++ spec done → ∀ A', 
        wpAny (model prog w) A' (call (Value.builtin "str.join") [.str (txt []) u, Value.ref D])
          (fun text s' => R (.ok (.ret text)) s') (fun e s' => R (.error e) s') s' := by
      intro s' l' h' tk u es hs hl' hlen' hsum' hspec A'
      subst es
      have hok : Builtin.Str.tooLong ((l'.map (·.1)).toArray.foldl (· + ·.length + (txt []).length) 0) = false := by
        rw [StrLaws.joinTotal]
        unfold Builtin.Str.tooLong
        have e0 : (txt []).length = 0 := rfl
        rw [e0, Nat.mul_zero, List.map_map, sizeLine_eq]
        refine decide_eq_false ?_
        have : (l'.map ((fun x => x.length) ∘ fun x => x.fst)).sum = (l'.map (·.1.length)).sum := rfl
        rw [this]
        omega
      refine call_meets F.slot_str_join (typeIs_str _ _ _) F.entry_str_join (F.args_str_join_2 _ _) (meets_str_join_list (txt []) u D l' hok) ⟨hl'.isList, post_join l' ⟨joinFit_length hok, fun t' k => ?_⟩⟩
      have e2 : Txt.join (txt []) (l'.map (·.1)) = txt ((l.map fun p => lst p.1).flatten ++ spec done) := by
        apply lst_inj
        unfold Txt.join
        rw [StrLaws.glued_eq_join, lst_join, lst_txt, lst_txt, join_empty, ← hspec, List.map_map]
        rfl
      show R (.ok (.ret (.str (Txt.join (txt []) (l'.map (·.1))) t'))) _
      rw [e2]
      exact hR h' k t' hs
    by_cases hlt : done < x.cps.size
    · rw [if_pos hlt]
      have e1 : lst (⟨x.cps.extract done x.cps.size⟩ : Str) = (lst x).drop done := by
        simp only [lst, Array.toList_extract]
        rw [List.extract_eq_take_drop]
        exact List.take_of_length_le (by simp)
      have e1l : (⟨x.cps.extract done x.cps.size⟩ : Str).length = x.length - done := by show (x.cps.extract done x.cps.size).size = _; simp; omega
      refine wpAny_bind (wpAny_mkStr ?_ (by rw [e1l, sizeLine_eq]; omega))
      refine wpAny_bind (push_plain hl (by rw [values_len]; exact hszl) fun h' hl' hs' => ?_)
      rw [values_push] at hl'
      rw [hj]
      refine wpAny_bind (wpAny_mkStr (x := txt []) ?_ (by rw [len_txt, sizeLine_eq]; exact Nat.zero_le _))
      obtain ⟨n', ho'⟩ := id hl'
      refine wpAny_bind (wpAny_seqItems ho' rfl ?_)
      rw [if_neg (by simp [strValues])]
      refine wpAny_bind ?_
      rw [if_pos (by decide)]
      refine wpAny_mono (last _ _ h' _ _ rfl hs' hl' (by simp; omega) (by rw [sum_push, e1l]; omega) (by rw [flat_push, e1, h6]) _) (fun v s' hv => ?_) (fun _ _ e => e)
      rw [if_neg (by simp)]
      exact wpAny_pure hv
    · rw [if_neg hlt]
      rw [hj]
      have hsp : spec done = [] := by rw [h6]; exact List.drop_eq_nil_of_le (by rw [len_lst]; omega)
      refine wpAny_bind (wpAny_mkStr (x := txt []) ?_ (by rw [len_txt, sizeLine_eq]; exact Nat.zero_le _))
      obtain ⟨n', ho'⟩ := id hl
      refine wpAny_bind (wpAny_seqItems ho' rfl ?_)
      by_cases hl0 : l = []
      · subst hl0
        rw [if_pos (by simp [strValues])]
        refine wpAny_bind (wpAny_pure ?_)
        rw [if_neg (by simp)]
        refine wpAny_pure ?_
        have := hR s.heap (s.toks + 1) s.toks (Heap.SameBut.refl _ _)
        rw [hsp] at this
        exact this
      · rw [if_neg (by simpa [strValues] using hl0)]
        refine wpAny_bind ?_
        rw [if_pos (by decide)]
        refine wpAny_mono (last _ _ s.heap _ _ rfl (Heap.SameBut.refl _ _) hl (by omega) (by omega) (by rw [hsp, List.append_nil]) _) (fun v s' hv => ?_) (fun _ _ e => e)
        rw [if_neg (by simp)]
        exact wpAny_pure hv
end
end Mine

namespace Mine
open PySem.Builtin.Re PySem.Sre

theorem getD_lst (x : Str) (i : Nat) : x.cps.getD i 0 = (lst x).getD i 0 := by
  simp [lst, Array.getD_eq_getD_getElem?]
theorem drop_cons (x : Str) {i : Nat} (h : i < x.length) : (lst x).drop i = x.cps.getD i 0 :: (lst x).drop (i + 1) := by
  rw [List.drop_eq_getElem_cons (by rw [len_lst]; exact h), getD_lst]
  congr 1
  rw [List.getD_eq_getElem?_getD, List.getElem?_eq_getElem (by rw [len_lst]; exact h)]
  rfl

theorem nrm_flag {c : Nat} {r : List Nat} (h : c ≠ 10) (a b : Bool) : nrm a (c :: r) = nrm b (c :: r) := by
  rw [nrm_cons, nrm_cons, if_neg h, if_neg h]

theorem nrm_upto (x : Str) : ∀ (k st p : Nat), p - st = k → st ≤ p → p ≤ x.length → (∀ i, st ≤ i → i < p → ¬ NL x.cps i) → nrm false ((lst x).drop st) = ((lst x).drop st).take (p - st) ++ nrm false ((lst x).drop p)
  | 0, st, p, hk, h1, h2, h3 => by
    have : st = p := by omega
    subst this
    simp
  | k + 1, st, p, hk, h1, h2, h3 => by
    have hc := h3 st (Nat.le_refl _) (by omega)
    unfold NL at hc
    rw [not_or] at hc
    rw [drop_cons x (by omega), nrm_cons, if_neg hc.2, if_neg hc.1, nrm_upto x k (st + 1) p (by omega) (by omega) h2 (fun i a b => h3 i (by omega) b)]
    rw [show p - st = (p - (st + 1)) + 1 by omega, List.take_succ_cons]
    rfl

theorem spec_N (x : Str) {st p : Nat} (h1 : st ≤ p) (h2 : p < x.length) (h3 : NL x.cps p) (h4 : ∀ i, st ≤ i → i < p → ¬ NL x.cps i) :
    nrm false ((lst x).drop st) = ((lst x).drop st).take (p - st) ++ [13, 10] ++ nrm false ((lst x).drop (p + nlLen x.cps x.cps.size p)) := by
  rw [nrm_upto x (p - st) st p rfl h1 (by omega) h4, List.append_assoc]
  congr 1
  rw [drop_cons x h2, nrm_cons]
  have hsz : x.cps.size = x.length := rfl
  rcases h3 with h3 | h3
  · have hlen : nlLen x.cps x.cps.size p = 1 := by unfold nlLen; rw [if_neg (by rw [h3]; simp)]
    rw [hlen, h3]
    rfl
  · rw [h3, if_pos rfl]
    by_cases h5 : p + 1 < x.cps.size ∧ x.cps.getD (p + 1) 0 = 10
    · have hlen : nlLen x.cps x.cps.size p = 2 := by unfold nlLen; rw [if_pos ⟨h3, h5⟩]
      rw [hlen, drop_cons x h5.1, nrm_cons, h5.2]
      rfl
    · have hlen : nlLen x.cps x.cps.size p = 1 := by unfold nlLen; rw [if_neg (fun h => h5 h.2)]
      rw [hlen]
      show 13 :: 10 :: nrm true ((lst x).drop (p + 1)) = 13 :: 10 :: nrm false ((lst x).drop (p + 1))
      congr 2
      by_cases h6 : p + 1 < x.length
      · rw [drop_cons x h6]
        exact nrm_flag (fun e => h5 ⟨h6, e⟩) _ _
      · rw [List.drop_eq_nil_of_le (by rw [len_lst]; omega)]
        rfl

theorem nlLen_pos (text : Array Nat) (lim p : Nat) : 1 ≤ nlLen text lim p := by
  unfold nlLen
  by_cases h : text.getD p 0 = 13 ∧ p + 1 < lim ∧ text.getD (p + 1) 0 = 10
  · rw [if_pos h]; decide
  · rw [if_neg h]; decide
theorem nlLen_le {text : Array Nat} {lim p : Nat} (hp : p < lim) : p + nlLen text lim p ≤ lim := by
  unfold nlLen
  by_cases h : text.getD p 0 = 13 ∧ p + 1 < lim ∧ text.getD (p + 1) 0 = 10
  · rw [if_pos h]; have := h.2.1; omega
  · rw [if_neg h]; omega
theorem drop_all (x : Str) : (lst x).drop x.length = [] := List.drop_eq_nil_of_le (by rw [len_lst]; exact Nat.le_refl _)
theorem take_all (x : Str) (st : Nat) : ((lst x).drop st).take (x.length - st) = (lst x).drop st := List.take_of_length_le (by rw [List.length_drop, len_lst]; exact Nat.le_refl _)

def front (x : Str) (i : Nat) : Bool := i == 0 || x.cps.getD (i - 1) 0 == 10
theorem front_succ (x : Str) (i : Nat) : front x (i + 1) = (x.cps.getD i 0 == 10) := by
  unfold front
  simp

theorem stuff_upto (x : Str) : ∀ (k st p : Nat), p - st = k → st ≤ p → p ≤ x.length → (∀ i, st ≤ i → i < p → ¬ Hit x.cps i) → stuff (front x st) ((lst x).drop st) = ((lst x).drop st).take (p - st) ++ stuff (front x p) ((lst x).drop p)
  | 0, st, p, hk, h1, h2, h3 => by
    have : st = p := by omega
    subst this
    simp
  | k + 1, st, p, hk, h1, h2, h3 => by
    have hc := h3 st (Nat.le_refl _) (by omega)
    have hn : ¬ (front x st = true ∧ x.cps.getD st 0 = 46) := by
      rintro ⟨ha, hb⟩
      refine hc ⟨?_, hb⟩
      unfold front at ha
      rw [Bool.or_eq_true, beq_iff_eq, beq_iff_eq] at ha
      exact ha
    rw [drop_cons x (by omega), stuff_cons, if_neg hn, ← front_succ, stuff_upto x k (st + 1) p (by omega) (by omega) h2 (fun i a b => h3 i (by omega) b)]
    rw [show p - st = (p - (st + 1)) + 1 by omega, List.take_succ_cons]
    rfl
theorem spec_D (x : Str) {st p : Nat} (h1 : st ≤ p) (h2 : p < x.length) (h3 : Hit x.cps p) (h4 : ∀ i, st ≤ i → i < p → ¬ Hit x.cps i) :
    stuff (front x st) ((lst x).drop st) = ((lst x).drop st).take (p - st) ++ [46, 46] ++ stuff (front x (p + 1)) ((lst x).drop (p + 1)) := by
  rw [stuff_upto x (p - st) st p rfl h1 (by omega) h4, List.append_assoc]
  congr 1
  have hf : front x p = true := by
    unfold front
    rw [Bool.or_eq_true, beq_iff_eq, beq_iff_eq]
    exact h3.1
  rw [drop_cons x h2, stuff_cons, if_pos ⟨hf, h3.2⟩, front_succ, h3.2]
  rfl

section
variable {prog : Program} {w : World} {A : Around} {E : Value → Shared → Prop} {s : Shared}

theorem re_sub {a c : Addr} {code : Array Nat} {x rep : Str} {t tr : Tok} {Q : Value → Shared → Prop} (spec : Nat → List Nat)
    (hS : ∀ st, st ≤ x.length → (∃ p q n, st ≤ p ∧ p < q ∧ q ≤ x.length ∧ n ≤ 2 ^ 60 ∧ Ends n (forSearch code x.cps 0 st x.cps.size false) (Found p q) ∧ spec st = ((lst x).drop st).take (p - st) ++ lst rep ++ spec q) ∨
      (∃ n, n ≤ 2 ^ 60 ∧ Ends n (forSearch code x.cps 0 st x.cps.size false) (fun m => m.outcome = some .failed) ∧ spec st = (lst x).drop st)) 
    (hx : x.length ≤ 65536) (hr : rep.length ≤ 16) (h92 : rep.cps.contains 92 = false) (P : IsPat s.heap a c code)
    (hQ : ∀ t' h' tk, (∀ b o, s.heap.get? b = some o → h'.get? b = some o) → Q (.str (txt (spec 0)) t') { s with heap := h', toks := tk }) :
    wpAny (model prog w) A (call (.builtin "re.Pattern.sub") [.ref a, .str rep tr, .str x t]) Q E s := by
  have hT : s.TypeIs (.ref a) "re.Pattern" := by
    obtain ⟨o, fs, ho, hc, r⟩ := P.pat
    exact ⟨o, ho, hc⟩
  refine wpAny_call (codeAny_call_builtin slot_re_sub.plain entry_re_sub (slot_re_sub.check _ _ _ _ _ _ _ _ hT (args_re_sub _ _ _) ?_))
  unfold Builtin.«re.Pattern.sub» reSubstitute
  dsimp only
  have hn : reNamed "re.Pattern.sub" "sub" ["repl", "string", "count"] 2 [.str rep tr, .str x t] [] = pure [some (.str rep tr), some (.str x t), none] := rfl
  refine wpAny_bind ?_
  rw [hn]
  refine wpAny_pure ?_
  dsimp only
  refine wpAny_bind (wpAny_pure ?_)
  refine wpAny_bind (wpAny_specialOf (typeIs_str _ _ _) noCall_str ?_)
  rw [if_neg (by simp)]
  refine wpAny_bind (wpAny_pure ?_)
  dsimp only
  refine wpAny_bind (wpAny_pure ?_)
  rw [if_neg (by simp), h92, if_pos (by decide)]
  refine wpAny_bind (wpAny_pure ?_)
  dsimp only
  refine wpAny_bind (wpAny_holding (wholeTarget P ?_))
  rw [if_neg (by decide)]
  refine wpAny_bind (wpAny_newObj_type ?_)
  refine wpAny_pure ⟨plainId_quiet (by decide +kernel) _, ?_⟩
  have hfresh : ∀ b o, s.heap.get? b = some o → b ≠ s.heap.objs.size := fun b o e => Nat.ne_of_lt (Heap.lt_size e)
  have hDa : s.heap.objs.size ≠ a := by obtain ⟨o, fs, ho, r⟩ := P.pat; exact (hfresh _ _ ho).symm
  have hDc : s.heap.objs.size ≠ c := by obtain ⟨o, xs, n, ho, r⟩ := P.items; exact (hfresh _ _ ho).symm
  refine sub_loop (l := []) spec hS hDa hDc hx hr (x.length - 0) 0 0 _ rfl (Nat.zero_le _) (P.at (fun o e => Heap.get?_push_of_some _ e) (fun o e => Heap.get?_push_of_some _ e)) ⟨0, Heap.get?_push_size _ rfl⟩ (by simp) (by simp) ?_
  intro h' tk t' hs
  exact hQ t' h' tk fun b o e => hs.extBut b o (hfresh b o e) (Heap.get?_push_of_some _ e)

theorem sub_newline {a c : Addr} {x rep : Str} {t tr : Tok} {Q : Value → Shared → Prop} (hx : x.length ≤ 65536) (hrep : rep = txt [13, 10]) (P : IsPat s.heap a c codeN)
    (hQ : ∀ t' h' tk, (∀ b o, s.heap.get? b = some o → h'.get? b = some o) → Q (.str (txt (nrm false (lst x))) t') { s with heap := h', toks := tk }) :
    wpAny (model prog w) A (call (.builtin "re.Pattern.sub") [.ref a, .str rep tr, .str x t]) Q E s := by
  subst hrep
  refine re_sub (code := codeN) (fun st => nrm false ((lst x).drop st)) (fun st hst => ?_) hx (by decide) (by decide +kernel) P (by simpa using hQ)
  rcases search_N (text := x.cps) (pos := st) (lim := x.cps.size) (must := false) hst with ⟨p, h1, h2, h3, h4, h5⟩ | ⟨h4, h5⟩
  · refine .inl ⟨p, p + nlLen x.cps x.cps.size p, 20, h1, ?_, ?_, by decide, h5, ?_⟩
    · have := nlLen_pos x.cps x.cps.size p; omega
    · exact nlLen_le h2
    · rw [lst_txt]; exact spec_N x h1 h2 h3 h4
  · refine .inr ⟨20, by decide, h5, ?_⟩
    have := nrm_upto x (x.length - st) st x.length rfl hst (Nat.le_refl _) h4
    show nrm false ((lst x).drop st) = _
    rw [this, drop_all, take_all]
    simp [nrm]
theorem sub_dot {a c : Addr} {x rep : Str} {t tr : Tok} {Q : Value → Shared → Prop} (hx : x.length ≤ 65536) (hrep : rep = txt [46, 46]) (P : IsPat s.heap a c codeD)
    (hQ : ∀ t' h' tk, (∀ b o, s.heap.get? b = some o → h'.get? b = some o) → Q (.str (txt (stuff true (lst x))) t') { s with heap := h', toks := tk }) :
    wpAny (model prog w) A (call (.builtin "re.Pattern.sub") [.ref a, .str rep tr, .str x t]) Q E s := by
  subst hrep
  refine re_sub (code := codeD) (fun st => stuff (front x st) ((lst x).drop st)) (fun st hst => ?_) hx (by decide) (by decide +kernel) P (by simpa [show front x 0 = true from rfl] using hQ)
  have hb : 5 * (x.cps.size + 1) ≤ 2 ^ 60 := by have : x.cps.size = x.length := rfl; omega
  rcases search_D (text := x.cps) (pos := st) (lim := x.cps.size) hst with ⟨p, h1, h2, h3, h4, h5⟩ | ⟨h4, h5⟩
  · refine .inl ⟨p, p + 1, _, h1, by omega, h2, hb, h5, ?_⟩
    rw [lst_txt]; exact spec_D x h1 h2 h3 h4
  · refine .inr ⟨_, hb, h5, ?_⟩
    have := stuff_upto x (x.length - st) st x.length rfl hst (Nat.le_refl _) h4
    show stuff (front x st) ((lst x).drop st) = _
    rw [this, drop_all, take_all]
    simp [stuff]
end
end Mine

namespace Mine
set_option maxRecDepth 100000 in
set_option maxHeartbeats 8000000 in
open_top hd for PySem.Challenge.rw_pk0003_01
end Mine

namespace Mine
set_option maxRecDepth 100000
open PySem.Calls

/-! ## the ground, calls, loops -/
abbrev PR : Program := PySem.Challenge.rw_pk0003_01.row.prog
noncomputable def KK (w : World) : Frag := Mine.hd.heap_39 w.params

structure Gd (w : World) (mg mb : Str → Option Value) (h : Heap) : Prop where
  X : (KK w).In h
  g : h.Ns mainGlobals mg
  b : h.Ns builtinsNs mb
  nolimit : h.NoLimit
  builtins : ∀ x : Str, x ≠ "__name__" → mb x = bootBuiltins x
theorem Gd.keeps {w : World} {mg mb : Str → Option Value} {h h' : Heap} (G : Gd w mg mb h) (k : ∀ b o, h.get? b = some o → h'.get? b = some o) : Gd w mg mb h' :=
  ⟨G.X.keeps k, G.g.keeps k, G.b.keeps k, G.nolimit.keeps k, G.builtins⟩

/-- all that stood stands -/
abbrev Kp (h h' : Heap) : Prop := ∀ b o, h.get? b = some o → h'.get? b = some o

section
variable {w : World} {A : Around} {E : Value → Shared → Prop} {s : Shared} {mg mb : Str → Option Value} {h₀ : Heap} {L : Addr} {m : Str → Option Value} {env : Env}

theorem nmL {x : Str} {pos : Pos} {v : Value} {Q : Value → Shared → Prop} (F : Fr h₀ L s.heap m) (hv : m x = some v) (h : Q v s)
    (hL : env.locals = L := by rfl) (hk : env.scope.kind = .function := by rfl) (hx : env.kindOf x = some .local := by rfl) (hd : (x == ("__debug__" : Str)) = false := by decide) :
    wpAny (model PR w) A (eval (.Name x pos) env) Q E s := wpAny_Name (wpAny_loadName_local hk hx (hL ▸ F.ns) hv h) hd
theorem nmG {x : Str} {pos : Pos} {v : Value} {Q : Value → Shared → Prop} (G : Gd w mg mb s.heap) (e : nsIn (KK w) mainGlobals x = some (some v)) (h : Q v s)
    (hg : env.globals = mainGlobals := by rfl) (hk : env.scope.kind = .function := by rfl) (hx : env.kindOf x = some .globalImplicit := by rfl) (hd : (x == ("__debug__" : Str)) = false := by decide) :
    wpAny (model PR w) A (eval (.Name x pos) env) Q E s := Name_function_global hk hx (loadGlobal_global (env := env) (hg ▸ G.g) (mg_of G.X G.g e) h) hd
theorem nmB {x : Str} {pos : Pos} {v : Value} {Q : Value → Shared → Prop} (G : Gd w mg mb s.heap) (e : nsIn (KK w) mainGlobals x = some none) (hv : bootBuiltins x = some v) (hn : x ≠ "__name__") (h : Q v s)
    (hg : env.globals = mainGlobals := by rfl) (hb : env.builtins = builtinsNs := by rfl) (hk : env.scope.kind = .function := by rfl) (hx : env.kindOf x = some .globalImplicit := by rfl) (hd : (x == ("__debug__" : Str)) = false := by decide) :
    wpAny (model PR w) A (eval (.Name x pos) env) Q E s := Name_function_global hk hx (loadGlobal_builtin (env := env) (hg ▸ G.g) (mg_none_of G.X G.g e) (hb ▸ G.b) ((G.builtins x hn).trans hv) h) hd

theorem callF {f : Addr} {oc : Value} {od : Option Addr} {osl : Array (Option Value)} {name qual : Str} {params : Arguments} {body : List Stmt} {scope : Scope} {dV kV doc pm cdv ct : Value} {an : Option Addr}
    {args : List Value} {binds : List (Str × Value)} {Q : Value → Shared → Prop}
    (G : Gd w mg mb s.heap) (hroom : A.depth < recursionLimit)
    (ho : (KK w).lookup f = some ⟨oc, od, .func (fnX name qual params body scope [] dV kV doc pm an cdv ct), osl⟩) (hcd : codeIn (KK w) cdv qual = true)
    (hbind : bindArgs (fnX name qual params body scope [] dV kV doc pm an cdv ct) ⟨args, []⟩ = pure binds) (hloc : ∀ y ∈ binds, scope.names.lookup y.1 = some .local)
    (hcell : ∀ x ∈ scope.names, x.2 ≠ .cell)
    (h : ∀ h₁, Fr s.heap s.heap.objs.size h₁ (fun x => binds.reverse.lookup x) →
      wpAny (model PR w) (A.deeper (envX qual scope s.heap.objs.size f cdv [])) (execs body (envX qual scope s.heap.objs.size f cdv []))
        (fun fl s' => Q (match fl with | .ret v => v | _ => .none) s') (fun _ _ => False) { s with heap := h₁, toks := s.toks + binds.length })
    (hco : scope.isCoroutine = false := by rfl) (hgen : scope.isGenerator = false := by rfl) (hk : scope.kind = .function := by rfl) :
    wpAny (model PR w) A (call (.ref f) args) Q E s := by
  refine wpAny_call (codeAny_call_def (fd := fnX name qual params body scope [] dV kV doc pm an cdv ct) (body := body) (binds := binds) hroom (G.X _ _ ho) rfl G.nolimit (codeRec_of G.X hcd) rfl (BindsTo.of_eq hbind) hcell hloc (fun h₁ hns hk₁ => ?_) hco hgen hk)
  exact wpAny_mono (h h₁ ⟨hns, hk₁, Nat.le_refl _⟩) (fun fl s' q => q) (fun _ _ x => x.elim)

/-- a for over anything that walks: J between the turns; a turn changes the frame alone -/
theorem loopW {I : Addr} {fp wr : List Addr} {n : Nat} {P : Nat → Value → Prop} {St : Nat → Heap → Prop} {x : Str} {px : Pos} {body : List Stmt} {R : Result → Shared → Prop}
    (W : Walks PR w A I fp wr n P St) (J : Nat → (Str → Option Value) → Heap → Prop) {m0 : Str → Option Value}
    (F0 : Fr h₀ L s.heap m0) (hst : St 0 s.heap) (hJ0 : J 0 m0 s.heap) (hLf : L ∉ fp) (hwr : ∀ b ∈ wr, h₀.get? b = none)
    (hJ : ∀ i m h h', J i m h → (∀ b o, b ∉ wr → b ≠ L → h.get? b = some o → h'.get? b = some o) → J i m h')
    (turn : ∀ i m v h₁ tk₁, i < n → P i v → Fr h₀ L h₁ (fun y => if y = x then some v else m y) → J i m h₁ →
      wpAny (model PR w) A (execs body env) (fun f s₃ => f = .next ∧ ∃ h₃ tk₃ m₃, s₃ = { s with heap := h₃, toks := tk₃ } ∧ Fr h₀ L h₃ m₃ ∧ (∀ b o, b ≠ L → h₁.get? b = some o → h₃.get? b = some o) ∧ J (i + 1) m₃ h₃) (fun _ _ => False) { s with heap := h₁, toks := tk₁ })
    (after : ∀ m h' tk, Fr h₀ L h' m → J n m h' → (∀ b o, b ∉ wr → b ≠ L → s.heap.get? b = some o → h'.get? b = some o) → R (.ok .next) { s with heap := h', toks := tk })
    (hL : env.locals = L := by rfl) (hx : env.kindOf x = some .local := by rfl) (hp : (env.scope.kind == .class || (env.scope.kind == .module && env.locals != env.globals)) = false := by rfl) :
    codeAny (model PR w) A (.forLoop (.Name x px) (.ref I) body [] env) R s := by
  subst hL
  have hLw : env.locals ∉ wr := fun h => hLf (W.sub _ h)
  refine codeAny_forLoop (fun k s' => ∃ i m h' tk, s' = { s with heap := h', toks := tk } ∧ Fr h₀ env.locals h' m ∧ J i m h' ∧ St i h' ∧ (∀ b o, b ∉ wr → b ≠ env.locals → s.heap.get? b = some o → h'.get? b = some o) ∧ i ≤ n ∧ k = n + 1 - i) ?_ (n + 1)
    ⟨0, m0, s.heap, s.toks, rfl, F0, hJ0, hst, fun _ _ _ _ e => e, Nat.zero_le _, rfl⟩
  rintro k s' ⟨i, m, h', tk, rfl, F, hj, hsti, hkeep, hi, rfl⟩
  have keepW : ∀ {h₁ : Heap}, (∀ b o, b ∉ wr → h'.get? b = some o → h₁.get? b = some o) → Fr h₀ env.locals h₁ m := fun {h₁} hk₁ =>
    ⟨F.ns.at' fun o e => hk₁ _ o hLw e, fun b o e => hk₁ b o (fun hb => by rw [hwr b hb] at e; cases e) (F.keep b o e), F.above⟩
  by_cases hlt : i < n
  · refine W.item i _ _ _ hlt hsti fun v h₁ tk₁ hP hst₁ hk₁ => ?_
    have F₁ := keepW hk₁
    refine wpAny_assign_Name (wpAny_storeName_local hx F₁.ns (fun h₂ hn₂ hs₂ => ?_) hp)
    have F₂ : Fr h₀ env.locals h₂ (fun y => if y = x then some v else m y) := F₁.set hn₂ hs₂
    have up₂ : ∀ b o, b ∉ wr → b ≠ env.locals → h'.get? b = some o → h₂.get? b = some o := fun b o hb hbl e => hs₂.extBut b o hbl (hk₁ b o hb e)
    refine wpAny_mono (turn i m v h₂ _ hlt hP F₂ (hJ _ _ _ _ hj up₂)) (fun f s₃ h₃ => ?_) (fun _ _ e => e.elim)
    obtain ⟨rfl, h₃, tk₃, m₃, rfl, F₃, hk₃, hj₃⟩ := h₃
    refine ⟨n + 1 - (i + 1), by omega, i + 1, m₃, h₃, tk₃, rfl, F₃, hj₃, ?_, ?_, hlt, rfl⟩
    · exact W.frame _ _ _ hst₁ fun b hb o e => hk₃ b o (fun h => hLf (h ▸ hb)) (hs₂.extBut b o (fun h => hLf (h ▸ hb)) e)
    · exact fun b o hb hbl e => hk₃ b o hbl (up₂ b o hb hbl (hkeep b o hb hbl e))
  · have hin : i = n := by omega
    subst hin
    refine W.done _ _ _ hsti fun h₁ tk₁ hk₁ => wpAny_execs_nil ?_
    exact after m h₁ tk₁ (keepW hk₁) (hJ _ _ _ _ hj fun b o hb _ e => hk₁ b o hb e) fun b o hb hbl e => hk₁ b o hb (hkeep b o hb hbl e)

end
end Mine

namespace Mine
set_option maxRecDepth 100000
open PySem.Calls

theorem boot_range : bootBuiltins (Str.ofString "range") = some (.type "range") := by boot_fast
theorem boot_ord : bootBuiltins (Str.ofString "ord") = some (.builtin "ord") := by boot_fast
theorem boot_len : bootBuiltins (Str.ofString "len") = some (.builtin "len") := by boot_fast
theorem boot_sum : bootBuiltins (Str.ofString "sum") = some (.builtin "sum") := by boot_fast

section
variable {w : World} {A : Around} {E : Value → Shared → Prop} {s : Shared} {mg mb : Str → Option Value} {h₀ : Heap} {L : Addr} {m : Str → Option Value} {env : Env}

theorem evalRange {N : Nat} {k : Nat} {p rp rpos : Pos} {K : Value → Shared → Prop} (G : Gd w mg mb s.heap) (hh : A.handled = none) (hN : N ≤ 1000)
    (h : ∀ I h' tk, s.heap.objs.size ≤ I → Kp s.heap h' → Walks PR w A I [I] [I] N (fun i v => ∃ t, v = .int i t) (fun i h => IsRangeIter h I (i : Int) ((N : Int) - (i : Nat)) 1) → IsRangeIter h' I ((0 : Nat) : Int) ((N : Int) - ((0 : Nat) : Int)) 1 → I < h'.objs.size →
      K (.ref I) { s with heap := h', toks := tk })
    (hg : env.globals = mainGlobals := by rfl) (hb : env.builtins = builtinsNs := by rfl) (hk : env.scope.kind = .function := by rfl) (hx : env.kindOf (Str.ofString "range") = some .globalImplicit := by rfl) :
    wpAny (model PR w) A (eval (.Call (.Name (Str.ofString "range") rp) [.Constant (.int (N : Int)) k p] [] rpos) env) (fun xv s₁ => wpAny (model PR w) A (pyIter xv) K E s₁) E s := by
  refine wpAny_Call_NameR (nmB G (by rfl) boot_range (by decide) ?_ hg hb hk hx)
  show wpAny _ _ (callWith rpos (.type "range") [] [(false, eval (.Constant (.int (N : Int)) k p) env)] []) _ _ _
  refine PySem.callWith_type rfl (Calls.evalArgs_plain (Calls.spliced_cons (wpAny_Constant_int (Calls.spliced_nil ?_))))
  refine call_range_1 ?_
  refine wpAny_pyIter_range (IsRange.new ..) (small_one (by decide) (by decide) (by omega) (by omega)) ?_
  have hsz : Builtin.Range.rangeSize 0 (N : Int) 1 = (N : Int) := by rw [rangeSize_one]; split <;> omega
  have W := Walks.range (prog := PR) (w := w) hh (s.heap.objs.size + 1) 0 1 N
  simp only [Int.mul_one, Int.zero_add] at W
  dsimp only
  have e0 : (s.heap.push { cls := .type "range", data := .fields #[.int 0 (s.toks + 1), .int (N : Int) s.toks, .int 1 (s.toks + 1 + 1)] }).objs.size = s.heap.objs.size + 1 := by simp [Heap.size_push]
  rw [e0, hsz]
  refine h _ _ _ (Nat.le_succ _) (fun _ _ e => Heap.get?_push_of_some _ (Heap.get?_push_of_some _ e)) W ?_ ?_
  · have := Heap.get?_push_size (s.heap.push { cls := .type "range", data := .fields #[.int 0 (s.toks + 1), .int (N : Int) s.toks, .int 1 (s.toks + 1 + 1)] }) (o := { cls := .type "range_iterator", data := .fields #[rawInt 0, rawInt (N : Int), rawInt 1] }) rfl
    rw [e0] at this
    show Heap.get? _ _ = _
    simpa using this
  · simp [Heap.size_push]

theorem new_at {h : Heap} {I : Addr} (e : h.get? I = none) : ∀ b ∈ [I], h.get? b = none := fun b hb => by rw [List.mem_singleton.mp hb]; exact e
theorem fresh_none {h : Heap} {I : Addr} (hI : h.objs.size ≤ I) : h.get? I = none := by
  cases e : h.get? I with
  | none => rfl
  | some o => exact absurd (Heap.lt_size e) (Nat.not_lt.mpr hI)

theorem genN_snoc : ∀ (n c : Nat), genN (n + 1) c = stp (genN n c)
  | 0, _ => rfl
  | n + 1, c => by
    show genN (n + 1) (stp c) = stp (genN n (stp c))
    exact genN_snoc n (stp c)

theorem gen_crc_ok {c : Nat} {t : Tok} {Q : Value → Shared → Prop} (G : Gd w mg mb s.heap) (hh : A.handled = none) (hroom : A.depth < recursionLimit)
    (hQ : ∀ t' h' tk, Kp s.heap h' → Q (.int ((gen c : Nat) : Int) t') { s with heap := h', toks := tk }) :
    wpAny (model PR w) A (call (.ref 55) [.int (c : Int) t]) Q E s := by
  refine callF (binds := [(Str.ofString "crc", .int (c : Int) t)]) G hroom (by rfl) (by rfl) (by rfl) (locs rfl) (by decide) fun h₁ F₁ => ?_
  refine wpAny_execs_cons (wpAny_For (evalRange (G.keeps F₁.keep) hh (by decide) fun I h₂ tk₂ hI hK W hst hlt => ?_))
  have hL : s.heap.objs.size < h₁.objs.size := F₁.ns.lt
  have hI' : h₁.objs.size ≤ I := hI
  refine loopW W (fun i m h => ∃ t, m (Str.ofString "crc") = some (.int ((genN i c : Nat) : Int) t)) (F₁.keeps hK) hst ⟨t, rfl⟩ (notIn_one (by show s.heap.objs.size ≠ I; omega)) (new_at (fresh_none (by omega))) (fun _ _ _ _ a _ => a) ?_ ?_
  · rintro i m v h tk hi hP F ⟨u, hm⟩
    have hc : ∀ v' : Value, (if Str.ofString "crc" = Str.ofString "j" then some v' else m (Str.ofString "crc")) = some (.int ((genN i c : Nat) : Int) u) := fun v' => by rw [if_neg (by decide)]; exact hm
    refine wpAny_execs_cons (wpAny_If (isTrue_plain (wpAny_BinOp (nmL F (hc v) (wpAny_Constant_int (and_int (P.truthy_int ?_)))))))
    rw [bitAnd_one]
    dsimp only
    by_cases hodd : genN i c % 2 = 1
    · rw [hodd, if_pos (by decide)]
      refine wpAny_execs_cons (wpAny_Assign_Name (wpAny_BinOp (wpAny_BinOp (nmL F (hc v) (wpAny_Constant_int (rshift_int (by decide) ?_))))))
      refine wpAny_Constant_int (xor_int ?_)
      have e1 : ((genN i c : Nat) : Int).fdiv (2 ^ (1 : Int).toNat) = ((genN i c / 2 : Nat) : Int) := by
        rw [show (2 : Int) ^ (1 : Int).toNat = ((2 : Nat) : Int) from rfl]
        exact (Int.ofNat_fdiv _ _).symm
      have e2 : Builtin.bitXor (((genN i c : Nat) : Int).fdiv (2 ^ (1 : Int).toNat)) 3988292384 = ((genN (i + 1) c : Nat) : Int) := by
        rw [genN_snoc, e1, show (3988292384 : Int) = ((poly : Nat) : Int) from rfl, bitXor_nat]
        unfold stp
        rw [if_pos hodd]
      refine wpAny_storeName_local (by rfl) F.ns (fun h' hn hs => ?_)
      exact wpAny_execs_nil (wpAny_execs_nil ⟨rfl, h', _, _, rfl, F.set hn hs, fun b o hb e => hs.extBut b o hb e, _, (if_pos rfl).trans (congrArg (fun z => some (Value.int z _)) e2)⟩)
    · have h0 : genN i c % 2 = 0 := by omega
      rw [h0, if_neg (by decide)]
      refine wpAny_execs_cons (wpAny_AugAssign_Name (wpAny_loadName_local rfl rfl F.ns (hc v) (wpAny_Constant_int (irshift_int (by decide) ?_))))
      have e2 : ((genN i c : Nat) : Int).fdiv (2 ^ (1 : Int).toNat) = ((genN (i + 1) c : Nat) : Int) := by
        rw [genN_snoc, show (2 : Int) ^ (1 : Int).toNat = ((2 : Nat) : Int) from rfl]
        unfold stp
        rw [if_neg hodd]
        exact (Int.ofNat_fdiv _ _).symm
      refine wpAny_storeName_local (by rfl) F.ns (fun h' hn hs => ?_)
      exact wpAny_execs_nil (wpAny_execs_nil ⟨rfl, h', _, _, rfl, F.set hn hs, fun b o hb e => hs.extBut b o hb e, _, (if_pos rfl).trans (congrArg (fun z => some (Value.int z _)) e2)⟩)
  · rintro m h tk F ⟨u, hm⟩ hk
    refine wpAny_execs_cons (wpAny_Return_some (nmL F hm ?_))
    exact hQ u h _ F.keep
end
end Mine

namespace Mine
set_option maxRecDepth 100000
open PySem.Calls

section
variable {w : World} {A : Around} {E : Value → Shared → Prop} {s : Shared} {mg mb : Str → Option Value} {h₀ : Heap} {L : Addr} {m : Str → Option Value} {env : Env}

theorem call1 {f : Addr} {x : Str} {p pos : Pos} {a : Expr} {Q : Value → Shared → Prop} (G : Gd w mg mb s.heap) (e : nsIn (KK w) mainGlobals x = some (some (.ref f))) (hkeep : keepIn (KK w) (.ref f) = true)
    (h : wpAny (model PR w) A (eval a env) (fun v s₁ => Gd w mg mb s₁.heap ∧ wpAny (model PR w) A (call (.ref f) [v]) Q E s₁) E s)
    (ha : starEach [a] env = [(false, eval a env)] := by rfl)
    (hg : env.globals = mainGlobals := by rfl) (hk : env.scope.kind = .function := by rfl) (hx : env.kindOf x = some .globalImplicit := by rfl) (hd : (x == ("__debug__" : Str)) = false := by decide) :
    wpAny (model PR w) A (eval (.Call (.Name x p) [a] [] pos) env) Q E s := by
  refine wpAny_Call_NameR (nmG G e ?_ hg hk hx hd)
  refine callWith_K (K := KK w) (h₀ := s.heap) G.X hkeep ?_ ha rfl
  rw [ha]
  show wpAny (model PR w) A (spliced [(false, eval a env)]) _ E s
  refine spliced_cons (wpAny_mono h (fun v s₁ h₁ => spliced_nil ⟨h₁.1.X, h₁.2⟩) fun _ _ x => x)
theorem call2 {f : Addr} {x : Str} {p pos : Pos} {a b : Expr} {Q : Value → Shared → Prop} (G : Gd w mg mb s.heap) (e : nsIn (KK w) mainGlobals x = some (some (.ref f))) (hkeep : keepIn (KK w) (.ref f) = true)
    (h : wpAny (model PR w) A (eval a env) (fun v s₁ => wpAny (model PR w) A (eval b env) (fun u s₂ => Gd w mg mb s₂.heap ∧ wpAny (model PR w) A (call (.ref f) [v, u]) Q E s₂) E s₁) E s)
    (ha : starEach [a, b] env = [(false, eval a env), (false, eval b env)] := by rfl) (hb : starEach [b] env = [(false, eval b env)] := by rfl)
    (hg : env.globals = mainGlobals := by rfl) (hk : env.scope.kind = .function := by rfl) (hx : env.kindOf x = some .globalImplicit := by rfl) (hd : (x == ("__debug__" : Str)) = false := by decide) :
    wpAny (model PR w) A (eval (.Call (.Name x p) [a, b] [] pos) env) Q E s := by
  refine wpAny_Call_NameR (nmG G e ?_ hg hk hx hd)
  refine callWith_K (K := KK w) (h₀ := s.heap) G.X hkeep ?_ (by rw [ha, hb]) (by rw [hb]; rfl)
  rw [ha]
  show wpAny (model PR w) A (spliced [(false, eval a env), (false, eval b env)]) _ E s
  refine spliced_cons (wpAny_mono h (fun v s₁ h₁ => spliced_cons (wpAny_mono h₁ (fun u s₂ h₂ => spliced_nil ⟨h₂.1.X, h₂.2⟩) fun _ _ x => x)) fun _ _ x => x)
theorem callB1 {id : String} {x : Str} {p pos : Pos} {a : Expr} {Q : Value → Shared → Prop} (G : Gd w mg mb s.heap) (e : nsIn (KK w) mainGlobals x = some none) (hv : bootBuiltins x = some (.builtin id)) (hn : x ≠ "__name__")
    (h : wpAny (model PR w) A (eval a env) (fun v s₁ => wpAny (model PR w) A (call (.builtin id) [v]) Q E s₁) E s)
    (ha : starEach [a] env = [(false, eval a env)] := by rfl)
    (hg : env.globals = mainGlobals := by rfl) (hb : env.builtins = builtinsNs := by rfl) (hk : env.scope.kind = .function := by rfl) (hx : env.kindOf x = some .globalImplicit := by rfl) (hd : (x == ("__debug__" : Str)) = false := by decide) :
    wpAny (model PR w) A (eval (.Call (.Name x p) [a] [] pos) env) Q E s := by
  refine wpAny_Call_NameR (nmB G e hv hn ?_ hg hb hk hx hd)
  rw [ha]
  show wpAny (model PR w) A (callWith pos (.builtin id) [] [(false, eval a env)] []) _ E s
  exact PySem.callWith_builtin1 h

theorem law_run_ok {c : Nat} {t u : Tok} {x : Str} {Q : Value → Shared → Prop} (G : Gd w mg mb s.heap) (hh : A.handled = none) (hroom : A.depth + 1 < recursionLimit)
    (hQ : ∀ t' h' tk, Kp s.heap h' → Q (.int ((runC c (lst x) : Nat) : Int) t') { s with heap := h', toks := tk }) :
    wpAny (model PR w) A (call (.ref 69) [.int (c : Int) t, .str x u]) Q E s := by
  refine callF (binds := [(Str.ofString "crc", .int (c : Int) t), (Str.ofString "text", .str x u)]) G (by omega) (by rfl) (by rfl) (by rfl) (locs rfl) (by decide) fun h₁ F₁ => ?_
  refine wpAny_execs_cons (wpAny_For (nmL F₁ rfl (wpAny_pyIter_str fun o St W hst => ?_)))
  dsimp only
  have hL : s.heap.objs.size < h₁.objs.size := F₁.ns.lt
  have hK : Kp h₁ (h₁.push o) := fun _ _ e => Heap.get?_push_of_some _ e
  refine loopW (W _ hh) (fun i m h => ∃ t, m (Str.ofString "crc") = some (.int ((runC c ((lst x).take i) : Nat) : Int) t)) (F₁.keeps hK) hst ⟨t, rfl⟩ (notIn_one (by show s.heap.objs.size ≠ h₁.objs.size; omega)) (new_at (fresh_none (by show s.heap.objs.size ≤ h₁.objs.size; omega))) (fun _ _ _ _ a _ => a) ?_ ?_
  · rintro i m v h tk hi ⟨d, ut, hd, rfl⟩ F ⟨u', hm⟩
    have hc : ∀ v' : Value, (if Str.ofString "crc" = Str.ofString "sign" then some v' else m (Str.ofString "crc")) = some (.int ((runC c ((lst x).take i) : Nat) : Int) u') := fun v' => by rw [if_neg (by decide)]; exact hm
    have hs : ∀ v' : Value, (if Str.ofString "sign" = Str.ofString "sign" then some v' else m (Str.ofString "sign")) = some v' := fun v' => if_pos rfl
    have G1 : Gd w mg mb h := G.keeps F.keep
    refine wpAny_execs_cons (wpAny_Assign_Name (call1 G1 (by rfl) (by rfl) (wpAny_BinOp (nmL F (hc _) (callB1 G1 (by rfl) boot_ord (by decide) (nmL F (hs _) (PySem.P.ord_of_char (xor_int ⟨G1, ?_⟩))))))))
    rw [bitXor_nat]
    refine gen_crc_ok G1 hh (by show A.depth + 1 < _; omega) fun t2 h2 tk2 hk2 => ?_
    have F2 : Fr s.heap s.heap.objs.size h2 _ := F.keeps hk2
    refine wpAny_storeName_local (by rfl) F2.ns (fun h' hn hs => ?_)
    have e2 : ((gen (runC c ((lst x).take i) ^^^ d) : Nat) : Int) = ((runC c ((lst x).take (i + 1)) : Nat) : Int) := by
      have e3 : (lst x).take (i + 1) = (lst x).take i ++ [d] := by
        rw [List.take_add_one]
        congr 1
        have : (lst x)[i]? = some d := by rw [← hd]; simp [lst]
        rw [this]
        rfl
      rw [e3, runC_append]
      rfl
    exact wpAny_execs_nil ⟨rfl, h', _, _, rfl, F2.set hn hs, fun b o hb e => hs.extBut b o hb (hk2 b o e), _, (if_pos rfl).trans (congrArg (fun z => some (Value.int z _)) e2)⟩
  · rintro m h tk F ⟨u', hm⟩ hk
    refine wpAny_execs_cons (wpAny_Return_some (nmL F hm ?_))
    have := hQ u' h tk F.keep
    rw [show (lst x).take x.cps.size = lst x from List.take_of_length_le (by simp [lst])]
    exact this
end
end Mine

namespace Mine
set_option maxRecDepth 100000
open PySem.Calls

/-- values and what they are, one by one -/
def Are {α : Type} (R : α → Value → Prop) : List α → List Value → Prop
  | [], [] => True
  | a :: as, v :: vs => R a v ∧ Are R as vs
  | _, _ => False
theorem Are.len {α : Type} {R : α → Value → Prop} : ∀ {as : List α} {vs : List Value}, Are R as vs → vs.length = as.length
  | [], [], _ => rfl
  | a :: as, v :: vs, h => by rw [List.length_cons, List.length_cons, Are.len h.2]
  | [], _ :: _, h => h.elim
  | _ :: _, [], h => h.elim
theorem Are.get {α : Type} {R : α → Value → Prop} : ∀ {as : List α} {vs : List Value} {i : Nat} {v : Value}, Are R as vs → vs[i]? = some v → ∃ a, as[i]? = some a ∧ R a v
  | [], [], i, v, _, e => by simp at e
  | a :: as, v' :: vs, 0, v, h, e => by
    simp at e
    subst e
    exact ⟨a, rfl, h.1⟩
  | a :: as, v' :: vs, i + 1, v, h, e => by
    have e' : vs[i]? = some v := by simpa using e
    obtain ⟨b, h1, h2⟩ := Are.get h.2 e'
    exact ⟨b, by simpa using h1, h2⟩
  | [], _ :: _, _, _, h, _ => h.elim
  | _ :: _, [], _, _, h, _ => h.elim
theorem Are.at {α : Type} {R : α → Value → Prop} : ∀ {as : List α} {vs : List Value} {i : Nat} {a : α}, Are R as vs → as[i]? = some a → ∃ v, vs[i]? = some v ∧ R a v
  | [], [], i, v, _, e => by simp at e
  | a' :: as, v' :: vs, 0, a, h, e => by
    simp at e
    subst e
    exact ⟨v', rfl, h.1⟩
  | a' :: as, v' :: vs, i + 1, a, h, e => by
    have e' : as[i]? = some a := by simpa using e
    obtain ⟨b, h1, h2⟩ := Are.at h.2 e'
    exact ⟨b, by simpa using h1, h2⟩
  | [], _ :: _, _, _, h, _ => h.elim
  | _ :: _, [], _, _, h, _ => h.elim
theorem Are.snoc {α : Type} {R : α → Value → Prop} : ∀ {as : List α} {vs : List Value} {a : α} {v : Value}, Are R as vs → R a v → Are R (as ++ [a]) (vs ++ [v])
  | [], [], _, _, _, h => ⟨h, trivial⟩
  | b :: as, u :: vs, _, _, h, h' => ⟨h.1, Are.snoc h.2 h'⟩
  | [], _ :: _, _, _, h, _ => h.elim
  | _ :: _, [], _, _, h, _ => h.elim
theorem Are.append {α : Type} {R : α → Value → Prop} : ∀ {as : List α} {vs : List Value} {bs : List α} {us : List Value}, Are R as vs → Are R bs us → Are R (as ++ bs) (vs ++ us)
  | [], [], _, _, _, h => h
  | b :: as, u :: vs, _, _, h, h' => ⟨h.1, Are.append h.2 h'⟩
  | [], _ :: _, _, _, h, _ => h.elim
  | _ :: _, [], _, _, h, _ => h.elim
theorem Are.mono {α : Type} {R R' : α → Value → Prop} (hR : ∀ a v, R a v → R' a v) : ∀ {as : List α} {vs : List Value}, Are R as vs → Are R' as vs
  | [], [], _ => trivial
  | b :: as, u :: vs, h => ⟨hR _ _ h.1, Are.mono hR h.2⟩
  | [], _ :: _, h => h.elim
  | _ :: _, [], h => h.elim
theorem Are.drop {α : Type} {R : α → Value → Prop} : ∀ (n : Nat) {as : List α} {vs : List Value}, Are R as vs → Are R (as.drop n) (vs.drop n)
  | 0, _, _, h => h
  | n + 1, [], [], _ => trivial
  | n + 1, b :: as, u :: vs, h => Are.drop n (as := as) (vs := vs) h.2
  | _ + 1, [], _ :: _, h => h.elim
  | _ + 1, _ :: _, [], h => h.elim
def IsNat (n : Nat) (v : Value) : Prop := ∃ t, v = .int (n : Int) t
def IsTxt (x : List Nat) (v : Value) : Prop := ∃ t, v = .str (txt x) t

section
variable {w : World} {A : Around} {E : Value → Shared → Prop} {s : Shared} {mg mb : Str → Option Value} {h₀ : Heap} {L : Addr} {m : Str → Option Value} {env : Env}

theorem notIn_two {x y z : Addr} (h1 : x ≠ y) (h2 : x ≠ z) : x ∉ [y, z] := by simp [h1, h2]
theorem isList_lt {h : Heap} {a : Nat} {items : Array Value} (x : h.IsList a items) : a < h.objs.size := by obtain ⟨o, e, _⟩ := x; exact Heap.lt_size e
theorem isList_kp {h h' : Heap} {a : Addr} {items : Array Value} (x : h.IsList a items) (k : Kp h h') : h'.IsList a items := x.at fun o e => k a o e

theorem together_ok {a : Nat} {ns : List Nat} {vs : List Value} {Q : Value → Shared → Prop} (G : Gd w mg mb s.heap) (hh : A.handled = none) (hroom : A.depth < recursionLimit)
    (hl : s.heap.IsList a vs.toArray) (hv : Are IsNat ns vs)
    (hQ : ∀ t' h' tk, Kp s.heap h' → Q (.int ((xall ns : Nat) : Int) t') { s with heap := h', toks := tk }) :
    wpAny (model PR w) A (call (.ref 96) [.ref a]) Q E s := by
  refine callF (binds := [(Str.ofString "sums", .ref a)]) G (by omega) (by rfl) (by rfl) (by rfl) (locs rfl) (by decide) fun h₁ F₁ => ?_
  refine wpAny_execs_cons (wpAny_Assign_Name (wpAny_Constant_int ?_))
  refine wpAny_storeName_local (by rfl) F₁.ns (fun h₂ hn₂ hs₂ => ?_)
  have F₂ := F₁.set hn₂ hs₂
  have hl₂ : h₂.IsList a vs.toArray := isList_kp hl F₂.keep
  refine wpAny_execs_cons (wpAny_For (nmL F₂ rfl (wpAny_pyIter_list hl₂ ?_)))
  dsimp only
  have hL : s.heap.objs.size < h₂.objs.size := F₂.ns.lt
  have ha : a < s.heap.objs.size := isList_lt hl
  have hK : ∀ o, Kp h₂ (h₂.push o) := fun o _ _ e => Heap.get?_push_of_some _ e
  have W : ∀ A' : Around, A'.handled = none → Walks PR w A' h₂.objs.size [h₂.objs.size, a] [h₂.objs.size] vs.toArray.size (fun i v => vs.toArray[i]? = some v) (fun i h => h.IsListIter h₂.objs.size a i ∧ h.IsList a vs.toArray) := fun A' hA' => Walks.list hA' h₂.objs.size a (Nat.ne_of_lt (Nat.lt_trans ha hL)) vs.toArray
  refine loopW (W _ hh) (fun i m h => ∃ t, m (Str.ofString "whole") = some (.int ((xall (ns.take i) : Nat) : Int) t)) (F₂.keeps (hK _)) ⟨⟨_, Heap.get?_push_size _ rfl, rfl, rfl⟩, isList_kp hl₂ (hK _)⟩ ⟨_, rfl⟩
    (notIn_two (by show s.heap.objs.size ≠ h₂.objs.size; omega) (by show s.heap.objs.size ≠ a; omega)) (new_at (fresh_none (by omega))) (fun _ _ _ _ a _ => a) ?_ ?_
  · rintro i m v h tk hi hP F ⟨u', hm⟩
    have hP' : vs[i]? = some v := by simpa using hP
    obtain ⟨n, hn, ut, rfl⟩ := hv.get hP'
    have hc : ∀ v' : Value, (if Str.ofString "whole" = Str.ofString "one" then some v' else m (Str.ofString "whole")) = some (.int ((xall (ns.take i) : Nat) : Int) u') := fun v' => by rw [if_neg (by decide)]; exact hm
    have hs : ∀ v' : Value, (if Str.ofString "one" = Str.ofString "one" then some v' else m (Str.ofString "one")) = some v' := fun v' => if_pos rfl
    refine wpAny_execs_cons (wpAny_Assign_Name (wpAny_BinOp (nmL F (hc _) (nmL F (hs _) (xor_int ?_)))))
    rw [bitXor_nat]
    refine wpAny_storeName_local (by rfl) F.ns (fun h' hn' hs' => ?_)
    have e2 : ((xall (ns.take i) ^^^ n : Nat) : Int) = ((xall (ns.take (i + 1)) : Nat) : Int) := by
      rw [List.take_add_one, hn, xall_append]
      show _ = ((xall (ns.take i) ^^^ xall [n] : Nat) : Int)
      rw [xall_cons, xall_nil, Nat.xor_zero]
    exact wpAny_execs_nil ⟨rfl, h', _, _, rfl, F.set hn' hs', fun b o hb e => hs'.extBut b o hb e, _, (if_pos rfl).trans (congrArg (fun z => some (Value.int z _)) e2)⟩
  · rintro m h tk F ⟨u', hm⟩ hk
    refine wpAny_execs_cons (wpAny_Return_some (nmL F hm ?_))
    have := hQ u' h tk F.keep
    rw [show ns.take vs.toArray.size = ns from List.take_of_length_le (by rw [List.size_toArray, hv.len]; exact Nat.le_refl _)]
    exact this
end
end Mine

namespace Mine
set_option maxRecDepth 100000
open PySem.Calls

section
variable {w : World} {A : Around} {E : Value → Shared → Prop} {s : Shared} {mg mb : Str → Option Value} {h₀ : Heap} {L : Addr} {m : Str → Option Value} {env : Env}

theorem pat_D {h : Heap} (X : (KK w).In h) : IsPat h 36 35 codeD :=
  ⟨⟨_, _, X 36 _ (by rfl), rfl, rfl, rfl, rfl, rfl, rfl⟩, ⟨_, _, _, X 35 _ (by rfl), rfl, by decide +kernel⟩⟩
theorem pat_N {h : Heap} (X : (KK w).In h) : IsPat h 41 40 codeN :=
  ⟨⟨_, _, X 41 _ (by rfl), rfl, rfl, rfl, rfl, rfl, rfl⟩, ⟨_, _, _, X 40 _ (by rfl), rfl, by decide +kernel⟩⟩

theorem crlf_txt : Str.ofString "\x0d\n" = txt [13, 10] := by decide +kernel
theorem dots_txt : Str.ofString ".." = txt [46, 46] := by decide +kernel

theorem pat_method {a c : Nat} {code : Array Nat} {pos : Pos} {e1 e2 : Sem Value} {Q : Value → Shared → Prop} (P : IsPat s.heap a c code)
    (h : wpAny (model PR w) A e1 (fun v s₁ => wpAny (model PR w) A e2 (fun u s₂ => wpAny (model PR w) A (call (.builtin "re.Pattern.sub") [.ref a, v, u]) Q E s₂) E s₁) E s) :
    MethodOnS PR w A E (Str.ofString "sub") (.ref a) pos [(false, e1), (false, e2)] Q s := by
  obtain ⟨o, fs, ho, hc, hdi, r⟩ := P.pat
  refine ⟨"re.Pattern", "re.Pattern.sub", plainAttrs_re, slot_re_sub, type_re_sub, ⟨o, ho, hc⟩, fun a' e => ?_, ?_⟩
  · cases e; exact ⟨o, ho, hdi⟩
  · refine Calls.callWith_builtin rfl (Calls.evalArgs_plain (Calls.spliced_cons (wpAny_mono h (fun v s₁ h₁ => Calls.spliced_cons (wpAny_mono h₁ (fun u s₂ h₂ => Calls.spliced_nil h₂) fun _ _ x => x)) fun _ _ x => x)))

theorem Call_method2 {o e1 e2 : Expr} {name : Str} {apos pos : Pos} {Q : Value → Shared → Prop}
    (h : wpAny (model PR w) A (eval o env) (fun ov s₁ => MethodOnS PR w A E name ov pos [(false, eval e1 env), (false, eval e2 env)] Q s₁) E s)
    (hbase : attributeBase o name env (eval o env) = eval o env := by rfl) (hs : starEach [e1, e2] env = [(false, eval e1 env), (false, eval e2 env)] := by rfl) (hline : (apos.endLine == pos.line) = true := by rfl) :
    wpAny (model PR w) A (eval (.Call (.Attribute o name apos) [e1, e2] [] pos) env) Q E s := by
  refine wpAny_Call_method_lateS hbase (by rw [hs]; rfl) hline ?_
  rw [hs]; exact h

theorem quotedata_ok {x : Str} {t : Tok} {Q : Value → Shared → Prop} (G : Gd w mg mb s.heap) (hh : A.handled = none) (hroom : A.depth < recursionLimit) (hx : x.length ≤ 32768)
    (hQ : ∀ t' h' tk, Kp s.heap h' → Q (.str (txt (qd (lst x))) t') { s with heap := h', toks := tk }) :
    wpAny (model PR w) A (call (.ref 48) [.str x t]) Q E s := by
  refine callF (binds := [(Str.ofString "data", .str x t)]) G hroom (by rfl) (by rfl) (by rfl) (locs rfl) (by decide) fun h₁ F₁ => ?_
  have G1 : Gd w mg mb h₁ := G.keeps F₁.keep
  refine wpAny_execs_cons (wpAny_Return_some (Call_method2 (nmG G1 (by rfl) ?_)))
  refine pat_method (pat_D G1.X) (wpAny_Constant_str ?_)
  refine Call_method2 (nmG G1 (by rfl) ?_)
  refine pat_method (pat_N G1.X) (nmG G1 (by rfl) (nmL F₁ rfl ?_))
  refine sub_newline (by omega) crlf_txt (pat_N G1.X) fun t2 h2 tk2 hk2 => ?_
  have hl : (txt (nrm false (lst x))).length ≤ 65536 := by
    rw [len_txt]
    have := nrm_len (lst x) false
    rw [len_lst] at this
    omega
  refine sub_dot hl dots_txt (pat_D (G1.keeps hk2).X) fun t3 h3 tk3 hk3 => ?_
  have e : txt (stuff true (lst (txt (nrm false (lst x))))) = txt (qd (lst x)) := by rw [lst_txt]; rfl
  rw [e]
  exact hQ _ _ _ fun b o e => hk3 b o (hk2 b o (F₁.keep b o e))
end
end Mine

namespace Mine
set_option maxRecDepth 100000
open PySem.Calls

theorem fdiv_nat (a b : Nat) : Int.fdiv (a : Int) (b : Int) = ((a / b : Nat) : Int) := (Int.ofNat_fdiv a b).symm
theorem fmod_nat (a b : Nat) : Int.fmod (a : Int) (b : Int) = ((a % b : Nat) : Int) := by
  rw [Int.fmod_eq_emod_of_nonneg _ (by omega)]
  rfl
theorem pow2_nat (k : Nat) : (2 : Int) ^ ((k : Int)).toNat = ((2 ^ k : Nat) : Int) := by
  rw [Int.toNat_natCast]
  exact (Int.natCast_pow 2 k).symm

section
variable {w : World} {A : Around} {E : Value → Shared → Prop} {s : Shared} {mg mb : Str → Option Value} {h₀ : Heap} {L : Addr} {m : Str → Option Value} {env : Env}

theorem nmC {x : Str} {pos : Pos} {c : Addr} {v : Value} {Q : Value → Shared → Prop} (hv : s.heap.IsCell c (some v)) (h : Q v s)
    (hc : env.cells.lookup x = some c := by rfl) (hk : env.scope.kind = .function := by rfl) (hx : env.kindOf x = some .cell := by rfl) (hd : (x == ("__debug__" : Str)) = false := by decide) :
    wpAny (model PR w) A (eval (.Name x pos) env) Q E s := wpAny_Name (wpAny_loadName_cell hk hx hc hv h) hd

theorem callC {f : Addr} {oc : Value} {od : Option Addr} {osl : Array (Option Value)} {name qual : Str} {params : Arguments} {body : List Stmt} {scope : Scope} {dV kV doc pm cdv ct : Value} {an : Option Addr}
    {args : List Value} {binds : List (Str × Value)} {Q : Value → Shared → Prop}
    (G : Gd w mg mb s.heap) (hroom : A.depth < recursionLimit)
    (ho : (KK w).lookup f = some ⟨oc, od, .func (fnX name qual params body scope [] dV kV doc pm an cdv ct), osl⟩) (hcd : codeIn (KK w) cdv qual = true)
    (hbind : bindArgs (fnX name qual params body scope [] dV kV doc pm an cdv ct) ⟨args, []⟩ = pure binds)
    (hkind : ∀ x ∈ binds, scope.names.lookup x.1 = some .local ∨ (scope.names.lookup x.1 = some .cell ∧ ((cellsFrom (s.heap.objs.size + 1) scope.names []).lookup x.1).isSome = true))
    (h : ∀ h₁ tk₁, Fr s.heap s.heap.objs.size h₁ (bindL (envX qual scope s.heap.objs.size f cdv (cellsFrom (s.heap.objs.size + 1) scope.names [])).kindOf binds fun _ => none) →
      (∀ n c, (cellsFrom (s.heap.objs.size + 1) scope.names []).lookup n = some c → h₁.IsCell c (bindC (envX qual scope s.heap.objs.size f cdv (cellsFrom (s.heap.objs.size + 1) scope.names [])).kindOf binds (fun _ => none) n)) →
      wpAny (model PR w) (A.deeper (envX qual scope s.heap.objs.size f cdv (cellsFrom (s.heap.objs.size + 1) scope.names []))) (execs body (envX qual scope s.heap.objs.size f cdv (cellsFrom (s.heap.objs.size + 1) scope.names [])))
        (fun fl s' => Q (match fl with | .ret v => v | _ => .none) s') (fun _ _ => False) { s with heap := h₁, toks := tk₁ })
    (hco : scope.isCoroutine = false := by rfl) (hgen : scope.isGenerator = false := by rfl) (hk : scope.kind = .function := by rfl) :
    wpAny (model PR w) A (call (.ref f) args) Q E s := by
  refine wpAny_call (codeAny_call_cells (fd := fnX name qual params body scope [] dV kV doc pm an cdv ct) (body := body) (binds := binds) hroom (G.X _ _ ho) rfl G.nolimit (codeRec_of G.X hcd) rfl hbind rfl hkind (fun s₁ x => ?_) hco hgen hk)
  obtain ⟨h₁, tk₁, rfl⟩ := x.toInCall.same
  exact wpAny_mono (h h₁ tk₁ ⟨x.toInCall.ns, x.toInCall.keep, x.toInCall.fresh⟩ x.cell) (fun fl s' q => q) (fun _ _ x => x.elim)

/-- a for over anything that walks, any state -/
theorem loopG {I : Addr} {fp wr : List Addr} {n : Nat} {P : Nat → Value → Prop} {St : Nat → Heap → Prop} {target : Expr} {body : List Stmt} {R : Result → Shared → Prop}
    (W : Walks PR w A I fp wr n P St) (J : Nat → Heap → Prop) (hst : St 0 s.heap) (hJ0 : J 0 s.heap)
    (hJ : ∀ i h h', J i h → (∀ b o, b ∉ wr → h.get? b = some o → h'.get? b = some o) → J i h')
    (turn : ∀ i v h₁ tk₁, i < n → P i v → J i h₁ →
      wpAny (model PR w) A (assign target env v) (fun _ s₂ => wpAny (model PR w) A (execs body env) (fun f s₃ => f = .next ∧ ∃ h₃ tk₃, s₃ = { s with heap := h₃, toks := tk₃ } ∧ J (i + 1) h₃ ∧ (∀ b ∈ fp, ∀ o, h₁.get? b = some o → h₃.get? b = some o)) (fun _ _ => False) s₂) (fun _ _ => False) { s with heap := h₁, toks := tk₁ })
    (after : ∀ h' tk, J n h' → R (.ok .next) { s with heap := h', toks := tk })
    (ht : ∀ v, letOwnedTupleGo target (.ref I) v = pure () := by intro _; rfl) :
    codeAny (model PR w) A (.forLoop target (.ref I) body [] env) R s := by
  refine codeAny_forLoop (fun k s' => ∃ i h' tk, s' = { s with heap := h', toks := tk } ∧ J i h' ∧ St i h' ∧ i ≤ n ∧ k = n + 1 - i) ?_ (n + 1)
    ⟨0, s.heap, s.toks, rfl, hJ0, hst, Nat.zero_le _, rfl⟩ ht
  rintro k s' ⟨i, h', tk, rfl, hj, hsti, hi, rfl⟩
  by_cases hlt : i < n
  · refine W.item i _ _ _ hlt hsti fun v h₁ tk₁ hP hst₁ hk₁ => ?_
    refine wpAny_mono (turn i v h₁ tk₁ hlt hP (hJ _ _ _ hj hk₁)) (fun _ s₂ h₂ => wpAny_mono h₂ (fun f s₃ h₃ => ?_) (fun _ _ e => e.elim)) (fun _ _ e => e.elim)
    obtain ⟨rfl, h₃, tk₃, rfl, hj₃, hk₃⟩ := h₃
    exact ⟨n + 1 - (i + 1), by omega, i + 1, h₃, tk₃, rfl, hj₃, W.frame _ _ _ hst₁ hk₃, hlt, rfl⟩
  · have hin : i = n := by omega
    subst hin
    refine W.done _ _ _ hsti fun h₁ tk₁ hk₁ => wpAny_execs_nil ?_
    exact after h₁ tk₁ (hJ _ _ _ hj hk₁)

theorem isCell_at {h h' : Heap} {c : Addr} {v : Option Value} (x : h.IsCell c v) (k : ∀ o, h.get? c = some o → h'.get? c = some o) : h'.IsCell c v := let ⟨o, e, r⟩ := x; ⟨o, k o e, r⟩
theorem isCell_lt {h : Heap} {c : Nat} {v : Option Value} (x : h.IsCell c v) : c < h.objs.size := let ⟨o, e, r⟩ := x; Heap.lt_size e
theorem fr_at {h h' : Heap} {wr : List Addr} (F : Fr h₀ L h m) (hL : L ∉ wr) (hb : ∀ b ∈ wr, h₀.get? b = none) (k : ∀ b o, b ∉ wr → h.get? b = some o → h'.get? b = some o) : Fr h₀ L h' m :=
  ⟨F.ns.at' fun o e => k _ o hL e, fun b o e => k b o (fun q => by rw [hb b q] at e; cases e) (F.keep b o e), F.above⟩
theorem fr_ext {h h' : Heap} {c : Addr} (F : Fr h₀ L h m) (hs : Heap.SameBut c h h') (hc : L ≠ c) (hb : h₀.get? c = none) : Fr h₀ L h' m :=
  ⟨F.ns.sameBut hs hc, fun b o e => hs.extBut b o (fun q => by subst q; rw [hb] at e; cases e) (F.keep b o e), F.above⟩
end

theorem bsteps_snoc (x : Nat) : ∀ (n k r : Nat), bsteps x (n + 1) k r = bstep (x / 2 ^ (k + n) % 2) (bsteps x n k r)
  | 0, k, r => rfl
  | n + 1, k, r => by
    show bsteps x (n + 1) (k + 1) (bstep (x / 2 ^ k % 2) r) = _
    rw [bsteps_snoc x n (k + 1), show k + 1 + n = k + (n + 1) by omega]
    rfl
theorem bstep_lt {b r : Nat} : bstep b r < 2 ^ 32 := by
  unfold bstep
  have hlt : r * 2 % 2 ^ 32 < 2 ^ 32 := Nat.mod_lt _ (by decide)
  split
  · exact Nat.xor_lt_two_pow hlt (by decide)
  · exact hlt
end Mine

namespace Mine
set_option maxRecDepth 100000
open PySem.Calls

/-! ## steps, with the state in its parts -/
section
variable {w : World} {A : Around} {E : Value → Shared → Prop} {H : Heap} {ge : Array GenState} {dr : Drawn} {tk : Nat} {os : OsState} {env : Env} {Q : Value → Shared → Prop}

theorem oInt {i : Int} {k : Nat} {p : Pos} (h : ∀ t tk', Q (.int i t) ⟨H, ge, dr, tk', os⟩) : wpAny (model PR w) A (eval (.Constant (.int i) k p) env) Q E ⟨H, ge, dr, tk, os⟩ := wpAny_Constant_int (h _ _)
theorem oStr {x : Str} {k : Nat} {p : Pos} (h : ∀ t tk', t ≠ 0 → Q (.str x t) ⟨H, ge, dr, tk', os⟩) (htk : tk ≠ 0) : wpAny (model PR w) A (eval (.Constant (.str x) k p) env) Q E ⟨H, ge, dr, tk, os⟩ := wpAny_Constant_str (h _ _ htk)
theorem oPow {x y : Int} {t u : Tok} {k : Nat} (hx : x = 2) (hy : y = (k : Int)) (hk : k ≤ 64) (h : ∀ t tk', Q (.int ((2 ^ k : Nat) : Int) t) ⟨H, ge, dr, tk', os⟩) : wpAny (model PR w) A (binaryOp .Pow (.int x t) (.int y u)) Q E ⟨H, ge, dr, tk, os⟩ := by
  subst hx hy
  refine pow_int_small (by omega) (by omega) (by decide) ?_
  rw [pow2_nat]
  exact h _ _
theorem oDiv {x y : Int} {t u : Tok} {a b : Nat} (hx : x = (a : Int)) (hy : y = (b : Int)) (hb : 0 < b) (hb2 : b < 2 ^ 64) (h : ∀ t tk', Q (.int ((a / b : Nat) : Int) t) ⟨H, ge, dr, tk', os⟩) : wpAny (model PR w) A (binaryOp .FloorDiv (.int x t) (.int y u)) Q E ⟨H, ge, dr, tk, os⟩ := by
  subst hx hy
  refine floordiv_int (by omega) ?_ (.inl (PyProof.noPylong_of_log2 ?_))
  · rw [fdiv_nat]
    exact h _ _
  · rw [Int.natAbs_natCast]
    have : b.log2 < 64 := (Nat.log2_lt (by omega)).mpr hb2
    omega
theorem oMod {x y : Int} {t u : Tok} {a b : Nat} (hx : x = (a : Int)) (hy : y = (b : Int)) (hb : 0 < b) (h : ∀ t tk', Q (.int ((a % b : Nat) : Int) t) ⟨H, ge, dr, tk', os⟩) : wpAny (model PR w) A (binaryOp .Mod (.int x t) (.int y u)) Q E ⟨H, ge, dr, tk, os⟩ := by
  subst hx hy
  refine mod_int' (by omega) ?_
  rw [fmod_nat]
  exact h _ _
theorem oMul {x y : Int} {t u : Tok} {a b : Nat} (hx : x = (a : Int)) (hy : y = (b : Int)) (hb : b < 2 ^ 64) (h : ∀ t tk', Q (.int ((a * b : Nat) : Int) t) ⟨H, ge, dr, tk', os⟩) : wpAny (model PR w) A (binaryOp .Mult (.int x t) (.int y u)) Q E ⟨H, ge, dr, tk, os⟩ := by
  subst hx hy
  refine PyProof.Rows.mul_int ?_ (.of_right (intBits_le_64 (by omega) (by omega)))
  rw [show (a : Int) * (b : Int) = ((a * b : Nat) : Int) from (Int.natCast_mul a b).symm]
  exact h _ _
theorem oAdd {x y : Int} {t u : Tok} {a b : Nat} (hx : x = (a : Int)) (hy : y = (b : Int)) (h : ∀ t tk', Q (.int ((a + b : Nat) : Int) t) ⟨H, ge, dr, tk', os⟩) : wpAny (model PR w) A (binaryOp .Add (.int x t) (.int y u)) Q E ⟨H, ge, dr, tk, os⟩ := by
  subst hx hy
  refine PyProof.Rows.add_int ?_
  rw [show (a : Int) + (b : Int) = ((a + b : Nat) : Int) from (Int.natCast_add a b).symm]
  exact h _ _
theorem oSub {x y : Int} {t u : Tok} {a b : Nat} (hx : x = (a : Int)) (hy : y = (b : Int)) (hle : b ≤ a) (h : ∀ t tk', Q (.int ((a - b : Nat) : Int) t) ⟨H, ge, dr, tk', os⟩) : wpAny (model PR w) A (binaryOp .Sub (.int x t) (.int y u)) Q E ⟨H, ge, dr, tk, os⟩ := by
  subst hx hy
  refine PyProof.Rows.sub_int ?_
  rw [show (a : Int) - (b : Int) = ((a - b : Nat) : Int) by omega]
  exact h _ _
theorem oXor {x y : Int} {t u : Tok} {a b : Nat} (hx : x = (a : Int)) (hy : y = (b : Int)) (h : ∀ t tk', Q (.int ((a ^^^ b : Nat) : Int) t) ⟨H, ge, dr, tk', os⟩) : wpAny (model PR w) A (binaryOp .BitXor (.int x t) (.int y u)) Q E ⟨H, ge, dr, tk, os⟩ := by
  subst hx hy
  refine xor_int ?_
  rw [bitXor_nat]
  exact h _ _
theorem oNe {s : Shared} {x y : Int} {t u : Tok} {a b : Nat} (hx : x = (a : Int)) (hy : y = (b : Int)) (h : Q (.bool (a != b)) s) : wpAny (model PR w) A (compareOp .NotEq (.int x t) (.int y u)) Q E s := by
  subst hx hy
  refine PyProof.Rows.ne_int ?_
  have e : (((a : Int)) != (b : Int)) = (a != b) := by
    by_cases e : a = b
    · subst e; simp
    · have h1 : (a != b) = true := by simp [e]
      have h2 : (((a : Int)) != (b : Int)) = true := by simp; omega
      rw [h1, h2]
  rw [e]
  exact h
theorem oEq {s : Shared} {x y : Int} {t u : Tok} {a b : Nat} (hx : x = (a : Int)) (hy : y = (b : Int)) (h : Q (.bool (a == b)) s) : wpAny (model PR w) A (compareOp .Eq (.int x t) (.int y u)) Q E s := by
  subst hx hy
  refine PyProof.Rows.eq_int ?_
  have e : (((a : Int)) == (b : Int)) = (a == b) := by
    by_cases e : a = b
    · subst e; simp
    · have h1 : (a == b) = false := by simp [e]
      have h2 : (((a : Int)) == (b : Int)) = false := by simp; omega
      rw [h1, h2]
  rw [e]
  exact h
theorem oOrd {d : Nat} {t : Tok} (h : ∀ t tk', Q (.int (d : Int) t) ⟨H, ge, dr, tk', os⟩) : wpAny (model PR w) A (call (.builtin "ord") [.str ⟨#[d]⟩ t]) Q E ⟨H, ge, dr, tk, os⟩ := PySem.P.ord_of_char (h _ _)
theorem oSet {x : Str} {v : Value} {m : Str → Option Value} {L : Addr} {h₀ : Heap} {Q : Unit → Shared → Prop} (F : Fr h₀ L H m)
    (h : ∀ h' tk', h'.Ns L (fun y => if y = x then some v else m y) → Heap.SameBut L H h' → Q () ⟨h', ge, dr, tk', os⟩)
    (hL : env.locals = L := by rfl) (hx : env.kindOf x = some .local := by rfl) (hp : (env.scope.kind == .class || (env.scope.kind == .module && env.locals != env.globals)) = false := by rfl) :
    wpAny (model PR w) A (storeName env x v) Q E ⟨H, ge, dr, tk, os⟩ := by
  subst hL
  exact wpAny_storeName_local hx F.ns (fun h' hn hs => h h' _ hn hs) hp
theorem oSetC {x : Str} {v : Value} {c : Addr} {v₀ : Option Value} {Q : Unit → Shared → Prop} (hv : H.IsCell c v₀) (h : ∀ h', h'.IsCell c (some v) → Heap.SameBut c H h' → Q () ⟨h', ge, dr, tk, os⟩)
    (hc : env.cells.lookup x = some c := by rfl) (hk : env.scope.kind = .function := by rfl) (hx : env.kindOf x = some .cell := by rfl) : wpAny (model PR w) A (storeName env x v) Q E ⟨H, ge, dr, tk, os⟩ :=
  wpAny_storeName_cell hk hx hc hv fun h' a b => h h' a b
end
end Mine

namespace Mine
set_option maxRecDepth 100000
open PySem.Calls

section
variable {w : World} {A : Around} {E : Value → Shared → Prop} {s : Shared} {mg mb : Str → Option Value} {h₀ : Heap} {L : Addr} {m : Str → Option Value} {env : Env}

/-- the call's frame, its one cell, and all else as in h -/
structure FC (h₀ : Heap) (L c : Nat) (h₁ h : Heap) (m : Str → Option Value) (v : Option Value) : Prop where
  F : Fr h₀ L h m
  cell : h.IsCell c v
  kept : ∀ b o, b ≠ L → b ≠ c → h₁.get? b = some o → h.get? b = some o
theorem FC.set {h₁ h h' : Heap} {c : Nat} {L : Nat} {v : Option Value} {m' : Str → Option Value} (x : FC h₀ L c h₁ h m v) (hLc : L ≠ c) (hn : h'.Ns L m') (hs : Heap.SameBut L h h') : FC h₀ L c h₁ h' m' v :=
  ⟨x.F.set hn hs, isCell_at x.cell fun o e => hs.extBut c o (Ne.symm hLc) e, fun b o hb hc e => hs.extBut b o hb (x.kept b o hb hc e)⟩
theorem FC.setC {h₁ h h' : Heap} {c : Nat} {L : Nat} {v v' : Option Value} (x : FC h₀ L c h₁ h m v) (hLc : L ≠ c) (hb : h₀.get? c = none) (hn : h'.IsCell c v') (hs : Heap.SameBut c h h') : FC h₀ L c h₁ h' m v' :=
  ⟨fr_ext x.F hs hLc hb, hn, fun b o hb hc e => hs.extBut b o hc (x.kept b o hb hc e)⟩
theorem FC.keeps {h₁ h h' : Heap} {c : Nat} {L : Nat} {v : Option Value} (x : FC h₀ L c h₁ h m v) (k : Kp h h') : FC h₀ L c h₁ h' m v :=
  ⟨x.F.keeps k, isCell_at x.cell (k c), fun b o hb hc e => k b o (x.kept b o hb hc e)⟩
theorem FC.walk {h₁ h h' : Heap} {c : Nat} {L I : Nat} {v : Option Value} (x : FC h₀ L c h₁ h m v) (hL : L < I) (hc : c < I) (h0 : h₀.objs.size ≤ I) (h1 : h₁.objs.size ≤ I) (k : ∀ b o, b ∉ [I] → h.get? b = some o → h'.get? b = some o) : FC h₀ L c h₁ h' m v := by
  have hne : ∀ {b : Nat}, b < I → b ∉ [I] := fun hb => notIn_one (Nat.ne_of_lt hb)
  exact ⟨fr_at x.F (hne hL) (new_at (fresh_none h0)) k, isCell_at x.cell fun o e => k c o (hne hc) e, fun b o hb hc e => k b o (hne (Nat.lt_of_lt_of_le (Heap.lt_size e) h1)) (x.kept b o hb hc e)⟩

theorem rest_turn {L c : Nat} {h₁ h : Heap} {ge : Array GenState} {dr : Drawn} {os : OsState} {r d j : Nat} {u ut tj tk : Nat} {Q : Flow → Shared → Prop}
    (x : FC h₀ L c h₁ h m (some (.int (r : Int) u))) (hLc : L ≠ c) (hb : h₀.get? c = none) (G : Gd w mg mb h) (hj : j < 8)
    (hs : m (Str.ofString "sign") = some (.str ⟨#[d]⟩ ut)) (hk : m (Str.ofString "k") = some (.int (j : Int) tj))
    (hcell : env.cells.lookup (Str.ofString "rest") = some c) (henv : env.locals = L) (hg : env.globals = mainGlobals) (hbn : env.builtins = builtinsNs) (hkd : env.scope.kind = .function)
    (k1 : env.kindOf (Str.ofString "rest") = some .cell) (k2 : env.kindOf (Str.ofString "odd") = some .local) (k3 : env.kindOf (Str.ofString "sign") = some .local) (k4 : env.kindOf (Str.ofString "k") = some .local) (k5 : env.kindOf (Str.ofString "ord") = some .globalImplicit)
    (hQ : ∀ h' tk' m' u', FC h₀ L c h₁ h' m' (some (.int ((bstep (d / 2 ^ j % 2) r : Nat) : Int) u')) → m' (Str.ofString "sign") = some (.str ⟨#[d]⟩ ut) → Q .next ⟨h', ge, dr, tk', os⟩)
    {q1 q2 q3 q4 q5 q6 q7 q8 q9 q10 q11 q12 q13 q14 q15 q16 q17 q18 q19 q20 q21 q22 q23 q24 q25 q26 q27 q28 q29 q30 q31 q32 q33 : Pos} :
    wpAny (model PR w) A (execs [
      .Assign [.Name (Str.ofString "odd") q1] (.Compare (.BinOp (.Name (Str.ofString "rest") q2) .FloorDiv (.BinOp (.Constant (.int 2) 0 q3) .Pow (.Constant (.int 31) 0 q4) q5) q6) [.NotEq]
        [.BinOp (.BinOp (.Call (.Name (Str.ofString "ord") q7) [.Name (Str.ofString "sign") q8] [] q9) .FloorDiv (.BinOp (.Constant (.int 2) 0 q10) .Pow (.Name (Str.ofString "k") q11) q12) q13) .Mod (.Constant (.int 2) 0 q14) q15] q16) q17,
      .Assign [.Name (Str.ofString "rest") q18] (.BinOp (.BinOp (.Name (Str.ofString "rest") q19) .Mult (.Constant (.int 2) 0 q20) q21) .Mod (.BinOp (.Constant (.int 2) 0 q22) .Pow (.Constant (.int 32) 0 q23) q24) q25) q26,
      .If (.Name (Str.ofString "odd") q27) [.Assign [.Name (Str.ofString "rest") q28] (.BinOp (.Name (Str.ofString "rest") q29) .BitXor (.Constant (.int 79764919) 0 q30) q31) q32] [] q33] env)
      Q (fun _ _ => False) ⟨h, ge, dr, tk, os⟩ := by
  have hp : (env.scope.kind == .class || (env.scope.kind == .module && env.locals != env.globals)) = false := by rw [hkd]; rfl
  refine wpAny_execs_cons (wpAny_Assign_Name (hs := by rfl) (wpAny_Compare1 (wpAny_BinOp (nmC x.cell ?_ hcell hkd k1))))
  refine wpAny_BinOp (oInt fun _ _ => oInt fun _ _ => oPow (k := 31) rfl rfl (by decide) fun _ _ => ?_)
  refine oDiv rfl rfl (Nat.two_pow_pos _) (by decide) fun _ _ => ?_
  refine wpAny_BinOp (wpAny_BinOp (callB1 G (by rfl) boot_ord (by decide) (nmL x.F hs ?_ henv hkd k3) rfl hg hbn hkd k5))
  refine oOrd fun _ _ => wpAny_BinOp (oInt fun _ _ => nmL x.F hk ?_ henv hkd k4)
  refine oPow rfl rfl (by omega) fun _ _ => ?_
  refine oDiv rfl rfl (Nat.two_pow_pos _) (Nat.pow_lt_pow_right (by decide) (by omega)) fun _ _ => oInt fun _ _ => oMod (b := 2) rfl rfl (by decide) fun _ _ => ?_
  refine oNe rfl rfl ?_
  refine oSet x.F (fun h2 _ hn2 hs2 => ?_) henv k2 hp
  have x2 := x.set hLc hn2 hs2
  dsimp only
  refine wpAny_execs_cons (wpAny_Assign_Name (hs := by rfl) (wpAny_BinOp (wpAny_BinOp (nmC x2.cell ?_ hcell hkd k1))))
  refine oInt fun _ _ => oMul (b := 2) rfl rfl (by decide) fun _ _ => wpAny_BinOp (oInt fun _ _ => oInt fun _ _ => oPow (k := 32) rfl rfl (by decide) fun _ _ => ?_)
  refine oMod rfl rfl (Nat.two_pow_pos _) fun _ _ => ?_
  refine oSetC x2.cell (fun h3 hc3 hs3 => ?_) hcell hkd k1
  have x3 := x2.setC hLc hb hc3 hs3
  dsimp only
  have hodd : (if Str.ofString "odd" = Str.ofString "odd" then some (Value.bool (r / 2 ^ 31 != d / 2 ^ j % 2)) else m (Str.ofString "odd")) = some (Value.bool (r / 2 ^ 31 != d / 2 ^ j % 2)) := if_pos rfl
  refine wpAny_execs_cons (wpAny_If (isTrue_plain (nmL x3.F hodd (wpAny_truthy_bool ?_) henv hkd k2)))
  have hsign : ∀ v : Value, (if Str.ofString "sign" = Str.ofString "odd" then some v else m (Str.ofString "sign")) = some (.str ⟨#[d]⟩ ut) := fun v => by rw [if_neg (by decide)]; exact hs
  by_cases ho : r / 2 ^ 31 = d / 2 ^ j % 2
  · rw [if_neg (by rw [ho]; simp)]
    refine wpAny_execs_nil (wpAny_execs_nil ?_)
    have e : bstep (d / 2 ^ j % 2) r = r * 2 % 2 ^ 32 := by unfold bstep; rw [if_neg (by rw [ho]; simp)]
    have x3' := x3
    rw [← e] at x3'
    exact hQ h3 _ _ _ x3' (hsign _)
  · rw [if_pos (by simpa using ho)]
    refine wpAny_execs_cons (wpAny_Assign_Name (hs := by rfl) (wpAny_BinOp (nmC x3.cell ?_ hcell hkd k1)))
    refine oInt fun _ _ => oXor (b := polyR) rfl rfl fun _ _ => ?_
    refine oSetC x3.cell (fun h4 hc4 hs4 => ?_) hcell hkd k1
    have x4 := x3.setC hLc hb hc4 hs4
    refine wpAny_execs_nil (wpAny_execs_nil ?_)
    have e : bstep (d / 2 ^ j % 2) r = (r * 2 % 2 ^ 32) ^^^ polyR := by unfold bstep; rw [if_pos ho]
    have x4' := x4
    rw [← e] at x4'
    exact hQ h4 _ _ _ x4' (hsign _)
end
end Mine

namespace Mine
set_option maxRecDepth 100000
open PySem.Calls

theorem are_of_get {α : Type} {R : α → Value → Prop} : ∀ (as : List α) (vs : List Value), vs.length = as.length → (∀ (j : Nat) v, vs[j]? = some v → ∃ a, as[j]? = some a ∧ R a v) → Are R as vs
  | [], [], _, _ => trivial
  | a :: as, v :: vs, hl, h => by
    refine ⟨?_, are_of_get as vs (by simpa using hl) fun j u hj => ?_⟩
    · obtain ⟨b, hb, hr⟩ := h 0 v rfl
      simp at hb
      subst hb
      exact hr
    · obtain ⟨b, hb, hr⟩ := h (j + 1) u (by simpa using hj)
      exact ⟨b, by simpa using hb, hr⟩
  | [], _ :: _, hl, _ => by simp at hl
  | _ :: _, [], hl, _ => by simp at hl
theorem paired_are {α β : Type} {F : Value → Value → Prop} {P : α → Value → Prop} {R : β → Value → Prop} (f : α → β) (hf : ∀ a v y, P a v → F v y → R (f a) y) :
    ∀ {as : List α} {vs ys : List Value}, Are P as vs → Paired F vs ys → Are R (as.map f) ys
  | [], [], _, _, .nil => trivial
  | a :: as, v :: vs, _, h, .cons e t => ⟨hf _ _ _ h.1 e, paired_are f hf h.2 t⟩
  | [], _ :: _, _, h, _ => h.elim
  | _ :: _, [], _, h, _ => h.elim

section
variable {w : World} {A : Around} {E : Value → Shared → Prop} {s : Shared} {env : Env}

/-- one clause, a plain name, no test; the elements are plain values -/
theorem lc {elt iter : Expr} {x : Str} {px : Pos} {scope : Scope} {cl : List (Str × Addr)} {pos : Pos} {Q : Value → Shared → Prop} (F : Value → Value → Prop)
    (h : wpAny (model PR w) A (eval iter env) (fun xv s₁ => wpAny (model PR w) A (pyIter xv) (fun it s₂ => ∃ I fp wr n P St, it = .ref I ∧ Walks PR w A I fp wr n P St ∧ n ≤ sizeLine ∧ St 0 s₂.heap ∧ (∀ b ∈ fp, b < s₂.heap.objs.size) ∧
      (∀ C i v s₃ m₃, s₂.heap.objs.size ≤ C → P i v → s₃.heap.Ns C m₃ → m₃ x = some v → (∀ b o, b ∉ wr → s₂.heap.get? b = some o → s₃.heap.get? b = some o) →
        wpAny (model PR w) A (eval elt (compEnvC scope cl C env)) (fun y s₄ => F v y ∧ Keeps s₃ s₄) (fun _ _ => False) s₃) ∧
      (∀ D h' tk (ys vs : List Value), s₂.heap.get? D = none → h'.PlainList D ys.toArray → vs.length = n → (∀ (j : Nat) v, vs[j]? = some v → P j v) → Paired F vs ys →
        (∀ b o, b ∉ wr → s₂.heap.get? b = some o → h'.get? b = some o) → Q (.ref D) { s₂ with heap := h', toks := tk })) E s₁) E s)
    (hclos : closureFor scope env = pure cl := by rfl) (hcell : ∀ y ∈ scope.names, y.2 ≠ .cell := by decide) (hkind : scope.kind = .function := by rfl)
    (hnames : ∀ y ∈ scope.names, y.2 = .local → scope.names.lookup y.1 = some .local := by decide) (hx : scope.names.lookup x = some .local := by rfl)
    (hs : ∀ x, foldedSetIterable iter env x = pure x := by intro _; rfl) :
    wpAny (model PR w) A (eval (.ListComp elt [⟨.Name x px, iter, [], 0⟩] scope pos) env) Q E s := by
  refine wpAny_ListComp_free (fun _ => true) F hclos hcell hkind hnames hx (wpAny_mono h (fun xv s₁ h₁ => wpAny_mono h₁ (fun it s₂ h₂ => ?_) fun _ _ e => e) fun _ _ e => e) hs
  obtain ⟨I, fp, wr, n, P, St, e, W, hsz, hst, hfp, helt, hQ⟩ := h₂
  refine ⟨I, fp, wr, n, P, St, e, W, hsz, hst, hfp, ⟨fun C i v s₃ m₃ E' hC hP hn hm hk ht => ?_, fun C i v s₃ m₃ E' hC hP _ hn hm hk ht => ?_⟩, fun D h' tk ys vs hD _ hpl hlen hP hF hk => ?_⟩
  · rw [List.forIn_nil]
    exact wpAny_pure ⟨rfl, s₃.heap, s₃.toks, rfl, fun _ _ e => e⟩
  · exact wpAny_mono (helt C i v s₃ m₃ hC hP hn hm hk) (fun _ _ q => q) (fun _ _ e => e.elim)
  · have e2 : vs.filter (fun _ => true) = vs := by simp
    rw [e2] at hF
    exact hQ D h' tk ys.toList vs hD (by rw [Array.toArray_toList]; exact hpl) hlen hP hF hk

/-- the same, stored under a local name at once -/
theorem lcSet {elt iter : Expr} {x y : Str} {px py : Pos} {scope : Scope} {cl : List (Str × Addr)} {pos spos : Pos} {Q : Flow → Shared → Prop} (F : Value → Value → Prop)
    (h : wpAny (model PR w) A (eval iter env) (fun xv s₁ => wpAny (model PR w) A (pyIter xv) (fun it s₂ => ∃ I fp wr n P St m, it = .ref I ∧ Walks PR w A I fp wr n P St ∧ n ≤ sizeLine ∧ St 0 s₂.heap ∧ (∀ b ∈ fp, b < s₂.heap.objs.size) ∧
      env.locals ∉ wr ∧ s₂.heap.Ns env.locals m ∧
      (∀ C i v s₃ m₃, s₂.heap.objs.size ≤ C → P i v → s₃.heap.Ns C m₃ → m₃ x = some v → (∀ b o, b ∉ wr → s₂.heap.get? b = some o → s₃.heap.get? b = some o) →
        wpAny (model PR w) A (eval elt (compEnvC scope cl C env)) (fun y s₄ => F v y ∧ Keeps s₃ s₄) (fun _ _ => False) s₃) ∧
      (∀ D h' tk (ys vs : List Value), s₂.heap.get? D = none → h'.PlainList D ys.toArray → vs.length = n → (∀ (j : Nat) v, vs[j]? = some v → P j v) → Paired F vs ys →
        h'.Ns env.locals (fun z => if z = y then some (.ref D) else m z) → (∀ b o, b ≠ env.locals → b ∉ wr → s₂.heap.get? b = some o → h'.get? b = some o) → Q .next { s₂ with heap := h', toks := tk })) E s₁) E s)
    (hsw : swapsWith (.ListComp elt [⟨.Name x px, iter, [], 0⟩] scope pos) (some (.Name y py)) spos.line env = pure true := by rfl)
    (hclos : closureFor scope env = pure cl := by rfl) (hcell : ∀ y ∈ scope.names, y.2 ≠ .cell := by decide) (hkind : scope.kind = .function := by rfl)
    (hnames : ∀ y ∈ scope.names, y.2 = .local → scope.names.lookup y.1 = some .local := by decide) (hx : scope.names.lookup x = some .local := by rfl)
    (hy : env.kindOf y = some .local := by rfl) (hp : (env.scope.kind == .class || (env.scope.kind == .module && env.locals != env.globals)) = false := by rfl)
    (hs : ∀ x, foldedSetIterable iter env x = pure x := by intro _; rfl) :
    wpAny (model PR w) A (exec (.Assign [.Name y py] (.ListComp elt [⟨.Name x px, iter, [], 0⟩] scope pos) spos) env) Q E s := by
  refine wpAny_Assign_ListComp_free (fun _ => true) F hsw hclos hcell hkind hnames hx hy hp (wpAny_mono h (fun xv s₁ h₁ => wpAny_mono h₁ (fun it s₂ h₂ => ?_) fun _ _ e => e) fun _ _ e => e) hs
  obtain ⟨I, fp, wr, n, P, St, m, e, W, hsz, hst, hfp, hl, hns, helt, hQ⟩ := h₂
  refine ⟨I, fp, wr, n, P, St, m, e, W, hsz, hst, hfp, hl, hns, ⟨fun C i v s₃ m₃ E' hC hP hn hm hk ht => ?_, fun C i v s₃ m₃ E' hC hP _ hn hm hk ht => ?_⟩, fun D h' tk ys vs hD _ hpl hlen hP hF hn hk => ?_⟩
  · rw [List.forIn_nil]
    exact wpAny_pure ⟨rfl, s₃.heap, s₃.toks, rfl, fun _ _ e => e⟩
  · exact wpAny_mono (helt C i v s₃ m₃ hC hP hn hm hk) (fun _ _ q => q) (fun _ _ e => e.elim)
  · have e2 : vs.filter (fun _ => true) = vs := by simp
    rw [e2] at hF
    exact hQ D h' tk ys.toList vs hD (by rw [Array.toArray_toList]; exact hpl) hlen hP hF hn hk
end
end Mine

namespace Mine
set_option maxRecDepth 100000
open PySem.Calls

section
variable {w : World} {A : Around} {E : Value → Shared → Prop} {s : Shared} {mg mb : Str → Option Value} {h₀ : Heap} {L : Addr} {m : Str → Option Value} {env : Env}

theorem nmN {x : Str} {pos : Pos} {v : Value} {C : Addr} {Q : Value → Shared → Prop} (hn : s.heap.Ns C m) (hv : m x = some v) (h : Q v s)
    (hL : env.locals = C := by rfl) (hk : env.scope.kind = .function := by rfl) (hx : env.kindOf x = some .local := by rfl) (hd : (x == ("__debug__" : Str)) = false := by decide) :
    wpAny (model PR w) A (eval (.Name x pos) env) Q E s := wpAny_Name (wpAny_loadName_local hk hx (hL ▸ hn) hv h) hd
theorem FC.trans {h₁ h h' : Heap} {c L : Nat} {v v' : Option Value} {m' : Str → Option Value} (x : FC h₀ L c h₁ h m v) (y : FC h₀ L c h h' m' v') : FC h₀ L c h₁ h' m' v' :=
  ⟨y.F, y.cell, fun b o hb hc e => y.kept b o hb hc (x.kept b o hb hc e)⟩
theorem FC.here {h₁ h : Heap} {c L : Nat} {v : Option Value} (x : FC h₀ L c h₁ h m v) : FC h₀ L c h h m v := ⟨x.F, x.cell, fun _ _ _ _ e => e⟩
theorem FC.lt {h₁ h : Heap} {c L : Nat} {v : Option Value} (x : FC h₀ L c h₁ h m v) : L < h.objs.size ∧ c < h.objs.size := ⟨x.F.ns.lt, isCell_lt x.cell⟩

theorem sum_pre (r : Nat) : ∀ n, preSum (fun i => ((r / 2 ^ i % 2 * 2 ^ (31 - i) : Nat) : Int)) n = ((sumRev r n : Nat) : Int)
  | 0 => rfl
  | n + 1 => by
    show preSum _ n + ((r / 2 ^ n % 2 * 2 ^ (31 - n) : Nat) : Int) = ((sumRev r n + r / 2 ^ n % 2 * 2 ^ (31 - n) : Nat) : Int)
    rw [sum_pre r n, Int.natCast_add]

set_option maxHeartbeats 1000000 in
theorem rest_ok {x : Str} {t : Tok} {Q : Value → Shared → Prop} (G : Gd w mg mb s.heap) (hh : A.handled = none) (hroom : A.depth < recursionLimit)
    (hQ : ∀ t' h' tk, Kp s.heap h' → Q (.int ((sumRev (restR (lst x)) 32 : Nat) : Int) t') { s with heap := h', toks := tk }) :
    wpAny (model PR w) A (call (.ref 89) [.str x t]) Q E s := by
  refine callC (binds := [(Str.ofString "text", .str x t)]) G hroom (by rfl) (by rfl) (by rfl) (fun y hy => by rw [List.mem_singleton.mp hy]; exact .inl rfl) fun h₁ tk₁ F₁ cells => ?_
  have hc1 := cells (Str.ofString "rest") (s.heap.objs.size + 1) rfl
  have hLc : s.heap.objs.size ≠ s.heap.objs.size + 1 := by omega
  have hb0 : s.heap.get? (s.heap.objs.size + 1) = none := fresh_none (by omega)
  have x1 : FC s.heap s.heap.objs.size (s.heap.objs.size + 1) s.heap h₁ _ _ := ⟨F₁, hc1, fun b o _ _ e => F₁.keep b o e⟩
  clear cells hc1 F₁
  refine wpAny_execs_cons (wpAny_Assign_Name (wpAny_BinOp (wpAny_BinOp (oInt fun _ _ => oInt fun _ _ => oPow (k := 32) rfl rfl (by decide) fun _ _ => ?_))))
  refine oInt fun _ _ => oSub (b := 1) rfl rfl (by decide) fun _ _ => oSetC x1.cell (fun h₂ hc2 hs2 => ?_)
  have x2 := x1.setC hLc hb0 hc2 hs2
  clear x1 hc2 hs2
  dsimp only
  refine wpAny_execs_cons (wpAny_For (nmL x2.F rfl (wpAny_pyIter_str fun o St W hst => ?_)))
  dsimp only at hst ⊢
  have hK : Kp h₂ (h₂.push o) := fun _ _ e => Heap.get?_push_of_some _ e
  have hlt2 := x2.lt
  refine loopG (W _ hh) (fun i h => ∃ m u, FC s.heap s.heap.objs.size (s.heap.objs.size + 1) s.heap h m (some (.int ((((lst x).take i).foldl byte (2 ^ 32 - 1) : Nat) : Int) u))) hst ⟨_, _, x2.keeps hK⟩
    (fun i h h' ⟨m, u, xx⟩ k => ⟨m, u, xx.walk hlt2.1 hlt2.2 (Nat.le_of_lt hlt2.1) (Nat.le_of_lt hlt2.1) k⟩) ?_ ?_
  · rintro i v h tk hi ⟨d, ut, hd, rfl⟩ ⟨m, u, xx⟩
    refine wpAny_assign_Name (oSet xx.F (fun h2 tk2 hn2 hs2 => ?_))
    have y2 := xx.here.set hLc hn2 hs2
    have hsign : ∀ v' : Value, (if Str.ofString "sign" = Str.ofString "sign" then some v' else m (Str.ofString "sign")) = some v' := fun v' => if_pos rfl
    have G2 : Gd w mg mb h2 := G.keeps y2.F.keep
    have hlth := xx.lt
    have hlth2 := y2.lt
    refine wpAny_execs_cons (wpAny_For (evalRange G2 hh (by decide) fun I2 h3 tk3 hI2 hK3 W2 hst2 hlt3 => ?_))
    dsimp only
    have hI2' : h2.objs.size ≤ I2 := hI2
    have hsz : h2.objs.size = h.objs.size := hs2.1
    refine loopG W2 (fun j h' => ∃ m u, FC s.heap s.heap.objs.size (s.heap.objs.size + 1) h h' m (some (.int ((bsteps d j 0 (((lst x).take i).foldl byte (2 ^ 32 - 1)) : Nat) : Int) u)) ∧ m (Str.ofString "sign") = some (.str ⟨#[d]⟩ ut)) hst2 ⟨_, _, y2.keeps hK3, hsign _⟩
      (fun j h' h'' ⟨m, u, xx, hm⟩ k => ⟨m, u, xx.walk (Nat.lt_of_lt_of_le hlth2.1 hI2') (Nat.lt_of_lt_of_le hlth2.2 hI2') (Nat.le_of_lt (Nat.lt_of_lt_of_le hlth2.1 hI2')) (by omega) k, hm⟩) ?_ ?_
    · rintro j v2 h4 tk4 hj ⟨t4, rfl⟩ ⟨m4, u4, z, hm4⟩
      refine wpAny_assign_Name (oSet z.F (fun h5 tk5 hn5 hs5 => ?_))
      have z5 := z.here.set hLc hn5 hs5
      have hk5 : ∀ v' : Value, (if Str.ofString "k" = Str.ofString "k" then some v' else m4 (Str.ofString "k")) = some v' := fun v' => if_pos rfl
      have hs5' : ∀ v' : Value, (if Str.ofString "sign" = Str.ofString "k" then some v' else m4 (Str.ofString "sign")) = some (.str ⟨#[d]⟩ ut) := fun v' => by rw [if_neg (by decide)]; exact hm4
      refine rest_turn z5 hLc hb0 (G.keeps z5.F.keep) hj (hs5' _) (hk5 _) rfl rfl rfl rfl rfl rfl rfl rfl rfl rfl fun h6 tk6 m6 u6 z6 hm6 => ?_
      refine ⟨rfl, h6, tk6, rfl, ⟨m6, u6, ?_, hm6⟩, fun b hb o e => ?_⟩
      · have := z.trans z6
        rw [show bsteps d (j + 1) 0 (((lst x).take i).foldl byte (2 ^ 32 - 1)) = bstep (d / 2 ^ j % 2) (bsteps d j 0 (((lst x).take i).foldl byte (2 ^ 32 - 1))) by rw [bsteps_snoc, Nat.zero_add]]
        exact this
      · rw [List.mem_singleton.mp hb] at e ⊢
        exact z6.kept I2 o (by omega) (by omega) e
    · rintro h4 tk4 ⟨m4, u4, z, hm4⟩
      refine wpAny_execs_nil ⟨rfl, h4, tk4, rfl, ⟨m4, u4, z.F, ?_, fun b o _ _ e => z.F.keep b o e⟩, fun b hb o e => ?_⟩
      · have hv : ((lst x).take (i + 1)).foldl byte (2 ^ 32 - 1) = bsteps d 8 0 (((lst x).take i).foldl byte (2 ^ 32 - 1)) := by
          have e3 : (lst x).take (i + 1) = (lst x).take i ++ [d] := by
            rw [List.take_add_one]
            congr 1
            have : (lst x)[i]? = some d := by rw [← hd]; simp [lst]
            rw [this]
            rfl
          rw [e3, List.foldl_append]
          rfl
        rw [hv]
        exact z.cell
      · rw [List.mem_singleton.mp hb] at e ⊢
        exact z.kept _ o (by omega) (by omega) e
  · rintro h tk ⟨m, u, xx⟩
    dsimp only
    have hr : ((lst x).take x.cps.size).foldl byte (2 ^ 32 - 1) = restR (lst x) := by
      rw [show (lst x).take x.cps.size = lst x from List.take_of_length_le (by simp [lst])]
      rfl
    rw [hr] at xx
    generalize hrr : restR (lst x) = r at *
    have G2 : Gd w mg mb h := G.keeps xx.F.keep
    have hltx := xx.lt
    refine wpAny_execs_cons (wpAny_Return_some (callB1 G2 (by rfl) boot_sum (by decide) (lc (fun v y => ∃ k t t', v = .int ((k : Nat) : Int) t ∧ k < 32 ∧ y = .int ((r / 2 ^ k % 2 * 2 ^ (31 - k) : Nat) : Int) t') (evalRange G2 hh (by decide) fun I h3 tk3 hI hK3 W hst3 hlt3 => ?_))))
    have hI' : h.objs.size ≤ I := hI
    refine ⟨I, _, _, _, _, _, rfl, W.bound, by decide, hst3, by simpa using hlt3, ?_, ?_⟩
    · rintro C k v s₃ m₃ hC ⟨hk32, tv, rfl⟩ hn3 hm3 hk3
      have hk32 : k < 32 := hk32
      have hcI : s.heap.objs.size + 1 ≠ I := by omega
      have hcell : s₃.heap.IsCell (s.heap.objs.size + 1) (some (.int (r : Int) u)) := isCell_at xx.cell fun o e => hk3 _ o (notIn_one hcI) (hK3 _ o e)
      obtain ⟨H, ge, dr, tk', os⟩ := s₃
      dsimp only at hn3 hk3 hcell ⊢
      refine wpAny_BinOp (wpAny_BinOp (wpAny_BinOp (nmC hcell (wpAny_BinOp (oInt fun _ _ => nmN hn3 hm3 (oPow rfl rfl (by omega) fun _ _ => ?_))))))
      refine oDiv rfl rfl (Nat.two_pow_pos _) (Nat.pow_lt_pow_right (by decide) (by omega)) fun _ _ => oInt fun _ _ => oMod (b := 2) rfl rfl (by decide) fun _ _ => ?_
      refine wpAny_BinOp (oInt fun _ _ => wpAny_BinOp (oInt fun _ _ => nmN hn3 hm3 (oSub (a := 31) rfl rfl (by omega) fun _ _ => ?_)))
      refine oPow rfl rfl (by omega) fun _ _ => ?_
      refine oMul rfl rfl (Nat.pow_lt_pow_right (by decide) (by omega)) fun t5 _ => ?_
      exact ⟨⟨k, tv, t5, rfl, hk32, rfl⟩, H, _, rfl, fun _ _ e => e⟩
    · intro D h4 tk4 ys vs hD hl4 hlen hP hF hk4
      have hA : Are (fun (k : Nat) v => ∃ t, v = Value.int (k : Int) t) (List.range 32) vs := are_of_get _ _ (by rw [hlen]; rfl) fun j v hj => by
        obtain ⟨hlt, tv, rfl⟩ := hP j v hj
        exact ⟨j, by rw [List.getElem?_range hlt], tv, rfl⟩
      have hB : Are IsNat ((List.range 32).map fun k => r / 2 ^ k % 2 * 2 ^ (31 - k)) ys := paired_are _ (fun k v y ⟨t, e⟩ ⟨k', t1, t2, e1, _, e2⟩ => by
        subst e
        injection e1 with e1 _
        have : k = k' := by omega
        subst this
        exact ⟨t2, e2⟩) hA hF
      dsimp only at hk4 ⊢
      have hlD : D < h4.objs.size := isList_lt hl4.isList
      have hlys : ys.length = 32 := by rw [hB.len]; rfl
      have WL : ∀ A' : Around, A'.handled = none → Walks PR w A' h4.objs.size [h4.objs.size, D] [h4.objs.size] ys.toArray.size (fun i v => ys.toArray[i]? = some v) (fun i h => h.IsListIter h4.objs.size D i ∧ h.IsList D ys.toArray) := fun A' hA' => Walks.list hA' h4.objs.size D (Nat.ne_of_lt hlD) ys.toArray
      refine call_sum_walkG (wpAny_pyIter_list hl4.isList ?_)
      dsimp only
      refine ⟨h4.objs.size, _, _, ys.toArray.size, _, _, fun i => ((r / 2 ^ i % 2 * 2 ^ (31 - i) : Nat) : Int), rfl, WL _ hh, ⟨⟨_, Heap.get?_push_size _ rfl, rfl, rfl⟩, isList_kp hl4.isList fun _ _ e => Heap.get?_push_of_some _ e⟩, ?_, ?_, ?_⟩
      · intro b hb
        rw [Heap.size_push]
        have hb' : b = h4.objs.size ∨ b = D := by simpa using hb
        rcases hb' with rfl | rfl
        · exact Nat.lt_succ_self _
        · exact Nat.lt_succ_of_lt hlD
      · intro i v hv
        have hv' : ys[i]? = some v := by simpa using hv
        obtain ⟨n, hn, tt, rfl⟩ := hB.get hv'
        have hi : i < 32 := by
          have := (List.getElem?_eq_some_iff.mp hv').1
          omega
        rw [List.getElem?_map, List.getElem?_range hi] at hn
        simp at hn
        subst hn
        exact ⟨tt, rfl⟩
      · intro h5 tk5 t5 hk5
        rw [List.size_toArray, hlys, sum_pre r 32]
        refine hQ t5 h5 tk5 fun b o e => ?_
        have hbs : b < s.heap.objs.size := Heap.lt_size e
        have e1 := hK3 b o (xx.F.keep b o e)
        have hsI : s.heap.objs.size < I := by omega
        have hbI : b ≠ I := Nat.ne_of_lt (Nat.lt_trans hbs hsI)
        have e2 := hk4 b o (notIn_one hbI) e1
        exact hk5 b o (notIn_one (Nat.ne_of_lt (Heap.lt_size e2))) (Heap.get?_push_of_some _ e2)
end
end Mine

namespace Mine
set_option maxRecDepth 100000
open PySem.Calls

def table8 : List (List Nat) := [[46], [46, 46], [98], [98, 46], [46, 11], [12, 46], [29], [46, 133]]
def rowOf (n : Nat) : List Nat := if n % 2 = 1 then table8.getD (n / 2 % 8) [] else []

section
variable {w : World} {A : Around} {E : Value → Shared → Prop} {s : Shared} {mg mb : Str → Option Value} {h₀ : Heap} {L : Addr} {m : Str → Option Value} {env : Env}
variable {H : Heap} {ge : Array GenState} {dr : Drawn} {tk : Nat} {os : OsState}

theorem subL {value slice : Expr} {l : Addr} {items : Array Value} {k : Nat} {x : Int} {u : Tok} {v : Value} {Q : Value → Shared → Prop} (hl : s.heap.IsList l items) (hk : x = (k : Int)) (hx : items[k]? = some v) (hb : k < 2 ^ 62) (h : Q v s)
    (hs : subscripted slice false (.ref l) (.int x u) = operate [.ref l, .int x u] (getItem (.ref l) (.int x u)) := by with_unfolding_all rfl) :
    wpAny (model PR w) A (subscriptTail value slice (.ref l) (.int x u)) Q E s := by
  subst hk
  exact tail_any hl.typeIs slot_list_getitem.lookup (wpAny_getItem_list hl (by omega) (by omega) (by simpa using hx) h) hs
theorem kStr {x : Str} {k : Nat} {p : Pos} {Q : Value → Shared → Prop} (h : ∀ t tk', Q (.str x t) ⟨H, ge, dr, tk', os⟩) : wpAny (model PR w) A (eval (.Constant (.str x) k p) env) Q E ⟨H, ge, dr, tk, os⟩ := wpAny_Constant_str (h _ _)
theorem kNewList {vs : List Value} {Q : Value → Shared → Prop} (h : Q (.ref H.objs.size) ⟨H.push { cls := .type "list", data := .seq vs.toArray }, ge, dr, tk, os⟩) (hsz : vs.length ≤ sizeLine) : wpAny (model PR w) A (newList vs) Q E ⟨H, ge, dr, tk, os⟩ :=
  wpAny_newObj_type h (by show vs.toArray.size ≤ sizeLine; rw [List.size_toArray]; exact hsz)

theorem asgList {x : Str} {px lp pos : Pos} {elts : List Expr} {Q : Flow → Shared → Prop} (h : wpAny (model PR w) A (eval (.List elts lp) env) (fun v s₁ => wpAny (model PR w) A (storeName env x v) (fun _ => Q .next) E s₁) E s) :
    wpAny (model PR w) A (exec (.Assign [.Name x px] (.List elts lp) pos) env) Q E s := wpAny_Assign_Name h rfl
theorem asgCall {x : Str} {px lp pos : Pos} {f : Expr} {args : List Expr} {kws : List Keyword} {Q : Flow → Shared → Prop} (h : wpAny (model PR w) A (eval (.Call f args kws lp) env) (fun v s₁ => wpAny (model PR w) A (storeName env x v) (fun _ => Q .next) E s₁) E s) :
    wpAny (model PR w) A (exec (.Assign [.Name x px] (.Call f args kws lp) pos) env) Q E s := wpAny_Assign_Name h rfl
theorem asgBin {x : Str} {px lp pos : Pos} {a b : Expr} {op : Operator} {Q : Flow → Shared → Prop} (h : wpAny (model PR w) A (eval (.BinOp a op b lp) env) (fun v s₁ => wpAny (model PR w) A (storeName env x v) (fun _ => Q .next) E s₁) E s) :
    wpAny (model PR w) A (exec (.Assign [.Name x px] (.BinOp a op b lp) pos) env) Q E s := wpAny_Assign_Name h rfl
theorem sp {e : Expr} {rest : List Expr} {pos : Pos} {Q : List Value → Shared → Prop}
    (h : wpAny (model PR w) A (eval e env) (fun v s₁ => wpAny (model PR w) A (spliced (backTo pos (starEach rest env))) (fun vs s₂ => Q (v :: vs) s₂) E s₁) E s)
    (he : starEach (e :: rest) env = (false, eval e env) :: starEach rest env := by rfl) : wpAny (model PR w) A (spliced (backTo pos (starEach (e :: rest) env))) Q E s := by
  rw [he]
  exact spliced_cons h
theorem spK {c : Const} {ck : Nat} {cp : Pos} {rest : List Expr} {pos : Pos} {Q : List Value → Shared → Prop}
    (h : wpAny (model PR w) A (eval (.Constant c ck cp) env) (fun v s₁ => wpAny (model PR w) A (spliced (backTo pos (starEach rest env))) (fun vs s₂ => Q (v :: vs) s₂) E s₁) E s) : wpAny (model PR w) A (spliced (backTo pos (starEach (.Constant c ck cp :: rest) env))) Q E s := sp h rfl
theorem sp0 {pos : Pos} {Q : List Value → Shared → Prop} (h : Q [] s) : wpAny (model PR w) A (spliced (backTo pos (starEach [] env))) Q E s := spliced_nil h

theorem row_ok {n : Nat} {t : Tok} {Q : Value → Shared → Prop} (G : Gd w mg mb s.heap) (hh : A.handled = none) (hroom : A.depth < recursionLimit)
    (hQ : ∀ t' h' tk, Kp s.heap h' → Q (.str (txt (rowOf n)) t') { s with heap := h', toks := tk }) :
    wpAny (model PR w) A (call (.ref 62) [.int (n : Int) t]) Q E s := by
  refine callF (binds := [(Str.ofString "number", .int (n : Int) t)]) G hroom (by rfl) (by rfl) (by rfl) (locs rfl) (by decide) fun h₁ F₁ => ?_
  with_reducible refine wpAny_execs_cons (asgList (List_ (spK (kStr fun t1 _ => spK (kStr fun t2 _ => spK (kStr fun t3 _ => spK (kStr fun t4 _ => spK (kStr fun t5 _ => spK (kStr fun t6 _ => spK (kStr fun t7 _ => spK (kStr fun t8 _ => sp0 ?_)))))))))))
  refine kNewList ?_ (by rw [sizeLine_eq]; exact Nat.le_of_ble_eq_true rfl)
  have hK : ∀ o, Kp h₁ (h₁.push o) := fun o _ _ e => Heap.get?_push_of_some _ e
  refine oSet (F₁.keeps (hK _)) (fun h₂ tk₂ hn hs => ?_)
  have F₂ := (F₁.keeps (hK _)).set hn hs
  have hlt : s.heap.objs.size < h₁.objs.size := F₁.ns.lt
  have hl : h₂.IsList h₁.objs.size _ := ⟨_, hs.extBut _ _ (by show h₁.objs.size ≠ s.heap.objs.size; omega) (Heap.get?_push_size _ rfl), rfl, _, rfl⟩
  dsimp only
  refine wpAny_execs_cons (wpAny_Return_some (IfExp_ (wpAny_isTrue_Compare1 (wpAny_BinOp (nmL F₂ rfl (oInt fun _ _ => oMod (b := 2) rfl rfl (by decide) fun _ _ => oInt fun _ _ => oEq (b := 1) rfl rfl (wpAny_truthy_bool ?_)))))))
  by_cases hodd : n % 2 = 1
  · rw [if_pos (by rw [hodd]; rfl)]
    refine Subscript_ (nmL F₂ rfl (wpAny_BinOp (wpAny_BinOp (nmL F₂ rfl (oInt fun _ _ => oDiv (b := 2) rfl rfl (by decide) (by decide) fun _ _ => oInt fun _ _ => oMod (b := 8) rfl rfl (by decide) fun _ _ => ?_)))))
    have hr : rowOf n = table8.getD (n / 2 % 8) [] := by unfold rowOf; rw [if_pos hodd]
    have hk8 : n / 2 % 8 < 8 := Nat.mod_lt _ (by decide)
    rw [hr] at hQ
    generalize n / 2 % 8 = k at *
    match k, hk8 with
    | 0, _ => exact subL hl rfl rfl (by decide) (hQ _ _ _ F₂.keep)
    | 1, _ => exact subL hl rfl rfl (by decide) (hQ _ _ _ F₂.keep)
    | 2, _ => exact subL hl rfl rfl (by decide) (hQ _ _ _ F₂.keep)
    | 3, _ => exact subL hl rfl rfl (by decide) (hQ _ _ _ F₂.keep)
    | 4, _ => exact subL hl rfl rfl (by decide) (hQ _ _ _ F₂.keep)
    | 5, _ => exact subL hl rfl rfl (by decide) (hQ _ _ _ F₂.keep)
    | 6, _ => exact subL hl rfl rfl (by decide) (hQ _ _ _ F₂.keep)
    | 7, _ => exact subL hl rfl rfl (by decide) (hQ _ _ _ F₂.keep)
    | n + 8, h => omega
  · have hne : (n % 2 == 1) = false := by simpa using hodd
    rw [if_neg (by rw [hne]; simp)]
    have hr : rowOf n = [] := by unfold rowOf; rw [if_neg hodd]
    rw [hr] at hQ
    exact kStr fun _ _ => hQ _ _ _ F₂.keep
end
end Mine

namespace Mine
set_option maxRecDepth 100000
open PySem.Calls

theorem beq_txt (a b : List Nat) : (txt a == txt b) = (a == b) := by
  by_cases h : a = b
  · subst h; simp
  · have h1 : (a == b) = false := by simpa using h
    have h2 : (txt a == txt b) = false := by
      rw [beq_eq_false_iff_ne]
      intro e
      exact h (by rw [← lst_txt a, e, lst_txt])
    rw [h1, h2]
theorem slice1 (a : List Nat) : Txt.slice (txt a) none (some 1) = txt (a.take 1) := by
  cases a with
  | nil => rfl
  | cons c r =>
    have h := StrLaws.sliceText_to (x := txt (c :: r)) (j := 1) ⟨by decide, by simp [txt]; omega⟩
    have e : Txt.slice (txt (c :: r)) none (some 1) = StrLaws.sliceText (txt (c :: r)) none (some 1) := rfl
    rw [e, h]
    rfl
theorem join_txt (sep : List Nat) (ls : List (List Nat)) : Txt.join (txt sep) (ls.map txt) = txt (inter sep ls) := by
  apply lst_inj
  unfold Txt.join
  rw [StrLaws.glued_eq_join, lst_join, lst_txt, lst_txt, List.map_map]
  congr 1
  have : (lst ∘ txt) = id := funext lst_txt
  rw [this, List.map_id]
theorem are_values {ls : List (List Nat)} {ys : List Value} (h : Are IsTxt ls ys) : ∃ l : List (Str × Tok), ys = strValues l ∧ l.map (·.1) = ls.map txt := by
  induction ls generalizing ys with
  | nil =>
    cases ys with
    | nil => exact ⟨[], rfl, rfl⟩
    | cons _ _ => exact h.elim
  | cons a ls ih =>
    cases ys with
    | nil => exact h.elim
    | cons v ys =>
      obtain ⟨⟨t, rfl⟩, h2⟩ := h
      obtain ⟨l, e1, e2⟩ := ih h2
      exact ⟨(txt a, t) :: l, by rw [e1]; rfl, by rw [List.map_cons, e2]; rfl⟩
theorem values_are {l : List (Str × Tok)} {ls : List (List Nat)} (h : l.map (·.1) = ls.map txt) : Are IsTxt ls (strValues l) := by
  induction ls generalizing l with
  | nil =>
    cases l with
    | nil => trivial
    | cons _ _ => simp at h
  | cons a ls ih =>
    cases l with
    | nil => simp at h
    | cons p l =>
      simp at h
      exact ⟨⟨p.2, by rw [← h.1]⟩, ih (by simpa using h.2)⟩
theorem rep_len (y : List Nat) (z : Nat) : ∀ (l : List Nat) (k : Nat), (inter [z] (spl y k l)).length ≤ l.length
  | [], k => by unfold spl; simp [inter]
  | c :: r, 0 => by
    by_cases hm : (c :: r).take y.length = y
    · rw [rep_hit hm]
      have := rep_len y z r (y.length - 1)
      simp
      omega
    · rw [rep_miss hm]
      have := rep_len y z r 0
      simp
      omega
  | c :: r, k + 1 => by
    rw [spl_skip]
    have := rep_len y z r k
    simp
    omega
theorem spl_len (y : List Nat) : ∀ (l : List Nat) (k : Nat), (spl y k l).length ≤ l.length + 1
  | [], k => by unfold spl; simp
  | c :: r, 0 => by
    by_cases hm : (c :: r).take y.length = y
    · rw [spl_hit hm]
      have := spl_len y r (y.length - 1)
      simp
      omega
    · obtain ⟨h, t, e⟩ := spl_ne y r 0
      rw [spl_miss hm e]
      have := spl_len y r 0
      rw [e] at this
      simp at this ⊢
      omega
  | c :: r, k + 1 => by
    rw [spl_skip]
    have := spl_len y r k
    simp
    omega
theorem inter_len (sep : List Nat) : ∀ (ls : List (List Nat)) (n : Nat), (∀ l ∈ ls, l.length ≤ n) → (inter sep ls).length ≤ ls.length * (n + sep.length)
  | [], _, _ => by simp [inter]
  | [x], n, h => by
    have := h x (List.mem_singleton.mpr rfl)
    simp [inter]
    omega
  | x :: y :: r, n, h => by
    have h1 := h x (List.mem_cons_self ..)
    have h2 := inter_len sep (y :: r) n (fun l hl => h l (List.mem_cons_of_mem _ hl))
    show (x ++ sep ++ inter sep (y :: r)).length ≤ _
    rw [List.length_append, List.length_append, List.length_cons, Nat.succ_mul]
    omega

section
variable {w : World} {A : Around} {E : Value → Shared → Prop} {s : Shared} {mg mb : Str → Option Value} {h₀ : Heap} {L : Addr} {m : Str → Option Value} {env : Env}
variable {H : Heap} {ge : Array GenState} {dr : Drawn} {tk : Nat} {os : OsState}

theorem strMethod1 {name : Str} {id : String} (slot : Slot "str" name id) (hty : typeOf (.builtin id) = pure (.type "method_descriptor")) {x : Str} {t : Tok} {pos : Pos} {e1 : Sem Value} {Q : Value → Shared → Prop}
    (h : wpAny (model PR w) A e1 (fun v s₁ => wpAny (model PR w) A (call (.builtin id) [.str x t, v]) Q E s₁) E s) : MethodOnS PR w A E name (.str x t) pos [(false, e1)] Q s :=
  ⟨"str", id, F.plainAttrs_str, slot, hty, typeIs_str _ _ _, (fun _ e => nomatch e), Calls.callWith_builtin rfl (Calls.evalArgs_plain (Calls.spliced_cons (wpAny_mono h (fun v s₁ h₁ => Calls.spliced_nil h₁) fun _ _ x => x)))⟩
theorem strMethod2 {name : Str} {id : String} (slot : Slot "str" name id) (hty : typeOf (.builtin id) = pure (.type "method_descriptor")) {x : Str} {t : Tok} {pos : Pos} {e1 e2 : Sem Value} {Q : Value → Shared → Prop}
    (h : wpAny (model PR w) A e1 (fun v s₁ => wpAny (model PR w) A e2 (fun u s₂ => wpAny (model PR w) A (call (.builtin id) [.str x t, v, u]) Q E s₂) E s₁) E s) : MethodOnS PR w A E name (.str x t) pos [(false, e1), (false, e2)] Q s :=
  ⟨"str", id, F.plainAttrs_str, slot, hty, typeIs_str _ _ _, (fun _ e => nomatch e), Calls.callWith_builtin rfl (Calls.evalArgs_plain (Calls.spliced_cons (wpAny_mono h (fun v s₁ h₁ => Calls.spliced_cons (wpAny_mono h₁ (fun u s₂ h₂ => Calls.spliced_nil h₂) fun _ _ x => x)) fun _ _ x => x)))⟩
theorem tCat {x y : Str} {t u : Tok} {a b : List Nat} {Q : Value → Shared → Prop} (hx : x = txt a) (hy : y = txt b) (hsz : a.length + b.length ≤ 65536) (h : ∀ t tk', Q (.str (txt (a ++ b)) t) ⟨H, ge, dr, tk', os⟩) :
    wpAny (model PR w) A (binaryOp .Add (.str x t) (.str y u)) Q E ⟨H, ge, dr, tk, os⟩ := by
  subst hx hy
  refine PyProof.Rows.add_str (fun t' k => ?_) (by rw [len_txt, len_txt, sizeLine_eq]; omega)
  rw [txt_append]
  exact h t' k
theorem tEq {x y : Str} {t u : Tok} {a b : List Nat} {Q : Value → Shared → Prop} (hx : x = txt a) (hy : y = txt b) (h : Q (.bool (a == b)) s) : wpAny (model PR w) A (compareOp .Eq (.str x t) (.str y u)) Q E s := by
  subst hx hy
  refine PyProof.Rows.eq_str ?_
  rw [beq_txt]
  exact h
/-- row[:1] -/
theorem tHead {value : Expr} {p pos : Pos} {a : List Nat} {Q : Value → Shared → Prop} (ha : a.length ≤ 65536)
    (hv : ∀ (Q' : Value → Shared → Prop), (∀ t, Q' (.str (txt a) t) ⟨H, ge, dr, tk, os⟩) → wpAny (model PR w) A (eval value env) Q' E ⟨H, ge, dr, tk, os⟩)
    (h : ∀ t h' tk', Kp H h' → Q (.str (txt (a.take 1)) t) ⟨h', ge, dr, tk', os⟩)
    (ht : ∀ (x : Str) (t : Tok) r, letTemporaryGo value (.str x t) r = pure () := by intro _ _ _; rfl) {k : Nat} {q : Pos} :
    wpAny (model PR w) A (eval (.Subscript value (.Slice none (some (.Constant (.int 1) k q)) none p) pos) env) Q E ⟨H, ge, dr, tk, os⟩ := by
  refine Subscript_ (hv _ fun t => ?_)
  refine wpAny_Slice (wpAny_evalPart_none (wpAny_evalPart_some (oInt fun t1 tk1 => wpAny_evalPart_none ?_)))
  refine tail_of_ItemOn (SBH.sliceItem_ns (P := fun h => Kp H h) (s := ⟨H, ge, dr, tk1, os⟩) (fun h ob k b o e => Heap.get?_push_of_some _ (k b o e)) (fun _ _ e => e) (fun h' t' k hk => ?_) (by rw [len_txt, sizeLine_eq]; omega)) (ops := [.ref H.objs.size, .str (txt a) t]) rfl (ht _ _)
  rw [slice1]
  exact h t' h' k hk
end
end Mine

namespace Mine
set_option maxRecDepth 100000
open PySem.Calls

section
variable {w : World} {A : Around} {E : Value → Shared → Prop} {s : Shared} {mg mb : Str → Option Value} {h₀ : Heap} {L : Addr} {m : Str → Option Value} {env : Env}
variable {H : Heap} {ge : Array GenState} {dr : Drawn} {tk : Nat} {os : OsState}

theorem nl_txt : Str.ofString "\n" = txt [10] := by decide +kernel
theorem cr_txt : Str.ofString "\x0d" = txt [13] := by decide +kernel
theorem dot_txt : Str.ofString "." = txt [46] := by decide +kernel

/-- x.replace(y, z), y and z written -/
theorem tReplace {l y z : List Nat} {sy sz : Str} {t : Tok} {pos p1 p2 : Pos} {k1 k2 : Nat} {Q : Value → Shared → Prop} (hy : sy = txt y) (hz : sz = txt z) (htk : tk ≠ 0) (hyz : (sy == sz) = false) (hy1 : 1 ≤ y.length) (hl : l.length ≤ 65536) (hzl : z.length ≤ 4)
    (h : ∀ t' k, k ≠ 0 → Q (.str (txt (inter z (spl y 0 l))) t') ⟨H, ge, dr, k, os⟩) :
    MethodOnS PR w A E (Str.ofString "replace") (.str (txt l) t) pos [(false, eval (.Constant (.str sy) k1 p1) env), (false, eval (.Constant (.str sz) k2 p2) env)] Q ⟨H, ge, dr, tk, os⟩ := by
  refine strMethod2 F.slot_str_replace F.type_str_replace (wpAny_Constant_str (wpAny_Constant_str ?_))
  refine wpAny_with_toks (n := 1) (by show 1 ≤ tk + 1 + 1; omega) (SC.replace htk (Nat.succ_ne_zero _) (Nat.ne_of_lt (Nat.lt_succ_self _)) hyz ?_ fun t' k hk => ?_)
  · subst hz
    rw [len_txt, len_txt]
    have : (l.length + 1) * z.length ≤ (65536 + 1) * 4 := Nat.mul_le_mul (by omega) hzl
    omega
  · have hk' : 1 ≤ k := hk
    have e : Txt.replace (txt l) sy sz = txt (inter z (spl y 0 l)) := by
      apply lst_inj
      rw [replace_spl _ _ _ (by rw [hy, len_txt]; exact hy1), hy, hz]
      simp only [lst_txt]
    rw [e]
    exact h t' k (by omega)

/-- x.split(y), y written -/
theorem tSplit {l y : List Nat} {sy : Str} {t : Tok} {pos p1 : Pos} {k1 : Nat} {Q : Value → Shared → Prop} (hy : sy = txt y) (hy1 : 1 ≤ y.length) (hk1 : Builtin.Str.strKind (txt y) = 1) (hl : l.length ≤ 65536)
    (h : ∀ D vs h' k, Kp H h' → h'.IsList D vs.toArray → Are IsTxt (spl y 0 l) vs → Q (.ref D) ⟨h', ge, dr, k, os⟩) :
    MethodOnS PR w A E (Str.ofString "split") (.str (txt l) t) pos [(false, eval (.Constant (.str sy) k1 p1) env)] Q ⟨H, ge, dr, tk, os⟩ := by
  subst hy
  refine strMethod1 F.slot_str_split F.type_str_split (kStr fun t1 tk1 => ?_)
  refine SCH.split1 (P := fun h => Kp H h) (fun h ob k b o e => Heap.get?_push_of_some _ (k b o e)) (fun _ _ e => e) (by rw [len_txt]; exact beq_eq_false_iff_ne.mpr (by omega)) (fun D l' h' k hmap hK hlist => ?_) (by rw [len_txt, sizeLine_eq]; omega) ?_
  · refine h D _ h' k hK hlist (values_are ?_)
    rw [hmap]
    have := split_spl (txt l) (txt y) (by rw [len_txt]; exact hy1) hk1
    rw [lst_txt, lst_txt] at this
    rw [← this, List.map_map]
    have e : (txt ∘ lst) = id := funext txt_lst
    rw [e, List.map_id]
  · have h1 := StrLaws.occ_length_le (txt l) (txt y) 0 (txt l).length ((txt l).length + 1)
    rw [len_txt] at h1
    unfold Builtin.Str.partsBetween
    rw [List.length_map, List.length_zip, sizeLine_eq]
    simp only [List.length_cons, List.length_map, List.length_append, List.length_nil, len_txt]
    omega

theorem list_ne_ns {h : Heap} {D L : Addr} {items : Array Value} (hl : h.IsList D items) (hn : h.Ns L m) : D ≠ L := by
  rintro rfl
  obtain ⟨o, e, _, n, hd⟩ := hl
  obtain ⟨o', es, ep, e', hd', _⟩ := hn
  rw [e] at e'
  cases e'
  rw [hd] at hd'
  cases hd'
theorem wList {D I : Nat} {items : Array Value} (hne : D < I) : ∀ A' : Around, A'.handled = none → Walks PR w A' I [I, D] [I] items.size (fun i v => items[i]? = some v) (fun i h => h.IsListIter I D i ∧ h.IsList D items) := fun A' hA' => Walks.list hA' I D (Nat.ne_of_lt hne) items
theorem lt_two {a b n : Nat} (h1 : a < n) (h2 : b < n) : ∀ x ∈ [a, b], x < n := fun x hx => by
  rcases List.mem_cons.mp hx with rfl | hx
  · exact h1
  · rw [List.mem_singleton.mp hx]; exact h2

theorem spl_part (y : List Nat) : ∀ (l : List Nat) (k : Nat) (p : List Nat), p ∈ spl y k l → p.length ≤ l.length
  | [], k, p, h => by
    unfold spl at h
    simp at h
    simp [h]
  | c :: r, 0, p, h => by
    by_cases hm : (c :: r).take y.length = y
    · rw [spl_hit hm] at h
      rcases List.mem_cons.mp h with rfl | h
      · simp
      · have := spl_part y r _ p h
        simp; omega
    · obtain ⟨h', t, e⟩ := spl_ne y r 0
      rw [spl_miss hm e] at h
      rcases List.mem_cons.mp h with rfl | h
      · have := spl_part y r 0 h' (by rw [e]; exact List.mem_cons_self ..)
        simp; omega
      · have := spl_part y r 0 p (by rw [e]; exact List.mem_cons_of_mem _ h)
        simp; omega
  | c :: r, k + 1, p, h => by
    rw [spl_skip] at h
    have := spl_part y r k p h
    simp; omega

theorem dot_len (r : List Nat) : (dot r).length ≤ r.length + 1 := by unfold dot; split <;> simp

set_option maxHeartbeats 1000000 in
theorem sent_ok {l : List Nat} {t : Tok} {Q : Value → Shared → Prop} (G : Gd w mg mb s.heap) (hh : A.handled = none) (hroom : A.depth < recursionLimit) (hl : l.length ≤ 1000)
    (hQ : ∀ t' h' tk, Kp s.heap h' → Q (.str (txt (qd l)) t') { s with heap := h', toks := tk }) :
    wpAny (model PR w) A (call (.ref 79) [.str (txt l) t]) Q E s := by
  refine callF (binds := [(Str.ofString "text", .str (txt l) t)]) G hroom (by rfl) (by rfl) (by rfl) (locs rfl) (by decide) fun h₁ F₁ => ?_
  have l1 : (inter [10] (spl [13, 10] 0 l)).length ≤ l.length := rep_len _ _ _ _
  have l2 : (inter [10] (spl [13] 0 (inter [10] (spl [13, 10] 0 l)))).length ≤ l.length := Nat.le_trans (rep_len _ _ _ _) l1
  refine wpAny_execs_cons (asgCall (Call_method1 rfl rfl rfl (Call_method2 (Call_method2 (nmL F₁ rfl ?_)))))
  refine tReplace crlf_txt nl_txt (Nat.succ_ne_zero _) (by decide +kernel) (by decide) (by omega) (by decide) fun t1 k1 hk1 => ?_
  refine tReplace cr_txt nl_txt hk1 (by decide +kernel) (by decide) (by omega) (by decide) fun t2 k2 hk2 => ?_
  refine tSplit nl_txt (by decide) (by decide +kernel) (by omega) fun D vs h2 k3 hK2 hlist hare => ?_
  have F2 := F₁.keeps hK2
  refine oSet F2 (fun h3 tk3 hn3 hs3 => ?_)
  have F3 := F2.set hn3 hs3
  have hDL : D ≠ s.heap.objs.size := list_ne_ns hlist F2.ns
  have hl3 : h3.IsList D vs.toArray := hlist.at fun o e => hs3.extBut D o hDL e
  have hD3 : (D : Nat) < h3.objs.size := isList_lt hl3
  dsimp only
  refine wpAny_execs_cons (wpAny_Return_some (Call_method1 rfl rfl rfl (kStr fun tj _ => SB.join (lc (fun v y => ∃ r t, v = .str (txt r) t ∧ r.length ≤ 1000 ∧ IsTxt (dot r) y) (nmL F3 rfl (wpAny_pyIter_list hl3 ?_))))))
  dsimp only
  refine ⟨h3.objs.size, _, _, _, _, _, rfl, wList hD3 _ hh, ?_, ⟨⟨_, Heap.get?_push_size _ rfl, rfl, rfl⟩, isList_kp hl3 fun _ _ e => Heap.get?_push_of_some _ e⟩, ?_, ?_, ?_⟩
  · have := hare.len
    have h5 := spl_len [10] (inter [10] (spl [13] 0 (inter [10] (spl [13, 10] 0 l)))) 0
    rw [List.size_toArray, this, sizeLine_eq]
    omega
  · rw [Heap.size_push]
    exact lt_two (Nat.lt_succ_self _) (Nat.lt_succ_of_lt hD3)
  · rintro C i v s₃ m₃ hC hP hn3' hm3 hk3
    have hP' : vs[i]? = some v := by simpa using hP
    obtain ⟨r, hr, tv, rfl⟩ := hare.get hP'
    have hrl : r.length ≤ 1000 := Nat.le_trans (spl_part _ _ _ _ (List.mem_of_getElem? hr)) (Nat.le_trans l2 hl)
    obtain ⟨H, ge, dr, tk', os⟩ := s₃
    dsimp only at hn3' hk3 ⊢
    refine IfExp_ (wpAny_isTrue_Compare1 (tHead (by omega) (fun Q' hq => nmN hn3' hm3 (hq _)) fun t4 h4 tk4 hK4 => kStr fun t5 tk5 => tEq rfl dot_txt (wpAny_truthy_bool ?_)))
    have hn4 : h4.Ns C m₃ := hn3'.keeps hK4
    by_cases hd : r.take 1 = [46]
    · rw [if_pos (by simpa using hd)]
      refine wpAny_BinOp (kStr fun t6 tk6 => nmN hn4 hm3 (tCat dot_txt rfl (by simp; omega) fun t7 tk7 => ?_))
      refine ⟨⟨r, tv, rfl, hrl, t7, ?_⟩, h4, tk7, rfl, hK4⟩
      unfold dot
      rw [if_pos hd]
      rfl
    · rw [if_neg (by simpa using hd)]
      refine nmN hn4 hm3 ?_
      refine ⟨⟨r, tv, rfl, hrl, tv, ?_⟩, h4, tk5, rfl, hK4⟩
      unfold dot
      rw [if_neg hd]
  · intro D2 h4 tk4 ys us hD2 hl4 hlen hP hF hk4
    have hus : us = vs := by
      apply List.ext_getElem?
      intro j
      have hlen' : us.length = vs.length := by rw [hlen, List.size_toArray]
      by_cases hj : j < us.length
      · have e1 := hP j us[j] (List.getElem?_eq_getElem hj)
        rw [List.getElem?_eq_getElem hj]
        simpa using e1.symm
      · rw [List.getElem?_eq_none (by omega), List.getElem?_eq_none (by omega)]
    subst hus
    have hB : Are IsTxt ((spl [10] 0 (inter [10] (spl [13] 0 (inter [10] (spl [13, 10] 0 l))))).map dot) ys := paired_are _ (fun r v y ⟨t, e⟩ ⟨r', t1, e1, _, e2⟩ => by
      subst e
      injection e1 with e1 _
      have : r = r' := by rw [← lst_txt r, e1, lst_txt]
      subst this
      exact e2) hare hF
    obtain ⟨lv, e1, e2⟩ := are_values hB
    subst e1
    have hJ : JoinOk (Str.ofString "\x0d\n") (lv.map (·.1)) = true := by
      unfold JoinOk
      rw [Bool.not_eq_true']
      refine StrLaws.joinFits (B := 1001) ?_ ?_
      · intro y hy
        rw [e2] at hy
        obtain ⟨z, hz, rfl⟩ := List.mem_map.mp hy
        obtain ⟨r, hr, rfl⟩ := List.mem_map.mp hz
        rw [len_txt]
        have h1 := spl_part _ _ _ _ hr
        have h2 := dot_len r
        omega
      · rw [e2, List.length_map, List.length_map]
        have h5 := spl_len [10] (inter [10] (spl [13] 0 (inter [10] (spl [13, 10] 0 l)))) 0
        have h6 : (Str.ofString "\x0d\n").length = 2 := by rw [crlf_txt]; rfl
        rw [h6]
        have h7 : (spl [10] 0 (inter [10] (spl [13] 0 (inter [10] (spl [13, 10] 0 l))))).length ≤ 1001 := by omega
        have h8 := Nat.mul_le_mul_right 1001 h7
        omega
    refine ⟨D2, lv, rfl, hl4.isList, _, rfl, hJ, fun t5 k5 => ?_⟩
    have e3 : Txt.join (Str.ofString "\x0d\n") (lv.map (·.1)) = txt (qd l) := by
      rw [e2, crlf_txt, join_txt, sent_qd]
    rw [e3]
    refine hQ t5 h4 k5 fun b o e => ?_
    have hbs : b < s.heap.objs.size := Heap.lt_size e
    have e5 := F3.keep b o e
    exact hk4 b o (notIn_one (Nat.ne_of_lt (Heap.lt_size e5))) (Heap.get?_push_of_some _ e5)
end
end Mine

namespace Mine
set_option maxRecDepth 100000
open PySem.Calls

section
variable {w : World} {A : Around} {E : Value → Shared → Prop} {s : Shared} {mg mb : Str → Option Value} {h₀ : Heap} {L : Addr} {m : Str → Option Value} {env : Env}
variable {H : Heap} {ge : Array GenState} {dr : Drawn} {tk : Nat} {os : OsState}

theorem lLen {a : Addr} {vs : List Value} {Q : Value → Shared → Prop} (hl : H.IsList a vs.toArray) (hs : vs.length ≤ 65536) (h : ∀ t tk', Q (.int ((vs.length : Nat) : Int) t) ⟨H, ge, dr, tk', os⟩) :
    wpAny (model PR w) A (call (.builtin "len") [.ref a]) Q E ⟨H, ge, dr, tk, os⟩ := by
  refine PyProof.Rows.len_list hl (by rw [List.size_toArray]; omega) ?_
  rw [List.size_toArray]
  exact h _ _
theorem lFrom {value : Expr} {p pos : Pos} {a : Addr} {k : Nat} {x : Int} {vs : List Value} {Q : Value → Shared → Prop} {ck : Nat} {q : Pos} (hx : x = (k : Int)) (hl : H.IsList a vs.toArray) (hs : vs.length ≤ 65536)
    (hv : ∀ (Q' : Value → Shared → Prop), Q' (.ref a) ⟨H, ge, dr, tk, os⟩ → wpAny (model PR w) A (eval value env) Q' E ⟨H, ge, dr, tk, os⟩)
    (h : ∀ D h' tk', Kp H h' → h'.PlainList D (vs.drop k).toArray → H.objs.size ≤ D → Q (.ref D) ⟨h', ge, dr, tk', os⟩)
    (ht : ∀ (a : Addr) r, letTemporaryGo value (.ref a) r = pure () := by intro _ _; rfl) :
    wpAny (model PR w) A (eval (.Subscript value (.Slice (some (.Constant (.int x) ck q)) none none p) pos) env) Q E ⟨H, ge, dr, tk, os⟩ := by
  subst hx
  refine Subscript_ (hv _ ?_)
  refine wpAny_Slice (wpAny_evalPart_some (oInt fun t1 tk1 => wpAny_evalPart_none (wpAny_evalPart_none ?_)))
  refine subscriptTail_ops (Heap.IsList.typeIs (s := ⟨H.push { cls := .type "slice", data := .fields #[.int (k : Int) t1, .none, .none] }, ge, dr, tk1, os⟩) (hl.push _)) list_getitem_lookup
    (wpAny_getItem_list_slice (hl.push _) (Heap.IsSliceOf.new ..) (.int _ _) .none .none (by simp) ?_ (by rw [List.size_toArray, sizeLine_eq]; omega)) (ops := [.ref H.objs.size, .ref a]) rfl (ht _)
  rw [slicePick_from']
  refine h _ _ _ (fun b o e => Heap.get?_push_of_some _ (Heap.get?_push_of_some _ e)) ⟨0, Heap.get?_push_size _ rfl⟩ ?_
  show H.objs.size ≤ (H.push _).objs.size
  rw [Heap.size_push]
  exact Nat.le_succ _
theorem lUpto {value : Expr} {p pos : Pos} {a : Addr} {k : Nat} {x : Int} {vs : List Value} {Q : Value → Shared → Prop} {ck : Nat} {q : Pos} (hx : x = (k : Int)) (hl : H.IsList a vs.toArray) (hs : vs.length ≤ 65536)
    (hv : ∀ (Q' : Value → Shared → Prop), Q' (.ref a) ⟨H, ge, dr, tk, os⟩ → wpAny (model PR w) A (eval value env) Q' E ⟨H, ge, dr, tk, os⟩)
    (h : ∀ D h' tk', Kp H h' → h'.PlainList D (vs.take k).toArray → H.objs.size ≤ D → Q (.ref D) ⟨h', ge, dr, tk', os⟩)
    (ht : ∀ (a : Addr) r, letTemporaryGo value (.ref a) r = pure () := by intro _ _; rfl) :
    wpAny (model PR w) A (eval (.Subscript value (.Slice none (some (.Constant (.int x) ck q)) none p) pos) env) Q E ⟨H, ge, dr, tk, os⟩ := by
  subst hx
  refine Subscript_ (hv _ ?_)
  refine wpAny_Slice (wpAny_evalPart_none (wpAny_evalPart_some (oInt fun t1 tk1 => wpAny_evalPart_none ?_)))
  refine subscriptTail_ops (Heap.IsList.typeIs (s := ⟨H.push { cls := .type "slice", data := .fields #[.none, .int (k : Int) t1, .none] }, ge, dr, tk1, os⟩) (hl.push _)) list_getitem_lookup
    (wpAny_getItem_list_slice (hl.push _) (Heap.IsSliceOf.new ..) .none (.int _ _) .none (by simp) ?_ (by rw [List.size_toArray, sizeLine_eq]; omega)) (ops := [.ref H.objs.size, .ref a]) rfl (ht _)
  rw [slicePick_upto']
  refine h _ _ _ (fun b o e => Heap.get?_push_of_some _ (Heap.get?_push_of_some _ e)) ⟨0, Heap.get?_push_size _ rfl⟩ ?_
  show H.objs.size ≤ (H.push _).objs.size
  rw [Heap.size_push]
  exact Nat.le_succ _
theorem lAdd {a b : Addr} {vs us : List Value} {Q : Value → Shared → Prop} (ha : H.PlainList a vs.toArray) (hb : H.PlainList b us.toArray) (hs : vs.length + us.length ≤ 65536)
    (h : ∀ h', Kp H h' → h'.PlainList H.objs.size (vs ++ us).toArray → Q (.ref H.objs.size) ⟨h', ge, dr, tk, os⟩) : wpAny (model PR w) A (binaryOp .Add (.ref a) (.ref b)) Q E ⟨H, ge, dr, tk, os⟩ := by
  obtain ⟨n, ha⟩ := ha
  obtain ⟨n2, hb⟩ := hb
  refine PySem.P.add_list ha hb ?_ (by rw [List.size_toArray, List.size_toArray, sizeLine_eq]; omega)
  have e : vs.toArray ++ us.toArray = (vs ++ us).toArray := by simp
  rw [e]
  exact h _ (fun b o e => Heap.get?_push_of_some _ e) ⟨0, Heap.get?_push_size _ rfl⟩
end
end Mine

namespace Mine
set_option maxRecDepth 100000
open PySem.Calls

def laidL : List (List Nat) → List (List Nat)
  | [] => []
  | [r] => [r]
  | r0 :: r1 :: rest => (laidL (r1 :: rest)).map (fun t => r0 ++ [13, 13] ++ t) ++ (if r1 = [] ∧ rest ≠ [] then (laidL rest).map (fun t => r0 ++ [13, 10] ++ t) else [])
theorem laidL_two (r0 r1 : List Nat) (rest : List (List Nat)) : laidL (r0 :: r1 :: rest) = (laidL (r1 :: rest)).map (fun t => r0 ++ [13, 13] ++ t) ++ (if r1 = [] ∧ rest ≠ [] then (laidL rest).map (fun t => r0 ++ [13, 10] ++ t) else []) := by
  conv => lhs; unfold laidL
theorem laidL_len : ∀ (n : Nat) (rs : List (List Nat)), rs.length ≤ n → n ≤ 4 → (laidL rs).length ≤ 2 ^ rs.length
  | _, [], _, _ => by simp [laidL]
  | _, [r], _, _ => by simp [laidL]
  | 0, _ :: _ :: _, h, _ => by simp at h
  | n + 1, r0 :: r1 :: rest, h, hn => by
    have h1 := laidL_len n (r1 :: rest) (by simp at h ⊢; omega) (by omega)
    have h2 := laidL_len n rest (by simp at h; omega) (by omega)
    rw [laidL_two, List.length_append, List.length_map]
    simp only [List.length_cons] at h1 ⊢
    have e : 2 ^ (rest.length + 1 + 1) = 2 ^ (rest.length + 1) + 2 ^ (rest.length + 1) := by rw [Nat.pow_succ]; omega
    have e2 : 2 ^ rest.length ≤ 2 ^ (rest.length + 1) := Nat.pow_le_pow_right (by decide) (by omega)
    have h3 : (if r1 = [] ∧ rest ≠ [] then (laidL rest).map (fun t => r0 ++ [13, 10] ++ t) else []).length ≤ 2 ^ rest.length := by
      split
      · rw [List.length_map]; exact h2
      · simp
    omega
theorem laidL_part {B : Nat} : ∀ (n : Nat) (rs : List (List Nat)), rs.length ≤ n → (∀ r ∈ rs, r.length ≤ B) → ∀ t ∈ laidL rs, t.length ≤ rs.length * (B + 2)
  | _, [], _, _, t, ht => by simp [laidL] at ht
  | _, [r], _, h, t, ht => by
    have := h r (List.mem_singleton.mpr rfl)
    simp [laidL] at ht
    subst ht
    simp; omega
  | 0, _ :: _ :: _, h, _, _, _ => by simp at h
  | n + 1, r0 :: r1 :: rest, h, hB, t, ht => by
    have h0 := hB r0 (List.mem_cons_self ..)
    rw [laidL_two, List.mem_append] at ht
    rcases ht with ht | ht
    · obtain ⟨u, hu, rfl⟩ := List.mem_map.mp ht
      have h1 := laidL_part n (r1 :: rest) (by simp at h ⊢; omega) (fun r hr => hB r (List.mem_cons_of_mem _ hr)) u hu
      simp only [List.length_cons, List.length_append, List.length_nil, Nat.succ_mul] at h1 ⊢
      omega
    · split at ht
      · obtain ⟨u, hu, rfl⟩ := List.mem_map.mp ht
        have h1 := laidL_part n rest (by simp at h; omega) (fun r hr => hB r (List.mem_cons_of_mem _ (List.mem_cons_of_mem _ hr))) u hu
        simp only [List.length_cons, List.length_append, List.length_nil, Nat.succ_mul] at h1 ⊢
        omega
      · simp at ht

section
variable {w : World} {A : Around} {E : Value → Shared → Prop} {s : Shared} {mg mb : Str → Option Value} {h₀ : Heap} {L : Addr} {m : Str → Option Value} {env : Env}
variable {H : Heap} {ge : Array GenState} {dr : Drawn} {tk : Nat} {os : OsState}

theorem rr_txt : Str.ofString "\x0d\x0d" = txt [13, 13] := by decide +kernel
theorem empty_txt : Str.ofString "" = txt [] := by decide +kernel

theorem oGt {s : Shared} {x y : Int} {t u : Tok} {a b : Nat} {Q : Value → Shared → Prop} (hx : x = (a : Int)) (hy : y = (b : Int)) (h : Q (.bool (decide (b < a))) s) : wpAny (model PR w) A (compareOp .Gt (.int x t) (.int y u)) Q E s := by
  subst hx hy
  refine PyProof.Rows.gt_int ?_
  have e : decide ((b : Int) < (a : Int)) = decide (b < a) := by simp
  rw [e]
  exact h
theorem us_eq {us vs : List Value} {n : Nat} (hn : vs.toArray.size = n) (hlen : us.length = n) (hP : ∀ (j : Nat) v, us[j]? = some v → vs.toArray[j]? = some v) : us = vs := by
  apply List.ext_getElem?
  intro j
  have hlen' : us.length = vs.length := by rw [hlen, ← hn, List.size_toArray]
  by_cases hj : j < us.length
  · have e1 := hP j us[j] (List.getElem?_eq_getElem hj)
    rw [List.getElem?_eq_getElem hj]
    simpa using e1.symm
  · rw [List.getElem?_eq_none (by omega), List.getElem?_eq_none (by omega)]

/-- rows[0] + mid + text, in the comprehension's block -/
theorem laid_elt {a c : Nat} {vs : List Value} {r0 mid r : List Nat} {t0 tv : Tok} {smid : Str} {C : Addr} {m₃ : Str → Option Value} {F : Value → Prop} {p1 p2 p3 p4 p5 p6 p7 : Pos} {k1 k2 : Nat}
    (hcell : H.IsCell c (some (.ref a))) (hl : H.IsList a vs.toArray) (h0 : vs[0]? = some (.str (txt r0) t0)) (hmid : smid = txt mid) (hr0 : r0.length ≤ 1000) (hm2 : mid.length ≤ 2) (hr : r.length ≤ 60000)
    (hn : H.Ns C m₃) (hm : m₃ (Str.ofString "text") = some (.str (txt r) tv))
    (hF : ∀ t, F (.str (txt (r0 ++ mid ++ r)) t))
    (hc : env.cells.lookup (Str.ofString "rows") = some c) (hk : env.scope.kind = .function) (hx : env.kindOf (Str.ofString "rows") = some .cell) (hL : env.locals = C) (hx2 : env.kindOf (Str.ofString "text") = some .local) :
    wpAny (model PR w) A (eval (.BinOp (.BinOp (.Subscript (.Name (Str.ofString "rows") p1) (.Constant (.int 0) k1 p2) p3) .Add (.Constant (.str smid) k2 p4) p5) .Add (.Name (Str.ofString "text") p6) p7) env)
      (fun y s₄ => F y ∧ Keeps ⟨H, ge, dr, tk, os⟩ s₄) (fun _ _ => False) ⟨H, ge, dr, tk, os⟩ := by
  refine wpAny_BinOp (wpAny_BinOp (Subscript_ (nmC hcell (oInt fun _ _ => subL hl (k := 0) rfl (by simpa using h0) (by decide) ?_) hc hk hx)))
  refine kStr fun _ _ => tCat rfl hmid (by omega) fun _ _ => nmN hn hm ?_ hL hk hx2
  refine tCat rfl rfl (by rw [List.length_append]; omega) fun t tk' => ?_
  exact ⟨hF t, H, tk', rfl, fun _ _ e => e⟩

def LaidOk (w : World) (mg mb : Str → Option Value) (n : Nat) : Prop :=
  ∀ (A : Around) (E Q : Value → Shared → Prop) (s : Shared) (a : Nat) (rs : List (List Nat)) (vs : List Value), rs.length ≤ n → 1 ≤ rs.length → (∀ r ∈ rs, r.length ≤ 1000) → Gd w mg mb s.heap → A.handled = none → A.depth + n < recursionLimit →
    s.heap.IsList a vs.toArray → Are IsTxt rs vs →
    (∀ D ys h' tk, Kp s.heap h' → h'.IsList D ys.toArray → Are IsTxt (laidL rs) ys → Q (.ref D) { s with heap := h', toks := tk }) →
    wpAny (model PR w) A (call (.ref 84) [.ref a]) Q E s

set_option maxHeartbeats 1000000 in
theorem laid_step {n : Nat} (hn : n < 4) (ih : LaidOk w mg mb n) : LaidOk w mg mb (n + 1) := by
  intro A E Q s a rs vs hlen h1 hB G hh hroom hl hv hQ
  have hvl := hv.len
  refine callC (binds := [(Str.ofString "rows", .ref a)]) G (by omega) (by rfl) (by rfl) (by rfl) (fun y hy => by rw [List.mem_singleton.mp hy]; exact .inr ⟨rfl, rfl⟩) fun h₁ tk₁ F₁ cells => ?_
  have hc1 := cells (Str.ofString "rows") (s.heap.objs.size + 1) rfl
  have hLc : s.heap.objs.size ≠ s.heap.objs.size + 1 := by omega
  have hb0 : s.heap.get? (s.heap.objs.size + 1) = none := fresh_none (by omega)
  have hcell1 : h₁.IsCell (s.heap.objs.size + 1) (some (.ref a)) := hc1
  clear cells hc1
  have G1 : Gd w mg mb h₁ := G.keeps F₁.keep
  have hl1 : h₁.IsList a vs.toArray := isList_kp hl F₁.keep
  refine wpAny_execs_cons (wpAny_If (wpAny_isTrue_Compare1 (callB1 G1 (by rfl) boot_len (by decide) (nmC hcell1 (lLen hl1 (by omega) fun _ _ => oInt fun _ _ => oEq (b := 1) rfl rfl (wpAny_truthy_bool ?_))))))
  by_cases hone : rs.length = 1
  · rw [if_pos (by rw [hvl, hone]; rfl)]
    refine wpAny_execs_cons (wpAny_Return_some (nmC hcell1 ?_))
    refine hQ a vs h₁ _ F₁.keep hl1 ?_
    match rs, hone with
    | [r], _ => exact hv
  · rw [if_neg (by rw [hvl]; simpa using hone)]
    refine wpAny_execs_nil ?_
    dsimp only
    obtain ⟨r0, r1, rest, rfl⟩ : ∃ r0 r1 rest, rs = r0 :: r1 :: rest := by
      match rs, h1, hone with
      | r0 :: r1 :: rest, _, _ => exact ⟨r0, r1, rest, rfl⟩
    obtain ⟨v0, v1, vrest, rfl⟩ : ∃ v0 v1 vrest, vs = v0 :: v1 :: vrest := by
      match vs, hvl with
      | v0 :: v1 :: vrest, _ => exact ⟨v0, v1, vrest, rfl⟩
    obtain ⟨⟨t0, rfl⟩, ⟨t1, rfl⟩, hvr⟩ := hv
    have hr0 := hB r0 (List.mem_cons_self ..)
    have hB1 : ∀ r ∈ r1 :: rest, r.length ≤ 1000 := fun r hr => hB r (List.mem_cons_of_mem _ hr)
    have hB2 : ∀ r ∈ rest, r.length ≤ 1000 := fun r hr => hB1 r (List.mem_cons_of_mem _ hr)
    have hlen' : rest.length + 2 ≤ n + 1 := by simpa using hlen
    have hvr' := hvr.len
    refine wpAny_execs_cons (lcSet (fun v y => ∃ r t, v = .str (txt r) t ∧ IsTxt (r0 ++ [13, 13] ++ r) y) (call1 G1 (by rfl) (by rfl) (lFrom (k := 1) rfl hl1 (by simp; omega) (fun Q' hq => nmC hcell1 hq) fun D1 h2 tk2 hK2 hp2 hD1 => ⟨G1.keeps hK2, ?_⟩)))
    refine ih _ _ _ _ D1 (r1 :: rest) _ (by simp; omega) (by simp) hB1 (G1.keeps hK2) hh (by show A.depth + 1 + n < recursionLimit; omega) hp2.isList ⟨⟨t1, rfl⟩, hvr⟩ fun D2 ys h3 tk3 hK3 hl3 hare => ?_
    refine wpAny_pyIter_list hl3 ?_
    dsimp only
    have hK13 : Kp h₁ h3 := fun b o e => hK3 b o (hK2 b o e)
    have hD2 : (D2 : Nat) < h3.objs.size := isList_lt hl3
    have F3 := F₁.keeps hK13
    have hcell3 : h3.IsCell (s.heap.objs.size + 1) (some (.ref a)) := isCell_at hcell1 (hK13 _)
    have hla3 : h3.IsList a _ := isList_kp hl1 hK13
    have hLlt : s.heap.objs.size < h3.objs.size := F3.ns.lt
    have hclt : s.heap.objs.size + 1 < h3.objs.size := isCell_lt hcell3
    have halt : a < h3.objs.size := isList_lt hla3
    have hpush : ∀ o, Kp h3 (h3.push o) := fun o b x e => Heap.get?_push_of_some _ e
    have hpart : ∀ t ∈ laidL (r1 :: rest), t.length ≤ 60000 := fun t ht => by
      have := laidL_part (rest.length + 1) (r1 :: rest) (by simp) hB1 t ht
      have h2 : (r1 :: rest).length ≤ 4 := by simp; omega
      have h3 := Nat.mul_le_mul_right (1000 + 2) h2
      omega
    have hcount : ys.length ≤ 16 := by
      rw [hare.len]
      have := laidL_len 4 (r1 :: rest) (by simp; omega) (by decide)
      have h2 : 2 ^ (r1 :: rest).length ≤ 2 ^ 4 := Nat.pow_le_pow_right (by decide) (by simp; omega)
      omega
    refine ⟨h3.objs.size, _, _, _, _, _, _, rfl, wList hD2 _ hh, by rw [List.size_toArray, sizeLine_eq]; omega, ⟨⟨_, Heap.get?_push_size _ rfl, rfl, rfl⟩, isList_kp hl3 (hpush _)⟩, ?_, notIn_one (Nat.ne_of_lt hLlt), F3.ns.keeps (hpush _), ?_, ?_⟩
    · rw [Heap.size_push]
      exact lt_two (Nat.lt_succ_self _) (Nat.lt_succ_of_lt hD2)
    · rintro C i v s₃ m₃ hC hP hn3' hm3 hk3
      have hP' : ys[i]? = some v := by simpa using hP
      obtain ⟨r, hr, tv, rfl⟩ := hare.get hP'
      have hrl := hpart r (List.mem_of_getElem? hr)
      obtain ⟨H, ge, dr, tk', os⟩ := s₃
      dsimp only at hn3' hk3 ⊢
      exact laid_elt (isCell_at hcell3 fun o e => hk3 _ o (notIn_one (Nat.ne_of_lt hclt)) (hpush _ _ o e)) (hla3.at fun o e => hk3 _ o (notIn_one (Nat.ne_of_lt halt)) (hpush _ _ o e)) rfl rr_txt hr0 (by decide) hrl hn3' hm3 (fun t => ⟨r, tv, rfl, t, rfl⟩) rfl rfl rfl rfl rfl
    · intro D4 h4 tk4 ys4 us hD4 hl4 hlen4 hP hF hn4 hk4
      have hus : us = ys := us_eq rfl hlen4 hP
      subst hus
      have hB4 : Are IsTxt ((laidL (r1 :: rest)).map fun t => r0 ++ [13, 13] ++ t) ys4 := paired_are _ (fun r v y ⟨t, e⟩ ⟨r', t1, e1, e2⟩ => by
        subst e
        injection e1 with e1 _
        have : r = r' := by rw [← lst_txt r, e1, lst_txt]
        subst this
        exact e2) hare hF
      have hkeep4 : ∀ b o, b ≠ s.heap.objs.size → h3.get? b = some o → h4.get? b = some o := fun b o hb e => hk4 b o hb (notIn_one (Nat.ne_of_lt (Heap.lt_size e))) (hpush _ b o e)
      have F4 : Fr s.heap s.heap.objs.size h4 _ := ⟨hn4, fun b o e => hkeep4 b o (Nat.ne_of_lt (Heap.lt_size e)) (F3.keep b o e), F₁.above⟩
      have hcell4 : h4.IsCell (s.heap.objs.size + 1) (some (.ref a)) := isCell_at hcell3 fun o e => hkeep4 _ o (by omega) e
      have ha0 : a < s.heap.objs.size := isList_lt hl
      have hla4 : h4.IsList a _ := hla3.at fun o e => hkeep4 a o (Nat.ne_of_lt ha0) e
      have G4 : Gd w mg mb h4 := G.keeps F4.keep
      have hm4 : ∀ (mm : Str → Option Value), (if Str.ofString "texts" = Str.ofString "texts" then some (Value.ref D4) else mm (Str.ofString "texts")) = some (.ref D4) := fun _ => if_pos rfl
      have hc4 : ys4.length ≤ 16 := by rw [hB4.len, List.length_map, ← hare.len]; exact hcount
      refine wpAny_execs_cons (wpAny_If (isTrue_and (wpAny_isTrue_Compare1 (Subscript_ (nmC hcell4 (oInt fun _ _ => subL hla4 (k := 1) rfl rfl (by decide) (kStr fun _ _ => tEq rfl empty_txt (wpAny_truthy_bool ?_))))))))
      by_cases hempty : r1 = []
      · rw [if_pos (by rw [hempty]; rfl)]
        refine isTrue_and (wpAny_isTrue_Compare1 (callB1 G4 (by rfl) boot_len (by decide) (nmC hcell4 (lLen hla4 (by simp; omega) fun _ _ => oInt fun _ _ => oGt (b := 2) rfl rfl (wpAny_truthy_bool ?_)))))
        by_cases hrest : rest = []
        · subst hrest
          have hvn : vrest = [] := by cases vrest with | nil => rfl | cons _ _ => simp at hvr'
          subst hvn
          rw [if_neg (by simp)]
          rw [if_neg (by simp)]
          refine wpAny_execs_nil (wpAny_execs_cons (wpAny_Return_some (nmL F4 (hm4 _) ?_)))
          refine hQ D4 ys4 h4 _ F4.keep hl4.isList ?_
          rw [laidL_two, if_neg (by simp), List.append_nil]
          exact hB4
        · have hvn : 1 ≤ rest.length := by cases rest with | nil => exact absurd rfl hrest | cons _ _ => simp
          rw [if_pos (by simp; omega)]
          refine isTrue_and_nil ?_
          rw [if_pos rfl]
          refine wpAny_execs_cons (asgBin (wpAny_BinOp (nmL F4 (hm4 _) (lc (fun v y => ∃ r t, v = .str (txt r) t ∧ IsTxt (r0 ++ [13, 10] ++ r) y) (call1 G4 (by rfl) (by rfl) (lFrom (k := 2) rfl hla4 (by simp; omega) (fun Q' hq => nmC hcell4 hq) fun D5 h5 tk5 hK5 hp5 hD5 => ⟨G4.keeps hK5, ?_⟩))))))
          refine ih _ _ _ _ D5 rest _ (by omega) hvn hB2 (G4.keeps hK5) hh (by show A.depth + 1 + n < recursionLimit; omega) hp5.isList hvr fun D6 ys6 h6 tk6 hK6 hl6 hare6 => ?_
          refine wpAny_pyIter_list hl6 ?_
          dsimp only
          have hK46 : Kp h4 h6 := fun b o e => hK6 b o (hK5 b o e)
          have hD6 : (D6 : Nat) < h6.objs.size := isList_lt hl6
          have F6 := F4.keeps hK46
          have hcell6 : h6.IsCell (s.heap.objs.size + 1) (some (.ref a)) := isCell_at hcell4 (hK46 _)
          have hla6 : h6.IsList a _ := isList_kp hla4 hK46
          have hclt6 : s.heap.objs.size + 1 < h6.objs.size := isCell_lt hcell6
          have halt6 : a < h6.objs.size := isList_lt hla6
          have hpush6 : ∀ o, Kp h6 (h6.push o) := fun o b x e => Heap.get?_push_of_some _ e
          have hpart6 : ∀ t ∈ laidL rest, t.length ≤ 60000 := fun t ht => by
            have := laidL_part rest.length rest (Nat.le_refl _) hB2 t ht
            have h3 := Nat.mul_le_mul_right (1000 + 2) (show rest.length ≤ 4 by omega)
            omega
          have hcount6 : ys6.length ≤ 16 := by
            rw [hare6.len]
            have := laidL_len 4 rest (by omega) (by decide)
            have h2 : 2 ^ rest.length ≤ 2 ^ 4 := Nat.pow_le_pow_right (by decide) (by omega)
            omega
          refine ⟨h6.objs.size, _, _, _, _, _, rfl, wList hD6 _ hh, by rw [List.size_toArray, sizeLine_eq]; omega, ⟨⟨_, Heap.get?_push_size _ rfl, rfl, rfl⟩, isList_kp hl6 (hpush6 _)⟩, ?_, ?_, ?_⟩
          · rw [Heap.size_push]
            exact lt_two (Nat.lt_succ_self _) (Nat.lt_succ_of_lt hD6)
          · rintro C i v s₃ m₃ hC hP hn3' hm3 hk3
            have hP' : ys6[i]? = some v := by simpa using hP
            obtain ⟨r, hr, tv, rfl⟩ := hare6.get hP'
            have hrl := hpart6 r (List.mem_of_getElem? hr)
            obtain ⟨H, ge, dr, tk', os⟩ := s₃
            dsimp only at hn3' hk3 ⊢
            exact laid_elt (isCell_at hcell6 fun o e => hk3 _ o (notIn_one (Nat.ne_of_lt hclt6)) (hpush6 _ _ o e)) (hla6.at fun o e => hk3 _ o (notIn_one (Nat.ne_of_lt halt6)) (hpush6 _ _ o e)) rfl crlf_txt hr0 (by decide) hrl hn3' hm3 (fun t => ⟨r, tv, rfl, t, rfl⟩) rfl rfl rfl rfl rfl
          · intro D7 h7 tk7 ys7 us hD7 hl7 hlen7 hP hF hk7
            have hus : us = ys6 := us_eq rfl hlen7 hP
            subst hus
            have hB7 : Are IsTxt ((laidL rest).map fun t => r0 ++ [13, 10] ++ t) ys7 := paired_are _ (fun r v y ⟨t, e⟩ ⟨r', t1, e1, e2⟩ => by
              subst e
              injection e1 with e1 _
              have : r = r' := by rw [← lst_txt r, e1, lst_txt]
              subst this
              exact e2) hare6 hF
            have hK47 : Kp h4 h7 := fun b o e => hk7 b o (notIn_one (Nat.ne_of_lt (Heap.lt_size (hK46 b o e)))) (hpush6 _ b o (hK46 b o e))
            have hc7 : ys7.length ≤ 16 := by rw [hB7.len, List.length_map, ← hare6.len]; exact hcount6
            refine lAdd (hl4.at fun o e => hK47 _ o e) hl7 (by omega) fun h8 hK8 hl8 => ?_
            have F8 := (F4.keeps hK47).keeps hK8
            have hne8 : h7.objs.size ≠ s.heap.objs.size := list_ne_ns hl8.isList F8.ns
            refine oSet F8 (fun h9 tk9 hn9 hs9 => ?_)
            have F9 := F8.set hn9 hs9
            refine wpAny_execs_nil (wpAny_execs_cons (wpAny_Return_some (nmL F9 (if_pos rfl) ?_)))
            refine hQ _ _ h9 _ F9.keep (hl8.isList.at fun o e => hs9.extBut _ o hne8 e) ?_
            rw [laidL_two, if_pos ⟨hempty, hrest⟩]
            exact hB4.append hB7
      · rw [if_neg (by simpa using hempty)]
        rw [if_neg (by simp)]
        refine wpAny_execs_nil (wpAny_execs_cons (wpAny_Return_some (nmL F4 (hm4 _) ?_)))
        refine hQ D4 ys4 h4 _ F4.keep hl4.isList ?_
        rw [laidL_two, if_neg (fun h => hempty h.1), List.append_nil]
        exact hB4
theorem laid_zero : LaidOk w mg mb 0 := fun A E Q s a rs vs h0 h1 => by omega
theorem laid_ok : LaidOk w mg mb 4 := laid_step (by decide) (laid_step (by decide) (laid_step (by decide) (laid_step (by decide) laid_zero)))
end
end Mine

namespace Mine
set_option maxRecDepth 100000
open PySem.Calls

section
variable {w : World} {A : Around} {E : Value → Shared → Prop} {s : Shared} {env : Env} {R : Result → Shared → Prop}

theorem newEnvC {scope : Scope} {globals : Addr} {cl : List (Str × Addr)} {qual : Str} {outer : Env} {Q : Env → Shared → Prop}
    (h : Q { scope, locals := s.heap.objs.size, globals, cells := cellsFrom (s.heap.objs.size + 1) scope.names cl, qual, func := none, code := outer.code, frame := outer.frame, builtins := outer.builtins }
      { s with heap := pushCells (s.heap.push { cls := .type "dict", data := .dict #[] }) scope.names }) :
    wpAny (model PR w) A (newFunctionEnv scope globals cl [] qual none .none (some outer)) Q E s := by
  simp only [newFunctionEnv, Option.isSome_some, if_true]
  refine wpAny_bind (wpAny_alloc ?_)
  refine wpAny_bind (wpAny_layCells _ (fun name kind cells => by cases hkc : kind == NameKind.cell <;> simp [hkc]) _ _ _ _ ?_)
  rw [show ({ s with heap := s.heap.push { cls := .type "dict", data := .dict #[] } } : Shared).heap.objs.size = s.heap.objs.size + 1 from Heap.size_push ..]
  exact wpAny_bind (wpAny_pure (wpAny_pure h))

theorem comp0 {elt target iter : Expr} {ifs : List Expr} {gs : List Comprehension} {scope : Scope} {cl : List (Str × Addr)} {pos p : Pos} {use : Option (Value → Sem Unit)} {Q : Value → Shared → Prop}
    (h : wpAny (model PR w) A (eval iter env) (fun xv s₁ => wpAny (model PR w) A (pyIter xv) (fun it s₂ => ∃ I, it = .ref I ∧
      (∀ (s' : Shared) (Q' E' : Value → Shared → Prop), Kp s₂.heap s'.heap → Q' (.ref I) s' → wpAny (model PR w) A (pyIter (.ref I)) Q' E' s') ∧
      codeAny (model PR w) A (.compLoop (.ListComp elt (⟨target, iter, ifs, 0⟩ :: gs) scope pos) 0 (.ref I) (.ref s₂.heap.objs.size) (compEnvC scope (cellsFrom (s₂.heap.objs.size + 2) scope.names cl) (s₂.heap.objs.size + 1) env))
        (compPost (model PR w) A E use Q (.ref s₂.heap.objs.size) (s₂.heap.objs.size + 1))
        { s₂ with heap := pushCells ((s₂.heap.push { cls := .type "list", data := .seq #[] }).push { cls := .type "dict", data := .dict #[] }) scope.names }) E s₁) E s)
    (hclos : closureFor scope env = pure cl) (hkind : scope.kind = .function) (hnames : ∀ y ∈ scope.names, y.2 = .local → scope.names.lookup y.1 = some .local)
    (hs : ∀ x, foldedSetIterable iter env x = pure x) :
    wpAny (model PR w) A (comprehension (.ListComp elt (⟨target, iter, ifs, 0⟩ :: gs) scope pos) scope env p (newList []) false (eval iter env) use) Q E s := by
  refine wpAny_comprehension_free rfl hs hclos hkind hnames (wpAny_mono h (fun xv s₁ h₁ => wpAny_mono h₁ (fun it s₂ h₂ => ?_) fun _ _ e => e) fun _ _ e => e)
  obtain ⟨I, rfl, hself, hloop⟩ := h₂
  refine wpAny_newObj_type (newEnvC ?_)
  have e1 : (s₂.heap.push { cls := .type "list", data := .seq ([] : List Value).toArray }).objs.size = s₂.heap.objs.size + 1 := Heap.size_push ..
  dsimp only
  rw [e1]
  exact codeAny_compStart_list hloop (hself _ _ _ (fun b o e => pushCells_keeps _ _ b o (Heap.get?_push_of_some _ (Heap.get?_push_of_some _ e))) hloop)

theorem compEval {elt target iter : Expr} {ifs : List Expr} {gs : List Comprehension} {scope : Scope} {cl : List (Str × Addr)} {pos : Pos} {Q : Value → Shared → Prop}
    (h : wpAny (model PR w) A (eval iter env) (fun xv s₁ => wpAny (model PR w) A (pyIter xv) (fun it s₂ => ∃ I, it = .ref I ∧
      (∀ (s' : Shared) (Q' E' : Value → Shared → Prop), Kp s₂.heap s'.heap → Q' (.ref I) s' → wpAny (model PR w) A (pyIter (.ref I)) Q' E' s') ∧
      codeAny (model PR w) A (.compLoop (.ListComp elt (⟨target, iter, ifs, 0⟩ :: gs) scope pos) 0 (.ref I) (.ref s₂.heap.objs.size) (compEnvC scope (cellsFrom (s₂.heap.objs.size + 2) scope.names cl) (s₂.heap.objs.size + 1) env))
        (compPost (model PR w) A E none Q (.ref s₂.heap.objs.size) (s₂.heap.objs.size + 1))
        { s₂ with heap := pushCells ((s₂.heap.push { cls := .type "list", data := .seq #[] }).push { cls := .type "dict", data := .dict #[] }) scope.names }) E s₁) E s)
    (hclos : closureFor scope env = pure cl := by rfl) (hkind : scope.kind = .function := by rfl) (hnames : ∀ y ∈ scope.names, y.2 = .local → scope.names.lookup y.1 = some .local := by decide)
    (hs : ∀ x, foldedSetIterable iter env x = pure x := by intro _; rfl) :
    wpAny (model PR w) A (eval (.ListComp elt (⟨target, iter, ifs, 0⟩ :: gs) scope pos) env) Q E s := by
  rw [eval_ListComp]
  exact comp0 h hclos hkind hnames hs

theorem compSet {elt target iter : Expr} {ifs : List Expr} {gs : List Comprehension} {scope : Scope} {cl : List (Str × Addr)} {pos spos py : Pos} {y : Str} {Q : Flow → Shared → Prop}
    (h : wpAny (model PR w) A (eval iter env) (fun xv s₁ => wpAny (model PR w) A (pyIter xv) (fun it s₂ => ∃ I, it = .ref I ∧
      (∀ (s' : Shared) (Q' E' : Value → Shared → Prop), Kp s₂.heap s'.heap → Q' (.ref I) s' → wpAny (model PR w) A (pyIter (.ref I)) Q' E' s') ∧
      codeAny (model PR w) A (.compLoop (.ListComp elt (⟨target, iter, ifs, 0⟩ :: gs) scope pos) 0 (.ref I) (.ref s₂.heap.objs.size) (compEnvC scope (cellsFrom (s₂.heap.objs.size + 2) scope.names cl) (s₂.heap.objs.size + 1) env))
        (compPost (model PR w) A E (some (assign (.Name y py) env)) (fun _ s' => Q .next s') (.ref s₂.heap.objs.size) (s₂.heap.objs.size + 1))
        { s₂ with heap := pushCells ((s₂.heap.push { cls := .type "list", data := .seq #[] }).push { cls := .type "dict", data := .dict #[] }) scope.names }) E s₁) E s)
    (hsw : swapsWith (.ListComp elt (⟨target, iter, ifs, 0⟩ :: gs) scope pos) (some (.Name y py)) spos.line env = pure true := by rfl)
    (hclos : closureFor scope env = pure cl := by rfl) (hkind : scope.kind = .function := by rfl) (hnames : ∀ y ∈ scope.names, y.2 = .local → scope.names.lookup y.1 = some .local := by decide)
    (hs : ∀ x, foldedSetIterable iter env x = pure x := by intro _; rfl) :
    wpAny (model PR w) A (exec (.Assign [.Name y py] (.ListComp elt (⟨target, iter, ifs, 0⟩ :: gs) scope pos) spos) env) Q E s := by
  rw [exec_Assign_Name_used _ _ _ _ hsw]
  refine wpAny_bind (wpAny_standAt (wpAny_bind ?_))
  show wpAny _ A (do let _ ← comprehension (.ListComp elt (⟨target, iter, ifs, 0⟩ :: gs) scope pos) scope env _ (newList []) false (eval iter env) (some (assign (.Name y py) env))) _ _ s
  exact wpAny_bind (wpAny_mono (comp0 h hclos hkind hnames hs) (fun _ s' q => wpAny_pure (wpAny_pure q)) fun _ _ e => e)

/-- one clause, any target -/
theorem cl1 {I : Addr} {fp wr : List Addr} {n : Nat} {P : Nat → Value → Prop} {St : Nat → Heap → Prop} {elt target iter : Expr} {scope : Scope} {pos : Pos} {acc : Value}
    (W : Walks PR w A I fp wr n P St) (J : Nat → Heap → Prop) (hst : St 0 s.heap) (hJ0 : J 0 s.heap)
    (hJ : ∀ i h h', J i h → (∀ b o, b ∉ wr → h.get? b = some o → h'.get? b = some o) → J i h')
    (turn : ∀ i v h₁ tk₁, i < n → P i v → St (i + 1) h₁ → J i h₁ →
      wpAny (model PR w) A (assign target env v) (fun _ s₂ => wpAny (model PR w) A (eval elt env) (fun y s₃ => wpAny (model PR w) A (call (.builtin "list.append") [acc, y])
        (fun _ s₄ => ∃ h₄ tk₄, s₄ = { s with heap := h₄, toks := tk₄ } ∧ J (i + 1) h₄ ∧ (∀ b ∈ fp, ∀ o, h₁.get? b = some o → h₄.get? b = some o)) (fun _ _ => False) s₃) (fun _ _ => False) s₂) (fun _ _ => False) { s with heap := h₁, toks := tk₁ })
    (after : ∀ h' tk, J n h' → R (.ok .next) { s with heap := h', toks := tk })
    (ht : ∀ v, letOwnedTupleGo target (.ref I) v = pure () := by intro _; rfl) :
    codeAny (model PR w) A (.compLoop (.ListComp elt [⟨target, iter, [], 0⟩] scope pos) 0 (.ref I) acc env) R s := by
  refine codeAny_compLoop_list (fun k s' => ∃ i h' tk, s' = { s with heap := h', toks := tk } ∧ J i h' ∧ St i h' ∧ i ≤ n ∧ k = n + 1 - i) ?_ (n + 1)
    ⟨0, s.heap, s.toks, rfl, hJ0, hst, Nat.zero_le _, rfl⟩ ht
  rintro k s' ⟨i, h', tk, rfl, hj, hsti, hi, rfl⟩
  by_cases hlt : i < n
  · refine W.item i _ _ _ hlt hsti fun v h₁ tk₁ hP hst₁ hk₁ => ?_
    refine wpAny_mono (turn i v h₁ tk₁ hlt hP hst₁ (hJ _ _ _ hj hk₁)) (fun _ s₂ h₂ => wpAny_mono h₂ (fun y s₃ h₃ => wpAny_mono h₃ (fun _ s₄ h₄ => ?_) (fun _ _ e => e.elim)) (fun _ _ e => e.elim)) (fun _ _ e => e.elim)
    obtain ⟨h₄, tk₄, rfl, hj₄, hk₄⟩ := h₄
    exact ⟨n + 1 - (i + 1), by omega, i + 1, h₄, tk₄, rfl, hj₄, W.frame _ _ _ hst₁ hk₄, hlt, rfl⟩
  · have hin : i = n := by omega
    subst hin
    refine W.done _ _ _ hsti fun h₁ tk₁ hk₁ => ?_
    exact after h₁ tk₁ (hJ _ _ _ hj hk₁)

/-! two clauses -/
theorem compTurn_in (elt t1 i1 : Expr) (ifs : List Expr) (g0 : Comprehension) (scope : Scope) (pos : Pos) (it acc : Value) (env : Env) :
    compTurn (.ListComp elt [g0, ⟨t1, i1, ifs, 0⟩] scope pos) 1 it acc env = (do
      standAt i1.pos
      match ← pyNext it with
      | none => pure (.done .next)
      | some v =>
        letOwnedTupleGo t1 it v
        assign t1 env v
        let mut ok := true
        for c in ifs do
          if ok then ok ← isTrue c env (eval c env)
        if ok then
          (do let _ ← call (.builtin "list.append") [acc, ← eval elt env])
        again (.compLoop (.ListComp elt [g0, ⟨t1, i1, ifs, 0⟩] scope pos) 1 it acc env)) := by rfl

theorem cl2in {I : Addr} {fp wr : List Addr} {n : Nat} {P : Nat → Value → Prop} {St : Nat → Heap → Prop} {elt t1 i1 : Expr} {ifs : List Expr} {g0 : Comprehension} {scope : Scope} {pos : Pos} {acc : Value}
    (W : Walks PR w A I fp wr n P St) (J : Nat → Heap → Prop) (hst : St 0 s.heap) (hJ0 : J 0 s.heap)
    (hJ : ∀ i h h', J i h → (∀ b o, b ∉ wr → h.get? b = some o → h'.get? b = some o) → J i h')
    (turn : ∀ i v h₁ tk₁, i < n → P i v → St (i + 1) h₁ → J i h₁ →
      wpAny (model PR w) A (assign t1 env v) (fun _ s₂ =>
        wpAny (model PR w) A (forIn ifs true fun c r => if r = true then do let ok ← isTrue c env (eval c env); pure (ForInStep.yield ok) else pure (ForInStep.yield r)) (fun ok s₃ =>
          if ok = true then wpAny (model PR w) A (eval elt env) (fun y s₄ => wpAny (model PR w) A (call (.builtin "list.append") [acc, y])
            (fun _ s₅ => ∃ h₅ tk₅, s₅ = { s with heap := h₅, toks := tk₅ } ∧ J (i + 1) h₅ ∧ (∀ b ∈ fp, ∀ o, h₁.get? b = some o → h₅.get? b = some o)) (fun _ _ => False) s₄) (fun _ _ => False) s₃
          else ∃ h₃ tk₃, s₃ = { s with heap := h₃, toks := tk₃ } ∧ J (i + 1) h₃ ∧ (∀ b ∈ fp, ∀ o, h₁.get? b = some o → h₃.get? b = some o)) (fun _ _ => False) s₂) (fun _ _ => False) { s with heap := h₁, toks := tk₁ })
    (after : ∀ h' tk, J n h' → R (.ok .next) { s with heap := h', toks := tk })
    (ht : ∀ v, letOwnedTupleGo t1 (.ref I) v = pure () := by intro _; rfl) :
    codeAny (model PR w) A (.compLoop (.ListComp elt [g0, ⟨t1, i1, ifs, 0⟩] scope pos) 1 (.ref I) acc env) R s := by
  refine codeAny_loop rfl (fun k s' => ∃ i h' tk, s' = { s with heap := h', toks := tk } ∧ J i h' ∧ St i h' ∧ i ≤ n ∧ k = n + 1 - i) (fun k s' hI => ?_) (n + 1)
    ⟨0, s.heap, s.toks, rfl, hJ0, hst, Nat.zero_le _, rfl⟩
  obtain ⟨i, h', tk, rfl, hj, hsti, hi, rfl⟩ := hI
  show wpAny _ A ((compTurn (.ListComp elt [g0, ⟨t1, i1, ifs, 0⟩] scope pos) 1 (.ref I) acc env).onRaise (fun x => do noteFrame x env; theTreesLotGoes x)) _ _ _
  refine wpAny_noted ?_
  rw [compTurn_in]
  refine wpAny_bind (wpAny_standAt (wpAny_bind ?_))
  by_cases hlt : i < n
  · refine W.item i _ _ _ hlt hsti fun v h₁ tk₁ hP hst₁ hk₁ => ?_
    refine wpAny_bind (wpAny_of_eq (ht v) ?_)
    refine wpAny_bind (wpAny_mono (turn i v h₁ tk₁ hlt hP hst₁ (hJ _ _ _ hj hk₁)) (fun _ s₂ h₂ => wpAny_bind (wpAny_mono h₂ (fun ok s₃ h₃ => ?_) (fun _ _ e => e.elim))) (fun _ _ e => e.elim))
    have next : ∀ s₅ : Shared, (∃ h₅ tk₅, s₅ = { s with heap := h₅, toks := tk₅ } ∧ J (i + 1) h₅ ∧ (∀ b ∈ fp, ∀ o, h₁.get? b = some o → h₅.get? b = some o)) →
        (∃ m, m < n + 1 - i ∧ ∃ i h' tk, s₅ = { s with heap := h', toks := tk } ∧ J i h' ∧ St i h' ∧ i ≤ n ∧ m = n + 1 - i) := by
      rintro s₅ ⟨h₅, tk₅, rfl, hj₅, hk₅⟩
      exact ⟨n + 1 - (i + 1), by omega, i + 1, h₅, tk₅, rfl, hj₅, W.frame _ _ _ hst₁ hk₅, hlt, rfl⟩
    cases ok with
    | false => exact wpAny_pure ⟨rfl, next _ h₃⟩
    | true => exact wpAny_bind (wpAny_bind (wpAny_mono h₃ (fun x s₄ h₄ => wpAny_bind (wpAny_mono h₄ (fun _ s₅ h₅ => wpAny_pure (wpAny_pure ⟨rfl, next _ h₅⟩)) (fun _ _ e => e.elim))) (fun _ _ e => e.elim)))
  · have hin : i = n := by omega
    subst hin
    refine W.done _ _ _ hsti fun h₁ tk₁ hk₁ => ?_
    exact wpAny_pure (after h₁ tk₁ (hJ _ _ _ hj hk₁))

theorem compStart_in {elt t1 i1 : Expr} {ifs : List Expr} {g0 : Comprehension} {scope : Scope} {pos : Pos} {it acc : Value}
    (h0 : codeAny (model PR w) A (.compLoop (.ListComp elt [g0, ⟨t1, i1, ifs, 0⟩] scope pos) 1 it acc env) R s)
    (h : wpAny (model PR w) A (pyIter it) (fun it' s' => codeAny (model PR w) A (.compLoop (.ListComp elt [g0, ⟨t1, i1, ifs, 0⟩] scope pos) 1 it' acc env) R s') (fun _ _ => False) s) :
    codeAny (model PR w) A (.compStart (.ListComp elt [g0, ⟨t1, i1, ifs, 0⟩] scope pos) 1 it acc env) R s := by
  refine codeAny_of_tree ?_
  show wpAny _ _ ((compStart (.ListComp elt [g0, ⟨t1, i1, ifs, 0⟩] scope pos) 1 it acc env).onRaise (fun x => do noteFrame x env; standAt theWindowsPlace)) _ _ s
  refine wpAny_notedAt ?_
  unfold compStart
  show wpAny _ _ (ask >>= _) _ _ s
  refine wpAny_bind (wpAny_askSetting (wpAny_ite ?_))
  split
  · first
      | exact wpAny_bind (wpAny_pure (wpAny_pure (And.intro rfl h0)))
      | exact wpAny_pure (And.intro rfl h0)
  · first
      | exact wpAny_bind (wpAny_rule (wpAny_bind (wpAny_standAt (wpAny_bind (wpAny_mono h (fun it' s' h' => wpAny_pure (And.intro rfl h')) fun _ _ x => x.elim)))))
      | (refine wpAny_bind (wpAny_rule ?_); show wpAny _ _ (standAt i1.pos >>= _) _ _ s; exact wpAny_bind (wpAny_standAt (wpAny_bind (wpAny_mono h (fun it' s' h' => wpAny_pure (And.intro rfl h')) fun _ _ x => x.elim))))

theorem compTurn_out (elt t0 i0 t1 i1 : Expr) (ifs : List Expr) (scope : Scope) (pos : Pos) (it acc : Value) (env : Env) :
    compTurn (.ListComp elt [⟨t0, i0, [], 0⟩, ⟨t1, i1, ifs, 0⟩] scope pos) 0 it acc env = (standAt i0.pos >>= fun _ => pyNext it >>= fun r => match r with
      | none => pure (.done .next)
      | some v => letOwnedTupleGo t0 it v >>= fun _ => assign t0 env v >>= fun _ =>
        (eval i1 env >>= fun x => standAt i1.pos >>= fun _ => foldedSetIterable i1 env x >>= fun x => holding [x] (pyIter x) >>= fun i => runOwn (.compStart (.ListComp elt [⟨t0, i0, [], 0⟩, ⟨t1, i1, ifs, 0⟩] scope pos) 1 i acc env) env >>= fun _ => 
          again (.compLoop (.ListComp elt [⟨t0, i0, [], 0⟩, ⟨t1, i1, ifs, 0⟩] scope pos) 0 it acc env))) := by rfl

theorem cl2out {I : Addr} {fp wr : List Addr} {n : Nat} {P : Nat → Value → Prop} {St : Nat → Heap → Prop} {elt t0 i0 t1 i1 : Expr} {ifs : List Expr} {scope : Scope} {pos : Pos} {acc : Value}
    (W : Walks PR w A I fp wr n P St) (J : Nat → Heap → Prop) (hst : St 0 s.heap) (hJ0 : J 0 s.heap)
    (hJ : ∀ i h h', J i h → (∀ b o, b ∉ wr → h.get? b = some o → h'.get? b = some o) → J i h')
    (turn : ∀ i v h₁ tk₁, i < n → P i v → St (i + 1) h₁ → J i h₁ →
      wpAny (model PR w) A (letOwnedTupleGo t0 (.ref I) v) (fun _ s₁ => wpAny (model PR w) A (assign t0 env v) (fun _ s₂ => wpAny (model PR w) A (eval i1 env) (fun x s₃ => wpAny (model PR w) A (pyIter x) (fun it1 s₄ =>
        codeAny (model PR w) A (.compStart (.ListComp elt [⟨t0, i0, [], 0⟩, ⟨t1, i1, ifs, 0⟩] scope pos) 1 it1 acc env) (fun r s₅ => (∃ f, r = .ok f) ∧ ∃ h₅ tk₅, s₅ = { s with heap := h₅, toks := tk₅ } ∧ J (i + 1) h₅ ∧ (∀ b ∈ fp, ∀ o, h₁.get? b = some o → h₅.get? b = some o)) s₄)
        (fun _ _ => False) s₃) (fun _ _ => False) s₂) (fun _ _ => False) s₁) (fun _ _ => False) { s with heap := h₁, toks := tk₁ })
    (after : ∀ h' tk, J n h' → R (.ok .next) { s with heap := h', toks := tk })
    (hs : ∀ x, foldedSetIterable i1 env x = pure x := by intro _; rfl) :
    codeAny (model PR w) A (.compLoop (.ListComp elt [⟨t0, i0, [], 0⟩, ⟨t1, i1, ifs, 0⟩] scope pos) 0 (.ref I) acc env) R s := by
  refine codeAny_loop rfl (fun k s' => ∃ i h' tk, s' = { s with heap := h', toks := tk } ∧ J i h' ∧ St i h' ∧ i ≤ n ∧ k = n + 1 - i) (fun k s' hI => ?_) (n + 1)
    ⟨0, s.heap, s.toks, rfl, hJ0, hst, Nat.zero_le _, rfl⟩
  obtain ⟨i, h', tk, rfl, hj, hsti, hi, rfl⟩ := hI
  show wpAny _ A ((compTurn (.ListComp elt [⟨t0, i0, [], 0⟩, ⟨t1, i1, ifs, 0⟩] scope pos) 0 (.ref I) acc env).onRaise (fun x => do noteFrame x env; theTreesLotGoes x)) _ _ _
  refine wpAny_noted ?_
  rw [compTurn_out]
  refine wpAny_bind (wpAny_standAt (wpAny_bind ?_))
  by_cases hlt : i < n
  · refine W.item i _ _ _ hlt hsti fun v h₁ tk₁ hP hst₁ hk₁ => ?_
    refine wpAny_bind (wpAny_mono (turn i v h₁ tk₁ hlt hP hst₁ (hJ _ _ _ hj hk₁)) (fun _ s₁ h1 => wpAny_bind (wpAny_mono h1 (fun _ s₂ h₂ => wpAny_bind (wpAny_mono h₂ (fun x s₃ h₃ => wpAny_bind (wpAny_standAt (wpAny_bind (wpAny_of_eq (hs x) (wpAny_bind (wpAny_holding (wpAny_mono h₃ (fun it1 s₄ h₄ => ?_) (fun _ _ e => e.elim)))))))) (fun _ _ e => e.elim))) (fun _ _ e => e.elim))) (fun _ _ e => e.elim))
    refine wpAny_bind (wpAny_runOwn (codeAny_mono h₄ fun r s₅ h₅ => ?_))
    obtain ⟨⟨f, rfl⟩, h₅, tk₅, rfl, hj₅, hk₅⟩ := h₅
    exact wpAny_pure ⟨rfl, n + 1 - (i + 1), by omega, i + 1, h₅, tk₅, rfl, hj₅, W.frame _ _ _ hst₁ hk₅, hlt, rfl⟩
  · have hin : i = n := by omega
    subst hin
    refine W.done _ _ _ hsti fun h₁ tk₁ hk₁ => ?_
    exact wpAny_pure (after h₁ tk₁ (hJ _ _ _ hj hk₁))
end
end Mine

namespace Mine
set_option maxRecDepth 100000
open PySem.Calls

/-- a pair (text, sum) in the heap -/
def IsWay (ok : Nat → Prop) (h : Heap) (p : List Nat × Nat) (v : Value) : Prop := ∃ (T : Nat) (t u : Tok), v = .ref T ∧ ok T ∧ h.IsTuple T #[.str (txt p.1) t, .int (p.2 : Int) u]
theorem isTuple_lt {h : Heap} {a : Nat} {items : Array Value} (x : h.IsTuple a items) : a < h.objs.size := by obtain ⟨o, e, _⟩ := x; exact Heap.lt_size e
theorem isTuple_at {h h' : Heap} {a : Nat} {items : Array Value} (x : h.IsTuple a items) (k : ∀ o, h.get? a = some o → h'.get? a = some o) : h'.IsTuple a items := let ⟨o, e, r⟩ := x; ⟨o, k o e, r⟩
theorem IsWay.at {ok ok' : Nat → Prop} {h h' : Heap} {p : List Nat × Nat} {v : Value} (x : IsWay ok h p v) (hok : ∀ T, ok T → T < h.objs.size → ok' T) (hk : ∀ (T : Nat) o, ok T → h.get? T = some o → h'.get? T = some o) : IsWay ok' h' p v := by
  obtain ⟨T, t, u, rfl, hT, ht⟩ := x
  exact ⟨T, t, u, rfl, hok T hT (isTuple_lt ht), isTuple_at ht fun o e => hk T o hT e⟩
theorem tup_ne_ns {h : Heap} {D L : Nat} {items : Array Value} {m : Str → Option Value} (hl : h.IsTuple D items) (hn : h.Ns L m) : D ≠ L := by
  rintro rfl
  obtain ⟨o, e, _, n, hd⟩ := hl
  obtain ⟨o', es, ep, e', hd', _⟩ := hn
  rw [e] at e'
  cases e'
  rw [hd] at hd'
  cases hd'
theorem tup_ne_cell {h : Heap} {D c : Nat} {items : Array Value} {v : Option Value} (hl : h.IsTuple D items) (hn : h.IsCell c v) : D ≠ c := by
  rintro rfl
  obtain ⟨o, e, _, n, hd⟩ := hl
  obtain ⟨o', e', hd'⟩ := hn
  rw [e] at e'
  cases e'
  rw [hd] at hd'
  cases hd'

section
variable {w : World} {A : Around} {E : Value → Shared → Prop} {s : Shared} {mg mb : Str → Option Value} {h₀ : Heap} {L : Addr} {m : Str → Option Value} {env : Env}
variable {H : Heap} {ge : Array GenState} {dr : Drawn} {tk : Nat} {os : OsState}

structure WEnv (env : Env) (C c : Nat) : Prop where
  loc : env.locals = C
  kind : env.scope.kind = .function
  text : env.kindOf (Str.ofString "text") = some .local
  crc : env.kindOf (Str.ofString "crc") = some .local
  end_ : env.kindOf (Str.ofString "end") = some .local
  row : env.kindOf (Str.ofString "row") = some .cell
  run : env.kindOf (Str.ofString "_law_run") = some .globalImplicit
  cell : env.cells.lookup (Str.ofString "row") = some c
  glob : env.globals = mainGlobals

theorem way_elt {C c : Nat} {l e row : List Nat} {k : Nat} {t1 t2 t3 t4 : Tok} {Q : Value → Shared → Prop} {p1 p2 p3 p4 p5 p6 p7 p8 p9 q1 q2 q3 : Pos} {kk : Nat} (V : WEnv env C c)
    (G : Gd w mg mb H) (hh : A.handled = none) (hroom : A.depth + 1 < recursionLimit)
    (hcell : H.IsCell c (some (.str (txt row) t1))) (hn : H.Ns C m) (hm1 : m (Str.ofString "text") = some (.str (txt l) t2)) (hm2 : m (Str.ofString "crc") = some (.int (k : Int) t3)) (hm3 : m (Str.ofString "end") = some (.str (txt e) t4))
    (hl : l.length ≤ 20000) (he : e.length ≤ 2) (hr : row.length ≤ 1000)
    (hQ : ∀ (T : Nat) h' tk' t u, Kp H h' → H.get? T = none → h'.IsTuple T #[.str (txt (l ++ e ++ row)) t, .int ((runC k (e ++ row) : Nat) : Int) u] → Q (.ref T) ⟨h', ge, dr, tk', os⟩) :
    wpAny (model PR w) A (eval (.Tuple [.BinOp (.BinOp (.Name (Str.ofString "text") p1) .Add (.Name (Str.ofString "end") p2) p3) .Add (.Name (Str.ofString "row") p4) p5,
      .Call (.Name (Str.ofString "_law_run") p6) [.Name (Str.ofString "crc") p7, .BinOp (.Name (Str.ofString "end") p8) .Add (.Name (Str.ofString "row") p9) q1] [] q2] kk q3) env) Q E ⟨H, ge, dr, tk, os⟩ := by
  refine Tuple_ (sp (wpAny_BinOp (wpAny_BinOp (nmN hn hm1 (nmN hn hm3 ?_ V.loc V.kind V.end_) V.loc V.kind V.text))))
  refine tCat rfl rfl (by omega) fun _ _ => nmC hcell ?_ V.cell V.kind V.row
  refine tCat rfl rfl (by rw [List.length_append]; omega) fun t5 _ => ?_
  refine sp (call2 G (by rfl) (by rfl) (nmN hn hm2 (wpAny_BinOp (nmN hn hm3 (nmC hcell ?_ V.cell V.kind V.row) V.loc V.kind V.end_)) V.loc V.kind V.crc) rfl rfl V.glob V.kind V.run)
  refine tCat rfl rfl (by omega) fun t6 _ => ⟨G, ?_⟩
  refine law_run_ok G hh hroom fun t7 h' tk' hK => sp0 ?_
  dsimp only at hK ⊢
  rw [lst_txt]
  refine wpAny_newTuple ?_ (by rw [sizeLine_eq]; show 2 ≤ _; omega)
  dsimp only
  have hle : H.get? h'.objs.size = none := by
    cases e1 : H.get? h'.objs.size with
    | none => rfl
    | some o => exact absurd (Heap.lt_size (hK _ o e1)) (Nat.lt_irrefl _)
  exact hQ _ _ _ t5 t7 (fun b o e => Heap.get?_push_of_some _ (hK b o e)) hle ⟨_, Heap.get?_push_size _ rfl, rfl, 0, rfl⟩

theorem ne_live {h : Heap} {T b : Nat} {o : Obj} (hT : h.get? T = none) (hb : h.get? b = some o) : T ≠ b := fun e => by rw [e, hb] at hT; cases hT
theorem ns_live {h : Heap} {T C : Nat} {m : Str → Option Value} (hT : h.get? T = none) (hn : h.Ns C m) : T ≠ C := by
  obtain ⟨o, es, ep, e', _⟩ := hn
  exact ne_live hT e'
theorem plain_live {h : Heap} {T D : Nat} {vs : Array Value} (hT : h.get? T = none) (hn : h.PlainList D vs) : T ≠ D := by
  obtain ⟨n, e'⟩ := hn
  exact ne_live hT e'

theorem way_inner {C c D : Nat} {ok : Nat → Prop} {l row : List Nat} {k : Nat} {t1 t2 t3 : Tok} {acc : List (List Nat × Nat)} {ys : List Value} {R : Result → Shared → Prop} {g0 : Comprehension} {scope : Scope} {pos : Pos}
    {p1 p2 p3 p4 p5 p6 p7 p8 p9 q1 q2 q3 q4 r1 r2 r3 r4 : Pos} {kk k1 k2 k3 : Nat} (V : WEnv env C c)
    (G : Gd w mg mb h₀) (hh : A.handled = none) (hroom : A.depth + 1 < recursionLimit)
    (hcell : H.IsCell c (some (.str (txt row) t1))) (hn : H.Ns C m) (hm1 : m (Str.ofString "text") = some (.str (txt l) t2)) (hm2 : m (Str.ofString "crc") = some (.int (k : Int) t3))
    (hl : l.length ≤ 20000) (hr : row.length ≤ 1000) (hD : H.PlainList D ys.toArray) (hare : Are (IsWay ok H) acc ys) (hlen : acc.length ≤ 1000)
    (hok1 : ∀ T, ok T → T ≠ C ∧ T ≠ D) (hok2 : ∀ T, T ≠ C → T ≠ D → (∀ (b : Nat) o, b ≠ C → b ≠ D → H.get? b = some o → T ≠ b) → ok T)
    (hDC : D ≠ C) (hcC : c ≠ C) (hcD : c ≠ D) (hK : Kp h₀ H) (hC0 : h₀.objs.size ≤ C) (hD0 : h₀.objs.size ≤ D)
    (hR : ∀ h' tk' m' ys', h'.Ns C m' → h'.PlainList D ys'.toArray → Are (IsWay ok h') (acc ++ ends.map fun e => (l ++ e ++ row, runC k (e ++ row))) ys' →
      (∀ b o, b ≠ C → b ≠ D → H.get? b = some o → h'.get? b = some o) → R (.ok .next) ⟨h', ge, dr, tk', os⟩) :
    wpAny (model PR w) A (eval (.List [.Constant (.str (Str.ofString "\n")) k1 r1, .Constant (.str (Str.ofString "\x0d")) k2 r2, .Constant (.str (Str.ofString "\x0d\n")) k3 r3] r4) env) (fun x s₃ => wpAny (model PR w) A (pyIter x) (fun it1 s₄ =>
        codeAny (model PR w) A (.compStart (.ListComp (.Tuple [.BinOp (.BinOp (.Name (Str.ofString "text") p1) .Add (.Name (Str.ofString "end") p2) p3) .Add (.Name (Str.ofString "row") p4) p5,
      .Call (.Name (Str.ofString "_law_run") p6) [.Name (Str.ofString "crc") p7, .BinOp (.Name (Str.ofString "end") p8) .Add (.Name (Str.ofString "row") p9) q1] [] q2] kk q3) [g0, ⟨.Name (Str.ofString "end") q4, .List [.Constant (.str (Str.ofString "\n")) k1 r1, .Constant (.str (Str.ofString "\x0d")) k2 r2, .Constant (.str (Str.ofString "\x0d\n")) k3 r3] r4, [], 0⟩] scope pos) 1 it1 (.ref D) env) R s₄)
        (fun _ _ => False) s₃) (fun _ _ => False) ⟨H, ge, dr, tk, os⟩ := by
  refine List_ (spK (kStr fun e1 _ => spK (kStr fun e2 _ => spK (kStr fun e3 _ => sp0 ?_))))
  refine kNewList ?_ (by rw [sizeLine_eq]; show 3 ≤ _; omega)
  have hvs : Are IsTxt ends [.str (Str.ofString "\n") e1, .str (Str.ofString "\x0d") e2, .str (Str.ofString "\x0d\n") e3] := ⟨⟨e1, by rw [nl_txt]⟩, ⟨e2, by rw [cr_txt]⟩, ⟨e3, by rw [crlf_txt]⟩, trivial⟩
  generalize [Value.str (Str.ofString "\n") e1, .str (Str.ofString "\x0d") e2, .str (Str.ofString "\x0d\n") e3] = vs at *
  have hsz1 : vs.length = 3 := hvs.len
  generalize hH1 : H.push { cls := .type "list", data := .seq vs.toArray } = H1
  have hl1 : H1.IsList H.objs.size vs.toArray := by rw [← hH1]; exact ⟨_, Heap.get?_push_size _ rfl, rfl, 0, rfl⟩
  have hK1 : Kp H H1 := by rw [← hH1]; exact fun b o e => Heap.get?_push_of_some _ e
  have hs1 : H1.objs.size = H.objs.size + 1 := by rw [← hH1]; exact Heap.size_push ..
  refine wpAny_pyIter_list hl1 ?_
  dsimp only
  generalize hH2 : H1.push { cls := .type "list_iterator", data := .fields #[.ref H.objs.size, .int 0 0] } = H2
  have hit : H2.IsListIter H1.objs.size H.objs.size 0 := by rw [← hH2]; exact ⟨_, Heap.get?_push_size _ rfl, rfl, rfl⟩
  have hK2 : Kp H1 H2 := by rw [← hH2]; exact fun b o e => Heap.get?_push_of_some _ e
  have hK02 : Kp H H2 := fun b o e => hK2 b o (hK1 b o e)
  have hl2 := isList_kp hl1 hK2
  generalize hI1 : H1.objs.size = I1 at *
  generalize hD1 : H.objs.size = D1 at *
  have hCl : C < D1 := by rw [← hD1]; exact hn.lt
  have hDl : D < D1 := by rw [← hD1]; exact isList_lt hD.isList
  have key : ∀ tk', codeAny (model PR w) A (.compLoop (.ListComp (.Tuple [.BinOp (.BinOp (.Name (Str.ofString "text") p1) .Add (.Name (Str.ofString "end") p2) p3) .Add (.Name (Str.ofString "row") p4) p5,
      .Call (.Name (Str.ofString "_law_run") p6) [.Name (Str.ofString "crc") p7, .BinOp (.Name (Str.ofString "end") p8) .Add (.Name (Str.ofString "row") p9) q1] [] q2] kk q3) [g0, ⟨.Name (Str.ofString "end") q4, .List [.Constant (.str (Str.ofString "\n")) k1 r1, .Constant (.str (Str.ofString "\x0d")) k2 r2, .Constant (.str (Str.ofString "\x0d\n")) k3 r3] r4, [], 0⟩] scope pos) 1 (.ref I1) (.ref D) env) R ⟨H2, ge, dr, tk', os⟩ := by
    intro tk'
    have hD1I1 : D1 < I1 := by omega
    refine cl2in (wList hD1I1 _ hh) (fun j h => ∃ m' ys', h.Ns C m' ∧ m' (Str.ofString "text") = some (.str (txt l) t2) ∧ m' (Str.ofString "crc") = some (.int (k : Int) t3) ∧ h.PlainList D ys'.toArray ∧
      Are (IsWay (fun T => ok T ∧ T ≠ I1) h) (acc ++ (ends.take j).map fun e => (l ++ e ++ row, runC k (e ++ row))) ys' ∧ (∀ b o, b ≠ C → b ≠ D → H.get? b = some o → h.get? b = some o)) ⟨hit, hl2⟩ ?_ ?_ ?_ ?_
    · refine ⟨m, ys, hn.keeps hK02, hm1, hm2, hD.at fun o e => hK02 _ o e, ?_, fun b o _ _ e => hK02 b o e⟩
      · rw [List.take_zero, List.map_nil, List.append_nil]
        exact hare.mono fun p v x => x.at (fun T hT hlt => ⟨hT, by omega⟩) fun T o _ e => hK02 T o e
    · rintro j h h' ⟨m', ys', a1, a2, a3, a4, a5, a6⟩ kk
      have hCI : C ≠ I1 := by omega
      have hDI : D ≠ I1 := by omega
      refine ⟨m', ys', a1.at' fun o e => kk _ o (notIn_one hCI) e, a2, a3, a4.at fun o e => kk _ o (notIn_one hDI) e, a5.mono fun p v x => x.at (fun T hT _ => hT) fun T o hT e => kk T o (notIn_one hT.2) e, fun b o hb hb2 e => kk b o (notIn_one ?_) (a6 b o hb hb2 e)⟩
      exact Nat.ne_of_lt (Nat.lt_trans (hD1 ▸ Heap.lt_size e) hD1I1)
    · rintro i v h tk1 hi hP hSt ⟨m', ys', a1, a2, a3, a4, a5, a6⟩
      have hP' : vs[i]? = some v := by simpa using hP
      obtain ⟨e, he, te, rfl⟩ := hvs.get hP'
      have he2 : e.length ≤ 2 := by
        have := List.mem_of_getElem? he
        revert this
        unfold ends
        simp
        rintro (rfl | rfl | rfl) <;> decide
      refine wpAny_assign_Name (wpAny_storeName_local V.end_ (V.loc ▸ a1) (fun h2 hn2 hs2 => ?_) (by rw [V.kind]; rfl))
      rw [V.loc] at hn2 hs2
      refine wpAny_tests_nil ?_
      rw [if_pos rfl]
      have hk0 : Kp h₀ h := fun b o e => a6 b o (Nat.ne_of_lt (Nat.lt_of_lt_of_le (Heap.lt_size e) hC0)) (Nat.ne_of_lt (Nat.lt_of_lt_of_le (Heap.lt_size e) hD0)) (hK b o e)
      have hk2 : Kp h₀ h2 := fun b o e => hs2.extBut b o (Nat.ne_of_lt (Nat.lt_of_lt_of_le (Heap.lt_size e) hC0)) (hk0 b o e)
      have hcell2 : h2.IsCell c (some (.str (txt row) t1)) := isCell_at hcell fun o e => hs2.extBut c o hcC (a6 c o hcC hcD e)
      refine way_elt V (G.keeps hk2) hh hroom hcell2 hn2 ((if_neg (by decide)).trans a2) ((if_neg (by decide)).trans a3) (if_pos rfl) hl he2 hr fun T h3 tk3 t u hK3 hT hTup => ?_
      have hD2 : h2.PlainList D ys'.toArray := a4.at fun o e => hs2.extBut D o hDC e
      have hTC := ns_live hT hn2
      have hTD := plain_live hT hD2
      have hTok : ok T := hok2 T hTC hTD fun b o hb hb2 e => ne_live hT (hs2.extBut b o hb (a6 b o hb hb2 e))
      obtain ⟨⟨oI1, hI1', _⟩, _⟩ := hSt
      have hTI1 : T ≠ I1 := ne_live hT (hs2.extBut I1 oI1 (Nat.ne_of_gt (show C < I1 by omega)) hI1')
      have hylen : ys'.length ≤ 1010 := by
        have h3 : ends.length = 3 := rfl
        rw [a5.len, List.length_append, List.length_map, List.length_take, h3]
        omega
      refine wpAny_list_append_plain (hD2.at fun o e => hK3 _ o e) (fun h4 hp4 hs4 => ?_) (by rw [List.size_toArray, sizeLine_eq]; omega)
      have hk4 : ∀ b o, b ≠ C → b ≠ D → h.get? b = some o → h4.get? b = some o := fun b o hb hb2 e => hs4.extBut b o hb2 (hK3 b o (hs2.extBut b o hb e))
      refine ⟨h4, tk3, rfl, ⟨_, ys' ++ [Value.ref T], (hn2.keeps hK3).sameBut hs4 (Ne.symm hDC), (if_neg (by decide)).trans a2, (if_neg (by decide)).trans a3, ?_, ?_, fun b o hb hb2 e => hk4 b o hb hb2 (a6 b o hb hb2 e)⟩, fun b hb o e => ?_⟩
      · have e2 : ys'.toArray.push (Value.ref T) = (ys' ++ [Value.ref T]).toArray := by simp
        rw [← e2]
        exact hp4
      · rw [List.take_add_one, he, Option.toList_some, List.map_append, ← List.append_assoc]
        exact Are.snoc (a5.mono fun p v x => x.at (fun T hT _ => hT) fun T o hT e => hk4 T o (hok1 T hT.1).1 (hok1 T hT.1).2 e) ⟨T, t, u, rfl, ⟨hTok, hTI1⟩, isTuple_at hTup fun o e => hs4.extBut T o hTD e⟩
      · have hb' : b = I1 ∨ b = D1 := by simpa using hb
        refine hk4 b o ?_ ?_ e <;> rcases hb' with rfl | rfl <;> exact Nat.ne_of_gt (by omega)
    · rintro h tk1 ⟨m', ys', a1, a2, a3, a4, a5, a6⟩
      rw [List.size_toArray, hsz1] at a5
      exact hR h tk1 m' ys' a1 a4 (a5.mono fun p v x => x.at (fun T hT _ => hT.1) fun T o hT e => e) a6
  exact compStart_in (key _) (wpAny_pyIter_listiter hit (key _))
end
end Mine

namespace Mine
set_option maxRecDepth 100000
open PySem.Calls

theorem step_snoc (row : List Nat) (ws : List (List Nat × Nat)) (p : List Nat × Nat) : step row (ws ++ [p]) = step row ws ++ ends.map fun e => (p.1 ++ e ++ row, runC p.2 (e ++ row)) := by
  unfold step
  rw [List.flatMap_append]
  simp
theorem step_len (row : List Nat) (ws : List (List Nat × Nat)) : (step row ws).length = 3 * ws.length := by
  unfold step
  induction ws with
  | nil => rfl
  | cons p ws ih =>
    rw [List.flatMap_cons, List.length_append, ih]
    simp [ends]
    omega

section
variable {w : World} {A : Around} {E : Value → Shared → Prop} {s : Shared} {mg mb : Str → Option Value} {h₀ : Heap} {L : Nat} {m : Str → Option Value} {env : Env}
variable {H : Heap} {ge : Array GenState} {dr : Drawn} {tk : Nat} {os : OsState}

set_option maxHeartbeats 1000000 in
theorem spelled_turn {c Dw N : Nat} {row : List Nat} {t1 : Tok} {ws : List (List Nat × Nat)} {ys : List Value} {oN : Obj} {Q : Flow → Shared → Prop} {scope : Scope} {cl : List (Str × Addr)} {pos spos : Pos}
    {p1 p2 p3 p4 p5 p6 p7 p8 p9 q1 q2 q3 q4 q5 q6 q7 q8 q9 r1 r2 r3 r4 : Pos} {kk k1 k2 k3 k4 : Nat}
    (G : Gd w mg mb h₀) (hh : A.handled = none) (hroom : A.depth + 1 < recursionLimit) (F : Fr h₀ L H m)
    (hcell : H.IsCell c (some (.str (txt row) t1))) (hm : m (Str.ofString "ways") = some (.ref Dw)) (hlw : H.IsList Dw ys.toArray) (hare : Are (IsWay (fun T => T ≠ N) H) ws ys) (hN : H.get? N = some oN)
    (hwl : ws.length ≤ 300) (htl : ∀ p ∈ ws, p.1.length ≤ 20000) (hr : row.length ≤ 1000) (h0 : h₀.objs.size ≤ H.objs.size)
    (hL : env.locals = L) (hways : env.kindOf (Str.ofString "ways") = some .local) (hk : env.scope.kind = .function)
    (hsw : swapsWith (.ListComp (.Tuple [.BinOp (.BinOp (.Name (Str.ofString "text") p1) .Add (.Name (Str.ofString "end") p2) p3) .Add (.Name (Str.ofString "row") p4) p5,
      .Call (.Name (Str.ofString "_law_run") p6) [.Name (Str.ofString "crc") p7, .BinOp (.Name (Str.ofString "end") p8) .Add (.Name (Str.ofString "row") p9) q1] [] q2] kk q3) [⟨.Tuple [.Name (Str.ofString "text") q5, .Name (Str.ofString "crc") q6] k4 q7, .Name (Str.ofString "ways") q8, [], 0⟩, ⟨.Name (Str.ofString "end") q4, .List [.Constant (.str (Str.ofString "\n")) k1 r1, .Constant (.str (Str.ofString "\x0d")) k2 r2, .Constant (.str (Str.ofString "\x0d\n")) k3 r3] r4, [], 0⟩] scope pos) (some (.Name (Str.ofString "ways") q9)) spos.line env = pure true)
    (hclos : closureFor scope env = pure cl) (hkind : scope.kind = .function) (hnames : ∀ y ∈ scope.names, y.2 = .local → scope.names.lookup y.1 = some .local)
    (hV : ∀ C D, WEnv (compEnvC scope (cellsFrom D scope.names cl) C env) C c) (hs : ∀ x, foldedSetIterable (.Name (Str.ofString "ways") q8) env x = pure x) (hpush : ∀ h, pushCells h scope.names = h)
    (hQ : ∀ h' tk' D' ys', Fr h₀ L h' (fun z => if z = Str.ofString "ways" then some (.ref D') else m z) → h'.IsList D' ys'.toArray → Are (IsWay (fun T => T ≠ N) h') (step row ws) ys' → (∀ b o, b ≠ L → H.get? b = some o → h'.get? b = some o) → Q .next ⟨h', ge, dr, tk', os⟩) :
    wpAny (model PR w) A (exec (.Assign [.Name (Str.ofString "ways") q9] (.ListComp (.Tuple [.BinOp (.BinOp (.Name (Str.ofString "text") p1) .Add (.Name (Str.ofString "end") p2) p3) .Add (.Name (Str.ofString "row") p4) p5,
      .Call (.Name (Str.ofString "_law_run") p6) [.Name (Str.ofString "crc") p7, .BinOp (.Name (Str.ofString "end") p8) .Add (.Name (Str.ofString "row") p9) q1] [] q2] kk q3) [⟨.Tuple [.Name (Str.ofString "text") q5, .Name (Str.ofString "crc") q6] k4 q7, .Name (Str.ofString "ways") q8, [], 0⟩, ⟨.Name (Str.ofString "end") q4, .List [.Constant (.str (Str.ofString "\n")) k1 r1, .Constant (.str (Str.ofString "\x0d")) k2 r2, .Constant (.str (Str.ofString "\x0d\n")) k3 r3] r4, [], 0⟩] scope pos) spos) env) Q E ⟨H, ge, dr, tk, os⟩ := by
  have hLl : L < H.objs.size := F.ns.lt
  have hcl : c < H.objs.size := isCell_lt hcell
  have hDwl : Dw < H.objs.size := isList_lt hlw
  have hNl : N < H.objs.size := Heap.lt_size hN
  refine compSet (nmL F hm (wpAny_pyIter_list hlw ?_) hL hk hways) hsw hclos hkind hnames hs
  dsimp only
  generalize hH1 : H.push { cls := .type "list_iterator", data := .fields #[.ref Dw, .int 0 0] } = H1
  have hit : H1.IsListIter H.objs.size Dw 0 := by rw [← hH1]; exact ⟨_, Heap.get?_push_size _ rfl, rfl, rfl⟩
  have hK1 : Kp H H1 := by rw [← hH1]; exact fun b o e => Heap.get?_push_of_some _ e
  have hs1 : H1.objs.size = H.objs.size + 1 := by rw [← hH1]; exact Heap.size_push ..
  refine ⟨H.objs.size, rfl, fun s' Q' E' hk' hq => wpAny_pyIter_listiter (l := Dw) (i := 0) (hit.at fun o e => hk' _ o e) hq, ?_⟩
  rw [hpush, hs1]
  generalize hn0 : H.objs.size = n0 at *
  have hK3 : Kp H ((H1.push { cls := .type "list", data := .seq #[] }).push { cls := .type "dict", data := .dict #[] }) := fun b o e => Heap.get?_push_of_some _ (Heap.get?_push_of_some _ (hK1 b o e))
  have hit3 : ((H1.push { cls := .type "list", data := .seq #[] }).push { cls := .type "dict", data := .dict #[] }).IsListIter n0 Dw 0 := hit.at fun o e => Heap.get?_push_of_some _ (Heap.get?_push_of_some _ e)
  have hD3 : ((H1.push { cls := .type "list", data := .seq #[] }).push { cls := .type "dict", data := .dict #[] }).PlainList (n0 + 1) #[] := ⟨0, Heap.get?_push_of_some _ (by rw [← hs1]; exact Heap.get?_push_size _ rfl)⟩
  have hC3 : ((H1.push { cls := .type "list", data := .seq #[] }).push { cls := .type "dict", data := .dict #[] }).Ns (n0 + 1 + 1) (fun _ => none) := by
    have e1 : (H1.push { cls := .type "list", data := .seq #[] }).objs.size = n0 + 1 + 1 := by rw [Heap.size_push, hs1]
    rw [← e1]
    exact Heap.Ns.new ..
  generalize (H1.push { cls := .type "list", data := .seq #[] }).push { cls := .type "dict", data := .dict #[] } = H3 at *
  have hl3 := isList_kp hlw hK3
  have live : ∀ (b : Nat) o, H.get? b = some o → b < n0 := fun b o e => by rw [← hn0]; exact Heap.lt_size e
  refine cl2out (wList hDwl _ hh) (fun i h => ∃ m' ys', h.Ns (n0 + 1 + 1) m' ∧ h.PlainList (n0 + 1) ys'.toArray ∧ Are (IsWay (fun T => T ≠ n0 + 1 + 1 ∧ T ≠ n0 + 1 ∧ T ≠ n0 ∧ T ≠ N) h) (step row (ws.take i)) ys' ∧
    (∀ b o, H.get? b = some o → h.get? b = some o)) ⟨hit3, hl3⟩ ⟨_, [], hC3, hD3, trivial, hK3⟩ ?_ ?_ ?_
  · rintro i h h' ⟨m', ys', a1, a2, a3, a4⟩ kk
    exact ⟨m', ys', a1.at' fun o e => kk _ o (notIn_one (Nat.ne_of_gt (by omega))) e, a2.at fun o e => kk _ o (notIn_one (Nat.ne_of_gt (by omega))) e, a3.mono fun p v x => x.at (fun T hT _ => hT) fun T o hT e => kk T o (notIn_one hT.2.2.1) e,
      fun b o e => kk b o (notIn_one (Nat.ne_of_lt (live b o e))) (a4 b o e)⟩
  · rintro i v h tk1 hi hP hSt ⟨m', ys', a1, a2, a3, a4⟩
    have hP' : ys[i]? = some v := by simpa using hP
    obtain ⟨p, hp, T, t, u, rfl, hTN, hTup⟩ := hare.get hP'
    have hpl := htl p (List.mem_of_getElem? hp)
    refine wpAny_letOwnedTupleGo_listiter hSt.1 ?_
    have V := hV (n0 + 1 + 1) (n0 + 1 + 2)
    refine kcp_assign hh (isTuple_at hTup fun o e => a4 T o e) V.text V.crc (by rw [V.kind]; rfl) (V.loc ▸ a1) fun h2 tk2 hn2 hk2 => ?_
    rw [V.loc] at hn2 hk2
    have hTC : ∀ (b : Nat), b < n0 → b ≠ n0 + 1 + 1 := fun b hb => by omega
    have k2 : Kp H h2 := fun b o e => hk2 b o (hTC b (live b o e)) (a4 b o e)
    have h0' : ∀ (b : Nat) o, h₀.get? b = some o → b < n0 := fun b o e => by
      have := Heap.lt_size e
      exact Nat.lt_of_lt_of_le this h0
    refine way_inner (ok := fun T => T ≠ n0 + 1 + 1 ∧ T ≠ n0 + 1 ∧ T ≠ n0 ∧ T ≠ N) (h₀ := h₀) V G hh hroom (isCell_at hcell fun o e => k2 c o e) hn2 ((if_neg (by decide)).trans (if_pos rfl)) (if_pos rfl) hpl hr
      (a2.at fun o e => hk2 _ o (Nat.ne_of_lt (Nat.lt_succ_self _)) e) (a3.mono fun p v x => x.at (fun T hT _ => hT) fun T o hT e => hk2 T o hT.1 e) ?_ (fun T hT => ⟨hT.1, hT.2.1⟩) ?_ (by omega) (by omega) (by omega) (fun b o e => k2 b o (F.keep b o e)) (by omega) (by omega) ?_
    · rw [step_len, List.length_take]
      omega
    · intro T hT1 hT2 hT3
      obtain ⟨⟨oI, hI, _⟩, _⟩ := hSt
      have hIC : n0 ≠ n0 + 1 + 1 := by omega
      exact ⟨hT1, hT2, hT3 n0 oI (by omega) (by omega) (hk2 n0 oI hIC hI), hT3 N oN (by omega) (by omega) (k2 N oN hN)⟩
    · intro h3 tk3 m3 ys3 b1 b2 b3 b4
      refine ⟨⟨_, rfl⟩, h3, tk3, rfl, ⟨m3, ys3, b1, b2, ?_, fun b o e => b4 b o ?_ ?_ (k2 b o e)⟩, fun b hb o e => ?_⟩
      · rw [List.take_add_one, hp, Option.toList_some, step_snoc]
        exact b3
      · exact hTC b (live b o e)
      · have := live b o e
        exact Nat.ne_of_lt (by omega)
      · have hb' : b = n0 ∨ b = Dw := by simpa using hb
        have h1 : b ≠ n0 + 1 + 1 := by rcases hb' with rfl | rfl <;> exact Nat.ne_of_lt (by omega)
        have h2 : b ≠ n0 + 1 := by rcases hb' with rfl | rfl <;> exact Nat.ne_of_lt (by omega)
        exact b4 b o h1 h2 (hk2 b o h1 e)
  · rintro h tk1 ⟨m', ys', a1, a2, a3, a4⟩
    rw [List.size_toArray, hare.len, List.take_of_length_le (Nat.le_refl _)] at a3
    have Fh : Fr h₀ L h m := F.keeps a4
    show wpAny (model PR w) A (assign (.Name (Str.ofString "ways") q9) env (.ref (n0 + 1))) _ E _
    refine wpAny_assign_Name (oSet Fh (fun h2 tk2 hn2 hs2 => ?_) hL hways (by rw [hk]; rfl))
    have F2 := Fh.set hn2 hs2
    have hLC : L ≠ n0 + 1 + 1 := by omega
    have hLD : L ≠ n0 + 1 := by omega
    refine ⟨m', a1.sameBut hs2 (Ne.symm hLC), fun h' hs' => ?_⟩
    refine hQ h' tk2 (n0 + 1) ys' (fr_ext F2 hs' hLC ?_) ?_ ?_ fun b o hb e => ?_
    · cases e : h₀.get? (n0 + 1 + 1) with
      | none => rfl
      | some o =>
        have := Heap.lt_size e
        exact absurd this (Nat.not_lt_of_le (Nat.le_trans h0 (Nat.le_add_right n0 2)))
    · exact (a2.isList.at fun o e => hs2.extBut _ o (Ne.symm hLD) e).at fun o e => hs'.extBut _ o (Nat.ne_of_lt (Nat.lt_succ_self _)) e
    · exact a3.mono fun p v x => by
        obtain ⟨T, t, u, rfl, hT, ht⟩ := x
        have hTL : T ≠ L := tup_ne_ns ht Fh.ns
        exact ⟨T, t, u, rfl, hT.2.2.2, isTuple_at ht fun o e => hs'.extBut T o hT.1 (hs2.extBut T o hTL e)⟩
    · exact hs'.extBut b o (Nat.ne_of_lt (Nat.lt_of_lt_of_le (live b o e) (by omega))) (hs2.extBut b o hb (a4 b o e))
end
end Mine

namespace Mine
set_option maxRecDepth 100000
open PySem.Calls

theorem step_part {B : Nat} {row : List Nat} {ws : List (List Nat × Nat)} (h : ∀ p ∈ ws, p.1.length ≤ B) (hr : row.length ≤ 1000) : ∀ p ∈ step row ws, p.1.length ≤ B + 1002 := by
  intro p hp
  unfold step at hp
  obtain ⟨q, hq, hp⟩ := List.mem_flatMap.mp hp
  obtain ⟨e, he, rfl⟩ := List.mem_map.mp hp
  have h1 := h q hq
  have h2 : e.length ≤ 2 := by
    revert he
    unfold ends
    simp
    rintro (rfl | rfl | rfl) <;> decide
  show (q.1 ++ e ++ row).length ≤ _
  rw [List.length_append, List.length_append]
  omega

/-- the ways after the rows -/
def waysOf (c0 : Nat) (r0 : List Nat) (rows : List (List Nat)) : List (List Nat × Nat) := rows.foldl (fun ws r => step r ws) [(r0, runC c0 r0)]
theorem ways_snoc (c0 : Nat) (r0 : List Nat) (rows : List (List Nat)) (r : List Nat) : waysOf c0 r0 (rows ++ [r]) = step r (waysOf c0 r0 rows) := by
  unfold waysOf
  rw [List.foldl_append]
  rfl
theorem ways_len (c0 : Nat) (r0 : List Nat) : ∀ (n : Nat) (rows : List (List Nat)), rows.length = n → (waysOf c0 r0 rows).length = 3 ^ n := by
  intro n
  induction n with
  | zero =>
    intro rows h
    rw [List.length_eq_zero_iff.mp h]
    rfl
  | succ n ih =>
    intro rows h
    obtain ⟨rs, r, rfl⟩ : ∃ rs r, rows = rs ++ [r] := ⟨rows.dropLast, rows.getLast (by intro e; rw [e] at h; cases h), (List.dropLast_concat_getLast _).symm⟩
    rw [ways_snoc, step_len, ih rs (by simpa using h), Nat.pow_succ]
    omega
theorem ways_part (c0 : Nat) {r0 : List Nat} (h0 : r0.length ≤ 1000) : ∀ (n : Nat) (rows : List (List Nat)), rows.length = n → (∀ r ∈ rows, r.length ≤ 1000) → ∀ p ∈ waysOf c0 r0 rows, p.1.length ≤ 1000 + n * 1002 := by
  intro n
  induction n with
  | zero =>
    intro rows h hr p hp
    rw [List.length_eq_zero_iff.mp h] at hp
    unfold waysOf at hp
    simp at hp
    subst hp
    simpa using h0
  | succ n ih =>
    intro rows h hr
    obtain ⟨rs, r, rfl⟩ : ∃ rs r, rows = rs ++ [r] := ⟨rows.dropLast, rows.getLast (by intro e; rw [e] at h; cases h), (List.dropLast_concat_getLast _).symm⟩
    rw [ways_snoc]
    intro p hp
    have := step_part (ih rs (by simpa using h) fun r hr' => hr r (List.mem_append_left _ hr')) (hr r (List.mem_append_right _ (List.mem_singleton.mpr rfl))) p hp
    rw [Nat.succ_mul]
    omega
theorem ways_made (c0 : Nat) (r0 r1 r2 r3 : List Nat) : waysOf c0 r0 [r1, r2, r3] = made c0 r0 r1 r2 r3 := rfl

section
variable {w : World} {A : Around} {E : Value → Shared → Prop} {s : Shared} {mg mb : Str → Option Value} {h₀ : Heap} {L : Nat} {m : Str → Option Value} {env : Env}
variable {H : Heap} {ge : Array GenState} {dr : Drawn} {tk : Nat} {os : OsState}

/-- a for, with the walk's own state at hand -/
theorem loopS {I : Addr} {fp wr : List Addr} {n : Nat} {P : Nat → Value → Prop} {St : Nat → Heap → Prop} {target : Expr} {body : List Stmt} {R : Result → Shared → Prop}
    (W : Walks PR w A I fp wr n P St) (J : Nat → Heap → Prop) (hst : St 0 s.heap) (hJ0 : J 0 s.heap)
    (hJ : ∀ i h h', J i h → (∀ b o, b ∉ wr → h.get? b = some o → h'.get? b = some o) → J i h')
    (turn : ∀ i v h₁ tk₁, i < n → P i v → St (i + 1) h₁ → J i h₁ →
      wpAny (model PR w) A (assign target env v) (fun _ s₂ => wpAny (model PR w) A (execs body env) (fun f s₃ => f = .next ∧ ∃ h₃ tk₃, s₃ = { s with heap := h₃, toks := tk₃ } ∧ J (i + 1) h₃ ∧ (∀ b ∈ fp, ∀ o, h₁.get? b = some o → h₃.get? b = some o)) (fun _ _ => False) s₂) (fun _ _ => False) { s with heap := h₁, toks := tk₁ })
    (after : ∀ h' tk, J n h' → R (.ok .next) { s with heap := h', toks := tk })
    (ht : ∀ v, letOwnedTupleGo target (.ref I) v = pure () := by intro _; rfl) :
    codeAny (model PR w) A (.forLoop target (.ref I) body [] env) R s := by
  refine codeAny_forLoop (fun k s' => ∃ i h' tk, s' = { s with heap := h', toks := tk } ∧ J i h' ∧ St i h' ∧ i ≤ n ∧ k = n + 1 - i) ?_ (n + 1)
    ⟨0, s.heap, s.toks, rfl, hJ0, hst, Nat.zero_le _, rfl⟩ ht
  rintro k s' ⟨i, h', tk, rfl, hj, hsti, hi, rfl⟩
  by_cases hlt : i < n
  · refine W.item i _ _ _ hlt hsti fun v h₁ tk₁ hP hst₁ hk₁ => ?_
    refine wpAny_mono (turn i v h₁ tk₁ hlt hP hst₁ (hJ _ _ _ hj hk₁)) (fun _ s₂ h₂ => wpAny_mono h₂ (fun f s₃ h₃ => ?_) (fun _ _ e => e.elim)) (fun _ _ e => e.elim)
    obtain ⟨rfl, h₃, tk₃, rfl, hj₃, hk₃⟩ := h₃
    exact ⟨n + 1 - (i + 1), by omega, i + 1, h₃, tk₃, rfl, hj₃, W.frame _ _ _ hst₁ hk₃, hlt, rfl⟩
  · have hin : i = n := by omega
    subst hin
    refine W.done _ _ _ hsti fun h₁ tk₁ hk₁ => wpAny_execs_nil ?_
    exact after h₁ tk₁ (hJ _ _ _ hj hk₁)

theorem list_ne_iter {h : Heap} {D I l : Nat} {i : Nat} {items : Array Value} (hl : h.IsList D items) (hn : h.IsListIter I l i) : D ≠ I := by
  rintro rfl
  obtain ⟨o, e, _, n, hd⟩ := hl
  obtain ⟨o', e', _, hd'⟩ := hn
  rw [e] at e'
  cases e'
  rw [hd] at hd'
  cases hd'
theorem list_ne_cell {h : Heap} {D c : Nat} {items : Array Value} {v : Option Value} (hl : h.IsList D items) (hn : h.IsCell c v) : D ≠ c := by
  rintro rfl
  obtain ⟨o, e, _, n, hd⟩ := hl
  obtain ⟨o', e', hd'⟩ := hn
  rw [e] at e'
  cases e'
  rw [hd] at hd'
  cases hd'

set_option maxHeartbeats 1000000 in
theorem spelled_ok {a : Nat} {r0 : List Nat} {rows : List (List Nat)} {vs : List Value} {Q : Value → Shared → Prop} (G : Gd w mg mb s.heap) (hh : A.handled = none) (hroom : A.depth + 2 < recursionLimit)
    (hl : s.heap.IsList a vs.toArray) (hv : Are IsTxt (r0 :: rows) vs) (hB : ∀ r ∈ r0 :: rows, r.length ≤ 1000) (hrl : rows.length ≤ 4)
    (hQ : ∀ (D : Nat) ys h' tk, Kp s.heap h' → h'.IsList D ys.toArray → Are (IsWay (fun _ => True) h') (waysOf (2 ^ 32 - 1) r0 rows) ys → Q (.ref D) { s with heap := h', toks := tk }) :
    wpAny (model PR w) A (call (.ref 74) [.ref a]) Q E s := by
  refine callC (binds := [(Str.ofString "rows", .ref a)]) G (by omega) (by rfl) (by rfl) (by rfl) (fun y hy => by rw [List.mem_singleton.mp hy]; exact .inl rfl) fun h₁ tk₁ F₁ cells => ?_
  have hc1 := cells (Str.ofString "row") (s.heap.objs.size + 1) rfl
  have hLc : s.heap.objs.size ≠ s.heap.objs.size + 1 := by omega
  have hb0 : s.heap.get? (s.heap.objs.size + 1) = none := fresh_none (by omega)
  clear cells
  obtain ⟨v0, vrest, rfl⟩ : ∃ v0 vrest, vs = v0 :: vrest := by
    match vs, hv.len with
    | v0 :: vrest, _ => exact ⟨v0, vrest, rfl⟩
  obtain ⟨⟨t0, rfl⟩, hvr⟩ := hv
  have hr0 := hB r0 (List.mem_cons_self ..)
  have hBr : ∀ r ∈ rows, r.length ≤ 1000 := fun r hr => hB r (List.mem_cons_of_mem _ hr)
  have G1 : Gd w mg mb h₁ := G.keeps F₁.keep
  have hl1 : h₁.IsList a _ := isList_kp hl F₁.keep
  refine wpAny_execs_cons (asgList (List_ (sp (Tuple_ (sp (Subscript_ (nmL F₁ rfl (oInt fun _ _ => subL hl1 (k := 0) (v := .str (txt r0) t0) rfl rfl (by decide) ?_))))))))
  refine sp (call2 G1 (by rfl) (by rfl) (wpAny_BinOp (wpAny_BinOp (oInt fun _ _ => oInt fun _ _ => oPow (k := 32) rfl rfl (by decide) fun _ _ => ?_))))
  refine oInt fun _ _ => oSub (b := 1) rfl rfl (by decide) fun _ _ => Subscript_ (nmL F₁ rfl (oInt fun _ _ => subL hl1 (k := 0) (v := .str (txt r0) t0) rfl rfl (by decide) ⟨G1, ?_⟩))
  refine law_run_ok G1 hh (by show A.depth + 1 + 1 < _; omega) fun t7 h2 tk2 hK2 => sp0 ?_
  dsimp only at hK2 ⊢
  rw [lst_txt]
  refine wpAny_newTuple (sp0 (kNewList ?_ (by rw [sizeLine_eq]; show 1 ≤ _; omega))) (by rw [sizeLine_eq]; show 2 ≤ _; omega)
  dsimp only
  have hT4 : (h2.push { cls := .type "tuple", data := .seq [Value.str (txt r0) t0, Value.int ((runC (2 ^ 32 - 1) r0 : Nat) : Int) t7].toArray }).IsTuple h2.objs.size #[Value.str (txt r0) t0, Value.int ((runC (2 ^ 32 - 1) r0 : Nat) : Int) t7] := ⟨_, Heap.get?_push_size _ rfl, rfl, 0, rfl⟩
  have hK4 : Kp h2 (h2.push { cls := .type "tuple", data := .seq [Value.str (txt r0) t0, Value.int ((runC (2 ^ 32 - 1) r0 : Nat) : Int) t7].toArray }) := fun b o e => Heap.get?_push_of_some _ e
  generalize h2.push { cls := .type "tuple", data := .seq [Value.str (txt r0) t0, Value.int ((runC (2 ^ 32 - 1) r0 : Nat) : Int) t7].toArray } = h4 at *
  have hK5 : Kp h4 (h4.push { cls := .type "list", data := .seq [Value.ref h2.objs.size].toArray }) := fun b o e => Heap.get?_push_of_some _ e
  have hl5 : (h4.push { cls := .type "list", data := .seq [Value.ref h2.objs.size].toArray }).IsList h4.objs.size [Value.ref h2.objs.size].toArray := ⟨_, Heap.get?_push_size _ rfl, rfl, 0, rfl⟩
  have hT5 := isTuple_at hT4 fun o e => hK5 _ o e
  generalize h4.push { cls := .type "list", data := .seq [Value.ref h2.objs.size].toArray } = h5 at *
  have F5 : Fr s.heap s.heap.objs.size h5 _ := F₁.keeps fun b o e => hK5 b o (hK4 b o (hK2 b o e))
  have hc5 : h5.IsCell (s.heap.objs.size + 1) _ := isCell_at hc1 fun o e => hK5 _ o (hK4 _ o (hK2 _ o e))
  generalize hTT : h2.objs.size = T at *
  generalize hDD : h4.objs.size = D at *
  have hDL5 : D ≠ s.heap.objs.size := list_ne_ns hl5 F5.ns
  have hTL5 : T ≠ s.heap.objs.size := tup_ne_ns hT5 F5.ns
  refine oSet F5 (fun h6 tk6 hn6 hs6 => ?_)
  have F6 := F5.set hn6 hs6
  have hl6 : h6.IsList D _ := hl5.at fun o e => hs6.extBut D o hDL5 e
  have hT6 := isTuple_at hT5 fun o e => hs6.extBut T o hTL5 e
  have hc6 := isCell_at hc5 fun o e => hs6.extBut _ o (Ne.symm hLc) e
  have hla6 : h6.IsList a _ := isList_kp hl F6.keep
  have hvl := hvr.len
  refine wpAny_execs_cons (wpAny_For (lFrom (k := 1) rfl hla6 (by simp; omega) (fun Q' hq => nmL F6 rfl hq) fun D1 h7 tk7 hK7 hp7 hD1 => ?_))
  refine wpAny_pyIter_list hp7.isList ?_
  dsimp only
  have hK8 : Kp h6 (h7.push { cls := .type "list_iterator", data := .fields #[.ref D1, .int 0 0] }) := fun b o e => Heap.get?_push_of_some _ (hK7 b o e)
  have hit8 : (h7.push { cls := .type "list_iterator", data := .fields #[.ref D1, .int 0 0] }).IsListIter h7.objs.size D1 0 := ⟨_, Heap.get?_push_size _ rfl, rfl, rfl⟩
  have hl8 : (h7.push { cls := .type "list_iterator", data := .fields #[.ref D1, .int 0 0] }).IsList D1 vrest.toArray := isList_kp hp7.isList fun b o e => Heap.get?_push_of_some _ e
  generalize h7.push { cls := .type "list_iterator", data := .fields #[.ref D1, .int 0 0] } = h8 at *
  have hD1' : h6.objs.size ≤ D1 := hD1
  have hD1I : @LT.lt Nat _ D1 h7.objs.size := isList_lt hp7.isList
  have hL6 : s.heap.objs.size < h6.objs.size := F6.ns.lt
  have hc6l : s.heap.objs.size + 1 < h6.objs.size := isCell_lt hc6
  generalize hII : h7.objs.size = I at *
  have hDI : D < h6.objs.size := isList_lt hl6
  have hTI : T < h6.objs.size := isTuple_lt hT6
  have hLI : s.heap.objs.size ≠ I := by omega
  have hcI : s.heap.objs.size + 1 ≠ I := by omega
  have hDI' : D ≠ I := by omega
  have hTI' : T ≠ I := by omega
  refine loopS (wList hD1I _ hh) (fun i h => ∃ m' D' ys' v, Fr s.heap s.heap.objs.size h m' ∧ h.IsCell (s.heap.objs.size + 1) v ∧ m' (Str.ofString "ways") = some (.ref D') ∧ h.IsList D' ys'.toArray ∧ D' ≠ I ∧ Are (IsWay (fun T => T ≠ I) h) (waysOf (2 ^ 32 - 1) r0 (rows.take i)) ys')
    ⟨hit8, hl8⟩ ⟨_, D, [.ref T], _, F6.keeps hK8, isCell_at hc6 (hK8 _), if_pos rfl, isList_kp hl6 hK8, hDI', ⟨⟨T, t0, t7, rfl, hTI', isTuple_at hT6 (hK8 _)⟩, trivial⟩⟩ ?_ ?_ ?_
  · rintro i h h' ⟨m', D', ys', v, b1, b2, b3, b4, b5, b6⟩ kk
    exact ⟨m', D', ys', v, fr_at b1 (notIn_one hLI) (fun b hb => by rw [List.mem_singleton.mp hb]; exact fresh_none (by omega)) kk, isCell_at b2 fun o e => kk _ o (notIn_one hcI) e, b3, b4.at fun o e => kk _ o (notIn_one b5) e, b5, b6.mono fun p v x => x.at (fun T hT _ => hT) fun T o hT e => kk T o (notIn_one hT) e⟩
  · rintro i v h tk1 hi hP hSt ⟨m', D', ys', v', b1, b2, b3, b4, b5, b6⟩
    have hP' : vrest[i]? = some v := by simpa using hP
    obtain ⟨r, hr, tr, rfl⟩ := hvr.get hP'
    have hrl' := hBr r (List.mem_of_getElem? hr)
    have hi' : i < 4 := by
      have := (List.getElem?_eq_some_iff.mp hP').1
      omega
    refine wpAny_assign_Name (oSetC b2 (fun h2 hc2 hs2 => ?_))
    have F2 := fr_ext b1 hs2 hLc hb0
    obtain ⟨⟨oI, hI, rI⟩, hlD1⟩ := hSt
    have hI2 := hs2.extBut I oI (Ne.symm hcI) hI
    have htk : (rows.take i).length ≤ 3 := by
      rw [List.length_take]
      have := (List.getElem?_eq_some_iff.mp hr).1
      omega
    refine wpAny_execs_cons (spelled_turn (N := I) G hh (by show A.depth + 1 + 1 < _; omega) F2 hc2 b3 (b4.at fun o e => hs2.extBut D' o (list_ne_cell b4 b2) e) (b6.mono fun p v x => by
        obtain ⟨T, t, u, rfl, hT, ht⟩ := x
        exact ⟨T, t, u, rfl, hT, isTuple_at ht fun o e => hs2.extBut T o (tup_ne_cell ht b2) e⟩) hI2 ?_ ?_ hrl' (Nat.le_of_lt F2.ns.lt) rfl rfl rfl (by rfl) (by rfl) rfl (by decide) (fun C D => ⟨rfl, rfl, rfl, rfl, rfl, rfl, rfl, rfl, rfl⟩) (fun _ => rfl) (fun _ => rfl) ?_)
    · rw [ways_len _ _ _ _ rfl]
      have : 3 ^ (rows.take i).length ≤ 3 ^ 3 := Nat.pow_le_pow_right (by decide) htk
      omega
    · intro p hp
      have := ways_part _ hr0 _ (rows.take i) rfl (fun r hr => hBr r (List.mem_of_mem_take hr)) p hp
      omega
    · intro h3 tk3 D3 ys3 c1 c2 c3 c4
      have hI3 := c4 I oI (Ne.symm hLI) hI2
      refine wpAny_execs_nil ⟨rfl, h3, tk3, rfl, ⟨_, D3, ys3, _, c1, isCell_at hc2 fun o e => c4 _ o (Ne.symm hLc) e, if_pos rfl, c2, list_ne_iter (l := D1) (i := i + 1) c2 ⟨oI, hI3, rI⟩, ?_⟩, fun b hb o e => ?_⟩
      · rw [List.take_add_one, hr, Option.toList_some, ways_snoc]
        exact c3
      · have hb' : b = I ∨ b = D1 := by simpa using hb
        have h1 : b ≠ s.heap.objs.size := by rcases hb' with rfl | rfl <;> exact Nat.ne_of_gt (by omega)
        have h2 : b ≠ s.heap.objs.size + 1 := by rcases hb' with rfl | rfl <;> exact Nat.ne_of_gt (by omega)
        exact c4 b o h1 (hs2.extBut b o h2 e)
  · rintro h tk1 ⟨m', D', ys', v', b1, b2, b3, b4, b5, b6⟩
    refine wpAny_execs_cons (wpAny_Return_some (nmL b1 b3 ?_))
    rw [List.size_toArray, hvl, List.take_of_length_le (Nat.le_refl _)] at b6
    exact hQ D' ys' h tk1 b1.keep b4 (b6.mono fun p v x => x.at (fun T hT _ => trivial) fun T o hT e => e)
end
end Mine

namespace Mine
set_option maxRecDepth 100000
open PySem.Calls

/-- a list of texts in the heap -/
def IsTexts (ok : Nat → Prop) (h : Heap) (ls : List (List Nat)) (v : Value) : Prop := ∃ (T : Nat) (vs : List Value), v = .ref T ∧ ok T ∧ h.IsList T vs.toArray ∧ Are IsTxt ls vs
theorem IsTexts.at {ok ok' : Nat → Prop} {h h' : Heap} {p : List (List Nat)} {v : Value} (x : IsTexts ok h p v) (hok : ∀ T, ok T → ok' T) (hk : ∀ (T : Nat) o, ok T → h.get? T = some o → h'.get? T = some o) : IsTexts ok' h' p v := by
  obtain ⟨T, vs, rfl, hT, ht, hv⟩ := x
  exact ⟨T, vs, rfl, hok T hT, ht.at fun o e => hk T o hT e, hv⟩
theorem list_ne_range {h : Heap} {D I : Nat} {x l t : Int} {items : Array Value} (hl : h.IsList D items) (hn : IsRangeIter h I x l t) : D ≠ I := by
  rintro rfl
  obtain ⟨o, e, _, n, hd⟩ := hl
  have e2 : h.get? D = some _ := hn
  rw [e] at e2
  cases e2
  cases hd
theorem list_same {h : Heap} {D : Nat} {a b : Array Value} (hl : h.IsList D a) (hn : h.IsList D b) : a = b := by
  obtain ⟨o, e, _, n, hd⟩ := hl
  obtain ⟨o', e', _, n', hd'⟩ := hn
  rw [e] at e'
  cases e'
  rw [hd] at hd'
  cases hd'
  rfl
/-- a list of texts is not a list of lists -/
theorem texts_ne {h : Heap} {D T : Nat} {vs us : List Value} {ls : List (List Nat)} {ks : List (List (List Nat))} {ok : Nat → Prop} (hT : h.IsList T vs.toArray) (hv : Are IsTxt ls vs) (hls : ls ≠ []) (hD : h.IsList D us.toArray) (hu : Are (IsTexts ok h) ks us) : T ≠ D := by
  rintro rfl
  have e := list_same hT hD
  have e2 : vs = us := by simpa using e
  subst e2
  match ls, vs, ks, hls, hv, hu with
  | [], _, _, h, _, _ => exact h rfl
  | _ :: _, [], _, _, h, _ => exact h
  | _ :: _, _ :: _, [], _, _, h => exact h
  | _ :: _, v :: _, _ :: _, _, h, h' =>
    obtain ⟨t, rfl⟩ := h.1
    obtain ⟨T', vs', e, _⟩ := h'.1
    cases e

section
variable {w : World} {A : Around} {E : Value → Shared → Prop} {s : Shared} {mg mb : Str → Option Value} {h₀ : Heap} {L : Nat} {m : Str → Option Value} {env : Env}
variable {H : Heap} {ge : Array GenState} {dr : Drawn} {tk : Nat} {os : OsState}

theorem subT {value slice : Expr} {T : Nat} {l : List Value} {k : Nat} {x : Int} {u : Tok} {v : Value} {Q : Value → Shared → Prop} (ht : s.heap.IsTuple T l.toArray) (hk : x = (k : Int)) (hx : l[k]? = some v) (hb : k < 2 ^ 62) (h : Q v s)
    (hs : subscripted slice false (.ref T) (.int x u) = operate [.ref T, .int x u] (getItem (.ref T) (.int x u)) := by with_unfolding_all rfl) :
    wpAny (model PR w) A (subscriptTail value slice (.ref T) (.int x u)) Q E s := by
  subst hk
  have hlt : k < l.length := (List.getElem?_eq_some_iff.mp hx).1
  exact item_tupleT (j := k) ht (by omega) (by omega) (by simp [seqIndex?]; omega) hx h hs

/-- made[3 * i + j][k] -/
theorem at_ij {ei ej em : Expr} {Dm i j k : Nat} {ms : List (List Nat × Nat)} {mvs : List Value} {p : List Nat × Nat} {ti tj : Tok} {Q : Value → Shared → Prop} {ok : Nat → Prop} {p1 p2 p3 p4 p5 p6 : Pos} {k1 k2 : Nat} {x : Int}
    (hm : ∀ (tk : Nat) (Q' : Value → Shared → Prop), Q' (.ref Dm) ⟨H, ge, dr, tk, os⟩ → wpAny (model PR w) A (eval em env) Q' E ⟨H, ge, dr, tk, os⟩)
    (hi : ∀ (tk : Nat) (Q' : Value → Shared → Prop), Q' (.int (i : Int) ti) ⟨H, ge, dr, tk, os⟩ → wpAny (model PR w) A (eval ei env) Q' E ⟨H, ge, dr, tk, os⟩)
    (hj : ∀ (tk : Nat) (Q' : Value → Shared → Prop), Q' (.int (j : Int) tj) ⟨H, ge, dr, tk, os⟩ → wpAny (model PR w) A (eval ej env) Q' E ⟨H, ge, dr, tk, os⟩)
    (hl : H.IsList Dm mvs.toArray) (hw : Are (IsWay ok H) ms mvs) (hp : ms[3 * i + j]? = some p) (hi9 : i < 9) (hj3 : j < 3) (hx : x = 0 ∨ x = 1)
    (hQ : ∀ t tk', Q (if x = 0 then .str (txt p.1) t else .int (p.2 : Int) t) ⟨H, ge, dr, tk', os⟩) :
    wpAny (model PR w) A (eval (.Subscript (.Subscript em (.BinOp (.BinOp (.Constant (.int 3) k1 p1) .Mult ei p2) .Add ej p3) p4) (.Constant (.int x) k2 p5) p6) env) Q E ⟨H, ge, dr, tk, os⟩ := by
  obtain ⟨v, hv, T, t, u, rfl, _, hT⟩ := hw.at hp
  refine Subscript_ (Subscript_ (hm _ _ (wpAny_BinOp (wpAny_BinOp (oInt fun _ _ => hi _ _ (oMul (a := 3) rfl rfl (by omega) fun _ _ => hj _ _ (oAdd rfl rfl fun _ _ => ?_)))))))
  refine subL hl rfl (by simpa using hv) (by omega) (oInt fun _ _ => ?_)
  rcases hx with rfl | rfl
  · exact subT (k := 0) hT rfl rfl (by decide) (hQ t _)
  · exact subT (k := 1) hT rfl rfl (by decide) (hQ u _)
end
end Mine

namespace Mine
set_option maxRecDepth 100000
open PySem.Calls

section
variable {w : World} {A : Around} {E : Value → Shared → Prop} {s : Shared} {mg mb : Str → Option Value} {h₀ : Heap} {L : Nat} {m : Str → Option Value} {env : Env}
variable {H : Heap} {ge : Array GenState} {dr : Drawn} {tk : Nat} {os : OsState}

set_option maxHeartbeats 1000000 in
/-- a comprehension over j in range(3) whose items are lists of texts; j lies in a cell -/
theorem cols {elt : Expr} {f : Nat → List (List Nat)} {scope : Scope} {cl : List (Str × Addr)} {pos pj rp rpos kp : Pos} {kk : Nat} {Q : Value → Shared → Prop}
    (G : Gd w mg mb H) (hh : A.handled = none) (hf : ∀ j, f j ≠ [])
    (helt : ∀ (C B j : Nat) H' tk' t, j < 3 → Kp H H' → H'.IsCell B (some (.int (j : Int) t)) → ∀ (Q' : Value → Shared → Prop),
      (∀ (T : Nat) vs h'' tk'', Kp H' h'' → h''.IsList T vs.toArray → Are IsTxt (f j) vs → Q' (.ref T) ⟨h'', ge, dr, tk'', os⟩) →
      wpAny (model PR w) A (eval elt (compEnvC scope (cellsFrom B scope.names cl) C env)) Q' (fun _ _ => False) ⟨H', ge, dr, tk', os⟩)
    (hQ : ∀ (D : Nat) vs h' tk', Kp H h' → h'.IsList D vs.toArray → Are (IsTexts (fun _ => True) h') ((List.range 3).map f) vs → Q (.ref D) ⟨h', ge, dr, tk', os⟩)
    (hclos : closureFor scope env = pure cl := by rfl) (hkind : scope.kind = .function := by rfl) (hnames : ∀ y ∈ scope.names, y.2 = .local → scope.names.lookup y.1 = some .local := by decide)
    (hcells : ∀ B, (cellsFrom B scope.names cl).lookup (Str.ofString "j") = some B := by intro _; rfl) (hpush : ∀ h, pushCells h scope.names = h.push { cls := .type "cell", data := .cell none } := by intro _; rfl)
    (hjk : ∀ C B, (compEnvC scope (cellsFrom B scope.names cl) C env).kindOf (Str.ofString "j") = some .cell := by intro _ _; rfl) (hkf : ∀ C B, (compEnvC scope (cellsFrom B scope.names cl) C env).scope.kind = .function := by intro _ _; rfl)
    (hg : env.globals = mainGlobals := by rfl) (hb : env.builtins = builtinsNs := by rfl) (hk : env.scope.kind = .function := by rfl) (hx : env.kindOf (Str.ofString "range") = some .globalImplicit := by rfl)
    (hs : ∀ x, foldedSetIterable (.Call (.Name (Str.ofString "range") rp) [.Constant (.int 3) kk kp] [] rpos) env x = pure x := by intro _; rfl) :
    wpAny (model PR w) A (eval (.ListComp elt [⟨.Name (Str.ofString "j") pj, .Call (.Name (Str.ofString "range") rp) [.Constant (.int 3) kk kp] [] rpos, [], 0⟩] scope pos) env) Q E ⟨H, ge, dr, tk, os⟩ := by
  refine compEval (evalRange (N := 3) G hh (by decide) (fun I h2 tk2 hI hK2 W hst hlt => ?_) hg hb hk hx) hclos hkind hnames hs
  dsimp only at hI hK2 ⊢
  have hI' : @LE.le Nat _ H.objs.size I := hI
  have hlt' : @LT.lt Nat _ I h2.objs.size := hlt
  refine ⟨I, rfl, fun s' Q' E' hk' hq => W.self 0 s' Q' E' (hk' _ _ hst) hq, ?_⟩
  rw [hpush]
  have hK3 : Kp h2 (((h2.push { cls := .type "list", data := .seq #[] }).push { cls := .type "dict", data := .dict #[] }).push { cls := .type "cell", data := .cell none }) := fun b o e => Heap.get?_push_of_some _ (Heap.get?_push_of_some _ (Heap.get?_push_of_some _ e))
  have hD3 : (((h2.push { cls := .type "list", data := .seq #[] }).push { cls := .type "dict", data := .dict #[] }).push { cls := .type "cell", data := .cell none }).PlainList h2.objs.size #[] := ⟨0, Heap.get?_push_of_some _ (Heap.get?_push_of_some _ (Heap.get?_push_size _ rfl))⟩
  have hC3 : (((h2.push { cls := .type "list", data := .seq #[] }).push { cls := .type "dict", data := .dict #[] }).push { cls := .type "cell", data := .cell none }).Ns (h2.objs.size + 1) (fun _ => none) := by
    have e1 : (h2.push { cls := .type "list", data := .seq #[] }).objs.size = h2.objs.size + 1 := by rw [Heap.size_push]
    have : ((h2.push { cls := .type "list", data := .seq #[] }).push { cls := .type "dict", data := .dict #[] }).Ns (h2.objs.size + 1) (fun _ => none) := by
      rw [← e1]
      exact Heap.Ns.new ..
    exact this.keeps fun b o e => Heap.get?_push_of_some _ e
  have hB3 : (((h2.push { cls := .type "list", data := .seq #[] }).push { cls := .type "dict", data := .dict #[] }).push { cls := .type "cell", data := .cell none }).IsCell (h2.objs.size + 2) none := by
    have e1 : ((h2.push { cls := .type "list", data := .seq #[] }).push { cls := .type "dict", data := .dict #[] }).objs.size = h2.objs.size + 2 := by rw [Heap.size_push, Heap.size_push]
    rw [← e1]
    exact ⟨_, Heap.get?_push_size _ rfl, rfl⟩
  generalize ((h2.push { cls := .type "list", data := .seq #[] }).push { cls := .type "dict", data := .dict #[] }).push { cls := .type "cell", data := .cell none } = H3 at *
  generalize hDD : h2.objs.size = D at *
  have hDI : D ≠ I := by omega
  have hCI : D + 1 ≠ I := by omega
  have hBI : D + 2 ≠ I := by omega
  have hCB : D + 1 ≠ D + 2 := by omega
  have hDC : D ≠ D + 1 := by omega
  have hDB : D ≠ D + 2 := by omega
  have live : ∀ (b : Nat) o, H.get? b = some o → b < D ∧ b < I := fun b o e => by
    have := Heap.lt_size e
    exact ⟨Nat.lt_of_lt_of_le this (by omega), Nat.lt_of_lt_of_le this hI'⟩
  have neD : ∀ (b : Nat) o, H.get? b = some o → b ≠ D := fun b o e => Nat.ne_of_lt (live b o e).1
  have neC : ∀ (b : Nat) o, H.get? b = some o → b ≠ D + 1 := fun b o e => Nat.ne_of_lt (Nat.lt_trans (live b o e).1 (by omega))
  have neB : ∀ (b : Nat) o, H.get? b = some o → b ≠ D + 2 := fun b o e => Nat.ne_of_lt (Nat.lt_trans (live b o e).1 (by omega))
  have neI : ∀ (b : Nat) o, H.get? b = some o → b ≠ I := fun b o e => Nat.ne_of_lt (live b o e).2
  refine cl1 W (fun i h => ∃ m' v acc, h.Ns (D + 1) m' ∧ h.IsCell (D + 2) v ∧ h.PlainList D acc.toArray ∧ Are (IsTexts (fun T => T ≠ D + 1 ∧ T ≠ D + 2 ∧ T ≠ D ∧ T ≠ I) h) ((List.range i).map f) acc ∧ Kp H h)
    (hK3 _ _ hst) ⟨_, none, [], hC3, hB3, hD3, trivial, fun b o e => hK3 b o (hK2 b o e)⟩ ?_ ?_ ?_
  · rintro i h h' ⟨m', v, acc, a1, a2, a3, a4, a5⟩ kk
    exact ⟨m', v, acc, a1.at' fun o e => kk _ o (notIn_one hCI) e, isCell_at a2 fun o e => kk _ o (notIn_one hBI) e, a3.at fun o e => kk _ o (notIn_one hDI) e, a4.mono fun p v x => x.at (fun T hT => hT) fun T o hT e => kk T o (notIn_one hT.2.2.2) e,
      fun b o e => kk b o (notIn_one (neI b o e)) (a5 b o e)⟩
  · rintro i v h tk1 hi ⟨t, rfl⟩ hSt ⟨m', v, acc, a1, a2, a3, a4, a5⟩
    refine wpAny_assign_Name (oSetC a2 (fun h4 hc4 hs4 => ?_) (hcells _) (hkf _ _) (hjk _ _))
    refine helt (D + 1) (D + 2) i h4 _ t hi (fun b o e => hs4.extBut b o (neB b o e) (a5 b o e)) hc4 _ fun T vs h5 tk5 hK5 hT hv => ?_
    have n5 : h5.Ns (D + 1) m' := (a1.sameBut hs4 hCB).keeps hK5
    have p5 : h5.PlainList D acc.toArray := a3.at fun o e => hK5 _ o (hs4.extBut _ o hDB e)
    have i5 := hK5 _ _ (hs4.extBut _ _ (Ne.symm hBI) hSt)
    have ar5 : Are (IsTexts (fun T => T ≠ D + 1 ∧ T ≠ D + 2 ∧ T ≠ D ∧ T ≠ I) h5) ((List.range i).map f) acc := a4.mono fun p v x => x.at (fun T hT => hT) fun T o hT e => hK5 T o (hs4.extBut T o hT.2.1 e)
    have hTC : T ≠ D + 1 := list_ne_ns hT n5
    have hTB : T ≠ D + 2 := list_ne_cell hT (isCell_at hc4 (hK5 _))
    have hTD : T ≠ D := texts_ne hT hv (hf i) p5.isList ar5
    have hTI : T ≠ I := list_ne_range hT i5
    have hacc : acc.length ≤ 3 := by
      rw [a4.len, List.length_map, List.length_range]
      omega
    refine wpAny_list_append_plain p5 (fun h6 hp6 hs6 => ?_) (by rw [List.size_toArray, sizeLine_eq]; omega)
    refine ⟨h6, tk5, rfl, ⟨m', _, acc ++ [Value.ref T], n5.sameBut hs6 (Ne.symm hDC), isCell_at (isCell_at hc4 (hK5 _)) fun o e => hs6.extBut _ o (Ne.symm hDB) e, ?_, ?_, fun b o e => hs6.extBut b o (neD b o e) (hK5 b o (hs4.extBut b o (neB b o e) (a5 b o e)))⟩, fun b hb o e => ?_⟩
    · have e2 : acc.toArray.push (Value.ref T) = (acc ++ [Value.ref T]).toArray := by simp
      rw [← e2]
      exact hp6
    · rw [List.range_succ, List.map_append]
      exact Are.snoc (ar5.mono fun p v x => x.at (fun T hT => hT) fun T o hT e => hs6.extBut T o hT.2.2.1 e) ⟨T, vs, rfl, ⟨hTC, hTB, hTD, hTI⟩, hT.at fun o e => hs6.extBut T o hTD e, hv⟩
    · rw [List.mem_singleton.mp hb] at e ⊢
      exact hs6.extBut _ o (Ne.symm hDI) (hK5 _ o (hs4.extBut _ o (Ne.symm hBI) e))
  · rintro h tk1 ⟨m', v, acc, a1, a2, a3, a4, a5⟩
    refine ⟨m', a1, fun h' hs' => ?_⟩
    exact hQ D acc h' tk1 (fun b o e => hs'.extBut b o (neC b o e) (a5 b o e)) (a3.isList.at fun o e => hs'.extBut _ o hDC e) (a4.mono fun p v x => x.at (fun T hT => trivial) fun T o hT e => hs'.extBut T o hT.1 e)

/-- two lists of lists of the same texts -/
theorem ne_cols {a b : Nat} {vs us : List Value} {ls : List (List (List Nat))} {Q : Value → Shared → Prop} (ha : s.heap.IsList a vs.toArray) (hb : s.heap.IsList b us.toArray) (hv : Are (IsTexts (fun _ => True) s.heap) ls vs) (hu : Are (IsTexts (fun _ => True) s.heap) ls us)
    (hu1 : A.units < cLine) (hu2 : A.in1.units < cLine) (h : Q (.bool false) s) : wpAny (model PR w) A (compareOp .NotEq (.ref a) (.ref b)) Q E s := by
  have hl : vs.length = us.length := by rw [hv.len, hu.len]
  have hall : (!(List.range vs.toArray.size).all fun _ => true) = false := by simp
  refine SeqAt.RcNeAt.lists (e := fun _ => true) ha hb (by simpa using hl) hu1 (fun j h1 h2 => ?_) PR w E Q (by rw [hall]; exact h)
  have e1 : vs[j]? = some vs.toArray[j] := by simp at h1; simp [h1]
  have e2 : us[j]? = some us.toArray[j] := by simp at h2; simp [h2]
  obtain ⟨l1, hl1, T1, w1, x1, _, y1, z1⟩ := hv.get e1
  obtain ⟨l2, hl2, T2, w2, x2, _, y2, z2⟩ := hu.get e2
  rw [hl1] at hl2
  cases hl2
  rw [x1, x2]
  by_cases hTT : T1 = T2
  · subst hTT
    exact SeqAt.EqAt.same _
  · refine SeqAt.EqAt.of_refs hTT ?_
    have hl' : w1.length = w2.length := by rw [z1.len, z2.len]
    have hall' : ((List.range w1.toArray.size).all fun _ => true) = true := by simp
    rw [← hall']
    refine SeqAt.RcAt.lists y1 y2 (by simpa using hl') hu2 fun k k1 k2 => ?_
    have f1 : w1[k]? = some w1.toArray[k] := by simp at k1; simp [k1]
    have f2 : w2[k]? = some w2.toArray[k] := by simp at k2; simp [k2]
    obtain ⟨q1, hq1, t1, r1⟩ := z1.get f1
    obtain ⟨q2, hq2, t2, r2⟩ := z2.get f2
    rw [hq1] at hq2
    cases hq2
    rw [r1, r2]
    have := SeqAt.EqAt.str_str (A := A.in1.in1) (s := s) (txt q1) t1 (txt q1) t2
    rw [beq_self_eq_true] at this
    exact this
end
end Mine

namespace Mine
set_option maxRecDepth 100000
open PySem.Calls

section
variable {w : World} {A : Around} {E : Value → Shared → Prop} {s : Shared} {mg mb : Str → Option Value} {h₀ : Heap} {L : Nat} {m : Str → Option Value} {env : Env}
variable {H : Heap} {ge : Array GenState} {dr : Drawn} {tk : Nat} {os : OsState}

theorem range_filter_succ (t : Nat → Bool) (g : Nat → Nat) (j : Nat) : ((List.range (j + 1)).filter t).map g = ((List.range j).filter t).map g ++ (if t j then [g j] else []) := by
  rw [List.range_succ, List.filter_append, List.map_append]
  congr 1
  cases h : t j <;> simp [h]

set_option maxHeartbeats 1000000 in
/-- [elt for i in range(9) for j in range(3) if c], stored under a local name -/
theorem pairs {elt c : Expr} {t : Nat → Nat → Bool} {g : Nat → Nat → Nat} {scope : Scope} {cl : List (Str × Addr)} {y : Str} {pos spos py p1 p2 p3 p4 q1 q2 q3 q4 : Pos} {k1 k2 : Nat} {Q : Flow → Shared → Prop}
    (G : Gd w mg mb h₀) (hh : A.handled = none) (F : Fr h₀ L H m) 
    (htest : ∀ (C i j : Nat) H' tk' ti tj m', i < 9 → j < 3 → Kp H H' → H'.Ns C m' → m' (Str.ofString "i") = some (.int (i : Int) ti) → m' (Str.ofString "j") = some (.int (j : Int) tj) → ∀ (Q' : Bool → Shared → Prop),
      (∀ tk'', Q' (t i j) ⟨H', ge, dr, tk'', os⟩) →
      wpAny (model PR w) A (isTrue c (compEnvC scope cl C env) (eval c (compEnvC scope cl C env))) Q' (fun _ _ => False) ⟨H', ge, dr, tk', os⟩)
    (helt : ∀ (C i j : Nat) H' tk' ti tj m', i < 9 → j < 3 → Kp H H' → H'.Ns C m' → m' (Str.ofString "i") = some (.int (i : Int) ti) → m' (Str.ofString "j") = some (.int (j : Int) tj) → ∀ (Q' : Value → Shared → Prop),
      (∀ u tk'', Q' (.int (g i j : Int) u) ⟨H', ge, dr, tk'', os⟩) →
      wpAny (model PR w) A (eval elt (compEnvC scope cl C env)) Q' (fun _ _ => False) ⟨H', ge, dr, tk', os⟩)
    (hQ : ∀ (D : Nat) vs h' tk', Fr h₀ L h' (fun z => if z = y then some (.ref D) else m z) → h'.IsList D vs.toArray → Are IsNat ((List.range 9).flatMap fun i => ((List.range 3).filter (t i)).map (g i)) vs →
      (∀ b o, b ≠ L → H.get? b = some o → h'.get? b = some o) → Q .next ⟨h', ge, dr, tk', os⟩)
    (hsw : swapsWith (.ListComp elt [⟨.Name (Str.ofString "i") p1, .Call (.Name (Str.ofString "range") p2) [.Constant (.int 9) k1 p3] [] p4, [], 0⟩, ⟨.Name (Str.ofString "j") q1, .Call (.Name (Str.ofString "range") q2) [.Constant (.int 3) k2 q3] [] q4, [c], 0⟩] scope pos) (some (.Name y py)) spos.line env = pure true := by rfl)
    (hclos : closureFor scope env = pure cl := by rfl) (hkind : scope.kind = .function := by rfl) (hnames : ∀ y ∈ scope.names, y.2 = .local → scope.names.lookup y.1 = some .local := by decide)
    (hcells : ∀ B, cellsFrom B scope.names cl = cl := by intro _; rfl) (hpush : ∀ h, pushCells h scope.names = h := by intro _; rfl)
    (hik : ∀ C, (compEnvC scope cl C env).kindOf (Str.ofString "i") = some .local := by intro _; rfl) (hjk : ∀ C, (compEnvC scope cl C env).kindOf (Str.ofString "j") = some .local := by intro _; rfl)
    (hkf : ∀ C, (compEnvC scope cl C env).scope.kind = .function := by intro _; rfl)
    (hg : env.globals = mainGlobals := by rfl) (hb : env.builtins = builtinsNs := by rfl) (hk : env.scope.kind = .function := by rfl) (hx : env.kindOf (Str.ofString "range") = some .globalImplicit := by rfl)
    (hx' : ∀ C, (compEnvC scope cl C env).kindOf (Str.ofString "range") = some .globalImplicit := by intro _; rfl)
    (hL : env.locals = L := by rfl) (hy : env.kindOf y = some .local := by rfl)
    (hs : ∀ x, foldedSetIterable (.Call (.Name (Str.ofString "range") p2) [.Constant (.int 9) k1 p3] [] p4) env x = pure x := by intro _; rfl)
    (hs' : ∀ C x, foldedSetIterable (.Call (.Name (Str.ofString "range") q2) [.Constant (.int 3) k2 q3] [] q4) (compEnvC scope cl C env) x = pure x := by intro _ _; rfl) :
    wpAny (model PR w) A (exec (.Assign [.Name y py] (.ListComp elt [⟨.Name (Str.ofString "i") p1, .Call (.Name (Str.ofString "range") p2) [.Constant (.int 9) k1 p3] [] p4, [], 0⟩, ⟨.Name (Str.ofString "j") q1, .Call (.Name (Str.ofString "range") q2) [.Constant (.int 3) k2 q3] [] q4, [c], 0⟩] scope pos) spos) env) Q E ⟨H, ge, dr, tk, os⟩ := by
  have G0 : Gd w mg mb H := G.keeps F.keep
  have hLl : L < H.objs.size := F.ns.lt
  have h0 : h₀.objs.size ≤ L := F.above
  refine compSet (evalRange (N := 9) G0 hh (by decide) (fun I h2 tk2 hI hK2 W hst hlt => ?_) hg hb hk hx) hsw hclos hkind hnames hs
  dsimp only at hI hK2 ⊢
  have hI' : @LE.le Nat _ H.objs.size I := hI
  have hlt' : @LT.lt Nat _ I h2.objs.size := hlt
  refine ⟨I, rfl, fun s' Q' E' hk' hq => W.self 0 s' Q' E' (hk' _ _ hst) hq, ?_⟩
  rw [hpush, hcells]
  have hK3 : Kp h2 ((h2.push { cls := .type "list", data := .seq #[] }).push { cls := .type "dict", data := .dict #[] }) := fun b o e => Heap.get?_push_of_some _ (Heap.get?_push_of_some _ e)
  have hD3 : ((h2.push { cls := .type "list", data := .seq #[] }).push { cls := .type "dict", data := .dict #[] }).PlainList h2.objs.size #[] := ⟨0, Heap.get?_push_of_some _ (Heap.get?_push_size _ rfl)⟩
  have hC3 : ((h2.push { cls := .type "list", data := .seq #[] }).push { cls := .type "dict", data := .dict #[] }).Ns (h2.objs.size + 1) (fun _ => none) := by
    have e1 : (h2.push { cls := .type "list", data := .seq #[] }).objs.size = h2.objs.size + 1 := by rw [Heap.size_push]
    rw [← e1]
    exact Heap.Ns.new ..
  generalize (h2.push { cls := .type "list", data := .seq #[] }).push { cls := .type "dict", data := .dict #[] } = H3 at *
  generalize hDD : h2.objs.size = D at *
  have hDI : D ≠ I := by omega
  have hCI : D + 1 ≠ I := by omega
  have hDC : D ≠ D + 1 := by omega
  have hLD : L ≠ D := by omega
  have hLC : L ≠ D + 1 := by omega
  have live : ∀ (b : Nat) o, H.get? b = some o → b < D ∧ b < I := fun b o e => by
    have := Heap.lt_size e
    exact ⟨Nat.lt_of_lt_of_le this (by omega), Nat.lt_of_lt_of_le this hI'⟩
  have neD : ∀ (b : Nat) o, H.get? b = some o → b ≠ D := fun b o e => Nat.ne_of_lt (live b o e).1
  have neC : ∀ (b : Nat) o, H.get? b = some o → b ≠ D + 1 := fun b o e => Nat.ne_of_lt (Nat.lt_trans (live b o e).1 (by omega))
  have neI : ∀ (b : Nat) o, H.get? b = some o → b ≠ I := fun b o e => Nat.ne_of_lt (live b o e).2
  refine cl2out W (fun i h => ∃ m' acc, h.Ns (D + 1) m' ∧ h.PlainList D acc.toArray ∧ Are IsNat ((List.range i).flatMap fun i => ((List.range 3).filter (t i)).map (g i)) acc ∧ Kp H h)
    (hK3 _ _ hst) ⟨_, [], hC3, hD3, trivial, fun b o e => hK3 b o (hK2 b o e)⟩ ?_ ?_ ?_ (hs' _)
  · rintro i h h' ⟨m', acc, a1, a2, a3, a4⟩ kk
    exact ⟨m', acc, a1.at' fun o e => kk _ o (notIn_one hCI) e, a2.at fun o e => kk _ o (notIn_one hDI) e, a3, fun b o e => kk b o (notIn_one (neI b o e)) (a4 b o e)⟩
  · rintro i v h tk1 hi ⟨ti, rfl⟩ hSt ⟨m', acc, a1, a2, a3, a4⟩
    refine wpAny_of_eq rfl ?_
    refine wpAny_assign_Name (wpAny_storeName_local (hik _) a1 (fun h4 hn4 hs4 => ?_) (by rw [hkf]; rfl))
    have hs4' : Heap.SameBut (D + 1) h h4 := hs4
    have hn4' : h4.Ns (D + 1) _ := hn4
    have k4 : Kp H h4 := fun b o e => hs4'.extBut b o (neC b o e) (a4 b o e)
    have p4' : h4.PlainList D acc.toArray := a2.at fun o e => hs4'.extBut _ o hDC e
    refine evalRange (N := 3) (G0.keeps k4) hh (by decide) (fun I1 h5 tk5 hI1 hK5 W1 hst1 hlt1 => ?_) hg hb (hkf _) (hx' _)
    dsimp only at hI1 hK5 ⊢
    have hI1' : @LE.le Nat _ h4.objs.size I1 := hI1
    have hC4 : D + 1 < h4.objs.size := hn4'.lt
    have hCI1 : D + 1 ≠ I1 := by omega
    have hDI1 : D ≠ I1 := by omega
    have key : ∀ tk', codeAny (model PR w) A (.compLoop (.ListComp elt [⟨.Name (Str.ofString "i") p1, .Call (.Name (Str.ofString "range") p2) [.Constant (.int 9) k1 p3] [] p4, [], 0⟩, ⟨.Name (Str.ofString "j") q1, .Call (.Name (Str.ofString "range") q2) [.Constant (.int 3) k2 q3] [] q4, [c], 0⟩] scope pos) 1 (.ref I1) (.ref D) (compEnvC scope cl (D + 1) env))
        (fun r s₅ => (∃ f, r = .ok f) ∧ ∃ h₅ tk₅, s₅ = ⟨h₅, ge, dr, tk₅, os⟩ ∧ (∃ m' acc, h₅.Ns (D + 1) m' ∧ h₅.PlainList D acc.toArray ∧ Are IsNat ((List.range (i + 1)).flatMap fun i => ((List.range 3).filter (t i)).map (g i)) acc ∧ Kp H h₅) ∧ (∀ b ∈ [I], ∀ o, h.get? b = some o → h₅.get? b = some o)) ⟨h5, ge, dr, tk', os⟩ := by
      intro tk'
      refine cl2in W1 (fun j h' => ∃ m' acc, h'.Ns (D + 1) m' ∧ m' (Str.ofString "i") = some (.int (i : Int) ti) ∧ h'.PlainList D acc.toArray ∧ Are IsNat (((List.range i).flatMap fun i => ((List.range 3).filter (t i)).map (g i)) ++ ((List.range j).filter (t i)).map (g i)) acc ∧ (∀ b o, b ≠ D + 1 → b ≠ D → h4.get? b = some o → h'.get? b = some o))
        hst1 ⟨_, acc, hn4'.keeps hK5, if_pos rfl, p4'.at fun o e => hK5 _ o e, by simpa using a3, fun b o _ _ e => hK5 b o e⟩ ?_ ?_ ?_
      · rintro j h h' ⟨m', acc, b1, b2, b3, b4, b5⟩ kk
        exact ⟨m', acc, b1.at' fun o e => kk _ o (notIn_one hCI1) e, b2, b3.at fun o e => kk _ o (notIn_one hDI1) e, b4, fun b o hb hb2 e => kk b o (notIn_one (Nat.ne_of_lt (Nat.lt_of_lt_of_le (Heap.lt_size e) hI1'))) (b5 b o hb hb2 e)⟩
      · rintro j v h6 tk6 hj ⟨tj, rfl⟩ hSt1 ⟨m6, acc6, b1, b2, b3, b4, b5⟩
        refine wpAny_assign_Name (wpAny_storeName_local (hjk _) b1 (fun h7 hn7 hs7 => ?_) (by rw [hkf]; rfl))
        have hs7' : Heap.SameBut (D + 1) h6 h7 := hs7
        have hn7' : h7.Ns (D + 1) _ := hn7
        have k7 : Kp H h7 := fun b o e => hs7'.extBut b o (neC b o e) (b5 b o (neC b o e) (neD b o e) (k4 b o e))
        have p7 : h7.PlainList D acc6.toArray := b3.at fun o e => hs7'.extBut _ o hDC e
        have mi : (if Str.ofString "i" = Str.ofString "j" then some (Value.int (j : Int) tj) else m6 (Str.ofString "i")) = some (.int (i : Int) ti) := by rw [if_neg (by decide)]; exact b2
        have mj : (if Str.ofString "j" = Str.ofString "j" then some (Value.int (j : Int) tj) else m6 (Str.ofString "j")) = some (.int (j : Int) tj) := if_pos rfl
        have hlen6 : acc6.length ≤ 100 := by
          rw [b4.len, List.length_append, List.length_map, List.length_flatMap]
          have e1 : ((List.range j).filter (t i)).length ≤ 3 := Nat.le_trans (List.length_filter_le _ _) (by rw [List.length_range]; omega)
          have e2 : ∀ n, ((List.range n).map fun i => (((List.range 3).filter (t i)).map (g i)).length).sum ≤ 3 * n := by
            intro n
            induction n with
            | zero => simp
            | succ n ih =>
              rw [List.range_succ (n := n), List.map_append, List.sum_append]
              have : (((List.range 3).filter (t n)).map (g n)).length ≤ 3 := by
                rw [List.length_map]
                exact Nat.le_trans (List.length_filter_le _ _) (by rw [List.length_range]; omega)
              simp only [List.map_cons, List.map_nil, List.sum_cons, List.sum_nil]
              omega
          have := e2 i
          omega
        refine wpAny_tests_one (htest (D + 1) i j h7 _ ti tj _ hi hj k7 hn7' mi mj _ fun tk8 => ?_)
        cases htt : t i j with
        | false =>
          rw [if_neg (by decide)]
          refine ⟨h7, tk8, rfl, ⟨_, acc6, hn7', mi, p7, ?_, fun b o hb hb2 e => hs7'.extBut b o hb (b5 b o hb hb2 e)⟩, fun b hb o e => ?_⟩
          · rw [range_filter_succ, htt]
            simpa using b4
          · rw [List.mem_singleton.mp hb] at e ⊢
            exact hs7'.extBut _ o (Ne.symm hCI1) e
        | true =>
          rw [if_pos rfl]
          refine helt (D + 1) i j h7 _ ti tj _ hi hj k7 hn7' mi mj _ fun u tk9 => ?_
          refine wpAny_list_append_plain p7 (fun h9 hp9 hs9 => ?_) (by rw [List.size_toArray, sizeLine_eq]; omega)
          refine ⟨h9, tk9, rfl, ⟨_, acc6 ++ [Value.int (g i j : Int) u], hn7'.sameBut hs9 (Ne.symm hDC), mi, ?_, ?_, fun b o hb hb2 e => hs9.extBut b o hb2 (hs7'.extBut b o hb (b5 b o hb hb2 e))⟩, fun b hb o e => ?_⟩
          · have e2 : acc6.toArray.push (Value.int (g i j : Int) u) = (acc6 ++ [Value.int (g i j : Int) u]).toArray := by simp
            rw [← e2]
            exact hp9
          · rw [range_filter_succ, htt, if_pos rfl, ← List.append_assoc]
            exact Are.snoc b4 ⟨u, rfl⟩
          · rw [List.mem_singleton.mp hb] at e ⊢
            exact hs9.extBut _ o (Ne.symm hDI1) (hs7'.extBut _ o (Ne.symm hCI1) e)
      · rintro h6 tk6 ⟨m6, acc6, b1, b2, b3, b4, b5⟩
        refine ⟨⟨_, rfl⟩, h6, tk6, rfl, ⟨m6, acc6, b1, b3, ?_, fun b o e => b5 b o (neC b o e) (neD b o e) (k4 b o e)⟩, fun b hb o e => ?_⟩
        · rw [List.range_succ (n := i), List.flatMap_append]
          simpa using b4
        · rw [List.mem_singleton.mp hb] at e ⊢
          exact b5 _ o (Ne.symm hCI) (Ne.symm hDI) (hs4'.extBut _ o (Ne.symm hCI) e)
    exact compStart_in (key _) (W1.self 0 _ _ _ hst1 (key _))
  · rintro h tk1 ⟨m', acc, a1, a2, a3, a4⟩
    have Fh : Fr h₀ L h m := F.keeps a4
    show wpAny (model PR w) A (assign (.Name y py) env (.ref D)) _ E _
    refine wpAny_assign_Name (oSet Fh (fun h2 tk2 hn2 hs2 => ?_) hL hy (by rw [hk]; rfl))
    have F2 := Fh.set hn2 hs2
    refine ⟨m', a1.sameBut hs2 (Ne.symm hLC), fun h' hs' => ?_⟩
    refine hQ D acc h' tk2 (fr_ext F2 hs' hLC (fresh_none (Nat.le_of_lt (Nat.lt_of_le_of_lt h0 (by omega))))) ((a2.isList.at fun o e => hs2.extBut _ o (Ne.symm hLD) e).at fun o e => hs'.extBut _ o hDC e) a3 fun b o hb e => hs'.extBut b o (neC b o e) (hs2.extBut b o hb (a4 b o e))
end
end Mine

namespace Mine
set_option maxRecDepth 100000
open PySem.Calls

def Good (l : List Nat) : Prop := ∀ c ∈ l, c ≠ 120 ∧ c < 256
theorem Good.app {a b : List Nat} (h1 : Good a) (h2 : Good b) : Good (a ++ b) := fun c hc => by
  rcases List.mem_append.mp hc with h | h
  · exact h1 c h
  · exact h2 c h
theorem Good.of {r : List Nat} (h : Plain r) : Good r := fun c hc => ⟨(h c hc).2.2.1, (h c hc).2.2.2⟩
theorem good_ends {e : List Nat} (h : e ∈ ends) : Good e := by
  revert h
  unfold ends
  simp
  rintro (rfl | rfl | rfl) <;> (unfold Good; decide)
theorem step_good {row : List Nat} {ws : List (List Nat × Nat)} (h : ∀ p ∈ ws, Good p.1) (hr : Good row) : ∀ p ∈ step row ws, Good p.1 := by
  intro p hp
  unfold step at hp
  obtain ⟨q, hq, hp⟩ := List.mem_flatMap.mp hp
  obtain ⟨e, he, rfl⟩ := List.mem_map.mp hp
  exact ((h q hq).app (good_ends he)).app hr
theorem made_good {c0 : Nat} {r0 r1 r2 r3 : List Nat} (h0 : Plain r0) (h1 : Plain r1) (h2 : Plain r2) (h3 : Plain r3) : ∀ p ∈ made c0 r0 r1 r2 r3, Good p.1 := by
  unfold made
  refine step_good (step_good (step_good ?_ (.of h1)) (.of h2)) (.of h3)
  intro p hp
  rw [List.mem_singleton.mp hp]
  exact .of h0
theorem made_len (c0 : Nat) (r0 r1 r2 r3 : List Nat) : (made c0 r0 r1 r2 r3).length = 27 := by
  rw [made_eq, List.length_map]
  rfl
theorem made_part {c0 : Nat} {r0 r1 r2 r3 : List Nat} (h0 : r0.length ≤ 2) (h1 : r1.length ≤ 2) (h2 : r2.length ≤ 2) (h3 : r3.length ≤ 2) : ∀ p ∈ made c0 r0 r1 r2 r3, p.1.length ≤ 14 := by
  have hs : ∀ (B : Nat) (row : List Nat) (ws : List (List Nat × Nat)), (∀ p ∈ ws, p.1.length ≤ B) → row.length ≤ 2 → ∀ p ∈ step row ws, p.1.length ≤ B + 4 := by
    intro B row ws h hr p hp
    unfold step at hp
    obtain ⟨q, hq, hp⟩ := List.mem_flatMap.mp hp
    obtain ⟨e, he, rfl⟩ := List.mem_map.mp hp
    have h1 := h q hq
    have h2 : e.length ≤ 2 := by
      revert he
      unfold ends
      simp
      rintro (rfl | rfl | rfl) <;> decide
    show (q.1 ++ e ++ row).length ≤ _
    rw [List.length_append, List.length_append]
    omega
  unfold made
  refine hs 10 _ _ (hs 6 _ _ (hs 2 _ _ ?_ h1) h2) h3
  intro p hp
  rw [List.mem_singleton.mp hp]
  exact h0
/-- the one at k -/
def nth (ms : List (List Nat × Nat)) (k : Nat) : List Nat × Nat := ms.getD k ([], 0)
theorem nth_get {ms : List (List Nat × Nat)} {k : Nat} (h : k < ms.length) : ms[k]? = some (nth ms k) := by
  unfold nth
  rw [List.getD_eq_getElem?_getD, List.getElem?_eq_getElem h]
  rfl
theorem nth_mem {ms : List (List Nat × Nat)} {k : Nat} (h : k < ms.length) : nth ms k ∈ ms := List.mem_of_getElem? (nth_get h)
theorem grid {α : Type} (F : α → List Nat × Nat) (a : List α) (h : a.length = 27) : a.map F = (List.range 9).flatMap fun i => (List.range 3).map fun j => nth (a.map F) (3 * i + j) := by
  match a, h with
  | [a0, a1, a2, a3, a4, a5, a6, a7, a8, a9, a10, a11, a12, a13, a14, a15, a16, a17, a18, a19, a20, a21, a22, a23, a24, a25, a26], _ => rfl
theorem grid_of {ms : List (List Nat × Nat)} (h : ms.length = 27) : ms = (List.range 9).flatMap fun i => (List.range 3).map fun j => nth ms (3 * i + j) := by
  have := grid id ms h
  rwa [List.map_id] at this
theorem alike_eq {ms : List (List Nat × Nat)} (h : ms.length = 27) (al : List Nat) :
    ((List.range 9).flatMap fun i => ((List.range 3).filter fun j => qd (nth ms (3 * i + j)).1 == al).map fun j => (nth ms (3 * i + j)).2) = (ms.filter fun p => qd p.1 == al).map (·.2) := by
  conv => rhs; rw [grid_of h]
  rw [List.filter_flatMap, List.map_flatMap]
  congr 1
  funext i
  rw [List.filter_map, List.map_map]
  rfl
theorem laid_eq (r0 r1 r2 r3 : List Nat) : laidL [r0, r1, r2, r3] = laid4 r0 r1 r2 r3 := by
  have e2 : laidL [r2, r3] = laid2 r2 r3 := by
    rw [laidL_two]
    simp [laidL, laid2]
  have e3 : laidL [r1, r2, r3] = laid3 r1 r2 r3 := by
    rw [laidL_two, e2]
    unfold laid3
    cases r2 with
    | nil => simp [laidL]
    | cons _ _ => simp
  rw [laidL_two, e3, e2]
  unfold laid4
  cases r1 with
  | nil => simp
  | cons _ _ => simp
theorem laid_good {rs : List (List Nat)} (h : ∀ r ∈ rs, Good r) : ∀ (n : Nat), rs.length ≤ n → ∀ t ∈ laidL rs, Good t := by
  intro n
  induction n generalizing rs with
  | zero =>
    intro hn t ht
    have e : rs = [] := List.length_eq_zero_iff.mp (by omega)
    rw [e] at ht
    simp [laidL] at ht
  | succ n ih =>
    intro hn t ht
    match rs, h, hn, ht with
    | [], _, _, ht => simp [laidL] at ht
    | [r], h, _, ht =>
      simp [laidL] at ht
      subst ht
      exact h _ (List.mem_singleton.mpr rfl)
    | r0 :: r1 :: rest, h, hn, ht =>
      have h0 := h r0 (List.mem_cons_self ..)
      have g13 : Good [13, 13] := by unfold Good; decide
      have g10 : Good [13, 10] := by unfold Good; decide
      rw [laidL_two, List.mem_append] at ht
      rcases ht with ht | ht
      · obtain ⟨u, hu, rfl⟩ := List.mem_map.mp ht
        exact (h0.app g13).app (ih (fun r hr => h r (List.mem_cons_of_mem _ hr)) (by simp at hn ⊢; omega) u hu)
      · split at ht
        · obtain ⟨u, hu, rfl⟩ := List.mem_map.mp ht
          exact (h0.app g10).app (ih (fun r hr => h r (List.mem_cons_of_mem _ (List.mem_cons_of_mem _ hr))) (by simp at hn; omega) u hu)
        · simp at ht
theorem rowOf_cases (n : Nat) : rowOf n = [] ∨ rowOf n ∈ table8 := by
  unfold rowOf
  split
  · right
    have : n / 2 % 8 < 8 := Nat.mod_lt _ (by decide)
    generalize n / 2 % 8 = k at this
    revert this
    revert k
    decide
  · left; rfl
theorem rowOf_plain (n : Nat) : Plain (rowOf n) := by
  rcases rowOf_cases n with h | h
  · rw [h]; intro c hc; cases hc
  · have : ∀ r ∈ table8, ∀ c ∈ r, c ≠ 13 ∧ c ≠ 10 ∧ c ≠ 120 ∧ c < 256 := by decide
    exact this _ h
theorem rowOf_len (n : Nat) : (rowOf n).length ≤ 2 := by
  rcases rowOf_cases n with h | h
  · rw [h]; decide
  · have : ∀ r ∈ table8, r.length ≤ 2 := by decide
    exact this _ h

/-- what the first column of texts is heard as -/
theorem heard_col {ms : List (List Nat × Nat)} (h : ms.length = 27) (hg : ∀ p ∈ ms, Good p.1) {j : Nat} (hj : j < 3) :
    spl [120, 13, 10] 0 (qd (inter [120, 10] ((List.range 9).map fun i => (nth ms (3 * i + j)).1))) = (List.range 9).map fun i => qd (nth ms (3 * i + j)).1 := by
  rw [heard_eq]
  · rw [List.map_map]; rfl
  · simp
  · intro t ht
    obtain ⟨i, hi, rfl⟩ := List.mem_map.mp ht
    have hi' := List.mem_range.mp hi
    intro hc
    exact (hg _ (nth_mem (by omega)) 120 hc).1 rfl
theorem rest_good {t : List Nat} (h : Good t) : sumRev (restR t) 32 = runC (2 ^ 32 - 1) t := rest_run _ fun x hx => (h x hx).2
theorem made_first (r0 r1 r2 r3 : List Nat) (h0 : Plain r0) (h1 : Plain r1) (h2 : Plain r2) (h3 : Plain r3) : (nth (made (2 ^ 32 - 1) r0 r1 r2 r3) 0).2 = sumRev (restR (nth (made (2 ^ 32 - 1) r0 r1 r2 r3) 0).1) 32 := by
  rw [rest_good (made_good h0 h1 h2 h3 _ (nth_mem (by rw [made_len]; decide)))]
  rw [made_eq]
  exact crc3_eq _ r0 r1 r2 r3 ([10], [10], [10])
theorem sums_law {r0 r1 r2 r3 : List Nat} (h0 : Plain r0) (h1 : Plain r1) (h2 : Plain r2) (h3 : Plain r3) :
    xall ((List.range 9).flatMap fun i => ((List.range 3).filter fun j => qd (nth (made (2 ^ 32 - 1) r0 r1 r2 r3) (3 * i + j)).1 == qd (inter [13, 10] [r0, r1, r2, r3])).map fun j => (nth (made (2 ^ 32 - 1) r0 r1 r2 r3) (3 * i + j)).2)
      = xall ((laidL [r0, r1, r2, r3]).map fun t => sumRev (restR t) 32) := by
  rw [alike_eq (made_len ..)]
  have e : inter [13, 10] [r0, r1, r2, r3] = r0 ++ [13, 10] ++ r1 ++ [13, 10] ++ r2 ++ [13, 10] ++ r3 := by simp [inter]
  have hg : ∀ r ∈ [r0, r1, r2, r3], Good r := by
    intro r hr
    simp at hr
    rcases hr with rfl | rfl | rfl | rfl
    · exact .of h0
    · exact .of h1
    · exact .of h2
    · exact .of h3
  have e2 : (laidL [r0, r1, r2, r3]).map (fun t => sumRev (restR t) 32) = (laidL [r0, r1, r2, r3]).map (runC (2 ^ 32 - 1)) := List.map_congr_left fun t ht => rest_good (laid_good hg 4 (by simp) t ht)
  rw [e, e2, laid_eq, sums _ _ _ _ _ h0 h1 h2 h3]
end Mine

namespace Mine
set_option maxRecDepth 100000
open PySem.Calls

section
variable {w : World} {A : Around} {E : Value → Shared → Prop} {s : Shared} {mg mb : Str → Option Value} {h₀ : Heap} {L : Nat} {m : Str → Option Value} {env : Env}
variable {H : Heap} {ge : Array GenState} {dr : Drawn} {tk : Nat} {os : OsState}

theorem asgComp {x : Str} {px lp pos : Pos} {elt : Expr} {gs : List Comprehension} {scope : Scope} {Q : Flow → Shared → Prop} (hsw : swapsWith (.ListComp elt gs scope lp) (some (.Name x px)) pos.line env = pure false)
    (h : wpAny (model PR w) A (eval (.ListComp elt gs scope lp) env) (fun v s₁ => wpAny (model PR w) A (storeName env x v) (fun _ => Q .next) E s₁) E s) :
    wpAny (model PR w) A (exec (.Assign [.Name x px] (.ListComp elt gs scope lp) pos) env) Q E s := wpAny_Assign_Name h hsw

/-- into the body of law, with all that is needed, named -/
theorem law_enter {V : Program} {loose : List Str} {mean : ExcName → Option Value} {s₁ : Shared} {h₁ : Heap} {o1 o2 o3 : Obj} {x1 x2 x3 : Option Value} {a : Addr} {vs : List Value} {ns : List Int} {X : Sem Flow} {Q : Flow → Shared → Prop} {s : Shared}
    (KX : (KK w).In s₁.heap) (T : Top V loose mean mg mb s₁.heap) (F : Fr s₁.heap s₁.heap.objs.size h₁ m)
    (N : News s₁.heap s₁.heap.objs.size h₁ [(s₁.heap.objs.size + 1 + 1 + 1, o3), (s₁.heap.objs.size + 1 + 1, o2), (s₁.heap.objs.size + 1, o1)]) (d3 : o3.data = .cell x3) (d2 : o2.data = .cell x2) (d1 : o1.data = .cell x1)
    (hl : s₁.heap.IsList a vs.toArray) (hI : IntsAre vs ns) (hlen : ¬ (63 : Nat) < ns.length) (hg : s₁.gens = #[])
    (hh : A.handled = none) (hroom : A.depth + 8 < recursionLimit) (hu1 : A.units < cLine) (hu2 : A.in1.units < cLine)
    (hQ : ∀ h' tk, Kp s₁.heap h' → Q (.ret (.bool true)) { s₁ with heap := h', toks := tk })
    (k : ∀ (A : Around) (Q : Flow → Shared → Prop) (L : Nat), L = s₁.heap.objs.size → A.handled = none → A.depth + 8 < recursionLimit → A.units < cLine → A.in1.units < cLine → Gd w mg mb s₁.heap → Fr s₁.heap L h₁ m → h₁.IsCell (L + 1) x1 → h₁.IsCell (L + 2) x2 → h₁.IsCell (L + 3) x3 → s₁.heap.IsList a vs.toArray →
      IntsAre vs ns → ns.length ≤ 63 → s₁.heap.get? (L + 1) = none → s₁.heap.get? (L + 2) = none → s₁.heap.get? (L + 3) = none → (∀ h' tk, Kp s₁.heap h' → Q (.ret (.bool true)) { s₁ with heap := h', toks := tk }) → wpAny (model PR w) A X Q E s) :
    wpAny (model PR w) A X Q E s := by
  refine k A Q _ rfl hh hroom hu1 hu2 ⟨KX, T.g, T.b, T.nolimit, T.builtins⟩ F ?_ ?_ ?_ hl hI (by omega) (fresh_none (Nat.le_add_right ..)) (fresh_none (Nat.le_add_right ..)) (fresh_none (Nat.le_add_right ..)) hQ
  · exact ⟨o1, N.get (by simp), d1⟩
  · exact ⟨o2, N.get (by simp), d2⟩
  · exact ⟨o3, N.get (by simp), d3⟩
end
end Mine

namespace Mine
set_option maxRecDepth 100000
open PySem.Calls

theorem ints_get : ∀ {vs : List Value} {ns : List Int}, IntsAre vs ns → Are (fun n v => ∃ t, v = .int n t) ns vs
  | _, _, .nil => trivial
  | _, _, .cons n t h => ⟨⟨t, rfl⟩, ints_get h⟩
theorem Are.take {α : Type} {R : α → Value → Prop} : ∀ (n : Nat) {as : List α} {vs : List Value}, Are R as vs → Are R (as.take n) (vs.take n)
  | 0, _, _, _ => trivial
  | n + 1, [], [], _ => trivial
  | n + 1, b :: as, u :: vs, h => ⟨h.1, Are.take n (as := as) (vs := vs) h.2⟩
  | _ + 1, [], _ :: _, h => h.elim
  | _ + 1, _ :: _, [], h => h.elim
theorem four {α : Type} (l : List α) (a b c d : α) : ∃ x0 x1 x2 x3, (l.take 4 ++ [a, b, c, d]).take 4 = [x0, x1, x2, x3] := by
  match l with
  | [] => exact ⟨_, _, _, _, rfl⟩
  | [_] => exact ⟨_, _, _, _, rfl⟩
  | [_, _] => exact ⟨_, _, _, _, rfl⟩
  | [_, _, _] => exact ⟨_, _, _, _, rfl⟩
  | _ :: _ :: _ :: _ :: _ => exact ⟨_, _, _, _, rfl⟩

theorem paired_txt {β : Type} {f : List Nat → β} {R : β → Value → Prop} {as : List (List Nat)} {vs ys : List Value} (h : Are IsTxt as vs) (hF : Paired (fun v y => ∃ (r : List Nat) (t : Tok), v = .str (txt r) t ∧ R (f r) y) vs ys) : Are R (as.map f) ys :=
  paired_are _ (fun r v y ⟨t, e⟩ ⟨r', t1, e1, e2⟩ => by
    subst e
    injection e1 with e1 _
    have : r = r' := by rw [← lst_txt r, e1, lst_txt]
    subst this
    exact e2) h hF

section
variable {w : World} {A : Around} {E : Value → Shared → Prop} {s : Shared} {mg mb : Str → Option Value} {h₀ : Heap} {L : Nat} {m : Str → Option Value} {env : Env}
variable {H : Heap} {ge : Array GenState} {dr : Drawn} {tk : Nat} {os : OsState}

theorem xn_txt : Str.ofString "x\n" = txt [120, 10] := by decide +kernel
theorem xrn_txt : Str.ofString "x\x0d\n" = txt [120, 13, 10] := by decide +kernel

theorem oModI {x : Int} {t u : Tok} {Q : Value → Shared → Prop} (h : ∀ t tk', Q (.int (((x.fmod 16).toNat : Nat) : Int) t) ⟨H, ge, dr, tk', os⟩) : wpAny (model PR w) A (binaryOp .Mod (.int x t) (.int 16 u)) Q E ⟨H, ge, dr, tk, os⟩ := by
  refine mod_int' (by omega) ?_
  have e : x.fmod 16 = (((x.fmod 16).toNat : Nat) : Int) := by
    have := Int.fmod_nonneg_of_pos x (show (0 : Int) < 16 by decide)
    omega
  rw [e]
  exact h _ _

theorem lUptoT {value : Expr} {p : Pos} {a : Addr} {k : Nat} {x : Int} {vs : List Value} {Q : Value → Shared → Prop} {ck : Nat} {q : Pos} (hx : x = (k : Int)) (hl : H.IsList a vs.toArray) (hs : vs.length ≤ 65536)
    (h : ∀ D h' tk', Kp H h' → h'.PlainList D (vs.take k).toArray → H.objs.size ≤ D → Q (.ref D) ⟨h', ge, dr, tk', os⟩) :
    wpAny (model PR w) A (eval (.Slice none (some (.Constant (.int x) ck q)) none p) env) (fun i s₂ => wpAny (model PR w) A (subscriptTail value (.Slice none (some (.Constant (.int x) ck q)) none p) (.ref a) i) Q E s₂) E ⟨H, ge, dr, tk, os⟩ := by
  subst hx
  refine wpAny_Slice (wpAny_evalPart_none (wpAny_evalPart_some (oInt fun t1 tk1 => wpAny_evalPart_none ?_)))
  refine tail_any (Heap.IsList.typeIs (s := ⟨H.push { cls := .type "slice", data := .fields #[.none, .int (k : Int) t1, .none] }, ge, dr, tk1, os⟩) (hl.push _)) list_getitem_lookup
    (wpAny_getItem_list_slice (hl.push _) (Heap.IsSliceOf.new ..) .none (.int _ _) .none (by simp) ?_ (by rw [List.size_toArray, sizeLine_eq]; omega)) (ops := [.ref H.objs.size, .ref a]) rfl
  rw [slicePick_upto']
  refine h _ _ _ (fun b o e => Heap.get?_push_of_some _ (Heap.get?_push_of_some _ e)) ⟨0, Heap.get?_push_size _ rfl⟩ ?_
  show H.objs.size ≤ (H.push _).objs.size
  rw [Heap.size_push]
  exact Nat.le_succ _
theorem plain_kp {h h' : Heap} {a : Addr} {items : Array Value} (x : h.PlainList a items) (k : Kp h h') : h'.PlainList a items := x.at fun o e => k a o e

/-- (a[:4] + [15, 0, 0, 1])[:4] -/
theorem four_ok {ev : Expr} {a : Nat} {vs : List Value} {ns : List Int} {Q : Value → Shared → Prop} {p1 p2 p3 p4 p5 p6 p7 p8 p9 q1 q2 q3 : Pos} {k1 k2 k3 k4 k5 k6 : Nat}
    (hv : ∀ (Q' : Value → Shared → Prop), Q' (.ref a) ⟨H, ge, dr, tk, os⟩ → wpAny (model PR w) A (eval ev env) Q' E ⟨H, ge, dr, tk, os⟩) (hl : H.IsList a vs.toArray) (hs : vs.length ≤ 63) (hI : Are (fun (n : Int) v => ∃ t, v = .int n t) ns vs)
    (hQ : ∀ (D : Nat) us h' tk' n0 n1 n2 n3, Kp H h' → h'.IsList D us.toArray → Are (fun (n : Int) v => ∃ t, v = .int n t) [n0, n1, n2, n3] us → Q (.ref D) ⟨h', ge, dr, tk', os⟩)
    (ht : ∀ (a : Addr) r, letTemporaryGo ev (.ref a) r = pure () := by intro _ _; rfl) :
    wpAny (model PR w) A (eval (.Subscript (.BinOp (.Subscript ev (.Slice none (some (.Constant (.int 4) k1 p1)) none p2) p3) .Add (.List [.Constant (.int 15) k2 p4, .Constant (.int 0) k3 p5, .Constant (.int 0) k4 p6, .Constant (.int 1) k5 p7] p8) p9) (.Slice none (some (.Constant (.int 4) k6 q1)) none q2) q3) env) Q E ⟨H, ge, dr, tk, os⟩ := by
  refine Subscript_ (wpAny_BinOp (lUpto (k := 4) rfl hl (by omega) hv (fun D2 h2 tk2 hK2 hp2 hD2 => ?_) ht))
  refine List_ (spK (oInt fun e1 _ => spK (oInt fun e2 _ => spK (oInt fun e3 _ => spK (oInt fun e4 _ => sp0 (kNewList ?_ (by rw [sizeLine_eq]; show 4 ≤ _; omega)))))))
  refine lAdd (plain_kp hp2 fun b o e => Heap.get?_push_of_some _ e) ⟨0, Heap.get?_push_size _ rfl⟩ (by simp; omega) fun h3 hK3 hp3 => ?_
  refine lUptoT (k := 4) rfl hp3.isList (by simp; omega) fun D4 h4 tk4 hK4 hp4 hD4 => ?_
  obtain ⟨n0, n1, n2, n3, e⟩ := four ns 15 0 0 1
  refine hQ D4 _ h4 tk4 n0 n1 n2 n3 (fun b o e => hK4 b o (hK3 b o (Heap.get?_push_of_some _ (hK2 b o e)))) hp4.isList ?_
  rw [← e]
  exact Are.take 4 (Are.append (Are.take 4 hI) ⟨⟨_, rfl⟩, ⟨_, rfl⟩, ⟨_, rfl⟩, ⟨_, rfl⟩, trivial⟩)
end
end Mine

namespace Mine
set_option maxRecDepth 100000
open PySem.Calls

set_option maxHeartbeats 4000000 in
theorem holds : PySem.Challenge.rw_pk0003_01.Holds := Mine.hd (by
  k_go0
  all_goals try k_fold
  refine law_enter (by assumption) (by assumption) (by assumption) (by assumption) (by assumption) (by assumption) (by assumption) (by assumption) (by assumption) (by omega) (by assumption) rfl (by show callerA.depth + 1 + 8 < recursionLimit; decide +kernel) (by show 4 + _ < 9900; simp) (by show 4 + _ + 1 < 9900; simp) ?_ ?_
  · intro h' tk hK
    refine ⟨.inl ⟨.bool true, .bool true, [], rfl, fun _ => rfl, .bool true, by wrow_post, fun _ => ⟨.nil, fun a ha => nomatch ha⟩⟩, hK, rfl, by assumption⟩
  · intro A Q L hL hh hroom hu1 hu2 G F₁ hc1 hc2 hc3 hl hI hlen hb1 hb2 hb3 hQ
    subst hL
    have z1 : ∀ n : Nat, n ≠ n + 1 := fun n => by omega
    have z2 : ∀ n : Nat, n ≠ n + 2 := fun n => by omega
    have z3 : ∀ n : Nat, n ≠ n + 3 := fun n => by omega
    have z12 : ∀ n : Nat, n + 1 ≠ n + 2 := fun n => by omega
    have z13 : ∀ n : Nat, n + 1 ≠ n + 3 := fun n => by omega
    have z23 : ∀ n : Nat, n + 2 ≠ n + 3 := fun n => by omega
    have hA := ints_get hI
    have hsl := hA.len
    have hl1 := isList_kp hl F₁.keep
    -- lines
    refine wpAny_execs_cons (lcSet (fun v y => ∃ (n : Int) (t : Tok), v = .int n t ∧ IsTxt (rowOf (n.fmod 16).toNat) y) (four_ok (fun Q' hq => nmL F₁ rfl hq) hl1 (by omega) hA fun D2 xs h2 tk2 n0 n1 n2 n3 hK2 hl2 hx2 => ?_))
    refine wpAny_pyIter_list hl2 ?_
    dsimp only
    have hx2l := hx2.len
    have F2 := F₁.keeps hK2
    have hD2 : @LT.lt Nat _ D2 h2.objs.size := isList_lt hl2
    have hpush : ∀ o, Kp h2 (h2.push o) := fun o b x e => Heap.get?_push_of_some _ e
    refine ⟨h2.objs.size, _, _, _, _, _, _, rfl, wList hD2 _ hh, by rw [List.size_toArray, sizeLine_eq, hx2l]; show 4 ≤ _; omega, ⟨⟨_, Heap.get?_push_size _ rfl, rfl, rfl⟩, isList_kp hl2 (hpush _)⟩, ?_, notIn_one (Nat.ne_of_lt F2.ns.lt), F2.ns.keeps (hpush _), ?_, ?_⟩
    · rw [Heap.size_push]
      exact lt_two (Nat.lt_succ_self _) (Nat.lt_succ_of_lt hD2)
    · rintro C i v s₃ m₃ hC hP hn3 hm3 hk3
      have hP' : xs[i]? = some v := by simpa using hP
      obtain ⟨n, hn, tv, rfl⟩ := hx2.get hP'
      obtain ⟨H, ge, dr, tk', os⟩ := s₃
      dsimp only at hn3 hk3 ⊢
      have G3 := G.keeps (h' := H) fun b o e => hk3 b o (notIn_one (Nat.ne_of_lt (Heap.lt_size (F2.keep b o e)))) (hpush _ b o (F2.keep b o e))
      refine call1 G3 (by rfl) (by rfl) (wpAny_BinOp (nmN hn3 hm3 (oInt fun _ _ => oModI fun _ _ => ⟨G3, ?_⟩)))
      refine row_ok G3 hh (by omega) fun t' h' tk'' hK => ?_
      exact ⟨⟨n, tv, rfl, t', rfl⟩, h', tk'', rfl, hK⟩
    intro D4 h4 tk4 ys us hD4 hp4 hlen4 hP hF hn4 hk4
    have hus : us = xs := us_eq rfl hlen4 hP
    subst hus
    have hB4 : Are IsTxt ([n0, n1, n2, n3].map fun n => rowOf (n.fmod 16).toNat) ys := paired_are _ (fun n v y ⟨t, e⟩ ⟨n', t1, e1, e2⟩ => by
      subst e
      injection e1 with e1 _
      subst e1
      exact e2) hx2 hF
    have pl0 := rowOf_plain (n0.fmod 16).toNat
    have pl1 := rowOf_plain (n1.fmod 16).toNat
    have pl2 := rowOf_plain (n2.fmod 16).toNat
    have pl3 := rowOf_plain (n3.fmod 16).toNat
    have le0 := rowOf_len (n0.fmod 16).toNat
    have le1 := rowOf_len (n1.fmod 16).toNat
    have le2 := rowOf_len (n2.fmod 16).toNat
    have le3 := rowOf_len (n3.fmod 16).toNat
    change Are IsTxt [rowOf (n0.fmod 16).toNat, rowOf (n1.fmod 16).toNat, rowOf (n2.fmod 16).toNat, rowOf (n3.fmod 16).toNat] ys at hB4
    generalize rowOf (n0.fmod 16).toNat = r0 at *
    generalize rowOf (n1.fmod 16).toNat = r1 at *
    generalize rowOf (n2.fmod 16).toNat = r2 at *
    generalize rowOf (n3.fmod 16).toNat = r3 at *
    have F4 := Fr.mk hn4 (fun b o e => hk4 b o (Nat.ne_of_lt (Heap.lt_size e)) (notIn_one (Nat.ne_of_lt (Heap.lt_size (F2.keep b o e)))) (hpush _ b o (F2.keep b o e))) F₁.above
    have hc1 := isCell_at hc1 fun o e => hk4 _ o (Ne.symm (z1 _)) (notIn_one (Nat.ne_of_lt (Heap.lt_size (hK2 _ o e)))) (hpush _ _ o (hK2 _ o e))
    have hc2 := isCell_at hc2 fun o e => hk4 _ o (Ne.symm (z2 _)) (notIn_one (Nat.ne_of_lt (Heap.lt_size (hK2 _ o e)))) (hpush _ _ o (hK2 _ o e))
    have hc3 := isCell_at hc3 fun o e => hk4 _ o (Ne.symm (z3 _)) (notIn_one (Nat.ne_of_lt (Heap.lt_size (hK2 _ o e)))) (hpush _ _ o (hK2 _ o e))
    have hl4 := hp4.isList
    have G4 := G.keeps F4.keep
    clear hk4 hn4 hp4 hF hP hpush hK2 hl2 F2 hl1 hD2 hx2 hx2l hA hlen4
    -- made
    refine wpAny_execs_cons (asgCall (call1 G4 (by rfl) (by rfl) (nmL F4 (if_pos rfl) ⟨G4, ?_⟩)))
    refine spelled_ok G4 hh (by omega) hl4 hB4 ?_ (by simp) fun Dm mvs h5 tk5 hK5 hlm hms => ?_
    · intro r hr
      simp only [List.mem_cons, List.not_mem_nil, or_false] at hr
      rcases hr with rfl | rfl | rfl | rfl <;> omega
    rw [ways_made] at hms
    have F5 := F4.keeps hK5
    have hc1 := isCell_at hc1 (hK5 _)
    have hc2 := isCell_at hc2 (hK5 _)
    have hc3 := isCell_at hc3 (hK5 _)
    have hl5 := isList_kp hl4 hK5
    refine oSetC hc1 (fun h6 hm6 hs6 => ?_)
    have F6 := fr_ext F5 hs6 (z1 _) hb1
    have hl6 := hl5.at fun o e => hs6.extBut _ o (list_ne_cell hl5 hc1) e
    have hlm6 := hlm.at fun o e => hs6.extBut _ o (list_ne_cell hlm hc1) e
    have hms6 : Are (IsWay (fun _ => True) h6) _ mvs := hms.mono fun p v x => by
      obtain ⟨T, t, u, rfl, hT, ht⟩ := x
      exact ⟨T, t, u, rfl, hT, isTuple_at ht fun o e => hs6.extBut T o (tup_ne_cell ht hc1) e⟩
    have hc2 := isCell_at hc2 fun o e => hs6.extBut _ o (Ne.symm (z12 _)) e
    have hc3 := isCell_at hc3 fun o e => hs6.extBut _ o (Ne.symm (z13 _)) e
    have G6 := G.keeps F6.keep
    clear hs6 hms hlm hl5 hl4 F5 F4 G4 hK5 hc1
    have hgood := made_good (c0 := 2 ^ 32 - 1) pl0 pl1 pl2 pl3
    have hpart := made_part (c0 := 2 ^ 32 - 1) le0 le1 le2 le3
    have hmlen := made_len (2 ^ 32 - 1) r0 r1 r2 r3
    have hfirst := made_first r0 r1 r2 r3 pl0 pl1 pl2 pl3
    have hsums := sums_law pl0 pl1 pl2 pl3
    generalize made (2 ^ 32 - 1) r0 r1 r2 r3 = ms at *
    -- heard
    have hf : ∀ j, ((List.range 9).map fun i => qd (nth ms (3 * i + j)).1) ≠ [] := fun j => by simp
    refine wpAny_execs_cons (asgComp (by rfl) (cols (f := fun j => (List.range 9).map fun i => qd (nth ms (3 * i + j)).1) G6 hh hf ?_ fun Dh hvs h7 tk7 hK7 hlh hvh => ?_))
    · intro C B j H' tk' t hj hK' hcj Q' hQ'
      have G' := G6.keeps hK'
      have hmc := isCell_at hm6 (hK' _)
      have hml := isList_kp hlm6 hK'
      have hmw : Are (IsWay (fun _ => True) H') ms mvs := hms6.mono fun p v x => x.at (fun _ _ _ => trivial) fun T o _ e => hK' T o e
      refine Call_method1 rfl rfl rfl (call1 G' (by rfl) (by rfl) (Call_method1 rfl rfl rfl (kStr fun tj _ => SB.join (lc (fun v y => ∃ (i : Nat) (t : Tok), v = .int (i : Int) t ∧ IsTxt (nth ms (3 * i + j)).1 y) (evalRange (N := 9) G' hh (by decide) fun I h3 tk3 hI hK3 W hst hlt => ?_)))))
      dsimp only at hI hK3 ⊢
      have G3 := G'.keeps hK3
      refine ⟨I, _, _, _, _, _, rfl, W.bound, by decide, hst, by simpa using hlt, ?_, ?_⟩
      · rintro C2 i v s₃ m₃ hC ⟨hi9, tv, rfl⟩ hn3 hm3 hk3
        obtain ⟨H3, ge, dr, tk4, os⟩ := s₃
        dsimp only at hn3 hk3 ⊢
        have hkk : Kp H' H3 := fun b o e => hk3 b o (notIn_one (Nat.ne_of_lt (Nat.lt_of_lt_of_le (Heap.lt_size e) hI))) (hK3 b o e)
        refine at_ij (x := 0) (k := 0) (fun tk Q' hq => nmC (isCell_at hmc (hkk _)) hq) (fun tk Q' hq => nmN hn3 hm3 hq) (fun tk Q' hq => nmC (isCell_at hcj (hkk _)) hq) (isList_kp hml hkk) (hmw.mono fun p v x => x.at (fun _ _ _ => trivial) fun T o _ e => hkk T o e) (nth_get (by omega)) hi9 hj (.inl rfl) fun t5 tk5 => ?_
        exact ⟨⟨i, tv, rfl, t5, rfl⟩, H3, tk5, rfl, fun _ _ e => e⟩
      · intro D4 h4 tk4 ys4 us hD4 hp4 hlen4 hP hF hk4
        have hAr : Are (fun (k : Nat) v => ∃ t, v = Value.int (k : Int) t) (List.range 9) us := are_of_get _ _ (by rw [hlen4]; rfl) fun j v hj => by
          obtain ⟨hlt, tv, rfl⟩ := hP j v hj
          exact ⟨j, by rw [List.getElem?_range hlt], tv, rfl⟩
        have hBr : Are IsTxt ((List.range 9).map fun i => (nth ms (3 * i + j)).1) ys4 := paired_are _ (fun k v y ⟨t, e⟩ ⟨k', t1, e1, e2⟩ => by
          subst e
          injection e1 with e1 _
          have : k = k' := by omega
          subst this
          exact e2) hAr hF
        obtain ⟨lv, e1, e2⟩ := are_values hBr
        subst e1
        have hln : ∀ l ∈ (List.range 9).map (fun i => (nth ms (3 * i + j)).1), l.length ≤ 14 := fun l hl => by
          obtain ⟨i, hi, rfl⟩ := List.mem_map.mp hl
          have := List.mem_range.mp hi
          exact hpart _ (nth_mem (by omega))
        have hJ : JoinOk (Str.ofString "x\n") (lv.map (·.1)) = true := by
          unfold JoinOk
          rw [Bool.not_eq_true']
          refine StrLaws.joinFits (B := 14) ?_ ?_
          · intro y hy
            rw [e2] at hy
            obtain ⟨z, hz, rfl⟩ := List.mem_map.mp hy
            rw [len_txt]
            exact hln z hz
          · rw [e2, List.length_map, List.length_map, xn_txt, List.length_range, len_txt]
            decide
        refine ⟨D4, lv, rfl, hp4.isList, _, rfl, hJ, fun t5 k5 => ?_⟩
        have e3 : Txt.join (Str.ofString "x\n") (lv.map (·.1)) = txt (inter [120, 10] ((List.range 9).map fun i => (nth ms (3 * i + j)).1)) := by
          rw [e2, xn_txt, join_txt]
        rw [e3]
        have hK4 : Kp H' h4 := fun b o e => hk4 b o (notIn_one (Nat.ne_of_lt (Nat.lt_of_lt_of_le (Heap.lt_size e) hI))) (hK3 b o e)
        have hil : (inter [120, 10] ((List.range 9).map fun i => (nth ms (3 * i + j)).1)).length ≤ 144 := by
          have := inter_len [120, 10] _ 14 hln
          rw [List.length_map, List.length_range] at this
          exact this
        refine ⟨G'.keeps hK4, quotedata_ok (G'.keeps hK4) hh (by omega) (by rw [len_txt]; omega) fun t6 h6 tk6 hK6 => ?_⟩
        rw [lst_txt]
        have hql := qd_len (inter [120, 10] ((List.range 9).map fun i => (nth ms (3 * i + j)).1))
        refine tSplit xrn_txt (by decide) (by decide +kernel) (by omega) fun D7 vs7 h7 tk7 hK7 hl7 hv7 => ?_
        rw [heard_col hmlen hgood hj] at hv7
        exact hQ' D7 vs7 h7 tk7 (fun b o e => hK7 b o (hK6 b o (hK4 b o e))) hl7 hv7
    have F7 := F6.keeps hK7
    have hc2 := isCell_at hc2 (hK7 _)
    have hc3 := isCell_at hc3 (hK7 _)
    have hm7 := isCell_at hm6 (hK7 _)
    have hl7 := isList_kp hl6 hK7
    have hlm7 := isList_kp hlm6 hK7
    have hms7 : Are (IsWay (fun _ => True) h7) ms mvs := hms6.mono fun p v x => x.at (fun _ _ _ => trivial) fun T o _ e => hK7 T o e
    refine oSetC hc2 (fun h8 hh8 hs8 => ?_)
    have F8 := fr_ext F7 hs8 (z2 _) hb2
    have hl8 := hl7.at fun o e => hs8.extBut _ o (list_ne_cell hl7 hc2) e
    have hlm8 := hlm7.at fun o e => hs8.extBut _ o (list_ne_cell hlm7 hc2) e
    have hlh8 := hlh.at fun o e => hs8.extBut _ o (list_ne_cell hlh hc2) e
    have hms8 : Are (IsWay (fun _ => True) h8) ms mvs := hms7.mono fun p v x => by
      obtain ⟨T, t, u, rfl, hT, ht⟩ := x
      exact ⟨T, t, u, rfl, hT, isTuple_at ht fun o e => hs8.extBut T o (tup_ne_cell ht hc2) e⟩
    have hvh8 : Are (IsTexts (fun _ => True) h8) _ hvs := hvh.mono fun p v x => by
      obtain ⟨T, us, rfl, hT, ht, hu⟩ := x
      exact ⟨T, us, rfl, hT, ht.at fun o e => hs8.extBut T o (list_ne_cell ht hc2) e, hu⟩
    have hm8 := isCell_at hm7 fun o e => hs8.extBut _ o (z12 _) e
    have hc3 := isCell_at hc3 fun o e => hs8.extBut _ o (Ne.symm (z23 _)) e
    have G8 := G.keeps F8.keep
    clear hs8 hvh hms7 hlh hlm7 hl7 hm7 hc2 F7 hK7 hms6 hlm6 hl6 F6 G6 hm6
    -- the test of the hearing
    refine wpAny_execs_cons (wpAny_If (wpAny_isTrue_Compare1 (nmC hh8 (cols (f := fun j => (List.range 9).map fun i => qd (nth ms (3 * i + j)).1) G8 hh hf ?_ fun Ds svs h9 tk9 hK9 hls hvs9 => ?_))))
    · intro C B j H' tk' t hj hK' hcj Q' hQ'
      have G' := G8.keeps hK'
      have hmc := isCell_at hm8 (hK' _)
      have hml := isList_kp hlm8 hK'
      have hmw : Are (IsWay (fun _ => True) H') ms mvs := hms8.mono fun p v x => x.at (fun _ _ _ => trivial) fun T o _ e => hK' T o e
      refine lc (fun v y => ∃ (i : Nat) (t : Tok), v = .int (i : Int) t ∧ IsTxt (qd (nth ms (3 * i + j)).1) y) (evalRange (N := 9) G' hh (by decide) fun I h3 tk3 hI hK3 W hst hlt => ?_)
      dsimp only at hI hK3 ⊢
      refine ⟨I, _, _, _, _, _, rfl, W.bound, by decide, hst, by simpa using hlt, ?_, ?_⟩
      · rintro C2 i v s₃ m₃ hC ⟨hi9, tv, rfl⟩ hn3 hm3 hk3
        obtain ⟨H3, ge, dr, tk4, os⟩ := s₃
        dsimp only at hn3 hk3 ⊢
        have hkk : Kp H' H3 := fun b o e => hk3 b o (notIn_one (Nat.ne_of_lt (Nat.lt_of_lt_of_le (Heap.lt_size e) hI))) (hK3 b o e)
        have G3 := G'.keeps hkk
        refine call1 G3 (by rfl) (by rfl) (at_ij (x := 0) (k := 0) (fun tk Q' hq => nmC (isCell_at hmc (hkk _)) hq) (fun tk Q' hq => nmN hn3 hm3 hq) (fun tk Q' hq => nmC (isCell_at hcj (hkk _)) hq) (isList_kp hml hkk) (hmw.mono fun p v x => x.at (fun _ _ _ => trivial) fun T o _ e => hkk T o e) (nth_get (by omega)) hi9 hj (.inl rfl) fun t5 tk5 => ⟨G3, ?_⟩)
        refine sent_ok G3 hh (by omega) (Nat.le_trans (hpart _ (nth_mem (by omega))) (by omega)) fun t6 h6 tk6 hK6 => ?_
        exact ⟨⟨i, tv, rfl, t6, rfl⟩, h6, tk6, rfl, hK6⟩
      · intro D4 h4 tk4 ys4 us hD4 hp4 hlen4 hP hF hk4
        have hAr : Are (fun (k : Nat) v => ∃ t, v = Value.int (k : Int) t) (List.range 9) us := are_of_get _ _ (by rw [hlen4]; rfl) fun j v hj => by
          obtain ⟨hlt, tv, rfl⟩ := hP j v hj
          exact ⟨j, by rw [List.getElem?_range hlt], tv, rfl⟩
        have hBr : Are IsTxt ((List.range 9).map fun i => qd (nth ms (3 * i + j)).1) ys4 := paired_are _ (fun k v y ⟨t, e⟩ ⟨k', t1, e1, e2⟩ => by
          subst e
          injection e1 with e1 _
          have : k = k' := by omega
          subst this
          exact e2) hAr hF
        exact hQ' D4 ys4 h4 tk4 (fun b o e => hk4 b o (notIn_one (Nat.ne_of_lt (Nat.lt_of_lt_of_le (Heap.lt_size e) hI))) (hK3 b o e)) hp4.isList hBr
    refine ne_cols (isList_kp hlh8 hK9) hls (hvh8.mono fun p v x => x.at (fun _ _ => trivial) fun T o _ e => hK9 T o e) hvs9 hu1 hu2 (wpAny_truthy_bool ?_)
    rw [if_neg (by decide)]
    refine wpAny_execs_nil ?_
    dsimp only
    have F9 := F8.keeps hK9
    have G9 := G.keeps F9.keep
    have hh9 := isCell_at hh8 (hK9 _)
    have hm9 := isCell_at hm8 (hK9 _)
    have hc3 := isCell_at hc3 (hK9 _)
    have hl9 := isList_kp hl8 hK9
    have hlm9 := isList_kp hlm8 hK9
    have hlh9 := isList_kp hlh8 hK9
    have hms9 : Are (IsWay (fun _ => True) h9) ms mvs := hms8.mono fun p v x => x.at (fun _ _ _ => trivial) fun T o _ e => hK9 T o e
    have hvh9 : Are (IsTexts (fun _ => True) h9) ((List.range 3).map fun j => (List.range 9).map fun i => qd (nth ms (3 * i + j)).1) hvs := hvh8.mono fun p v x => x.at (fun _ _ => trivial) fun T o _ e => hK9 T o e
    clear hvs9 hls hK9 hvh8 hms8 hlh8 hlm8 hl8 hm8 hh8 F8 G8
    -- alone
    obtain ⟨lv, e1, e2⟩ := are_values hB4
    have hJ : JoinOk (Str.ofString "\x0d\n") (lv.map (·.1)) = true := by
      unfold JoinOk
      rw [Bool.not_eq_true']
      refine StrLaws.joinFits (B := 2) ?_ ?_
      · intro y hy
        rw [e2] at hy
        obtain ⟨z, hz, rfl⟩ := List.mem_map.mp hy
        rw [len_txt]
        simp only [List.mem_cons, List.not_mem_nil, or_false] at hz
        rcases hz with rfl | rfl | rfl | rfl <;> assumption
      · rw [e2, List.length_map, crlf_txt, len_txt]
        show 4 * 2 + 2 * 4 ≤ _
        decide
    have hl9' := hl9
    rw [e1] at hl9'
    refine wpAny_execs_cons (asgCall (call1 G9 (by rfl) (by rfl) (Call_method1 rfl rfl rfl (kStr fun tj _ => SB.join (nmL F9 (if_pos rfl) ⟨_, lv, rfl, hl9', _, rfl, hJ, fun t5 k5 => ⟨G9, ?_⟩⟩)))))
    have e3 : Txt.join (Str.ofString "\x0d\n") (lv.map (·.1)) = txt (inter [13, 10] [r0, r1, r2, r3]) := by
      rw [e2, crlf_txt, join_txt]
    rw [e3]
    have hil : (inter [13, 10] [r0, r1, r2, r3]).length ≤ 16 := inter_len [13, 10] [r0, r1, r2, r3] 2 fun l hl => by
      simp only [List.mem_cons, List.not_mem_nil, or_false] at hl
      rcases hl with rfl | rfl | rfl | rfl <;> assumption
    refine quotedata_ok G9 hh (by omega) (by rw [len_txt]; omega) fun t6 h10 tk10 hK10 => ?_
    rw [lst_txt]
    generalize qd (inter [13, 10] [r0, r1, r2, r3]) = al at *
    have F10 := F9.keeps hK10
    have hc3 := isCell_at hc3 (hK10 _)
    refine oSetC hc3 (fun h11 ha11 hs11 => ?_)
    have F11 := fr_ext F10 hs11 (z3 _) hb3
    have k11 : ∀ (b : Nat) o, b ≠ _ → h9.get? b = some o → h11.get? b = some o := fun b o hb e => hs11.extBut b o hb (hK10 b o e)
    have G11 := G.keeps F11.keep
    have hh11 := isCell_at hh9 fun o e => k11 _ o (z23 _) e
    have hm11 := isCell_at hm9 fun o e => k11 _ o (z13 _) e
    have hl11 := hl9.at fun o e => k11 _ o (list_ne_cell (isList_kp hl9 hK10) hc3) e
    have hlm11 := hlm9.at fun o e => k11 _ o (list_ne_cell (isList_kp hlm9 hK10) hc3) e
    have hlh11 := hlh9.at fun o e => k11 _ o (list_ne_cell (isList_kp hlh9 hK10) hc3) e
    have hms11 : Are (IsWay (fun _ => True) h11) ms mvs := hms9.mono fun p v x => by
      obtain ⟨T, t, u, rfl, hT, ht⟩ := x
      exact ⟨T, t, u, rfl, hT, isTuple_at ht fun o e => k11 T o (tup_ne_cell (isTuple_at ht (hK10 _)) hc3) e⟩
    have hvh11 : Are (IsTexts (fun _ => True) h11) ((List.range 3).map fun j => (List.range 9).map fun i => qd (nth ms (3 * i + j)).1) hvs := hvh9.mono fun p v x => by
      obtain ⟨T, us, rfl, hT, ht, hu⟩ := x
      exact ⟨T, us, rfl, hT, ht.at fun o e => k11 T o (list_ne_cell (isList_kp ht hK10) hc3) e, hu⟩
    clear k11 hs11 hK10 F10 hc3 hvh9 hms9 hlh9 hlm9 hl9 hl9' hm9 hh9 F9 G9
    -- alike
    refine wpAny_execs_cons (pairs (t := fun i j => qd (nth ms (3 * i + j)).1 == al) (g := fun i j => (nth ms (3 * i + j)).2) G hh F11 ?_ ?_ fun Da avs h12 tk12 F12 hla hva hk12 => ?_)
    · intro C i j H' tk' ti tj m' hi hj hK' hn' hmi hmj Q' hQ'
      obtain ⟨vj, hvj, T, us, rfl, _, hT, hus⟩ := hvh11.at (i := j) (a := (List.range 9).map fun i => qd (nth ms (3 * i + j)).1) (by rw [List.getElem?_map, List.getElem?_range hj]; rfl)
      obtain ⟨vi, hvi, tv, rfl⟩ := hus.at (i := i) (a := qd (nth ms (3 * i + j)).1) (by rw [List.getElem?_map, List.getElem?_range hi]; rfl)
      refine wpAny_isTrue_Compare1 (Subscript_ (Subscript_ (nmC (isCell_at hh11 (hK' _)) (nmN hn' hmj ?_))))
      refine subL (isList_kp hlh11 hK') rfl (by simpa using hvj) (by omega) (nmN hn' hmi ?_)
      refine subL (isList_kp hT hK') rfl (by simpa using hvi) (by omega) (nmC (isCell_at ha11 (hK' _)) ?_)
      exact tEq rfl rfl (wpAny_truthy_bool (hQ' _))
    · intro C i j H' tk' ti tj m' hi hj hK' hn' hmi hmj Q' hQ'
      refine at_ij (x := 1) (k := 1) (fun tk Q' hq => nmC (isCell_at hm11 (hK' _)) hq) (fun tk Q' hq => nmN hn' hmi hq) (fun tk Q' hq => nmN hn' hmj hq) (isList_kp hlm11 hK') (hms11.mono fun p v x => x.at (fun _ _ _ => trivial) fun T o _ e => hK' T o e) (nth_get (by omega)) hi hj (.inr rfl) fun t5 tk5 => ?_
      exact hQ' _ _
    have G12 := G.keeps F12.keep
    have hm12 := isCell_at hm11 fun o e => hk12 _ o (Ne.symm (z1 _)) e
    have hl12 := hl11.at fun o e => hk12 _ o (list_ne_ns hl11 F11.ns) e
    have hlm12 := hlm11.at fun o e => hk12 _ o (list_ne_ns hlm11 F11.ns) e
    obtain ⟨v0, hv0, T0, t0, u0, rfl, _, hT0⟩ := hms11.at (nth_get (ms := ms) (k := 0) (by omega))
    have hT12 := isTuple_at hT0 fun o e => hk12 _ o (tup_ne_ns hT0 F11.ns) e
    clear hk12 hvh11 hms11 hlh11 hlm11 hl11 hm11 hh11 ha11 G11 F11
    -- the first sum
    refine wpAny_execs_cons (wpAny_If (wpAny_isTrue_Compare1 (Subscript_ (Subscript_ (nmC hm12 (oInt fun _ _ => subL hlm12 (k := 0) (v := .ref T0) rfl (by simpa using hv0) (by decide) (oInt fun _ _ => subT (k := 1) (l := [_, _]) hT12 rfl rfl (by decide) ?_)))))))
    refine call1 G12 (by rfl) (by rfl) (Subscript_ (Subscript_ (nmC hm12 (oInt fun _ _ => subL hlm12 (k := 0) (v := .ref T0) rfl (by simpa using hv0) (by decide) (oInt fun _ _ => subT (k := 0) (l := [_, _]) hT12 rfl rfl (by decide) ⟨G12, ?_⟩)))))
    refine rest_ok G12 hh (by omega) fun t13 h13 tk13 hK13 => ?_
    rw [lst_txt]
    refine oNe rfl rfl (wpAny_truthy_bool ?_)
    rw [← hfirst, if_neg (by simp)]
    refine wpAny_execs_nil ?_
    dsimp only
    have F13 := F12.keeps hK13
    have G13 := G.keeps F13.keep
    have hl13 := isList_kp hl12 hK13
    have hla13 := isList_kp hla hK13
    -- the two sums
    refine wpAny_execs_cons (wpAny_Return_some (wpAny_Compare1 (call1 G13 (by rfl) (by rfl) (nmL F13 (if_pos rfl) ⟨G13, ?_⟩))))
    refine together_ok G13 hh (by omega) hla13 hva fun t14 h14 tk14 hK14 => ?_
    have F14 := F13.keeps hK14
    have G14 := G.keeps F14.keep
    have hl14 := isList_kp hl13 hK14
    refine call1 G14 (by rfl) (by rfl) (lc (fun v y => ∃ (r : List Nat) (t : Tok), v = .str (txt r) t ∧ IsNat (sumRev (restR r) 32) y) (call1 G14 (by rfl) (by rfl) (nmL F14 ((if_neg (by decide)).trans (if_pos rfl)) ⟨G14, ?_⟩)))
    refine laid_ok _ _ _ _ _ [r0, r1, r2, r3] ys (by simp) (by simp) ?_ G14 hh (by omega) hl14 hB4 fun D15 ys15 h15 tk15 hK15 hl15 hv15 => ?_
    · intro r hr
      simp only [List.mem_cons, List.not_mem_nil, or_false] at hr
      rcases hr with rfl | rfl | rfl | rfl <;> omega
    refine wpAny_pyIter_list hl15 ?_
    dsimp only
    have G15 := G14.keeps hK15
    have hD15 : @LT.lt Nat _ D15 h15.objs.size := isList_lt hl15
    have hcount : ys15.length ≤ 16 := by
      rw [hv15.len]
      exact laidL_len 4 [r0, r1, r2, r3] (by simp) (by decide)
    have hpush : ∀ o, Kp h15 (h15.push o) := fun o b x e => Heap.get?_push_of_some _ e
    refine ⟨h15.objs.size, _, _, _, _, _, rfl, wList hD15 _ hh, by rw [List.size_toArray, sizeLine_eq]; omega, ⟨⟨_, Heap.get?_push_size _ rfl, rfl, rfl⟩, isList_kp hl15 (hpush _)⟩, ?_, ?_, ?_⟩
    · rw [Heap.size_push]
      exact lt_two (Nat.lt_succ_self _) (Nat.lt_succ_of_lt hD15)
    · rintro C i v s₃ m₃ hC hP hn3 hm3 hk3
      have hP' : ys15[i]? = some v := by simpa using hP
      obtain ⟨r, hr, tv, rfl⟩ := hv15.get hP'
      obtain ⟨H3, ge, dr, tk4, os⟩ := s₃
      dsimp only at hn3 hk3 ⊢
      have G3 := G15.keeps (h' := H3) fun b o e => hk3 b o (notIn_one (Nat.ne_of_lt (Heap.lt_size e))) (hpush _ b o e)
      refine call1 G3 (by rfl) (by rfl) (nmN hn3 hm3 ⟨G3, ?_⟩)
      refine rest_ok G3 hh (by omega) fun t6 h6 tk6 hK6 => ?_
      rw [lst_txt]
      exact ⟨⟨r, tv, rfl, t6, rfl⟩, h6, tk6, rfl, hK6⟩
    · intro D16 h16 tk16 ys16 us hD16 hp16 hlen16 hP hF hk16
      have hus : us = ys15 := us_eq rfl hlen16 hP
      subst hus
      have hB16 : Are IsNat ((laidL [r0, r1, r2, r3]).map fun t => sumRev (restR t) 32) ys16 := paired_txt (f := fun t => sumRev (restR t) 32) hv15 hF
      have hK16 : Kp h15 h16 := fun b o e => hk16 b o (notIn_one (Nat.ne_of_lt (Heap.lt_size e))) (hpush _ b o e)
      have G16 := G15.keeps hK16
      refine ⟨G16, together_ok G16 hh (by omega) hp16.isList hB16 fun t17 h17 tk17 hK17 => ?_⟩
      rw [← hsums]
      refine oEq rfl rfl ?_
      rw [beq_self_eq_true]
      exact hQ h17 tk17 fun b o e => hK17 b o (hK16 b o (hK15 b o (F14.keep b o e))))
end Mine

theorem PySem.Challenge.cw_pk0003_01_holds : PySem.Challenge.rw_pk0003_01.Holds := by
  exact Mine.holds
