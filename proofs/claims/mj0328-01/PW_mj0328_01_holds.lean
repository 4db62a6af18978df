import PyProof.Rows.All
import Wide.All
import OpenK.AllK
import Wide.FinOn
import PySem.Challenge.RW_mj0328_01
set_option linter.unusedVariables false
set_option linter.unusedSimpArgs false
set_option Elab.async false
namespace Mine

/-- what the function tells -/
def nearest (a b : Int) : Int := a / b + (if b < 2 * (a % b) + (a / b) % 2 then 1 else 0)

/-- the figures, from the last place on; at most so many -/
def figs : Nat → Int → Int → List Int
  | 0, _, _ => []
  | k + 1, n, b => if n = 0 then [] else (n - nearest n b * b) :: figs k (nearest n b) b

theorem figs_length_le (b : Int) : ∀ (k : Nat) (n : Int), (figs k n b).length ≤ k
  | 0, _ => Nat.le_refl 0
  | k + 1, n => by
    unfold figs
    split
    · exact Nat.zero_le _
    · have := figs_length_le b k (nearest n b)
      simp only [List.length_cons]
      omega

theorem nearest_in {n b M : Int} (hb : 2 < b) (hb' : b < 10) (h0 : -M < n) (h1 : n < M) : -M < nearest n b ∧ nearest n b < M := by
  unfold nearest
  have : b = 3 ∨ b = 4 ∨ b = 5 ∨ b = 6 ∨ b = 7 ∨ b = 8 ∨ b = 9 := by omega
  rcases this with rfl | rfl | rfl | rfl | rfl | rfl | rfl <;> split <;> omega

/-- what holds between the turns of the loop that finds the figures -/
structure FigInv (n₀ b : Int) (k : Nat) (number : Int) (figures : List Int) : Prop where
  all : figures ++ figs (15 - k) number b = figs 15 n₀ b

theorem FigInv.start {n₀ b : Int} (h0 : -4000000 < n₀) (h1 : n₀ < 4000000) : FigInv n₀ b ([] : List Int).length n₀ [] ∧ -4000000 < n₀ ∧ n₀ < 4000000 ∧ ([] : List Int).length ≤ ([] : List Int).length :=
  ⟨⟨rfl⟩, h0, h1, Nat.le_refl _⟩

theorem FigInv.turn {n₀ b n k : Int} {pre fs : List Int} (hb : 2 < b) (hb' : b < 10) (I : FigInv n₀ b pre.length n fs) (h0 : -4000000 < n) (h1 : n < 4000000) (hl : fs.length ≤ pre.length) (hp : pre.length < 15) (hn : n ≠ 0) :
    FigInv n₀ b (pre ++ [k]).length (nearest n b) (fs ++ [n - nearest n b * b]) ∧ -4000000 < nearest n b ∧ nearest n b < 4000000 ∧ (fs ++ [n - nearest n b * b]).length ≤ (pre ++ [k]).length := by
  have hB := nearest_in hb hb' h0 h1
  refine ⟨⟨?_⟩, hB.1, hB.2, by simp; omega⟩
  rw [← I.all, List.length_append, List.length_singleton]
  obtain ⟨j, hj⟩ : ∃ j, 15 - pre.length = j + 1 := ⟨15 - pre.length - 1, by omega⟩
  rw [hj, show 15 - (pre.length + 1) = j by omega]
  conv => rhs; rw [figs, if_neg hn]
  simp

theorem FigInv.still {n₀ b n k : Int} {pre fs : List Int} (I : FigInv n₀ b pre.length n fs) (h0 : -4000000 < n) (h1 : n < 4000000) (hl : fs.length ≤ pre.length) (hn : n = 0) :
    FigInv n₀ b (pre ++ [k]).length n fs ∧ -4000000 < n ∧ n < 4000000 ∧ fs.length ≤ (pre ++ [k]).length := by
  refine ⟨⟨?_⟩, h0, h1, by simp; omega⟩
  rw [← I.all]
  subst hn
  congr 1
  cases 15 - (pre ++ [k]).length <;> cases 15 - pre.length <;> simp [figs]

theorem FigInv.last {n₀ b n : Int} {k : Nat} {fs : List Int} (I : FigInv n₀ b k n fs) (hk : k = 15) : figs 15 n₀ b = fs := by
  rw [← I.all, hk]
  simp [figs]

end Mine

namespace Mine

/-- the carry of a sum of two figures -/
def carryOf (b f : Int) : Int := if f > (b - 1) / 2 then 1 else if f < 0 - (b - 1) / 2 then -1 else 0

/-- two rows of figures added place by place: so many places from the place k on, c carried in -/
def addGo (b : Int) (xs ys : List Int) : Nat → Nat → Int → List Int
  | 0, _, _ => []
  | n + 1, k, c =>
    (xs.getD k 0 + ys.getD k 0 + c - carryOf b (xs.getD k 0 + ys.getD k 0 + c) * b) :: addGo b xs ys n (k + 1) (carryOf b (xs.getD k 0 + ys.getD k 0 + c))

/-- what holds between the turns of the adding loop -/
structure AddInv (b : Int) (xs ys : List Int) (n k : Nat) (c : Int) (total : List Int) : Prop where
  all : total ++ addGo b xs ys (n - k) k c = addGo b xs ys n 0 0

theorem AddInv.start {b : Int} {xs ys : List Int} {n : Nat} : AddInv b xs ys n ([] : List Int).length 0 [] ∧ (-1 : Int) ≤ 0 ∧ (0 : Int) ≤ 1 ∧ ([] : List Int).length ≤ ([] : List Int).length :=
  ⟨⟨rfl⟩, by omega, by omega, Nat.le_refl _⟩

theorem carryOf_in (b f : Int) : -1 ≤ carryOf b f ∧ carryOf b f ≤ 1 := by
  unfold carryOf
  split
  · omega
  · split <;> omega

theorem AddInv.turn {b c k f : Int} {xs ys pre total : List Int} {n : Nat} (I : AddInv b xs ys n pre.length c total) (hl : total.length ≤ pre.length) (hp : pre.length < n) (hf : f = xs.getD pre.length 0 + ys.getD pre.length 0 + c) :
    AddInv b xs ys n (pre ++ [k]).length (carryOf b f) (total ++ [f - carryOf b f * b]) ∧ -1 ≤ carryOf b f ∧ carryOf b f ≤ 1 ∧ (total ++ [f - carryOf b f * b]).length ≤ (pre ++ [k]).length := by
  refine ⟨⟨?_⟩, (carryOf_in b f).1, (carryOf_in b f).2, by simp; omega⟩
  rw [← I.all, List.length_append, List.length_singleton]
  obtain ⟨j, hj⟩ : ∃ j, n - pre.length = j + 1 := ⟨n - pre.length - 1, by omega⟩
  rw [hj, show n - (pre.length + 1) = j by omega]
  conv => rhs; rw [addGo]
  rw [← hf]
  simp

theorem carry_up {b f : Int} (h : (b - 1).fdiv 2 < f) : 1 = carryOf b f := by
  unfold carryOf
  rw [Int.fdiv_eq_ediv_of_nonneg _ (by omega)] at h
  rw [if_pos h]
theorem carry_down {b f : Int} (h : ¬ (b - 1).fdiv 2 < f) (h' : f < 0 - (b - 1).fdiv 2) : -1 = carryOf b f := by
  unfold carryOf
  rw [Int.fdiv_eq_ediv_of_nonneg _ (by omega)] at h h'
  rw [if_neg h, if_pos h']
theorem carry_none {b f : Int} (h : ¬ (b - 1).fdiv 2 < f) (h' : ¬ f < 0 - (b - 1).fdiv 2) : 0 = carryOf b f := by
  unfold carryOf
  rw [Int.fdiv_eq_ediv_of_nonneg _ (by omega)] at h h'
  rw [if_neg h, if_neg h']

theorem AddInv.turnG {b c k c' : Int} {xs ys pre total : List Int} {n : Nat} (I : AddInv b xs ys n pre.length c total) (hl : total.length ≤ pre.length) (hp : pre.length < n) (hk : k = 0 + (pre.length : Int)) (hc : c' = carryOf b (xs.getD k.toNat 0 + ys.getD k.toNat 0 + c)) :
    AddInv b xs ys n (pre ++ [k]).length c' (total ++ [xs.getD k.toNat 0 + ys.getD k.toNat 0 + c - c' * b]) ∧ -1 ≤ c' ∧ c' ≤ 1 ∧ (total ++ [xs.getD k.toNat 0 + ys.getD k.toNat 0 + c - c' * b]).length ≤ (pre ++ [k]).length := by
  have e : k.toNat = pre.length := by omega
  rw [e] at hc ⊢
  subst hc
  exact I.turn hl hp rfl

theorem AddInv.last {b c : Int} {xs ys total : List Int} {n k : Nat} (I : AddInv b xs ys n k c total) (hk : k = n) : addGo b xs ys n 0 0 = total := by
  rw [← I.all, hk]
  simp [addGo]

/-- noughts behind the front figure go -/
def trim (xs : List Int) : List Int := (xs.reverse.dropWhile (fun x => x == 0)).reverse

theorem trim_zero {xs : List Int} (h0 : xs ≠ []) (h : xs.getLast h0 = 0) : trim xs.dropLast = trim xs := by
  unfold trim
  have : xs.reverse = 0 :: xs.dropLast.reverse := by
    conv => lhs; rw [← List.dropLast_concat_getLast h0]
    simp [h]
  rw [this]
  simp

theorem trim_nil : trim [] = [] := rfl
theorem trim_last {xs : List Int} (h0 : xs ≠ []) (h : xs.getLast h0 ≠ 0) : trim xs = xs := by
  unfold trim
  have : xs.reverse = xs.getLast h0 :: xs.dropLast.reverse := by
    conv => lhs; rw [← List.dropLast_concat_getLast h0]
    simp
  rw [this]
  simp [h]
  have := List.dropLast_concat_getLast h0
  exact this

theorem getD_last {xs : List Int} (h0 : xs ≠ []) : xs.getD (xs.length - 1) 0 = xs.getLast h0 := by
  have hpos : 0 < xs.length := List.length_pos_iff.mpr h0
  rw [List.getD_eq_getElem?_getD, List.getElem?_eq_getElem (by omega), List.getLast_eq_getElem]
  rfl

theorem trim_turn {ft fs : List Int} (h : trim ft = trim fs) (hl : ft.length ≤ 16) (hne : decide (ft = []) = false) (hz : ft.getD (ft.length - 1) 0 = 0) :
    trim (ft.take (ft.length - 1)) = trim fs ∧ (ft.take (ft.length - 1)).length ≤ 16 := by
  have h0 : ft ≠ [] := of_decide_eq_false hne
  rw [getD_last h0] at hz
  rw [← List.dropLast_eq_take, trim_zero h0 hz]
  exact ⟨h, by rw [List.length_dropLast]; omega⟩

theorem trim_less {ft : List Int} (hne : decide (ft = []) = false) : (ft.take (ft.length - 1)).length < ft.length := by
  have h0 : ft ≠ [] := of_decide_eq_false hne
  have hpos : 0 < ft.length := List.length_pos_iff.mpr h0
  rw [List.length_take]
  omega

theorem trim_end {ft fs : List Int} (h : trim ft = trim fs) (hne : decide (ft = []) = true ∨ ft.getD (ft.length - 1) 0 ≠ 0) : ft = trim fs := by
  by_cases h0 : ft = []
  · rw [← h, h0]; rfl
  · rcases hne with hne | hne
    · exact absurd (of_decide_eq_true hne) h0
    · rw [getD_last h0] at hne
      rw [← h, trim_last h0 hne]

theorem max_if (a b : Nat) : (if (b : Int) > (a : Int) then (b : Int) else (a : Int)) = ((max a b : Nat) : Int) := by
  split <;> omega

/-- the sum's row -/
def added (b : Int) (xs ys : List Int) : List Int := trim (addGo b xs ys (max xs.length ys.length + 1) 0 0)

end Mine

namespace Mine

theorem div_cases {b : Int} (hb : b = 3 ∨ b = 5 ∨ b = 7 ∨ b = 9) : 2 < b ∧ b < 10 := by omega

/-- each figure lies between half of one less than the base and the same below nought -/
theorem fig_in {b n : Int} (hb : b = 3 ∨ b = 5 ∨ b = 7 ∨ b = 9) : 0 - (b - 1) / 2 ≤ n - nearest n b * b ∧ n - nearest n b * b ≤ (b - 1) / 2 := by
  unfold nearest
  rcases hb with rfl | rfl | rfl | rfl <;> split <;> omega

theorem figs_in {b : Int} (hb : b = 3 ∨ b = 5 ∨ b = 7 ∨ b = 9) : ∀ (k : Nat) (n : Int), ∀ y ∈ figs k n b, 0 - (b - 1) / 2 ≤ y ∧ y ≤ (b - 1) / 2
  | 0, _, y, hy => by simp [figs] at hy
  | k + 1, n, y, hy => by
    unfold figs at hy
    split at hy
    · simp at hy
    · rcases List.mem_cons.mp hy with rfl | hy
      · exact fig_in hb
      · exact figs_in hb k _ y hy

end Mine

namespace Mine

/-- a base as the law takes it -/
abbrev OddB (b : Int) : Prop := b = 3 ∨ b = 5 ∨ b = 7 ∨ b = 9
/-- figures within the bounds -/
def Dig (b : Int) (fs : List Int) : Prop := ∀ y ∈ fs, 0 - (b - 1) / 2 ≤ y ∧ y ≤ (b - 1) / 2
/-- the number that figures tell -/
def val (b : Int) : List Int → Int
  | [] => 0
  | f :: r => f + b * val b r

theorem near_unique {x B q r : Int} (hB : 0 < B) (hx : x = q * B + r) (h1 : -B < 2 * r) (h2 : 2 * r < B) : nearest x B = q := by
  unfold nearest
  rcases Int.lt_or_le r 0 with hr | hr
  · have hu : x / B = q - 1 ∧ x % B = B + r := (Int.ediv_emod_unique hB).mpr ⟨by rw [hx, Int.mul_sub, Int.mul_one, Int.mul_comm B q]; omega, by omega, by omega⟩
    rw [hu.1, hu.2, if_pos (by omega)]
    omega
  · have hu : x / B = q ∧ x % B = r := (Int.ediv_emod_unique hB).mpr ⟨by rw [hx, Int.mul_comm B q]; omega, by omega, by omega⟩
    rw [hu.1, hu.2, if_neg (by omega)]
    omega

theorem pow_facts {b : Int} (hb : OddB b) : ∀ k : Nat, 0 < b ^ k ∧ b ^ k % 2 = 1
  | 0 => by simp
  | k + 1 => by
    have ih := pow_facts hb k
    rw [Int.pow_succ]
    generalize b ^ k = P at ih
    rcases hb with rfl | rfl | rfl | rfl <;> omega
theorem pow_mono {b : Int} (hb : OddB b) {i n : Nat} (h : i ≤ n) : b ^ i ≤ b ^ n := by
  induction n with
  | zero => rw [Nat.le_zero.mp h]; exact Int.le_refl _
  | succ n ih =>
    rcases Nat.lt_or_eq_of_le h with h | h
    · have h1 := ih (by omega)
      have h2 := (pow_facts hb n).1
      rw [Int.pow_succ]
      generalize b ^ n = P at h1 h2 ⊢
      generalize b ^ i = R at h1 ⊢
      rcases hb with rfl | rfl | rfl | rfl <;> omega
    · rw [h]; exact Int.le_refl _

theorem near_pow {b x : Int} (hb : OddB b) {k : Nat} (h1 : -(b ^ (k + 1)) < 2 * x) (h2 : 2 * x < b ^ (k + 1)) : -(b ^ k) < 2 * nearest x b ∧ 2 * nearest x b < b ^ k := by
  have hf := fig_in (n := x) hb
  have hp := pow_facts hb k
  rw [Int.pow_succ] at h1 h2
  generalize b ^ k = P at h1 h2 hp ⊢
  generalize nearest x b = q at hf ⊢
  rcases hb with rfl | rfl | rfl | rfl <;> omega

theorem figs_zero (b : Int) : ∀ k : Nat, figs k 0 b = []
  | 0 => rfl
  | k + 1 => by simp [figs]

theorem figs_len_le {b : Int} (hb : OddB b) : ∀ (n k : Nat) (x : Int), -(b ^ n) < 2 * x → 2 * x < b ^ n → (figs k x b).length ≤ n
  | 0, k, x, h1, h2 => by
    have : x = 0 := by simp at h1 h2; omega
    rw [this, figs_zero]
    exact Nat.le_refl _
  | n + 1, 0, x, h1, h2 => Nat.zero_le _
  | n + 1, k + 1, x, h1, h2 => by
    unfold figs
    split
    · exact Nat.zero_le _
    · have := near_pow hb h1 h2
      have := figs_len_le hb n k (nearest x b) this.1 this.2
      simp only [List.length_cons]
      omega

theorem figs_val {b : Int} (hb : OddB b) : ∀ (k : Nat) (x : Int), -(b ^ k) < 2 * x → 2 * x < b ^ k → val b (figs k x b) = x
  | 0, x, h1, h2 => by
    have : x = 0 := by simp at h1 h2; omega
    rw [this]; rfl
  | k + 1, x, h1, h2 => by
    unfold figs
    split
    · rename_i h; rw [h]; rfl
    · have hq := near_pow hb h1 h2
      rw [val, figs_val hb k _ hq.1 hq.2, Int.mul_comm b]
      omega

theorem val_bound {b : Int} (hb : OddB b) : ∀ fs : List Int, Dig b fs → 2 * val b fs ≤ b ^ fs.length - 1 ∧ -(b ^ fs.length - 1) ≤ 2 * val b fs
  | [], _ => by simp [val]
  | f :: r, h => by
    have hf := h f (List.mem_cons_self)
    have ih := val_bound hb r fun y hy => h y (List.mem_cons_of_mem _ hy)
    rw [val, List.length_cons, Int.pow_succ]
    generalize b ^ r.length = P at ih ⊢
    generalize val b r = v at ih ⊢
    rcases hb with rfl | rfl | rfl | rfl <;> omega

theorem val_append (b : Int) : ∀ xs ys : List Int, val b (xs ++ ys) = val b xs + b ^ xs.length * val b ys
  | [], ys => by simp [val]
  | x :: r, ys => by
    rw [List.cons_append, val, val_append b r ys, val, List.length_cons, Int.pow_succ, Int.mul_add, ← Int.mul_assoc, Int.mul_comm b (b ^ r.length)]
    omega

theorem val_zeros (b : Int) : ∀ n : Nat, val b (List.replicate n 0) = 0
  | 0 => rfl
  | n + 1 => by rw [List.replicate_succ, val, val_zeros b n]; simp

theorem figs_canon {b : Int} (hb : OddB b) : ∀ (fs : List Int) (K : Nat), Dig b fs → fs.length ≤ K → (∀ h : fs ≠ [], fs.getLast h ≠ 0) → figs K (val b fs) b = fs
  | [], K, _, _, _ => figs_zero b K
  | f :: r, 0, _, h, _ => by simp at h
  | f :: r, K + 1, hd, hl, hz => by
    have hf := hd f (List.mem_cons_self)
    have hr : Dig b r := fun y hy => hd y (List.mem_cons_of_mem _ hy)
    have hz' : ∀ h : r ≠ [], r.getLast h ≠ 0 := fun h => by
      have := hz (by simp)
      rwa [List.getLast_cons h] at this
    have ih := figs_canon hb r K hr (by simpa using hl) hz'
    have hq : nearest (val b (f :: r)) b = val b r := near_unique (r := f) (by omega) (by rw [val, Int.mul_comm]; omega) (by omega) (by omega)
    have hne : val b (f :: r) ≠ 0 := fun h0 => by
      rw [val] at h0
      have hv : val b r = 0 := by
        generalize val b r = v at h0
        rcases hb with rfl | rfl | rfl | rfl <;> omega
      rw [hv, figs_zero] at ih
      subst ih
      have := hz (by simp)
      simp only [List.getLast_singleton] at this
      rw [hv] at h0
      simp at h0
      exact this h0
    rw [figs, if_neg hne, hq, ih]
    congr 1
    rw [val, Int.mul_comm]
    omega

theorem fuel {b x : Int} (hb : OddB b) (h0 : -4000000 < x) (h1 : x < 4000000) : -(b ^ 15) < 2 * x ∧ 2 * x < b ^ 15 := by
  rcases hb with rfl | rfl | rfl | rfl <;> omega

theorem figs_dig {b : Int} (hb : OddB b) (k : Nat) (x : Int) : Dig b (figs k x b) := figs_in hb k x
end Mine

namespace Mine

theorem addGo_length (b : Int) (xs ys : List Int) : ∀ (n k : Nat) (c : Int), (addGo b xs ys n k c).length = n
  | 0, _, _ => rfl
  | n + 1, k, c => by simp only [addGo, List.length_cons, addGo_length b xs ys n]

theorem dig_at {b : Int} (hb : OddB b) {xs : List Int} (h : Dig b xs) (k : Nat) : 0 - (b - 1) / 2 ≤ xs.getD k 0 ∧ xs.getD k 0 ≤ (b - 1) / 2 := by
  rcases Nat.lt_or_ge k xs.length with hk | hk
  · refine h _ ?_
    rw [List.getD_eq_getElem?_getD, List.getElem?_eq_getElem hk]
    exact List.getElem_mem hk
  · rw [List.getD_eq_getElem?_getD, List.getElem?_eq_none hk]
    show 0 - (b - 1) / 2 ≤ 0 ∧ 0 ≤ (b - 1) / 2
    rcases hb with rfl | rfl | rfl | rfl <;> omega

theorem carry_fig {b f : Int} (hb : OddB b) (h1 : -b ≤ f) (h2 : f ≤ b) : 0 - (b - 1) / 2 ≤ f - carryOf b f * b ∧ f - carryOf b f * b ≤ (b - 1) / 2 := by
  unfold carryOf
  rcases hb with rfl | rfl | rfl | rfl <;> ((repeat' split) <;> omega)

theorem addGo_dig {b : Int} (hb : OddB b) {xs ys : List Int} (hx : Dig b xs) (hy : Dig b ys) : ∀ (n k : Nat) (c : Int), -1 ≤ c → c ≤ 1 → Dig b (addGo b xs ys n k c)
  | 0, _, _, _, _ => fun y hy => by simp [addGo] at hy
  | n + 1, k, c, h1, h2 => fun y hy' => by
    have a1 := dig_at hb hx k
    have a2 := dig_at hb hy k
    rw [addGo] at hy'
    rcases List.mem_cons.mp hy' with rfl | hy'
    · generalize xs.getD k 0 = p at a1 ⊢
      generalize ys.getD k 0 = q at a2 ⊢
      exact carry_fig hb (by rcases hb with rfl | rfl | rfl | rfl <;> omega) (by rcases hb with rfl | rfl | rfl | rfl <;> omega)
    · have hc := carryOf_in b (xs.getD k 0 + ys.getD k 0 + c)
      exact addGo_dig hb hx hy n (k + 1) _ hc.1 hc.2 y hy'

theorem val_drop (b : Int) (xs : List Int) (k : Nat) : val b (xs.drop k) = xs.getD k 0 + b * val b (xs.drop (k + 1)) := by
  rcases Nat.lt_or_ge k xs.length with hk | hk
  · rw [List.drop_eq_getElem_cons hk, val, List.getD_eq_getElem?_getD, List.getElem?_eq_getElem hk]
    rfl
  · rw [List.drop_eq_nil_iff.mpr hk, List.drop_eq_nil_iff.mpr (by omega), List.getD_eq_getElem?_getD, List.getElem?_eq_none hk]
    simp [val]

theorem addGo_val {b : Int} (hb : OddB b) (xs ys : List Int) : ∀ (n k : Nat) (c : Int), xs.length ≤ k + n → ys.length ≤ k + n → -1 ≤ c → c ≤ 1 →
    val b (addGo b xs ys (n + 1) k c) = val b (xs.drop k) + val b (ys.drop k) + c
  | 0, k, c, h1, h2, h3, h4 => by
    rw [addGo, addGo, val, val, List.drop_eq_nil_iff.mpr (by omega), List.drop_eq_nil_iff.mpr (by omega), val,
      List.getD_eq_getElem?_getD, List.getElem?_eq_none (by omega), List.getD_eq_getElem?_getD, List.getElem?_eq_none (by omega)]
    have e : carryOf b ((none : Option Int).getD 0 + (none : Option Int).getD 0 + c) = 0 := by
      show carryOf b (0 + 0 + c) = 0
      unfold carryOf
      rcases hb with rfl | rfl | rfl | rfl <;> ((repeat' split) <;> omega)
    rw [e]
    show 0 + 0 + c - 0 * b + b * 0 = 0 + 0 + c
    simp
  | n + 1, k, c, h1, h2, h3, h4 => by
    rw [addGo, val]
    have hc := carryOf_in b (xs.getD k 0 + ys.getD k 0 + c)
    rw [addGo_val hb xs ys n (k + 1) _ (by omega) (by omega) hc.1 hc.2, val_drop b xs k, val_drop b ys k, Int.mul_add, Int.mul_add, Int.mul_comm (carryOf _ _) b]
    omega

/-- what is left when the noughts are gone -/
theorem trim_facts (b : Int) : ∀ (n : Nat) (xs : List Int), xs.length = n → val b (trim xs) = val b xs ∧ (∀ y ∈ trim xs, y ∈ xs) ∧ (trim xs).length ≤ xs.length ∧ (∀ h : trim xs ≠ [], (trim xs).getLast h ≠ 0)
  | 0, xs, h => by
    have : xs = [] := List.length_eq_zero_iff.mp h
    subst this
    exact ⟨rfl, fun _ h => h, Nat.le_refl _, fun h => absurd rfl h⟩
  | n + 1, xs, h => by
    have h0 : xs ≠ [] := fun e => by rw [e] at h; simp at h
    by_cases hz : xs.getLast h0 = 0
    · have ih := trim_facts b n xs.dropLast (by rw [List.length_dropLast]; omega)
      rw [trim_zero h0 hz] at ih
      refine ⟨?_, fun y hy => (List.dropLast_subset xs (ih.2.1 y hy)), ?_, ih.2.2.2⟩
      · rw [ih.1]
        conv => rhs; rw [← List.dropLast_concat_getLast h0, val_append, hz]
        simp [val]
      · have := ih.2.2.1
        rw [List.length_dropLast] at this
        omega
    · have e := trim_last h0 hz
      rw [e]
      exact ⟨rfl, fun _ h => h, Nat.le_refl _, fun _ => hz⟩

theorem len14 {b x : Int} (hb : OddB b) (hx : -1000000 ≤ x ∧ x < 1000000) (k : Nat) : (figs k x b).length ≤ 14 :=
  figs_len_le hb 14 k x (by rcases hb with rfl | rfl | rfl | rfl <;> omega) (by rcases hb with rfl | rfl | rfl | rfl <;> omega)

theorem added_is {b x y : Int} (hb : b = 3 ∨ b = 5 ∨ b = 7 ∨ b = 9) (hx : -1000000 ≤ x ∧ x < 1000000) (hy : -1000000 ≤ y ∧ y < 1000000) : added b (figs 15 x b) (figs 15 y b) = figs 15 (x + y) b := by
  have fx := fuel hb (x := x) (by omega) (by omega)
  have fy := fuel hb (x := y) (by omega) (by omega)
  have vx := figs_val hb 15 x fx.1 fx.2
  have vy := figs_val hb 15 y fy.1 fy.2
  have lx := len14 hb hx 15
  have ly := len14 hb hy 15
  have dx := figs_dig hb 15 x
  have dy := figs_dig hb 15 y
  generalize figs 15 x b = xs at vx lx dx ⊢
  generalize figs 15 y b = ys at vy ly dy ⊢
  have hv := addGo_val hb xs ys (max xs.length ys.length) 0 0 (by omega) (by omega) (by omega) (by omega)
  have hd := addGo_dig hb dx dy (max xs.length ys.length + 1) 0 0 (by omega) (by omega)
  have hl := addGo_length b xs ys (max xs.length ys.length + 1) 0 0
  rw [List.drop_zero, List.drop_zero, vx, vy, Int.add_zero] at hv
  unfold added
  generalize addGo b xs ys (max xs.length ys.length + 1) 0 0 = l at hv hd hl ⊢
  have ht := trim_facts b _ l rfl
  have hc := figs_canon hb (trim l) 15 (fun y hy => hd y (ht.2.1 y hy)) (by have := ht.2.2.1; omega) ht.2.2.2
  rw [ht.1, hv] at hc
  exact hc.symm

/-- the order of two rows of one length, from the front -/
def lexLt : List Int → List Int → Bool
  | x :: xs, y :: ys => if x == y then lexLt xs ys else decide (x < y)
  | _, _ => false

theorem val_one (b a : Int) : val b [a] = a := by simp [val]
theorem lex_val {b : Int} (hb : OddB b) : ∀ us vs : List Int, us.length = vs.length → Dig b us → Dig b vs → lexLt us vs = decide (val b us.reverse < val b vs.reverse)
  | [], [], _, _, _ => rfl
  | [], _ :: _, h, _, _ => by simp at h
  | _ :: _, [], h, _, _ => by simp at h
  | u :: us, v :: vs, h, hu, hv => by
    have hl : us.length = vs.length := by simpa using h
    have hu' : Dig b us := fun y hy => hu y (List.mem_cons_of_mem _ hy)
    have hv' : Dig b vs := fun y hy => hv y (List.mem_cons_of_mem _ hy)
    have ih := lex_val hb us vs hl hu' hv'
    have b1 := val_bound hb us.reverse fun y hy => hu' y (List.mem_reverse.mp hy)
    have b2 := val_bound hb vs.reverse fun y hy => hv' y (List.mem_reverse.mp hy)
    have hp := (pow_facts hb us.length).1
    rw [List.length_reverse] at b1 b2
    rw [← hl] at b2
    rw [lexLt, List.reverse_cons, List.reverse_cons, val_append, val_append, List.length_reverse, List.length_reverse, ← hl, val_one, val_one]
    by_cases e : u = v
    · subst e
      rw [if_pos (by simp), ih]
      congr 1
      apply propext
      omega
    · rw [if_neg (by simpa using e)]
      congr 1
      apply propext
      generalize b ^ us.length = P at b1 b2 hp ⊢
      generalize val b us.reverse = p at b1 ⊢
      generalize val b vs.reverse = q at b2 ⊢
      rcases Int.lt_or_gt_of_ne e with hlt | hlt
      · have hm : P * (u + 1) ≤ P * v := Int.mul_le_mul_of_nonneg_left (by omega) (by omega)
        rw [Int.mul_add, Int.mul_one] at hm
        constructor
        · intro _; omega
        · intro _; exact hlt
      · have hm : P * (v + 1) ≤ P * u := Int.mul_le_mul_of_nonneg_left (by omega) (by omega)
        rw [Int.mul_add, Int.mul_one] at hm
        constructor
        · intro _; omega
        · intro _; omega

/-- a row of thirty places from the front -/
def longOf (xs : List Int) : List Int := ((xs ++ List.replicate 30 0).take 30).reverse
theorem longOf_length (xs : List Int) : (longOf xs).length = 30 := by
  simp [longOf]
theorem pad_eq {xs : List Int} (h : xs.length ≤ 15) : (xs ++ List.replicate 30 0).take 30 = xs ++ List.replicate (30 - xs.length) 0 := by
  rw [List.take_append, List.take_of_length_le (by omega), List.take_replicate, Nat.min_eq_left (by omega)]
theorem order_is {b x y : Int} (hb : b = 3 ∨ b = 5 ∨ b = 7 ∨ b = 9) (hx : -1000000 ≤ x ∧ x < 1000000) (hy : -1000000 ≤ y ∧ y < 1000000) : lexLt (longOf (figs 15 x b)) (longOf (figs 15 y b)) = decide (x < y) := by
  have one : ∀ z : Int, -1000000 ≤ z ∧ z < 1000000 → Dig b (longOf (figs 15 z b)) ∧ val b (longOf (figs 15 z b)).reverse = z := fun z hz => by
    have fz := fuel hb (x := z) (by omega) (by omega)
    have hl := figs_length_le b 15 z
    unfold longOf
    rw [pad_eq hl, List.reverse_reverse, val_append, val_zeros, figs_val hb 15 z fz.1 fz.2]
    refine ⟨fun w hw => ?_, by simp⟩
    rcases List.mem_append.mp (List.mem_reverse.mp hw) with hw | hw
    · exact figs_dig hb 15 z w hw
    · rw [(List.mem_replicate.mp hw).2]
      rcases hb with rfl | rfl | rfl | rfl <;> omega
  have h1 := one x hx
  have h2 := one y hy
  rw [lex_val hb _ _ (by rw [longOf_length, longOf_length]) h1.1 h2.1, h1.2, h2.2]
end Mine

namespace Mine

theorem places_test {b x : Int} (hb : b = 3 ∨ b = 5 ∨ b = 7 ∨ b = 9) (h0 : -4000000 < x) (h1 : x < 4000000) {k : Nat} (hk : k ≤ (figs 15 x b).length) :
    b ^ k < 2 * (if x < 0 then -x else x) ↔ k < (figs 15 x b).length := by
  have hf := fuel hb h0 h1
  have hv := figs_val hb 15 x hf.1 hf.2
  have hB := val_bound hb _ (figs_dig hb 15 x)
  rw [hv] at hB
  have hp := pow_facts hb k
  constructor
  · intro h
    rcases Nat.lt_or_ge k (figs 15 x b).length with hc | hc
    · exact hc
    · have e : (figs 15 x b).length = k := by omega
      rw [e] at hB
      split at h <;> omega
  · intro h
    rcases Int.lt_or_le (b ^ k) (2 * (if x < 0 then -x else x)) with hc | hc
    · exact hc
    · have : (figs 15 x b).length ≤ k := figs_len_le hb k 15 x (by split at hc <;> omega) (by split at hc <;> omega)
      omega

theorem pow_bound {b x : Int} (hb : b = 3 ∨ b = 5 ∨ b = 7 ∨ b = 9) (h0 : -2000001 < x) (h1 : x < 2000001) : ∀ i : Nat, i ≤ (figs 15 x b).length + 1 → 0 < b ^ i ∧ b ^ i < 1073741824 := by
  intro i hi
  refine ⟨(pow_facts hb i).1, ?_⟩
  have hm := pow_mono hb hi
  rcases Nat.eq_zero_or_pos (figs 15 x b).length with hz | hz
  · rw [hz] at hm
    generalize b ^ i = P at hm ⊢
    rcases hb with rfl | rfl | rfl | rfl <;> omega
  · obtain ⟨n, hn⟩ : ∃ n, (figs 15 x b).length = n + 1 := ⟨(figs 15 x b).length - 1, by omega⟩
    have ht := (places_test hb (x := x) (by omega) (by omega) (k := n) (by omega)).mpr (by omega)
    rw [hn, Int.pow_succ, Int.pow_succ] at hm
    generalize b ^ i = P at hm ⊢
    generalize b ^ n = R at hm ht
    have hR : R < 4000002 := by split at ht <;> omega
    rcases hb with rfl | rfl | rfl | rfl <;> omega

/-- the places that the counting loop has come to -/
structure PlInv (b x : Int) (k : Int) : Prop where
  lo : 0 ≤ k
  hi : k ≤ ((figs 15 x b).length : Int)

theorem PlInv.start {b x : Int} : PlInv b x 0 := ⟨by omega, by omega⟩
theorem PlInv.turn {b x k : Int} (hb : b = 3 ∨ b = 5 ∨ b = 7 ∨ b = 9) (h0 : -4000000 < x) (h1 : x < 4000000) (I : PlInv b x k) (h : b ^ k.toNat < 2 * (if x < 0 then -x else x)) : PlInv b x (k + 1) ∧ k < ((figs 15 x b).length : Int) := by
  have := I.lo
  have := I.hi
  have := (places_test hb h0 h1 (k := k.toNat) (by omega)).mp h
  exact ⟨⟨by omega, by omega⟩, by omega⟩
theorem PlInv.last {b x k : Int} (hb : b = 3 ∨ b = 5 ∨ b = 7 ∨ b = 9) (h0 : -4000000 < x) (h1 : x < 4000000) (I : PlInv b x k) (h : ¬ b ^ k.toNat < 2 * (if x < 0 then -x else x)) : k = ((figs 15 x b).length : Int) := by
  have := I.lo
  have := I.hi
  have : ¬ k.toNat < (figs 15 x b).length := fun z => h ((places_test hb h0 h1 (k := k.toNat) (by omega)).mpr z)
  omega

theorem sum_scale (b : Int) (g : Nat → Int) : ∀ l : List Nat, (l.map fun i => b * g i).sum = b * (l.map g).sum
  | [] => by simp
  | x :: r => by simp only [List.map_cons, List.sum_cons, sum_scale b g r, Int.mul_add]

theorem sum_range (b : Int) : ∀ fs : List Int, ((List.range fs.length).map fun i => fs.getD i 0 * b ^ i).sum = val b fs
  | [] => rfl
  | f :: r => by
    rw [List.length_cons, List.range_succ_eq_map, List.map_cons, List.sum_cons, List.map_map, val, ← sum_range b r, ← sum_scale]
    congr 1
    · simp
    · congr 1
      apply List.map_congr_left
      intro i _
      simp only [Function.comp, List.getD_cons_succ, Int.pow_succ]
      rw [Int.mul_comm b, Int.mul_assoc]

theorem sum_is {b x : Int} (hb : b = 3 ∨ b = 5 ∨ b = 7 ∨ b = 9) (h0 : -4000000 < x) (h1 : x < 4000000) (n : Nat) (hn : n = (figs 15 x b).length) :
    (List.map (fun k : Int => (figs 15 x b).getD k.toNat 0 * b ^ k.toNat) ((List.range n).map fun i : Nat => (0 : Int) + (i : Int))).sum = x := by
  have hf := fuel hb h0 h1
  have hv := figs_val hb 15 x hf.1 hf.2
  have hs := sum_range b (figs 15 x b)
  rw [hv] at hs
  rw [← hs, hn, List.map_map]
  congr 1
  apply List.map_congr_left
  intro i _
  simp only [Function.comp]
  rw [show ((0 : Int) + (i : Int)).toNat = i by omega]
  rw [hs]

theorem near_neg {b : Int} (hb : OddB b) (x : Int) : nearest (0 - x) b = 0 - nearest x b := by
  unfold nearest
  rcases hb with rfl | rfl | rfl | rfl <;> (split <;> split <;> omega)
theorem figs_neg {b : Int} (hb : b = 3 ∨ b = 5 ∨ b = 7 ∨ b = 9) : ∀ (k : Nat) (x : Int), figs k (0 - x) b = (figs k x b).map fun y => 0 - y
  | 0, _ => rfl
  | k + 1, x => by
    unfold figs
    by_cases hx : x = 0
    · subst hx; rfl
    · rw [if_neg hx, if_neg (by omega), near_neg hb, figs_neg hb k, List.map_cons]
      congr 1
      rw [Int.sub_mul]
      omega

/-- the number cut at a place -/
theorem cut_is {b x : Int} (hb : OddB b) (h0 : -4000000 < x) (h1 : x < 4000000) (k : Nat) :
    ∃ r, x = val b ((figs 15 x b).drop k) * b ^ k + r ∧ -(b ^ k) < 2 * r ∧ 2 * r < b ^ k := by
  have hf := fuel hb h0 h1
  have hv := figs_val hb 15 x hf.1 hf.2
  have hd := figs_dig hb 15 x
  generalize figs 15 x b = fs at hv hd
  have hB := val_bound hb (fs.take k) fun y hy => hd y (List.mem_of_mem_take hy)
  have hl : (fs.take k).length ≤ k := by rw [List.length_take]; omega
  have hm := pow_mono hb hl
  refine ⟨val b (fs.take k), ?_, by omega, by omega⟩
  have ha := val_append b (fs.take k) (fs.drop k)
  rw [List.take_append_drop, hv] at ha
  rcases Nat.lt_or_ge k fs.length with hc | hc
  · rw [List.length_take, Nat.min_eq_left (by omega)] at ha
    rw [Int.mul_comm]
    omega
  · have e : fs.drop k = [] := List.drop_eq_nil_iff.mpr hc
    rw [e, val, Int.mul_zero] at ha
    rw [e, val, Int.zero_mul]
    omega

theorem front_is {b x : Int} (hb : b = 3 ∨ b = 5 ∨ b = 7 ∨ b = 9) (h0 : -2000001 < x) (h1 : x < 2000001) {k : Int} (hk : 0 ≤ k) (hk' : k ≤ ((figs 15 x b).length : Int) + 1) (n : Nat) (hn : n = (((figs 15 x b).length : Int) - k).toNat) :
    (List.map (fun j : Int => (figs 15 x b).getD j.toNat 0 * b ^ (j - k).toNat) ((List.range n).map fun i : Nat => k + (i : Int))).sum = nearest x (b ^ k.toNat) := by
  obtain ⟨r, hx, hr1, hr2⟩ := cut_is hb (x := x) (by omega) (by omega) k.toNat
  rw [near_unique (pow_facts hb _).1 hx hr1 hr2, ← sum_range, List.map_map]
  have hl : ((figs 15 x b).drop k.toNat).length = n := by rw [List.length_drop]; omega
  rw [hl]
  congr 1
  apply List.map_congr_left
  intro i _
  simp only [Function.comp]
  rw [show (k + (i : Int) - k).toNat = i by omega, show (k + (i : Int)).toNat = k.toNat + i by omega]
  simp only [List.getD_eq_getElem?_getD, List.getElem?_drop]

theorem left_is {b x : Int} (hb : b = 3 ∨ b = 5 ∨ b = 7 ∨ b = 9) (h0 : -2000001 < x) (h1 : x < 2000001) {k : Int} (hk : 0 ≤ k) (hk' : k ≤ ((figs 15 x b).length : Int) + 1) :
    2 * (if x - nearest x (b ^ k.toNat) * b ^ k.toNat < 0 then -(x - nearest x (b ^ k.toNat) * b ^ k.toNat) else x - nearest x (b ^ k.toNat) * b ^ k.toNat) < b ^ k.toNat := by
  obtain ⟨r, hx, hr1, hr2⟩ := cut_is hb (x := x) (by omega) (by omega) k.toNat
  rw [near_unique (pow_facts hb _).1 hx hr1 hr2]
  have e : x - val b ((figs 15 x b).drop k.toNat) * b ^ k.toNat = r := by
    conv => lhs; lhs; rw [hx]
    omega
  rw [e]
  split <;> omega
end Mine

namespace Mine
/-- what the law makes of the script: whole numbers below a million in size -/
structure Nums (ns : List Int) : Prop where
  lo : 2 ≤ ns.length
  hi : ns.length ≤ 5
  all : ∀ n ∈ ns, -1000000 ≤ n ∧ n < 1000000

theorem nums_of (xs : List Int) : Nums ((xs.take 3).map (fun x => Int.fmod (x + 1000000) 2000000 - 1000000) ++ [-86, 13]) := by
  refine ⟨by simp, by simp; omega, fun n hn => ?_⟩
  rcases List.mem_append.mp hn with hn | hn
  · obtain ⟨x, _, rfl⟩ := List.mem_map.mp hn
    rw [Int.fmod_eq_emod_of_nonneg _ (by omega)]
    omega
  · simp at hn
    omega
theorem Nums.at {ns : List Int} (h : Nums ns) {k : Nat} (hk : k < ns.length) : -1000000 ≤ ns.getD k 0 ∧ ns.getD k 0 < 1000000 := by
  refine h.all _ ?_
  rw [List.getD_eq_getElem?_getD, List.getElem?_eq_getElem hk]
  exact List.getElem_mem hk
end Mine

section
open PySem PySem.W PyProof.Rows
set_option Elab.async false
set_option maxRecDepth 100000
set_option maxHeartbeats 8000000
namespace Mine
open_top hd for PySem.Challenge.rw_mj0328_01
end Mine
end

section
open PySem PySem.W PySem.Calls PyProof.Rows
set_option Elab.async false
set_option maxRecDepth 100000
namespace Mine
section
variable {prog : Program} {w : World} {A A₀ : Around} {E : Value → Shared → Prop} {s : Shared} {K : Frag} {C L : Addr} {h₀ base : Heap} {m mg mb : Str → Option Value} {news : List (Addr × Obj)} {p : Program} {loose : List Str} {mean : ExcName → Option Value} {Q : Value → Shared → Prop}

/-- a def without cells, entered over all that stands: the caller's objects are kept whole -/
theorem code_pure {env : Env} {outer : List Env} {R : Result → Shared → Prop} {name qual : Str} {params : Arguments} {body : List Stmt} {scope : Scope} {dV kV doc pm cdv ct oc : Value} {an od : Option Addr} {osl : Array (Option Value)} {f : Addr} {args : Args} {binds : List (Str × Value)}
    (B : Below A₀ base outer h₀) (F : Fr h₀ L s.heap m) (X₀ : K.In h₀) (T : Top p loose mean mg mb h₀) (hA : A.frames = some (env :: outer)) (hf : env.frame = some L) (hke : env.scope.kind = .function)
    (ho : K.lookup f = some ⟨oc, od, .func (fnOf name qual params body scope dV kV doc pm an cdv ct), osl⟩) (hcd : codeIn K cdv qual = true) (hroom : A.depth < recursionLimit)
    (hbind : BindsTo s (fnOf name qual params body scope dV kV doc pm an cdv ct) args binds) (hloc : ∀ y ∈ binds, scope.names.lookup y.1 = some .local)
    (h : ∀ g L' h₁, s.heap = g → Fr h₀ L g m → Fr g L' h₁ (fun y => binds.reverse.lookup y) → News g L' h₁ [] → Below A base (env :: outer) g → K.In g → Top p loose mean mg mb g →
      wpAny (model prog w) (A.deeper (envOf qual scope L' f cdv)) (execs body (envOf qual scope L' f cdv))
        (fun fl s' => LeaveK h₀ L m g R (match fl with | .ret v => v | _ => .none) s')
        (fun e s' => wpAny (model prog w) (A.deeper (envOf qual scope L' f cdv)) (leaving (envOf qual scope L' f cdv) e) (fun _ s'' => R (.error e) s'') (fun e' s'' => R (.error e') s'') s')
        { s with heap := h₁, toks := s.toks + binds.length })
    (hco : scope.isCoroutine = false) (hgen : scope.isGenerator = false) (hk : scope.kind = .function)
    (hcell : ∀ x ∈ scope.names, x.2 ≠ .cell) : codeAny (model prog w) A (.call (.ref f) args) R s := by
  have X : K.In s.heap := X₀.keeps F.keep
  obtain ⟨FG, BG, st, lv⟩ := groundX (R := R) (news := []) B F (fun _ h => nomatch h) hA hf hke
  refine codeAny_call_def (fd := fnX name qual params body scope [] dV kV doc pm an cdv ct) (body := body) (binds := binds) hroom (X _ _ ho) rfl (T.nolimit.keeps F.keep) (codeRec_of X hcd) rfl hbind hcell hloc (fun h₁ hns hk₁ => ?_) hco hgen hk
  exact wpAny_mono (h _ s.heap.objs.size h₁ rfl FG ⟨hns, fun b o e => hk₁ b o e, Nat.le_refl _⟩ (fun _ h => nomatch h) BG X (T.keeps st)) (fun fl s' hl => lv _ _ hl) fun _ _ y => y

end
end Mine
end

section
open PySem PySem.W PySem.Calls PyProof.Rows PySem.Spec PyProof.V
set_option Elab.async false
set_option maxRecDepth 100000
namespace Mine
section
variable {prog : Program} {w : World} {A : Around} {E : Value → Shared → Prop} {s : Shared} {env : Env} {h₀ : Heap} {x : Str} {body : List Stmt} {Q : Flow → Shared → Prop}

/-- a for over a range whose target may be a cell: the turn begins with the assignment -/
theorem kst_rangeT {σ : Type} {target : Expr} {r : Addr} {a₀ b₀ : Int} {t₀ u₀ v₀ : Tok} {n : Nat} {m₀ : Str → Option Value} (Led : σ → List (Addr × Obj)) (ps : σ → List (Str × Value)) (Facts : σ → Prop) (stored : List Str) (P : List Int → σ → Prop) (c₀ : σ)
    (hx : stored.contains x = true)
    (hh : A.handled = none) (hr : IsRange s.heap r a₀ b₀ 1 t₀ u₀ v₀) (hsmall : Builtin.Range.small a₀ b₀ 1 = true) (hn : Builtin.Range.rangeSize a₀ b₀ 1 = (n : Int)) (F : Fr h₀ env.locals s.heap m₀) (N : News h₀ env.locals s.heap (Led c₀)) (hf : Facts c₀) (hk : ∀ p ∈ ps c₀, m₀ p.1 = some p.2) (hp : P [] c₀)
    (turn : ∀ (c : σ) (pre : List Int) (k : Int) t (u : Str → Option Value) h tk own, k = a₀ + (pre.length : Int) → pre.length < n → OwnOff own ((Led c₀).map (·.1)) → Facts c → P pre c →
      Fr h₀ env.locals h (kstB (fun z => if stored.contains z then u z else m₀ z) (ps c)) → News h₀ env.locals h (Led c ++ own) →
      wpAny (model prog w) A (assign target env (.int k t)) (fun _ s₂ => wpAny (model prog w) A (execs body env) (InvPostN h₀ env.locals (KstS Led ps Facts x stored m₀ P (pre ++ [k])) own ((Led c₀).map (·.1)) { s with heap := h, toks := tk } Q) E s₂) E { s with heap := h, toks := tk })
    (done : ∀ (c : σ) (u : Str → Option Value) h tk, Facts c → P (rangeKs a₀ n) c → Fr h₀ env.locals h (kstB (fun z => if stored.contains z then u z else m₀ z) (ps c)) → News h₀ env.locals h (Led c) → Q .next { s with heap := h, toks := tk })
    (ht : ∀ it v, letOwnedTupleGo target it v = pure ())
    (hE : PassesOwn (model prog w) A env E) :
    wpAny (model prog w) A (pyIter (.ref r)) (fun it s₂ => codeAny (model prog w) A (.forLoop target it body [] env) (fun r s' => match r with | .ok f => Q f s' | .error e => cameBackBy (model prog w) A env E e s') s₂) E s := by
  refine wpAny_pyIter_range hr hsmall ?_
  have W : Walks prog w A s.heap.objs.size [s.heap.objs.size] [s.heap.objs.size] n (fun i v => i < n ∧ ∃ t, v = .int (a₀ + i * 1) t)
      (fun i h => IsRangeIter h s.heap.objs.size (a₀ + (i : Nat) * 1) ((n : Int) - (i : Nat)) 1) := (Walks.range hh _ a₀ 1 n).bound
  have hLf : env.locals ∉ [s.heap.objs.size] := fun hm => absurd F.ns.lt ((List.mem_singleton.mp hm) ▸ Nat.lt_irrefl _)
  have hwr : ∀ b ∈ [s.heap.objs.size], h₀.get? b = none := fun b hb => by
    rw [List.mem_singleton.mp hb]
    exact next_is_new F
  have hnw : ∀ p ∈ Led c₀, p.1 ∉ [s.heap.objs.size] := fun p hp hI => absurd (Heap.lt_size (N p hp).1) ((List.mem_singleton.mp hI) ▸ Nat.lt_irrefl _)
  have old : ∀ b o, h₀.get? b = some o → b ∉ [s.heap.objs.size] := fun b o e hb => by rw [hwr b hb] at e; cases e
  have hadr : ∀ c : σ, (Led c).map (·.1) = (Led c₀).map (·.1) → ∀ p ∈ Led c, p.1 ∉ [s.heap.objs.size] := fun c e p hp hI => by
    have h1 : p.1 ∈ (Led c).map (·.1) := List.mem_map.mpr ⟨p, hp, rfl⟩
    rw [e] at h1
    obtain ⟨q, hq, hq2⟩ := List.mem_map.mp h1
    exact hnw q hq (by rw [hq2]; exact hI)
  refine codeAny_forLoop
    (fun k s' => ∃ h' tk m' i c, s' = { s with heap := h', toks := tk } ∧ IsRangeIter h' s.heap.objs.size (a₀ + (i : Nat) * 1) ((n : Int) - (i : Nat)) 1 ∧ Fr h₀ env.locals h' m' ∧ News h₀ env.locals h' (Led c) ∧ (Led c).map (·.1) = (Led c₀).map (·.1) ∧ Facts c ∧
      (∀ p ∈ ps c, m' p.1 = some p.2) ∧ (∀ z, (∀ p ∈ ps c, z ≠ p.1) → stored.contains z = false → m' z = m₀ z) ∧ P ((rangeKs a₀ n).take i) c ∧ i ≤ n ∧ k = n + 1 - i) ?_ (n + 1)
    ⟨_, _, m₀, 0, c₀, rfl, (by rw [hn]; simpa using Heap.get?_push_size _ rfl), F.push _, (fun p hp => ⟨Heap.get?_push_of_some _ (N p hp).1, (N p hp).2⟩), rfl, hf, hk, fun _ _ _ => rfl, (by simpa using hp), Nat.zero_le _, rfl⟩ (ht _)
  rintro k s' ⟨h', tk, m', i, c, rfl, hst', F', N', ha, hf', h1, h2, hp', hi, rfl⟩
  have hnw' := hadr c ha
  have next : ∀ h₁ : Heap, (∀ b o, b ∉ [s.heap.objs.size] → h'.get? b = some o → h₁.get? b = some o) → Fr h₀ env.locals h₁ m' ∧ News h₀ env.locals h₁ (Led c) := fun h₁ hk₁ =>
    ⟨⟨F'.ns.at' fun o e => hk₁ _ o hLf e, fun b o e => hk₁ b o (old b o e) (F'.keep b o e), F'.above⟩, fun p hp => ⟨hk₁ _ _ (hnw' p hp) (N' p hp).1, (N' p hp).2⟩⟩
  by_cases hlt : i < n
  · refine W.item i _ _ _ hlt hst' fun v h₁ tk₁ hP hst₁ hk₁ => ?_
    obtain ⟨_, t, rfl⟩ := hP
    obtain ⟨F₁, N₁⟩ := next h₁ hk₁
    have Nown : News h₀ env.locals h₁ (ownOf h₀ [s.heap.objs.size] h₁) := news_ownOf hLf
    have hk' : (rangeKs a₀ n)[i]? = some (a₀ + (i : Int)) := by simp [rangeKs, hlt]
    have hs : (rangeKs a₀ n).take (i + 1) = (rangeKs a₀ n).take i ++ [a₀ + (i : Int)] := by simp [List.take_add_one, hk']
    have hlen : ((rangeKs a₀ n).take i).length = i := by rw [List.length_take, rangeKs_length]; omega
    have e1 : a₀ + (i : Int) * 1 = a₀ + (i : Int) := by omega
    rw [e1]
    have hsep : OwnOff (ownOf h₀ [s.heap.objs.size] h₁) ((Led c₀).map (·.1)) := by
      intro p hp b hb e
      obtain ⟨q, hq, rfl⟩ := List.mem_map.mp hb
      exact hnw q hq (e ▸ ownOf_sub p hp)
    have N₂ : News h₀ env.locals h₁ (Led c ++ ownOf h₀ [s.heap.objs.size] h₁) := fun p hp => (List.mem_append.mp hp).elim (N₁ p) (Nown p)
    have T := turn c ((rangeKs a₀ n).take i) (a₀ + (i : Int)) t m' h₁ tk₁ (ownOf h₀ [s.heap.objs.size] h₁) (by rw [hlen]) (by rw [hlen]; exact hlt) hsep hf' hp' (ksw_fr h1 h2 F₁) N₂
    refine wpAny_passesOwn hE (wpAny_mono T (fun _ s₂ h₂ => wpAny_passesOwn hE (wpAny_mono h₂ (fun f s₃ p => ?_) fun _ _ e => e)) fun _ _ e => e)
    have fin : InvEndN h₀ env.locals (KstS Led ps Facts x stored m₀ P ((rangeKs a₀ n).take i ++ [a₀ + (i : Int)])) (ownOf h₀ [s.heap.objs.size] h₁) ((Led c₀).map (·.1)) { s with heap := h₁, toks := tk₁ } s₃ →
        ∃ m, m < n + 1 - i ∧ ∃ h' tk m' j c, s₃ = { s with heap := h', toks := tk } ∧ IsRangeIter h' s.heap.objs.size (a₀ + (j : Nat) * 1) ((n : Int) - (j : Nat)) 1 ∧ Fr h₀ env.locals h' m' ∧ News h₀ env.locals h' (Led c) ∧ (Led c).map (·.1) = (Led c₀).map (·.1) ∧ Facts c ∧
          (∀ p ∈ ps c, m' p.1 = some p.2) ∧ (∀ z, (∀ p ∈ ps c, z ≠ p.1) → stored.contains z = false → m' z = m₀ z) ∧ P ((rangeKs a₀ n).take j) c ∧ j ≤ n ∧ m = n + 1 - j := by
      rintro ⟨h₃, tk₃, m₃, news₃, nx, rfl, F₃, N₃, hn₃, ho₃, ha₃, c', rfl, hf₃, hk₃, hr₃, hP₃⟩
      refine ⟨n + 1 - (i + 1), by omega, h₃, tk₃, m₃, i + 1, c', rfl, ?_, F₃, (fun p hp => N₃ p (hn₃ p hp)), ha₃, hf₃, hk₃, (fun z h1 h2 => hr₃ z (fun e => ?_) h1 h2), ?_, hlt, rfl⟩
      · refine W.frame _ _ _ hst₁ fun b hb o e => ?_
        exact (N₃ _ (ho₃ _ (mem_ownOf hb (hwr b hb) e))).1
      · rw [e, hx] at h2; cases h2
      · rw [hs]; exact hP₃
    cases f with
    | ret v => exact p
    | brk => exact p
    | next => exact fin p
    | cont => exact fin p
  · have hin : i = n := by omega
    subst hin
    refine W.done _ _ _ hst' fun h₁ tk₁ hk₁ => wpAny_execs_nil ?_
    obtain ⟨F₁, N₁⟩ := next h₁ hk₁
    have hl : (rangeKs a₀ i).take i = rangeKs a₀ i := List.take_of_length_le (Nat.le_of_eq (rangeKs_length _ _))
    rw [hl] at hp'
    exact done c m' h₁ tk₁ hf' hp' (ksw_fr h1 h2 F₁) N₁
end
end Mine
end

section
open PySem PySem.W PySem.Calls PyProof.Rows
set_option Elab.async false
set_option maxRecDepth 100000
namespace Mine
section
variable {prog : Program} {w : World} {A A₀ : Around} {E : Value → Shared → Prop} {s : Shared} {K : Frag} {C L : Addr} {h₀ base : Heap} {m mg mb : Str → Option Value} {news : List (Addr × Obj)} {p : Program} {loose : List Str} {mean : ExcName → Option Value} {Q : Value → Shared → Prop}

/-- a def with cells, entered over all that stands -/
theorem code_pureC {env : Env} {outer : List Env} {R : Result → Shared → Prop} {name qual : Str} {params : Arguments} {body : List Stmt} {scope : Scope} {dV kV doc pm cdv ct oc : Value} {an od : Option Addr} {osl : Array (Option Value)} {f : Addr} {args : Args} {binds : List (Str × Value)}
    (B : Below A₀ base outer h₀) (F : Fr h₀ L s.heap m) (X₀ : K.In h₀) (T : Top p loose mean mg mb h₀) (hA : A.frames = some (env :: outer)) (hf : env.frame = some L) (hke : env.scope.kind = .function)
    (ho : K.lookup f = some ⟨oc, od, .func (fnOf name qual params body scope dV kV doc pm an cdv ct), osl⟩) (hcd : codeIn K cdv qual = true) (hroom : A.depth < recursionLimit)
    (hbind : BindsTo s (fnOf name qual params body scope dV kV doc pm an cdv ct) args binds) (hkind : (binds.all fun y => scope.names.lookup y.1 == some .local || scope.names.lookup y.1 == some .cell) = true)
    (hnd : ((cellsFrom 0 scope.names []).map (·.1)).Nodup)
    (h : ∀ g L' h₁ tk cells, s.heap = g → Fr h₀ L g m → Fr g L' h₁ (bindL (envOfC qual scope L' f cdv).kindOf binds fun _ => none) → News g L' h₁ (cells ++ []) →
      CellsAre (bindC (envOfC qual scope L' f cdv).kindOf binds fun _ => none) (cellsFrom (L' + 1) scope.names []) cells → Below A base (env :: outer) g → K.In g → Top p loose mean mg mb g →
      wpAny (model prog w) (A.deeper (envOfC qual scope L' f cdv)) (execs body (envOfC qual scope L' f cdv))
        (fun fl s' => LeaveK h₀ L m g R (match fl with | .ret v => v | _ => .none) s')
        (fun e s' => wpAny (model prog w) (A.deeper (envOfC qual scope L' f cdv)) (leaving (envOfC qual scope L' f cdv) e) (fun _ s'' => R (.error e) s'') (fun e' s'' => R (.error e') s'') s')
        { s with heap := h₁, toks := tk })
    (hco : scope.isCoroutine = false) (hgen : scope.isGenerator = false) (hk : scope.kind = .function) : codeAny (model prog w) A (.call (.ref f) args) R s := by
  have X : K.In s.heap := X₀.keeps F.keep
  obtain ⟨FG, BG, st, lv⟩ := groundX (R := R) (news := []) B F (fun _ h => nomatch h) hA hf hke
  refine codeAny_call_function hroom (X _ _ ho) rfl hco hgen rfl (codeRec_of X hcd) (hbind _ _ _ _ ?_)
  refine wpAny_newFunctionEnv_cells hk (kindsX hkind _) fun env' he s' x => ?_
  subst he
  refine ⟨(T.nolimit.keeps F.keep).keeps x.toInCall.keep, codeAny_func ?_⟩
  obtain ⟨h₁, tk, rfl, _⟩ := x.done
  have hk₁ := x.toInCall.keep
  obtain ⟨cells, NC, Y⟩ := Cl.news (h₀ := s.heap) (Nat.le_refl _) fun n c hm => ⟨x.cell n c (lookup_of_mem_nodup (cellsFrom_names scope.names 0 (s.heap.objs.size + 1) [] [] rfl ▸ hnd) hm), x.above n c hm⟩
  exact wpAny_mono (h _ s.heap.objs.size h₁ tk cells rfl FG ⟨x.toInCall.ns, fun b o e => hk₁ b o e, Nat.le_refl _⟩ (fun p hp => NC p (by simpa using hp)) Y BG X (T.keeps st)) (fun fl s' hl => lv _ _ hl) fun _ _ y => y
end
end Mine
end

section
open PySem PySem.W PySem.Calls PyProof.Rows
set_option Elab.async false
set_option maxRecDepth 100000
namespace Mine
theorem pow_walk {prog : Program} {w : World} {A : Around} {E : Value → Shared → Prop} {s : Shared} {b e : Int} {t u : Tok} {n : Nat} {Q : Value → Shared → Prop} (hb : b = 3 ∨ b = 5 ∨ b = 7 ∨ b = 9)
    (hpow : ∀ i : Nat, i ≤ n → 0 < b ^ i ∧ b ^ i < 1073741824) (h0 : 0 ≤ e) (h1 : e ≤ (n : Int)) (hn : n ≤ 40)
    (h : ∀ t tk, 0 < b ^ e.toNat → b ^ e.toNat < 1073741824 → Q (.int (b ^ e.toNat) t) { s with toks := tk }) :
    wpAny (model prog w) A (binaryOp .Pow (.int b t) (.int e u)) Q E s := by
  have hp := hpow e.toNat (by omega)
  by_cases he : e = 0
  · subst he
    have := h s.toks (s.toks + 1) hp.1 hp.2
    simp only [Int.toNat_zero, Int.pow_zero] at this
    exact PySem.AutoIntOps.pow_0 (by omega) (by decide) this
  · refine PySem.AutoIntOps.pow_4 (by omega) (by simpa using he) ?_ ?_ ?_ (h _ _ hp.1 hp.2)
    · rcases hb with rfl | rfl | rfl | rfl <;> decide
    · rcases hb with rfl | rfl | rfl | rfl <;> decide
    · have hk : ∀ k : Nat, k ≤ 8 → ¬ Builtin.Int.intTooBig (((k : Nat) : Int) * e) = true := fun k hk => by
        have : (k : Int) * e ≤ 8 * 40 := by
          calc (k : Int) * e ≤ 8 * e := Int.mul_le_mul_of_nonneg_right (by omega) h0
            _ ≤ 8 * 40 := by omega
        show ¬ decide ((k : Int) * e > _) = true
        rw [decide_eq_true_eq]
        intro hc
        have h2 : (320 : Int) ≤ (bitsLine : Int) := by decide
        omega
      rcases hb with rfl | rfl | rfl | rfl <;> exact hk _ (by decide)
end Mine
end

section
open PySem PySem.W PySem.Calls PyProof.Rows
set_option Elab.async false
set_option maxRecDepth 100000
namespace Mine
open PySem.AutoSeq1 (wpAny_loadPart')
open PySem.MeetsSeq PySem.MeetsSeq2 PySem.MeetsSeq3 PySem.SeqAt

theorem lt_loop (l b : Addr) (items items2 : Array Value) (n n2 : Nat) (dd dd2 : Option Addr) (sl sl2 : Array (Option Value)) (hsz : items.size = items2.size) (xs ys : List Int) (hxs : IntsAre items.toList xs) (hys : IntsAre items2.toList ys) (k : Nat) :
    ∀ i : Nat, items.size - i = k → Meets (Builtin.«list.__eq__.loop» ⟨[.ref l, .ref b, rawInt i, rawInt 0], []⟩)
      (fun _ R s => s.heap.get? l = some { cls := .type "list", dict := dd, data := .seq items n, slots := sl } ∧ s.heap.get? b = some { cls := .type "list", dict := dd2, data := .seq items2 n2, slots := sl2 } ∧
        R (.ok (.ret (.bool (lexLt (xs.drop i) (ys.drop i))))) s) := by
  have lx : xs.length = items.size := by rw [← hxs.length, Array.length_toList]
  have ly : ys.length = items2.size := by rw [← hys.length, Array.length_toList]
  induction k with
  | zero =>
    intro i hk prog w A R s h
    obtain ⟨hp, g, d, tk, os⟩ := s; obtain ⟨hl, hb, h⟩ := h
    wp_walk using wpAny_loadPart' hl, wpAny_loadPart' hb
    have hi1 : items[((i : Nat) : Int).toNat]? = none := by simp; omega
    have hi2 : items2[((i : Nat) : Int).toNat]? = none := by simp; omega
    have hd : xs.drop i = [] := by simp; omega
    rw [hd] at h
    rw [hi1, hi2]
    wp_walk using wpAny_loadPart' hl, wpAny_loadPart' hb
    show R (.ok (.ret (.bool (decide (items.size < items2.size))))) _
    rw [hsz]
    simpa [lexLt] using h
  | succ k ih =>
    intro i hk prog w A R s h
    obtain ⟨hp, g, d, tk, os⟩ := s; obtain ⟨hl, hb, h⟩ := h
    wp_walk using wpAny_loadPart' hl, wpAny_loadPart' hb
    have hlt : i < items.size := by omega
    have hlt2 : i < items2.size := by omega
    obtain ⟨t, ht⟩ := hxs.get i xs[i] (by simp [lx, hlt])
    obtain ⟨u, hu⟩ := hys.get i ys[i] (by simp [ly, hlt2])
    have hi1 : items[((i : Nat) : Int).toNat]? = some (.int xs[i] t) := by simpa using ht
    have hi2 : items2[((i : Nat) : Int).toNat]? = some (.int ys[i] u) := by simpa using hu
    have hdx : xs.drop i = xs[i] :: xs.drop (i + 1) := by rw [List.drop_eq_getElem_cons]
    have hdy : ys.drop i = ys[i] :: ys.drop (i + 1) := by rw [List.drop_eq_getElem_cons]
    have hc : ((i : Int) + 1) = ((i + 1 : Nat) : Int) := by push_cast; rfl
    rw [hdx, hdy, lexLt] at h
    rw [hi1, hi2]
    refine wpAny_bind (EqAt.int_int xs[i] t ys[i] u prog w _ _ ?_)
    cases hb' : xs[i] == ys[i] with
    | true =>
      rw [hb'] at h
      wp_walk
      rw [hc]
      exact ⟨plainId_quiet plain_eq_loop _, codeAny_builtin entry_eq_loop (by
        rw [Around.under_plainId plain_eq_loop _]
        exact ih (i + 1) (by omega) prog w A R _ ⟨hl, hb, by simpa using h⟩)⟩
    | false =>
      rw [hb'] at h
      wp_walk using wpAny_loadPart' hl, wpAny_loadPart' hb
      rw [hi1, hi2]
      refine wpAny_bind ?_
      refine PyProof.Rows.lt_int (a := xs[i]) (b := ys[i]) ?_
      wp_walk
      simpa using h

theorem list_lt (l b : Addr) (items items2 : Array Value) (n n2 : Nat) (dd dd2 : Option Addr) (sl sl2 : Array (Option Value)) (hsz : items.size = items2.size) (xs ys : List Int) (hxs : IntsAre items.toList xs) (hys : IntsAre items2.toList ys) :
    Meets (Builtin.«list.__lt__» ⟨[.ref l, .ref b], []⟩)
      (fun _ R s => s.heap.get? l = some { cls := .type "list", dict := dd, data := .seq items n, slots := sl } ∧ s.heap.get? b = some { cls := .type "list", dict := dd2, data := .seq items2 n2, slots := sl2 } ∧
        R (.ok (.ret (.bool (lexLt xs ys)))) s) := by
  intro prog w A R s h
  obtain ⟨hp, g, d, tk, os⟩ := s; obtain ⟨hl, hb, h⟩ := h
  have f3 := AutoSeq1.sub_list_list
  wp_walk using wpAny_loadPart' hl, wpAny_loadPart' hb
  exact ⟨plainId_quiet plain_eq_loop _, codeAny_builtin entry_eq_loop (by
    rw [Around.under_plainId plain_eq_loop _]
    exact lt_loop l b items items2 n n2 dd dd2 sl sl2 hsz xs ys hxs hys _ 0 rfl prog w A R _ ⟨hl, hb, by simpa using h⟩)⟩

theorem lt_intsK {prog : Program} {w : World} {A : Around} {E : Value → Shared → Prop} {s : Shared} {a b : Addr} {vs us : List Value} {ns ms : List Int} {Q : Value → Shared → Prop} (hl : s.heap.IsList a vs.toArray) (hi : IntsAre vs ns) (hl' : s.heap.IsList b us.toArray) (hi' : IntsAre us ms) (hn : ns.length = ms.length) (hu : A.units + 64 < cLine)
    (h : Q (.bool (lexLt ns ms)) s) : wpAny (model prog w) A (compareOp .Lt (.ref a) (.ref b)) Q E s := by
  obtain ⟨⟨cls, dd, data, sl⟩, ho, hc, n, hd⟩ := id hl
  obtain ⟨⟨cls2, dd2, data2, sl2⟩, ho2, hc2, n2, hd2⟩ := id hl'
  simp only at hc hd hc2 hd2
  subst hc hd hc2 hd2
  exact richCompare_meets_room (op := .Lt) ⟨_, ho, rfl⟩ ⟨_, ho2, rfl⟩ F.slot_list_lt F.entry_list_lt (F.args_list_lt_2 _ _) (list_lt a b vs.toArray us.toArray n n2 dd dd2 sl sl2 (by rw [List.size_toArray, List.size_toArray, hi.length, hi'.length, hn]) ns ms (by simpa using hi) (by simpa using hi'))
    ⟨ho, ho2, (fun e => nomatch e), h⟩ (by omega)
end Mine
end

section
open PySem PySem.W PySem.Calls PyProof.Rows
set_option Elab.async false
set_option maxRecDepth 100000
namespace Mine

/-- a list of rows: each a list of the ledger's that holds what f tells of its number -/
inductive RowsAre {α : Type} (f : α → List Int) (rl : List (Addr × Obj)) : List Value → List α → Prop
  | nil : RowsAre f rl [] []
  | cons {l : Addr} {us : List Value} {c : Nat} {k : α} {vs : List Value} {ks : List α} : (l, W.listOf us.toArray c) ∈ rl → IntsAre us (f k) → RowsAre f rl vs ks → RowsAre f rl (.ref l :: vs) (k :: ks)

theorem RowsAre.mono {α : Type} {f : α → List Int} {rl rl' : List (Addr × Obj)} (hs : ∀ p ∈ rl, p ∈ rl') : ∀ {vs : List Value} {ks : List α}, RowsAre f rl vs ks → RowsAre f rl' vs ks
  | _, _, .nil => .nil
  | _, _, .cons h i r => .cons (hs _ h) i (r.mono hs)
theorem RowsAre.snoc {α : Type} {f : α → List Int} {rl : List (Addr × Obj)} {l : Addr} {us : List Value} {c : Nat} {k : α} (h : (l, W.listOf us.toArray c) ∈ rl) (i : IntsAre us (f k)) : ∀ {vs : List Value} {ks : List α}, RowsAre f rl vs ks → RowsAre f rl (vs ++ [.ref l]) (ks ++ [k])
  | _, _, .nil => .cons h i .nil
  | _, _, .cons h' i' r => .cons h' i' (r.snoc h i)
theorem RowsAre.length {α : Type} {f : α → List Int} {rl : List (Addr × Obj)} : ∀ {vs : List Value} {ks : List α}, RowsAre f rl vs ks → vs.length = ks.length
  | _, _, .nil => rfl
  | _, _, .cons _ _ r => by simp [r.length]
theorem RowsAre.get {α : Type} {f : α → List Int} {rl : List (Addr × Obj)} : ∀ {vs : List Value} {ks : List α}, RowsAre f rl vs ks → ∀ (i : Nat) (k : α), ks[i]? = some k → ∃ l us c, vs[i]? = some (.ref l) ∧ (l, W.listOf (List.toArray us) c) ∈ rl ∧ IntsAre us (f k)
  | _, _, .nil, i, k, h => by simp at h
  | _, _, .cons h i r, 0, k, e => by
    simp at e
    subst e
    exact ⟨_, _, _, rfl, h, i⟩
  | _, _, .cons h i r, j + 1, k, e => by
    obtain ⟨l, us, c, a, b, d⟩ := r.get j k (by simpa using e)
    exact ⟨l, us, c, by simpa using a, b, d⟩

/-- what a turn of the comprehension leaves: one list more -/
def RowEnd (h₀ : Heap) (L : Addr) (m : Str → Option Value) (s : Shared) (led : List (Addr × Obj)) (row : List Int) (y : Value) (s₂ : Shared) : Prop :=
  ∃ l us c h' tk', y = .ref l ∧ s₂ = { s with heap := h', toks := tk' } ∧ Fr h₀ L h' m ∧ News h₀ L h' ((l, W.listOf (List.toArray us) c) :: led) ∧ (∀ p ∈ led, p.1 < l) ∧ IntsAre us row

theorem rows_rest {prog : Program} {w : World} {A : Around} {h₀ : Heap} {L : Addr} {m : Str → Option Value} {env : Env} {elt : Expr} {x : Str} {scope : Scope} {cl : List (Str × Addr)} {s : Shared} {S : List (Addr × Obj) → Prop} {P : Nat → Value → Prop} {Fin : List Value → List (Addr × Obj) → Prop} {news : List (Addr × Obj)}
    {n : Nat} {α : Type} {ks : List α} (f : α → List Int) (Rv : α → Value → Prop) (hks : ks.length = n) (hP : ∀ i v, i < n → P i v → ∃ k, ks[i]? = some k ∧ Rv k v) (hS : ∀ rl, S (rl ++ news))
    (turn : ∀ k v I oI C oC D m₂ ys rl h tk (E' : Value → Shared → Prop), k ∈ ks → Rv k v → LCg.NsObj oC m₂ → m₂ x = some v → Fr h₀ L h m → News h₀ L h ((I, oI) :: (C, oC) :: (D, LCg.lst ys) :: (rl ++ news)) →
      wpAny (model prog w) A (eval elt (compEnvC scope cl C env)) (RowEnd h₀ L m s ((I, oI) :: (C, oC) :: (D, LCg.lst ys) :: (rl ++ news)) (f k)) E' { s with heap := h, toks := tk })
    (fin : ∀ ys rl, RowsAre f rl ys ks → Fin ys (rl ++ news)) : LCg.CompRest prog w A h₀ L m env elt x scope cl s S P Fin n 0 [] news := by
  have key : ∀ (j i : Nat) (ys : List Value) (rl : List (Addr × Obj)), i + j = n → RowsAre f rl ys (ks.take i) → LCg.CompRest prog w A h₀ L m env elt x scope cl s S P Fin j i ys (rl ++ news) := by
    intro j
    induction j with
    | zero =>
      intro i ys rl hi hy
      have e : i = ks.length := by omega
      subst e
      rw [List.take_length] at hy
      exact LCg.CompRest.zero (fin ys rl hy)
    | succ j ih =>
      intro i ys rl hi hy
      refine LCg.CompRest.succ ?_
      intro v I oI C oC D m₂ h tk E' hv hC hx F N off ne
      obtain ⟨k, hk, hv'⟩ := hP i v (by omega) hv
      refine wpAny_mono (turn k v I oI C oC D m₂ ys rl h tk E' (List.mem_of_getElem? hk) hv' hC hx F N) (fun y s₂ hq => ?_) fun _ _ e => e
      obtain ⟨l, us, c, h', tk', rfl, rfl, F', N', hlt, hI⟩ := hq
      refine ⟨h', tk', (l, W.listOf us.toArray c) :: (rl ++ news), rfl, F', (fun p hp => N' p ?_), ⟨⟨Nat.ne_of_gt (hlt _ (.head _)), Nat.ne_of_gt (hlt _ (.tail _ (.head _))), Nat.ne_of_gt (hlt _ (.tail _ (.tail _ (.head _))))⟩, off⟩, hS ((l, W.listOf us.toArray c) :: rl), ?_⟩
      · simp only [List.mem_cons] at hp ⊢
        rcases hp with h | h | h | h | h
        · exact .inr (.inl h)
        · exact .inr (.inr (.inl h))
        · exact .inr (.inr (.inr (.inl h)))
        · exact .inl h
        · exact .inr (.inr (.inr (.inr h)))
      · refine ih (i + 1) _ ((l, W.listOf us.toArray c) :: rl) (by omega) ?_
        rw [List.take_add_one, hk]
        exact (hy.mono fun p hp => .tail _ hp).snoc (.head _) hI
  exact key n 0 [] [] (by omega) (by simp only [List.take_zero]; exact .nil)

theorem rows_list {prog : Program} {w : World} {A : Around} {h₀ : Heap} {L : Addr} {m : Str → Option Value} {env : Env} {elt : Expr} {x : Str} {scope : Scope} {cl : List (Str × Addr)} {s : Shared} {S : List (Addr × Obj) → Prop} {Fin : List Value → List (Addr × Obj) → Prop} {news : List (Addr × Obj)}
    {vs : List Value} {ns : List Int} (f : Int → List Int) (hi : IntsAre vs ns) (hS : ∀ rl, S (rl ++ news))
    (turn : ∀ k t I oI C oC D m₂ ys rl h tk (E' : Value → Shared → Prop), k ∈ ns → LCg.NsObj oC m₂ → m₂ x = some (.int k t) → Fr h₀ L h m → News h₀ L h ((I, oI) :: (C, oC) :: (D, LCg.lst ys) :: (rl ++ news)) →
      wpAny (model prog w) A (eval elt (compEnvC scope cl C env)) (RowEnd h₀ L m s ((I, oI) :: (C, oC) :: (D, LCg.lst ys) :: (rl ++ news)) (f k)) E' { s with heap := h, toks := tk })
    (fin : ∀ ys rl, RowsAre f rl ys ns → Fin ys (rl ++ news)) : LCg.CompRest prog w A h₀ L m env elt x scope cl s S (fun i v => vs.toArray[i]? = some v) Fin vs.toArray.size 0 [] news :=
  rows_rest f (fun k v => ∃ t, v = .int k t) (by rw [List.size_toArray]; exact hi.length.symm) (fun i v _ hv => by
    obtain ⟨k, t, e, hk⟩ := IntsAre.at hi i v (by simpa using hv)
    exact ⟨k, hk, t, e⟩) hS (fun k v I oI C oC D m₂ ys rl h tk E' hk ⟨t, e⟩ hC hx F N => turn k t I oI C oC D m₂ ys rl h tk E' hk hC (e ▸ hx) F N) fin

/-- two rows at hand -/
theorem rows_pair {prog : Program} {w : World} {A : Around} {h₀ : Heap} {L : Addr} {m : Str → Option Value} {env : Env} {elt : Expr} {x : Str} {scope : Scope} {cl : List (Str × Addr)} {s : Shared} {S : List (Addr × Obj) → Prop} {Fin : List Value → List (Addr × Obj) → Prop} {news : List (Addr × Obj)}
    {l1 l2 : Addr} {us1 us2 : List Value} {xs1 xs2 : List Int} {c1 c2 : Nat} (f : List Int → List Int) (hm1 : (l1, W.listOf us1.toArray c1) ∈ news) (hm2 : (l2, W.listOf us2.toArray c2) ∈ news) (hi1 : IntsAre us1 xs1) (hi2 : IntsAre us2 xs2) (hS : ∀ rl, S (rl ++ news))
    (turn : ∀ l us xs c I oI C oC D m₂ ys rl h tk (E' : Value → Shared → Prop), (l, W.listOf (List.toArray us) c) ∈ news → IntsAre us xs → (xs = xs1 ∨ xs = xs2) → LCg.NsObj oC m₂ → m₂ x = some (.ref l) → Fr h₀ L h m → News h₀ L h ((I, oI) :: (C, oC) :: (D, LCg.lst ys) :: (rl ++ news)) →
      wpAny (model prog w) A (eval elt (compEnvC scope cl C env)) (RowEnd h₀ L m s ((I, oI) :: (C, oC) :: (D, LCg.lst ys) :: (rl ++ news)) (f xs)) E' { s with heap := h, toks := tk })
    (fin : ∀ v1 v2 rl, RowsAre f rl [v1, v2] [xs1, xs2] → Fin [v1, v2] (rl ++ news)) : LCg.CompRest prog w A h₀ L m env elt x scope cl s S (fun i v => #[Value.ref l1, Value.ref l2][i]? = some v) Fin 2 0 [] news := by
  refine rows_rest (ks := [xs1, xs2]) f (fun xs v => ∃ l us c, v = .ref l ∧ (l, W.listOf (List.toArray us) c) ∈ news ∧ IntsAre us xs) rfl (fun i v hi hv => ?_) hS (fun xs v I oI C oC D m₂ ys rl h tk E' hk ⟨l, us, c, e, hm, hI⟩ hC hx F N => ?_) (fun ys rl hR => ?_)
  · match i, hi with
    | 0, _ => exact ⟨xs1, rfl, l1, us1, c1, by simpa using hv.symm, hm1, hi1⟩
    | 1, _ => exact ⟨xs2, rfl, l2, us2, c2, by simpa using hv.symm, hm2, hi2⟩
  · exact turn l us xs c I oI C oC D m₂ ys rl h tk E' hm hI (by simpa using hk) hC (e ▸ hx) F N
  · have hl := hR.length
    match ys, hl with
    | [v1, v2], _ => exact fin v1 v2 rl hR
end Mine
end

section
open PySem PySem.W PyProof.Rows
set_option Elab.async false
set_option maxRecDepth 100000
set_option maxHeartbeats 8000000
namespace Mine

theorem fillT (_ : PySem.Challenge.rw_mj0328_01.Holds → ∀ P, (Mine.hd.heap_39 P).length = 0 → True) : True := trivial

theorem divn_tells {prog : Program} {w : World} {p : Program} {loose : List Str} {mean : ExcName → Option Value} {mg mb : Str → Option Value} {news : List (Addr × Obj)} {x : Int} {ta : Tok} {b : Int} {tb : Tok}
    {dp un : Nat} {gd : Option (List Code)} {cn : Str} {cs : Scope} {a : Addr} {ccd : Value} {cl : List (Str × Addr)} {outer : List Env} {A₀ : Around} {base h₀ : Heap} {L : Addr} {m : Str → Option Value} {s : Shared} {Q E : Value → Shared → Prop}
    (B : Below A₀ base outer h₀) (F : Fr h₀ L s.heap m) (X : (Mine.hd.heap_39 w.params).In h₀) (N : News h₀ L s.heap news) (T : Top p loose mean mg mb h₀) (hk : cs.kind = .function)
    (hb0 : 0 < b) (hb1 : b < 1073741824) (hx0 : -1073741824 < x) (hx1 : x < 1073741824) (hd : dp + 1 < recursionLimit) (hu : un + 8 < cLine)
    (hret : ∀ (t : Tok) (h' : Heap) (tk' : Nat), Fr h₀ L h' m → News h₀ L h' news → Q (.int (nearest x b) t) { s with heap := h', toks := tk' }) :
    wpAny (model prog w) (ktrTop dp un gd cn cs L a ccd cl outer) (call (.ref 21) [.int x ta, .int b tb]) Q E s := by
  have : True := fillT (by k_fill; intros; trivial)
  clear this
  w_top off
  have hb2 : b ≠ 0 := by omega
  refine wpAny_call ?_
  k_dflt cell_enter
  k_steps
  refine' cb_retI hret ?_ ?_ ?_
  · unfold nearest
    rw [bitAnd_m1, Int.fdiv_eq_ediv_of_nonneg _ (by omega), Int.fmod_eq_emod_of_nonneg _ (by omega)]
    simp
  · k_asm
  · refine' cb_drop ?cbN ?cbS; (case cbN => assumption); (case cbS => kcj_all)

local macro_rules | `(tactic| walk_at "call ref") => `(tactic| (k_here; (with_reducible show wpAny _ _ (call (Value.ref 21) [Value.int _ _, Value.int _ _]) _ _ _); k_dflt (refine' divn_tells ?k1 ?k2 ?k3 ?k4 ?k5 ?kK ?b0 ?b1 ?x0 ?x1 ?kd ?ku ?_; (case k1 => k_asm); (case k2 => k_asm); (case k3 => k_asm); (case k4 => k_asm); (case k5 => k_asm); (case kK => first | exact rfl | assumption); (case b0 => omega); (case b1 => omega); (case x0 => omega); (case x1 => omega); (case kd => ktr_room); (case ku => ktr_units); intro t9 h9 tk9 F9 N9; (try dsimp only); (try k_fold))))

theorem figs_tells {prog : Program} {w : World} {p : Program} {loose : List Str} {mean : ExcName → Option Value} {mg mb : Str → Option Value} {news : List (Addr × Obj)} {x : Int} {ta : Tok} {b : Int} {tb : Tok}
    {dp un : Nat} {gd : Option (List Code)} {cn : Str} {cs : Scope} {a : Addr} {ccd : Value} {cl : List (Str × Addr)} {outer : List Env} {A₀ : Around} {base h₀ : Heap} {L : Addr} {m : Str → Option Value} {s : Shared} {Q E : Value → Shared → Prop}
    (B : Below A₀ base outer h₀) (F : Fr h₀ L s.heap m) (X : (Mine.hd.heap_39 w.params).In h₀) (N : News h₀ L s.heap news) (T : Top p loose mean mg mb h₀) (hk : cs.kind = .function)
    (hb0 : 2 < b) (hb1 : b < 10) (hx0 : -4000000 < x) (hx1 : x < 4000000) (hd : dp + 2 < recursionLimit) (hu : un + 16 < cLine)
    (hret : ∀ (l : Addr) (us : List Value) (c : Nat) (h' : Heap) (tk' : Nat), Fr h₀ L h' m → News h₀ L h' ((l, listOf us.toArray c) :: news) → (∀ p ∈ news, p.1 < l) → IntsAre us (figs 15 x b) → Q (.ref l) { s with heap := h', toks := tk' }) :
    wpAny (model prog w) (ktrTop dp un gd cn cs L a ccd cl outer) (call (.ref 28) [.int x ta, .int b tb]) Q E s := by
  have : True := fillT (by k_fill; intros; trivial)
  clear this
  w_top off
  k_with_none
  k_with "pyIter ref" => fail "mine"
  k_with "state" => first
    | exact FigInv.start (by assumption) (by assumption)
    | exact FigInv.turn (by assumption) (by assumption) (by assumption) (by assumption) (by assumption) (by assumption) (by omega) (by assumption)
    | exact FigInv.still (by assumption) (by assumption) (by assumption) (by assumption) (by assumption)
  refine wpAny_call ?_
  k_dflt cell_enter
  iterate 30 (all_goals (first | (with_reducible show wpAny _ _ (pyIter (Value.ref _)) _ _ _) | (k_unfold; (try dsimp only)) | (k_end; wrow_close) | walk1 | (dsimp only; walk1) | (leave1; walk_say "STEP leave1"; try dsimp only) | skip))
  rename Fr _ _ _ _ => lF'
  rename News _ _ _ _ => lN'
  rename IsRange _ _ _ _ _ _ _ _ => rgX
  refine' kst_range (σ := Int × Nat × List Value × List Int × Nat) (fun c => (_, listOf c.2.2.1.toArray c.2.2.2.2) :: _) (fun c => [(Str.ofString "number", Value.int c.1 c.2.1)]) (fun c => IntsAre c.2.2.1 c.2.2.2.1) [Str.ofString "told"] (fun pre c => FigInv x b pre.length c.1 c.2.2.2.1 ∧ -4000000 < c.1 ∧ c.1 < 4000000 ∧ c.2.2.2.1.length ≤ pre.length) (x, ta, [], [], 0) ?hh rgX ?hs ?hn lF' lN' ?kf ?kk ?kp ?_ ?_
  case hh => exact rfl
  case hs => decide
  case hn => first | exact rangeSize_nat _ _ | rfl
  case kf => exact .nil
  case kk => kst_all
  case kp => kst_p
  · rintro ⟨num, tn, vs, fs, cn⟩ pre k t u h tk own hk hlt hoff hf ⟨hI, hn0, hn1, hl⟩ F N
    dsimp only [kstB] at F
    dsimp only at N hf hI hn0 hn1 hl hoff
    simp only [List.nil_append, List.cons_append, List.append_nil] at N
    simp only [List.map_cons, List.map_nil] at hoff
    have kMark := kstMark
    have kLen := IntsAre.length hf
    try dsimp only
    try k_fold
    k_steps
  · rintro ⟨num, tn, vs, fs, cn⟩ u h tk hf ⟨hI, hn0, hn1, hl⟩ F N
    dsimp only [kstB] at F
    dsimp only at N hf hI hn0 hn1 hl
    have kMark := kstMark
    try dsimp only
    try dsimp only
    try k_fold
    k_steps
    rw [FigInv.last hI (by rfl)] at hret
    exact hret _ _ _ _ _ (by k_asm) (by k_asm) (by assumption) hf
end Mine
end

section
open PySem PySem.W PyProof.Rows
set_option Elab.async false
set_option maxRecDepth 100000
set_option maxHeartbeats 8000000
namespace Mine

theorem getD_pad (xs : List Int) (k : Nat) (h : k < 30) : (xs ++ (List.replicate (Int.toNat 30) [(0 : Int)]).flatten).getD k 0 = xs.getD k 0 := by
  have e : (List.replicate (Int.toNat 30) [(0 : Int)]).flatten = List.replicate 30 0 := by decide
  rw [e, List.getD_eq_getElem?_getD, List.getD_eq_getElem?_getD]
  by_cases hk : k < xs.length
  · rw [List.getElem?_append_left hk]
  · rw [List.getElem?_append_right (by omega), List.getElem?_replicate, if_pos (by omega), List.getElem?_eq_none (by omega)]
    rfl

theorem item_pad {prog : Program} {w : World} {A : Around} {E : Value → Shared → Prop} {s : Shared} {value slice : PySem.Expr} {l : Addr} {vs : List Value} {xs : List Int} {k : Int} {u : Tok} {Q : Value → Shared → Prop} (hl : s.heap.IsList l vs.toArray) (hi : IntsAre vs (xs ++ (List.replicate (Int.toNat 30) [(0 : Int)]).flatten))
    (h0 : 0 ≤ k) (h1 : k < 30) (h : ∀ t, Q (.int (xs.getD k.toNat 0) t) s)
    (hs : subscripted slice false (.ref l) (.int k u) = operate [.ref l, .int k u] (getItem (.ref l) (.int k u)) := by with_unfolding_all rfl) :
    wpAny (model prog w) A (subscriptTail value slice (.ref l) (.int k u)) Q E s := by
  have e : (List.replicate (Int.toNat 30) [(0 : Int)]).flatten = List.replicate 30 0 := by decide
  refine item_anyK hl hi h0 (by rw [e, List.length_append, List.length_replicate]; omega) (by omega) (fun t => ?_) hs
  rw [getD_pad _ _ (by omega)]
  exact h t

local macro_rules | `(tactic| walk_at "subscriptTail") => `(tactic| (k_here; (with_reducible show wpAny _ _ (subscriptTail _ _ (Value.ref _) (Value.int _ _)) _ _ _); (with_unfolding_all refine' item_pad ?k1 ?k2 ?k3 ?k4 ?_ ?k6; (case k1 => is_list); (case k2 => with_reducible assumption); (case k3 => omega); (case k4 => omega); (case k6 => with_unfolding_all rfl); k_whole); intro _))

local macro_rules | `(tactic| walk_at "compareOp NotEq ref ref") => `(tactic| (k_here; (with_reducible show wpAny _ _ (compareOp CmpOp.NotEq (Value.ref _) (Value.ref _)) _ _ _); (with_unfolding_all refine' ne_intsK ?k1 ?k2 ?k3 ?k4 ?k5 ?_; (case k1 => is_list); (case k2 => l_ints); (case k3 => is_list); (case k4 => l_ints); (case k5 => first | units_room | ktr_units); k_whole)))

theorem item_last {prog : Program} {w : World} {A : Around} {E : Value → Shared → Prop} {s : Shared} {value slice : PySem.Expr} {l : Addr} {vs : List Value} {ns : List Int} {u : Tok} {Q : Value → Shared → Prop} (hl : s.heap.IsList l vs.toArray) (hi : IntsAre vs ns)
    (hne : decide (ns = []) = false) (hz : ns.length ≤ 16) (h : ∀ t, Q (.int (ns.getD (ns.length - 1) 0) t) s)
    (hs : subscripted slice false (.ref l) (.int (-1) u) = operate [.ref l, .int (-1) u] (getItem (.ref l) (.int (-1) u)) := by with_unfolding_all rfl) :
    wpAny (model prog w) A (subscriptTail value slice (.ref l) (.int (-1) u)) Q E s := by
  have hlen := hi.length
  have hpos : 0 < ns.length := List.length_pos_iff.mpr (of_decide_eq_false hne)
  obtain ⟨t, ht⟩ := hi.get (ns.length - 1) (ns.getD (ns.length - 1) 0) (by rw [List.getD_eq_getElem?_getD, List.getElem?_eq_getElem (by omega)]; rfl)
  refine tail_any hl.typeIs slot_list_getitem.lookup (wpAny_getItem_list_neg hl (by omega) (by rw [List.size_toArray]; omega) (by omega) ?_ (h t)) hs
  rw [List.size_toArray, show ((-1 : Int) + (vs.length : Int)).toNat = ns.length - 1 by omega]
  simpa using ht

local macro_rules | `(tactic| walk_at "subscriptTail") => `(tactic| (k_here; (with_reducible show wpAny _ _ (subscriptTail _ _ (Value.ref _) (Value.int (-1) _)) _ _ _); (with_unfolding_all refine' item_last ?k1 ?k2 ?k3 ?k4 ?_ ?k6; (case k1 => is_list); (case k2 => l_ints); (case k3 => assumption); (case k4 => omega); (case k6 => with_unfolding_all rfl); k_whole); intro _))

theorem pure_back {h₀ g h' : Heap} {L L' l : Addr} {o : Obj} {m' : Str → Option Value} {news news' : List (Addr × Obj)} (N : News h₀ L g news) (F' : Fr g L' h' m') (N' : News g L' h' news') (kN : News h₀ L h' news') (hm : (l, o) ∈ news') :
    News h₀ L h' ((l, o) :: news) ∧ ∀ p ∈ news, p.1 ≠ l := by
  refine ⟨fun p hp => ?_, fun p hp e => ?_⟩
  · rcases List.mem_cons.mp hp with rfl | hp
    · exact kN _ hm
    · exact ⟨F'.keep _ _ (N p hp).1, (N p hp).2⟩
  · have h1 := (N' _ hm).2.2
    rw [← e, (N p hp).1] at h1
    cases h1

theorem news_second {h₀ h : Heap} {L l : Addr} {q : Addr × Obj} {o : Obj} (N : News h₀ L h [q, (l, o)]) : News h₀ L h [(l, o)] := fun p hp => N p (.tail _ hp)

theorem added_tells {prog : Program} {w : World} {p : Program} {loose : List Str} {mean : ExcName → Option Value} {mg mb : Str → Option Value} {news : List (Addr × Obj)} {b : Int} {tb : Tok}
    {l1 l2 : Addr} {us1 us2 : List Value} {ns1 ns2 : List Int}
    {dp un : Nat} {gd : Option (List Code)} {cn : Str} {cs : Scope} {a : Addr} {ccd : Value} {cl : List (Str × Addr)} {outer : List Env} {A₀ : Around} {base h₀ : Heap} {L : Addr} {m : Str → Option Value} {s : Shared} {Q E : Value → Shared → Prop}
    (B : Below A₀ base outer h₀) (F : Fr h₀ L s.heap m) (X : (Mine.hd.heap_39 w.params).In h₀) (N : News h₀ L s.heap news) (T : Top p loose mean mg mb h₀) (hk : cs.kind = .function)
    (hl1 : s.heap.IsList l1 us1.toArray) (hl2 : s.heap.IsList l2 us2.toArray) (hi1 : IntsAre us1 ns1) (hi2 : IntsAre us2 ns2) (hn1 : ns1.length ≤ 15) (hn2 : ns2.length ≤ 15)
    (hb0 : 2 < b) (hb1 : b < 10) (hd : dp + 2 < recursionLimit) (hu : un + 200 < cLine)
    (hret : ∀ (l : Addr) (us : List Value) (c : Nat) (h' : Heap) (tk' : Nat), Fr h₀ L h' m → News h₀ L h' ((l, listOf us.toArray c) :: news) → (∀ p ∈ news, p.1 ≠ l) → IntsAre us (added b ns1 ns2) → Q (.ref l) { s with heap := h', toks := tk' }) :
    wpAny (model prog w) (ktrTop dp un gd cn cs L a ccd cl outer) (call (.ref 35) [.ref l1, .ref l2, .int b tb]) Q E s := by
  have : True := fillT (by k_fill; intros; trivial)
  clear this
  w_top off
  k_with_none
  k_with "pyIter ref" => fail "mine"
  k_with "state" => exact AddInv.turnG (by assumption) (by assumption) (by assumption) (by assumption) (by first | exact carry_up (by assumption) | exact carry_down (by assumption) (by assumption) | exact carry_none (by assumption) (by assumption))
  k_with "state" => exact trim_turn (by assumption) (by assumption) (by assumption) (by assumption)
  k_with "measure" => exact trim_less (by assumption)
  have kMark := kstMark
  have hul1 := IntsAre.length hi1
  have hul2 := IntsAre.length hi2
  refine wpAny_call ?_
  k_dflt (refine' code_pure B F X T ?kA ?kF ?kK ?k6 ?k7 ?k8 ?k9 ?kB ?_ ?c2 ?c3 ?c4 ?c5; (case kA => exact rfl); (case kF => exact rfl); (case kK => assumption); (case k6 => k_is); (case k7 => k_is); (case k8 => ktr_room); (case k9 => exact BindsTo.of_eq rfl); (case c5 => decide); (case kB => exact locs rfl); (case c2 => exact rfl); (case c3 => exact rfl); (case c4 => exact rfl))
  intro g L' h' hg FG' F' N' B' X' T'
  rw [hg] at hl1 hl2
  have Ng : News h₀ L g news := hg ▸ N
  try dsimp only
  try k_fold
  iterate 80 (all_goals (first | (with_reducible show wpAny _ _ (pyIter (Value.ref _)) _ _ _) | (first | (k_unfold; (try dsimp only)) | (k_end; wrow_close) | walk1 | (dsimp only; walk1) | (leave1; walk_say "STEP leave1"; try dsimp only)) | skip))
  rename Fr _ _ _ _ => lF'
  rename News _ _ _ _ => lN'
  rename IsRange _ _ _ _ _ _ _ _ => rgX
  rw [max_if] at rgX
  have hN : ((((max ns1.length ns2.length : Nat) : Int) + 1) - 0).toNat = max ns1.length ns2.length + 1 := by omega
  refine' kst_range (n := max ns1.length ns2.length + 1) (σ := Int × Nat × List Value × List Int × Nat) (fun c => [_, (_, listOf c.2.2.1.toArray c.2.2.2.2)]) (fun c => [(Str.ofString "carry", Value.int c.1 c.2.1)]) (fun c => IntsAre c.2.2.1 c.2.2.2.1) [Str.ofString "figure"] (fun pre c => AddInv b ns1 ns2 (max ns1.length ns2.length + 1) pre.length c.1 c.2.2.2.1 ∧ -1 ≤ c.1 ∧ c.1 ≤ 1 ∧ c.2.2.2.1.length ≤ pre.length) (0, _, [], [], 0) ?hh rgX ?hs ?hn lF' lN' ?kf ?kk ?kp ?_ ?_
  case hh => exact rfl
  case hs => exact small_one (by omega) (by omega) (by omega) (by omega)
  case hn => rw [← hN]; exact rangeSize_nat _ _
  case kf => exact .nil
  case kk => kst_all
  case kp => exact AddInv.start
  · rintro ⟨cy, tn, vs, fs, cn⟩ pre k t u h tk own hk hlt hoff hf ⟨hI, hc0, hc1, hl⟩ F N
    dsimp only [kstB] at F
    dsimp only at N hf hI hc0 hc1 hl hoff
    simp only [List.nil_append, List.cons_append, List.append_nil] at N
    simp only [List.map_cons, List.map_nil] at hoff
    have kLen := IntsAre.length hf
    try dsimp only
    try k_fold
    iterate 80 (all_goals (first | (with_reducible show InvEndN _ _ _ _ _ _ _) | (first | (k_unfold; (try dsimp only)) | (k_end; wrow_close) | walk1 | (dsimp only; walk1) | (leave1; walk_say "STEP leave1"; try dsimp only)) | skip))
    all_goals kst_close
  · rintro ⟨cy, tn, vs, fs, cn⟩ u h tk hf ⟨hI, hc0, hc1, hl⟩ F4 N4
    dsimp only [kstB] at F4
    dsimp only at N4 hf hI hc0 hc1 hl
    try dsimp only
    try k_fold
    iterate 6 (all_goals (first | (with_reducible show wpAny _ _ (exec (Stmt.While _ _ _ _) _) _ _ _) | (first | (k_unfold; (try dsimp only)) | (k_end; wrow_close) | walk1 | (dsimp only; walk1) | (leave1; walk_say "STEP leave1"; try dsimp only)) | skip))
    rw [rangeKs_length] at hI hl
    have hT := hI.last rfl
    have N3 := news_second N4
    have F3 := F4
    refine' ksw_while (σ := Addr × List Value × List Int × Nat) (fun c => [(c.1, listOf c.2.1.toArray c.2.2.2)]) (fun c => [(Str.ofString "total", Value.ref c.1)]) (fun c => IntsAre c.2.1 c.2.2.1) [] (fun c => trim c.2.2.1 = trim fs ∧ c.2.2.1.length ≤ 16) (fun c => c.2.2.1.length) (_, vs, fs, cn) F3 N3 hf ?kk ?kp ?_
    case kk => kst_all
    case kp => exact ⟨rfl, by dsimp only; omega⟩
    rintro ⟨lt, vt, ft, ct⟩ u' h2 tk2 hf2 ⟨hP, hP2⟩ F2 N2
    dsimp only [kstB] at F2
    dsimp only at N2 hf2 hP hP2
    have kLen2 := IntsAre.length hf2
    try dsimp only
    try k_fold
    iterate 45 (all_goals (first | (with_reducible show KswEnd _ _ _ _ _ _ _ _ _ _ _ _) | (with_reducible show Q _ _) | (first | (k_unfold; (try dsimp only)) | (k_end; wrow_close) | walk1 | (dsimp only; walk1) | (leave1; walk_say "STEP leave1"; try dsimp only)) | skip))
    rotate_left
    · ksw_close
    all_goals (
      have hE := trim_end hP (by first | exact Or.inl (by assumption) | exact Or.inr (by assumption))
      have hB := pure_back Ng (by assumption) (by assumption) (by assumption) (List.Mem.tail _ (List.Mem.head _))
      rw [hE, ← hT] at hf2
      exact hret _ _ _ _ _ (by assumption) hB.1 hB.2 hf2)
end Mine
end

section
open PySem PySem.W PyProof.Rows
set_option Elab.async false
set_option maxRecDepth 100000
set_option maxHeartbeats 8000000
namespace Mine

local macro_rules | `(tactic| walk_at "call ref") => `(tactic| (k_here; (with_reducible show wpAny _ _ (call (Value.ref 21) [Value.int _ _, Value.int _ _]) _ _ _); k_dflt (refine' divn_tells ?k1 ?k2 ?k3 ?k4 ?k5 ?kK ?b0 ?b1 ?x0 ?x1 ?kd ?ku ?_; (case k1 => k_asm); (case k2 => k_asm); (case k3 => k_asm); (case k4 => k_asm); (case k5 => k_asm); (case kK => first | exact rfl | assumption); (case b0 => omega); (case b1 => omega); (case x0 => omega); (case x1 => omega); (case kd => ktr_room); (case ku => ktr_units); intro t9 h9 tk9 F9 N9; (try dsimp only); (try k_fold))))
local macro_rules | `(tactic| walk_at "call ref") => `(tactic| (k_here; (with_reducible show wpAny _ _ (call (Value.ref 28) [Value.int _ _, Value.int _ _]) _ _ _); k_dflt (refine' figs_tells ?k1 ?k2 ?k3 ?k4 ?k5 ?kK ?b0 ?b1 ?x0 ?x1 ?kd ?ku ?_; (case k1 => k_asm); (case k2 => k_asm); (case k3 => k_asm); (case k4 => k_asm); (case k5 => k_asm); (case kK => first | exact rfl | assumption); (case b0 => omega); (case b1 => omega); (case x0 => omega); (case x1 => omega); (case kd => ktr_room); (case ku => ktr_units); intro l9 us9 c9 h9 tk9 F9 N9 l1 hI9; (try k_lt l1); (try dsimp only); (try k_fold))))

local macro_rules | `(tactic| walk_at "binaryOp Pow int int") => `(tactic| (k_here; k_dflt (refine' pow_walk (by assumption) (by assumption) ?k1 ?k2 ?k3 ?_; (case k1 => omega); (case k2 => omega); (case k3 => omega)); intro t9 tk9 hp1 hp2))

local macro_rules | `(tactic| walk_at "subscriptTail") => `(tactic| (k_here; (with_reducible show wpAny _ _ (subscriptTail _ _ (Value.ref _) (Value.int _ _)) _ _ _); (with_unfolding_all refine' item_anyK ?k1 ?k2 ?k3 ?k4 ?k5 ?_ ?k6; (case k1 => is_list); (case k2 => with_reducible assumption); (case k3 => omega); (case k4 => omega); (case k5 => omega); (case k6 => with_unfolding_all rfl); k_whole); intro _))

theorem news_drop {h₀ h : Heap} {L : Addr} {l : List (Addr × Obj)} (k : Nat) (N : News h₀ L h l) : News h₀ L h (l.drop k) := fun p hp => N p (List.mem_of_mem_drop hp)

theorem foldl_still (xs : List Int) : ∀ l : List Int, xs.foldl (fun l _ => l) l = l := by
  induction xs with
  | nil => intro l; rfl
  | cons x r ih => intro l; rw [List.foldl_cons, ih]

theorem right_tells {prog : Program} {w : World} {p : Program} {loose : List Str} {mean : ExcName → Option Value} {mg mb : Str → Option Value} {news : List (Addr × Obj)} {x : Int} {ta : Tok} {b : Int} {tb : Tok}
    {dp un : Nat} {gd : Option (List Code)} {cn : Str} {cs : Scope} {a : Addr} {ccd : Value} {cl : List (Str × Addr)} {outer : List Env} {A₀ : Around} {base h₀ : Heap} {L : Addr} {m : Str → Option Value} {s : Shared} {Q E : Value → Shared → Prop}
    (B : Below A₀ base outer h₀) (F : Fr h₀ L s.heap m) (X : (Mine.hd.heap_39 w.params).In h₀) (N : News h₀ L s.heap news) (T : Top p loose mean mg mb h₀) (hk : cs.kind = .function)
    (hb : b = 3 ∨ b = 5 ∨ b = 7 ∨ b = 9) (hb0 : 2 < b) (hb1 : b < 10) (hx0 : -2000001 < x) (hx1 : x < 2000001) (hd : dp + 6 < recursionLimit) (hu : un + 400 < cLine)
    (hret : ∀ (h' : Heap) (tk' : Nat), Fr h₀ L h' m → News h₀ L h' news → Q (.bool true) { s with heap := h', toks := tk' }) :
    wpAny (model prog w) (ktrTop dp un gd cn cs L a ccd cl outer) (call (.ref 40) [.int x ta, .int b tb]) Q E s := by
  have : True := fillT (by k_fill; intros; trivial)
  clear this
  w_top off
  k_with_none
  k_with "pyIter ref" => fail "mine"
  have kMark := kstMark
  refine wpAny_call ?_
  k_dflt (refine' code_pureC B F X T ?kA ?kF ?kK ?k6 ?k7 ?k8 ?k9 ?kB ?kD ?_ ?c2 ?c3 ?c4; (case kA => exact rfl); (case kF => exact rfl); (case kK => assumption); (case k6 => k_is); (case k7 => k_is); (case k8 => ktr_room); (case k9 => exact BindsTo.of_eq rfl); (case kB => exact rfl); (case kD => decide +kernel); (case c2 => exact rfl); (case c3 => exact rfl); (case c4 => exact rfl))
  intro g L' h' tk' cells' hg FG' F' N' Y' B' X' T'
  have Ng : News h₀ L g news := hg ▸ N
  k_cells Y'
  (try simp only [List.cons_append, List.nil_append] at N')
  (try dsimp only)
  (try k_fold)
  iterate 36 (all_goals (first | (with_reducible show wpAny _ _ (eval (Expr.ListComp _ _ _ _) _) _ _ _) | (with_reducible show wpAny _ _ (pyIter (Value.ref _)) _ _ _) | (first | (k_unfold; (try dsimp only)) | (k_end; wrow_close) | walk1 | (dsimp only; walk1) | (leave1; walk_say "STEP leave1"; try dsimp only)) | skip))
  k_dflt (refine LCt.ListComp_T (F₀ := by k_asm) (by with_unfolding_all rfl) (by decide) (by rfl) (by decide) (by rfl) ?_)
  (first | (k_unfold; (try dsimp only)) | (k_end; wrow_close) | walk1 | (dsimp only; walk1) | (leave1; walk_say "STEP leave1"; try dsimp only))
  have hlen0 := figs_length_le b 15 x
  rename IntsAre _ _ => hI9
  have hul := IntsAre.length hI9
  k_dflt (refine LCt.CompSrcT.ledger (by rfl) (by k_asm) (by k_asm) (by k_mem) (by rw [PySem.sizeLine_eq, List.size_toArray]; omega) ?_)
  intro g9
  k_dflt (refine kci_list (fun l _ => l) hI9 (fun k t I oI C oC D m₂ ys l h tk E' hk' hy hC hx F N off ne mk => ?_) ?_ (by exact fun _ _ => by simp))
  · have hin := figs_in hb 15 x k hk'
    simp only [LCg.Off3, and_true] at off
    try k_fold
    iterate 20 (all_goals (first | (first | (k_unfold; (try dsimp only)) | (k_end; wrow_close) | walk1 | (dsimp only; walk1) | (leave1; walk_say "STEP leave1"; try dsimp only)) | skip))
    all_goals exact kci_no rfl rfl
  · unfold KPfDone
    intro ys hys hyl
    rw [foldl_still] at hys
    intro D h tk F1 N1 off1
    cases hys
    try dsimp only
    try k_fold
    iterate 12 (all_goals (first | (with_reducible show wpAny _ _ (exec (Stmt.While _ _ _ _) _) _ _ _) | (first | (k_unfold; (try dsimp only)) | (k_end; wrow_close) | walk1 | (dsimp only; walk1) | (leave1; walk_say "STEP leave1"; try dsimp only)) | skip))
    have hpow := pow_bound hb hx0 hx1
    rename Fr _ _ _ _ => F5
    rename News _ _ _ _ => N5
    refine' ksw_while (σ := Int × Nat) (fun c => _) (fun c => [(Str.ofString "places", Value.int c.1 c.2)]) (fun c => True) [] (fun c => PlInv b x c.1) (fun c => (figs 15 x b).length - c.1.toNat) (0, _) F5 N5 trivial ?kk PlInv.start ?_
    case kk => kst_all
    rintro ⟨pl, tp⟩ u' h2 tk2 - hP F2 N2
    dsimp only [kstB] at F2
    dsimp only at N2 hP
    have hP1 := hP.lo
    have hP2 := hP.hi
    try dsimp only
    try k_fold
    iterate 30 (all_goals (first | (with_reducible show KswEnd _ _ _ _ _ _ _ _ _ _ _ _) | (with_reducible show wpAny _ _ (exec (Stmt.If _ _ _ _) _) _ _ _) | (first | (k_unfold; (try dsimp only)) | (k_end; wrow_close) | walk1 | (dsimp only; walk1) | (leave1; walk_say "STEP leave1"; try dsimp only)) | skip))
    · have hT := hP.turn hb (by omega) (by omega) (by assumption)
      have hT1 := hT.1
      have hT2 := hT.2
      k_with "state" => exact hT1
      k_with "measure" => omega
      ksw_close
    have hL := hP.last hb (by omega) (by omega) (by assumption)
    clear hP
    subst hL
    iterate 30 (all_goals (first | (with_reducible show wpAny _ _ (eval (Expr.ListComp _ _ _ _) _) _ _ _) | (first | (k_unfold; (try dsimp only)) | (k_end; wrow_close) | walk1 | (dsimp only; walk1) | (leave1; walk_say "STEP leave1"; try dsimp only)) | skip))
    · exact absurd rfl (by assumption)
    k_dflt (refine LCg.ListComp_U (F₀ := by k_asm) (by with_unfolding_all rfl) (by decide) (by rfl) (by decide) (by rfl) ?_)
    iterate 10 (all_goals (first | (with_reducible show LCg.CompSrc _ _ _ _ _ _ _ _ _ _ _ _ _ _) | (first | (k_unfold; (try dsimp only)) | (k_end; wrow_close) | walk1 | (dsimp only; walk1) | (leave1; walk_say "STEP leave1"; try dsimp only)) | skip))
    k_dflt (refine LCg.CompSrc.range (by rfl) (by k_asm) (by k_asm) (by assumption) (by exact small_one (by omega) (by omega) (by omega) (by omega)) (by exact rangeSize_nat _ _) (by rw [PySem.sizeLine_eq]; omega) ?_)
    intro g8
    k_dflt (refine kcf_range (fun k => (figs 15 x b).getD k.toNat 0 * b ^ k.toNat) (fun k t I oI C oC D m₂ ys h tk E' hlo hhi hC hx F N off ne mk => ?_) ?_)
    · try k_fold
      iterate 20 (all_goals (first | (first | (k_unfold; (try dsimp only)) | (k_end; wrow_close) | walk1 | (dsimp only; walk1) | (leave1; walk_say "STEP leave1"; try dsimp only)) | skip))
    · unfold KPfDone
      intro ys hys
      intro D h tk F1 N1 off1
      try dsimp only
      try k_fold
      iterate 28 (all_goals (first | (with_reducible show wpAny _ _ (eval (Expr.ListComp _ _ _ _) _) _ _ _) | (first | (k_unfold; (try dsimp only)) | (k_end; wrow_close) | walk1 | (dsimp only; walk1) | (leave1; walk_say "STEP leave1"; try dsimp only)) | skip))
      · exact absurd (sum_is (x := x) hb (by omega) (by omega) ((((figs 15 x b).length : Int) - 0).toNat) (by omega)) (by assumption)
      k_dflt (refine LCg.ListComp_U (F₀ := by k_asm) (by with_unfolding_all rfl) (by decide) (by rfl) (by decide) (by rfl) ?_)
      (first | (k_unfold; (try dsimp only)) | (k_end; wrow_close) | walk1 | (dsimp only; walk1) | (leave1; walk_say "STEP leave1"; try dsimp only))
      k_dflt (refine LCg.CompSrc.ledger (by rfl) (by k_asm) (by k_asm) (by k_mem) (by rw [PySem.sizeLine_eq, List.size_toArray]; omega) ?_)
      intro g7
      k_dflt (refine kcf_list (fun y => 0 - y) hI9 (fun k t I oI C oC D m₂ ys h tk E' hk' hC hx F N off ne mk => ?_) ?_)
      · try k_fold
        iterate 20 (all_goals (first | (first | (k_unfold; (try dsimp only)) | (k_end; wrow_close) | walk1 | (dsimp only; walk1) | (leave1; walk_say "STEP leave1"; try dsimp only)) | skip))
      · unfold KPfDone
        intro ys5 hys5
        rw [← figs_neg hb] at hys5
        intro D5 h5 tk5 F5 N5 off5
        try dsimp only
        try k_fold
        iterate 28 (all_goals (first | (with_reducible show wpAny _ _ (exec (Stmt.For _ _ _ _ _) _) _ _ _) | (first | (k_unfold; (try dsimp only)) | (k_end; wrow_close) | walk1 | (dsimp only; walk1) | (leave1; walk_say "STEP leave1"; try dsimp only)) | skip))
        refine wpAny_For ?_
        iterate 28 (all_goals (first | (with_reducible show wpAny _ _ (pyIter _) _ _ _) | (first | (k_unfold; (try dsimp only)) | (k_end; wrow_close) | walk1 | (dsimp only; walk1) | (leave1; walk_say "STEP leave1"; try dsimp only)) | skip))
        rename Fr _ _ _ _ => F6
        rename News _ _ _ _ => N6
        rename IsRange _ _ _ _ _ _ _ _ => R6
        have N7 := news_drop 6 N6
        simp only [List.drop_succ_cons, List.drop_zero] at N7
        refine' kst_rangeT (x := Str.ofString "k") (n := (figs 15 x b).length + 2) (σ := Obj) (fun c => [_, (_, c), _, _, _]) (fun c => []) (fun c => ∃ v, c.data = .cell v) [Str.ofString "k", Str.ofString "front", Str.ofString "left"] (fun pre c => True) _ ?hx ?hh R6 ?hs ?hn F6 N7 ⟨_, by assumption⟩ ?kk trivial ?_ ?_ ?ht ?hE
        case hx => decide
        case hh => exact rfl
        case hs => exact small_one (by omega) (by omega) (by omega) (by omega)
        case hn => rw [show (figs 15 x b).length + 2 = (((figs 15 x b).length : Int) + 2 - 0).toNat by omega]; exact rangeSize_nat _ _
        case kk => exact fun _ h => nomatch h
        case ht => intro _ _; rfl
        case hE => passes_own
        · clear N6 F6 N7 R6
          intro oK pre k t u h tk own hk hlt hoff hf _ F N
          obtain ⟨vK, hvK⟩ := hf
          dsimp only [kstB] at F
          (try dsimp only at N); (try dsimp only at hoff)
          simp only [List.nil_append, List.cons_append, List.append_nil] at N
          try dsimp only
          try k_fold
          iterate 10 (all_goals (first | (with_reducible show wpAny _ _ (eval (Expr.ListComp _ _ _ _) _) _ _ _) | (first | (k_unfold; (try dsimp only)) | (k_end; wrow_close) | walk1 | (dsimp only; walk1) | (leave1; walk_say "STEP leave1"; try dsimp only)) | skip))
          k_dflt (refine LCg.ListComp_U (F₀ := by k_asm) (by with_unfolding_all rfl) (by decide) (by rfl) (by decide) (by rfl) ?_)
          iterate 12 (all_goals (first | (with_reducible show LCg.CompSrc _ _ _ _ _ _ _ _ _ _ _ _ _ _) | (first | (k_unfold; (try dsimp only)) | (k_end; wrow_close) | walk1 | (dsimp only; walk1) | (leave1; walk_say "STEP leave1"; try dsimp only)) | skip))
          k_dflt (refine LCg.CompSrc.range (by rfl) (by k_asm) (by k_asm) (by assumption) (by exact small_one (by omega) (by omega) (by omega) (by omega)) (by exact rangeSize_nat _ _) (by rw [PySem.sizeLine_eq]; omega) ?_)
          intro g8
          k_dflt (refine kcf_range (fun j => (figs 15 x b).getD j.toNat 0 * b ^ (j - k).toNat) (fun j t I oI C oC D m₂ ys h tk E' hlo hhi hC hx F N off ne mk => ?_) ?_)
          · try k_fold
            iterate 24 (all_goals (first | (first | (k_unfold; (try dsimp only)) | (k_end; wrow_close) | walk1 | (dsimp only; walk1) | (leave1; walk_say "STEP leave1"; try dsimp only)) | skip))
          · unfold KPfDone
            intro ys hys
            have hfr := front_is hb hx0 hx1 (k := k) (by omega) (by omega) _ rfl
            have hle := left_is hb hx0 hx1 (k := k) (by omega) (by omega)
            intro D h tk F1 N1 off1
            try dsimp only
            try k_fold
            iterate 5 (all_goals (first | (first | (k_unfold; (try dsimp only)) | (k_end; wrow_close) | walk1 | (dsimp only; walk1) | (leave1; walk_say "STEP leave1"; try dsimp only)) | skip))
            rename Fr _ _ _ _ => F7
            rw [show rangeKs k (((figs 15 x b).length : Int) - k).toNat = (List.range (((figs 15 x b).length : Int) - k).toNat).map (fun i : Nat => k + (i : Int)) from rfl, hfr] at F7
            clear hfr
            k_with "state" => trivial
            iterate 75 (all_goals (first | (with_reducible show InvEndN _ _ _ _ _ _ _) | (with_reducible show Q _ _) | (first | (k_unfold; (try dsimp only)) | (k_end; wrow_close) | walk1 | (dsimp only; walk1) | (leave1; walk_say "STEP leave1"; try dsimp only)) | skip))
            all_goals first | exact absurd rfl (by assumption) | skip
            all_goals (
              rename Obj.data _ = Data.cell (some (Value.int k t)) => dK
              refine kst_end _ (by assumption) (by assumption) ?hn ?ho ?ha ⟨_, dK⟩ (fun _ h => nomatch h) ?hr trivial
              case ha => rfl
              case hn => first | kst_in | kst_inAny
              case ho => first | (intro p hp; kst_mem) | kst_anyIn
              case hr => kst_same)
        · clear N6 F6 N7 R6
          intro oK u h tk hf _ F8 N8
          dsimp only [kstB] at F8
          try dsimp only
          try k_fold
          iterate 12 (all_goals (first | (with_reducible show Q _ _) | (first | (k_unfold; (try dsimp only)) | (k_end; wrow_close) | walk1 | (dsimp only; walk1) | (leave1; walk_say "STEP leave1"; try dsimp only)) | skip))
          exact hret _ _ (by assumption) (fun p hp => ⟨F8.keep _ _ (Ng p hp).1, (Ng p hp).2⟩)
end Mine
end

section
open PySem PySem.W PyProof.Rows
set_option Elab.async false
set_option maxRecDepth 100000
set_option maxHeartbeats 8000000
namespace Mine
local macro_rules | `(tactic| walk_at "call ref") => `(tactic| (k_here; (with_reducible show wpAny _ _ (call (Value.ref 28) [Value.int _ _, Value.int _ _]) _ _ _); k_dflt (refine' figs_tells ?k1 ?k2 ?k3 ?k4 ?k5 ?kK ?b0 ?b1 ?x0 ?x1 ?kd ?ku ?_; (case k1 => k_asm); (case k2 => k_asm); (case k3 => k_asm); (case k4 => k_asm); (case k5 => k_asm); (case kK => first | exact rfl | assumption); (case b0 => omega); (case b1 => omega); (case x0 => omega); (case x1 => omega); (case kd => ktr_room); (case ku => ktr_units); intro l9 us9 c9 h9 tk9 F9 N9 l1 hI9; (try dsimp only); (try k_fold))))

theorem news_two {h₀ h : Heap} {L : Addr} {p q r t u v : Addr × Obj} (N : News h₀ L h [p, q, r, t, u, v]) : News h₀ L h [q, v] := fun x hx => N x (by
  rcases List.mem_cons.mp hx with rfl | hx
  · exact .tail _ (.head _)
  · rw [List.mem_singleton.mp hx]; exact .tail _ (.tail _ (.tail _ (.tail _ (.tail _ (.head _))))))

theorem news_perm {h₀ h : Heap} {L : Addr} {p q r : Addr × Obj} {rl : List (Addr × Obj)} (N : News h₀ L h (p :: (rl ++ [q, r]))) : News h₀ L h (p :: q :: r :: rl) := fun x hx => N x (by
  simp only [List.mem_cons, List.mem_append, List.not_mem_nil, or_false] at hx ⊢
  rcases hx with h | h | h | h
  · exact .inl h
  · exact .inr (.inr (.inl h))
  · exact .inr (.inr (.inr h))
  · exact .inr (.inl h))

theorem item_at {prog : Program} {w : World} {A : Around} {E : Value → Shared → Prop} {s : Shared} {value slice : PySem.Expr} {l : Addr} {vs : List Value} {v : Value} {k : Int} {u : Tok} {Q : Value → Shared → Prop} (hl : s.heap.IsList l vs.toArray)
    (h0 : 0 ≤ k) (h1 : k < 64) (hx : vs[k.toNat]? = some v) (h : Q v s)
    (hs : subscripted slice false (.ref l) (.int k u) = operate [.ref l, .int k u] (getItem (.ref l) (.int k u)) := by with_unfolding_all rfl) :
    wpAny (model prog w) A (subscriptTail value slice (.ref l) (.int k u)) Q E s :=
  tail_any hl.typeIs slot_list_getitem.lookup (wpAny_getItem_list hl h0 (by omega) (by simpa using hx) h) hs

local macro_rules | `(tactic| walk_at "subscriptTail") => `(tactic| (k_here; (with_reducible show wpAny _ _ (subscriptTail _ _ (Value.ref _) (Value.int _ _)) _ _ _); (with_unfolding_all refine' item_at ?k1 ?k2 ?k3 ?k4 ?_ ?k6; (case k1 => is_list); (case k2 => omega); (case k3 => omega); (case k4 => assumption); (case k6 => with_unfolding_all rfl); k_whole)))
local macro_rules | `(tactic| walk_at "subscriptTail") => `(tactic| (k_here; (with_reducible show wpAny _ _ (subscriptTail _ _ (Value.ref _) (Value.int _ _)) _ _ _); (with_unfolding_all refine' item_anyK ?k1 ?k2 ?k3 ?k4 ?k5 ?_ ?k6; (case k1 => is_list); (case k2 => with_reducible assumption); (case k3 => omega); (case k4 => omega); (case k5 => omega); (case k6 => with_unfolding_all rfl); k_whole); intro _))

local macro_rules | `(tactic| walk_at "call ref") => `(tactic| (k_here; (with_reducible show wpAny _ _ (call (Value.ref 40) [Value.int _ _, Value.int _ _]) _ _ _); k_dflt (refine' right_tells ?k1 ?k2 ?k3 ?k4 ?k5 ?kK ?kb ?b0 ?b1 ?x0 ?x1 ?kd ?ku ?_; (case k1 => k_asm); (case k2 => k_asm); (case k3 => k_asm); (case k4 => k_asm); (case k5 => k_asm); (case kK => first | exact rfl | assumption); (case kb => assumption); (case b0 => omega); (case b1 => omega); (case x0 => omega); (case x1 => omega); (case kd => ktr_room); (case ku => ktr_units); intro h9 tk9 F9 N9; (try dsimp only); (try k_fold))))

theorem getD_some {ns : List Int} {i : Nat} (h : i < ns.length) : ns[i]? = some (ns.getD i 0) := by
  rw [List.getD_eq_getElem?_getD, List.getElem?_eq_getElem h]
  rfl

theorem pad_len : (List.replicate (Int.toNat 30) [(0 : Int)]).flatten.length = 30 := by decide

local macro_rules | `(tactic| walk_at "binaryOp Add ref ref") => `(tactic| (k_here; (with_reducible show wpAny _ _ (binaryOp _ (Value.ref _) (Value.ref _)) _ _ _); k_dflt (refine' kmk_add_ints ?q1 ?q2 ?q3 ?q4 ?q5 ?q6 ?_ ?q7; (case q1 => k_asm); (case q2 => k_asm); (case q3 => exact News.isList (by k_asm) (by (repeat (first | assumption | apply List.Mem.tail)))); (case q4 => is_list); (case q5 => assumption); (case q6 => assumption); (case q7 => (rw [PySem.sizeLine_eq, pad_len]; omega))); intro D' ws' h' F' N' l1 hI'; (try k_lt l1); (try k_sweep)))

local macro_rules | `(tactic| walk_at "subscriptTail BinOp Name Add BinOp Slice ref ref") => `(tactic| (k_here; (with_reducible show wpAny _ _ (subscriptTail _ (PySem.Expr.Slice _ _ _ _) (Value.ref _) (Value.ref _)) _ _ _); k_dflt (refine kba_turn (value' := PySem.Expr.Name (PySem.Str.ofString "q") ⟨0, 0, 0, 0⟩) (fun _ => rfl) ?_)))
local macro_rules | `(tactic| walk_at "subscriptTail Subscript BinOp Slice Slice ref ref") => `(tactic| (k_here; (with_reducible show wpAny _ _ (subscriptTail _ (PySem.Expr.Slice _ _ _ _) (Value.ref _) (Value.ref _)) _ _ _); k_dflt (refine kba_turn (value' := PySem.Expr.Name (PySem.Str.ofString "q") ⟨0, 0, 0, 0⟩) (fun _ => rfl) ?_)))
local macro_rules | `(tactic| walk_at "subscriptTail Subscript BinOp Slice") => `(tactic| (k_here; (with_reducible show wpAny _ _ (subscriptTail _ (PySem.Expr.Slice _ _ _ _) (Value.ref _) (Value.ref _)) _ _ _); k_dflt (refine kba_turn (value' := PySem.Expr.Name (PySem.Str.ofString "q") ⟨0, 0, 0, 0⟩) (fun _ => rfl) ?_)))
local macro_rules | `(tactic| walk_at "subscriptTail Subscript") => `(tactic| (k_here; (with_reducible show wpAny _ _ (subscriptTail _ (PySem.Expr.Slice _ _ _ _) (Value.ref _) (Value.ref _)) _ _ _); k_dflt (refine kba_turn (value' := PySem.Expr.Name (PySem.Str.ofString "q") ⟨0, 0, 0, 0⟩) (fun _ => rfl) ?_)))
local macro_rules | `(tactic| walk_at "subscriptTail BinOp") => `(tactic| (k_here; (with_reducible show wpAny _ _ (subscriptTail _ (PySem.Expr.Slice _ _ _ _) (Value.ref _) (Value.ref _)) _ _ _); k_dflt (refine kba_turn (value' := PySem.Expr.Name (PySem.Str.ofString "q") ⟨0, 0, 0, 0⟩) (fun _ => rfl) ?_)))

theorem news_skip4 {h₀ h : Heap} {L : Addr} {p q1 q2 q3 q4 : Addr × Obj} {r : List (Addr × Obj)} (N : News h₀ L h (p :: q1 :: q2 :: q3 :: q4 :: r)) : News h₀ L h (p :: r) := fun x hx => N x (by
  rcases List.mem_cons.mp hx with rfl | hx
  · exact .head _
  · exact .tail _ (.tail _ (.tail _ (.tail _ (.tail _ hx)))))
theorem lt_skip4 {q1 q2 q3 q4 I C D l : Nat} {oI oC oD : Obj} {r : List (Addr × Obj)} (h : q1 < l ∧ q2 < l ∧ q3 < l ∧ q4 < l ∧ I < l ∧ C < l ∧ D < l ∧ AllLt l r) : ∀ p ∈ (I, oI) :: (C, oC) :: (D, oD) :: r, p.1 < l := by
  obtain ⟨_, _, _, _, h1, h2, h3, h4⟩ := h
  intro p hp
  rcases List.mem_cons.mp hp with rfl | hp
  · exact h1
  rcases List.mem_cons.mp hp with rfl | hp
  · exact h2
  rcases List.mem_cons.mp hp with rfl | hp
  · exact h3
  exact kst_ltOf h4 p hp
theorem ints_cast {us : List Value} {xs ys : List Int} (h : IntsAre us xs) (e : xs = ys) : IntsAre us ys := e ▸ h

theorem news_pair {h₀ h : Heap} {L : Addr} {p q a b r1 r2 r3 : Addr × Obj} {rl r : List (Addr × Obj)} (N : News h₀ L h (p :: (rl ++ (q :: r1 :: r2 :: r3 :: r)))) (ha : a ∈ rl) (hb : b ∈ rl) : News h₀ L h (p :: a :: b :: r1 :: r2 :: r3 :: r) := fun x hx => N x (by
  simp only [List.mem_cons, List.mem_append] at hx ⊢
  rcases hx with h | h | h | h | h | h | h
  · exact .inl h
  · exact .inr (.inl (h ▸ ha))
  · exact .inr (.inl (h ▸ hb))
  · exact .inr (.inr (.inr (.inl h)))
  · exact .inr (.inr (.inr (.inr (.inl h))))
  · exact .inr (.inr (.inr (.inr (.inr (.inl h)))))
  · exact .inr (.inr (.inr (.inr (.inr (.inr h))))))

theorem lt_walk {prog : Program} {w : World} {A : Around} {E : Value → Shared → Prop} {s : Shared} {a b : Addr} {vs us : List Value} {xs ys : List Int} {c : Bool} {Q : Value → Shared → Prop} (hl : s.heap.IsList a vs.toArray) (hi : IntsAre vs (longOf xs)) (hl' : s.heap.IsList b us.toArray) (hi' : IntsAre us (longOf ys)) (e : lexLt (longOf xs) (longOf ys) = c) (hu : A.units + 64 < cLine)
    (h : Q (.bool c) s) : wpAny (model prog w) A (compareOp .Lt (.ref a) (.ref b)) Q E s :=
  lt_intsK hl hi hl' hi' (by rw [longOf_length, longOf_length]) hu (e ▸ h)

local macro_rules | `(tactic| walk_at "compareOp Lt ref ref") => `(tactic| (k_here; (with_reducible show wpAny _ _ (compareOp CmpOp.Lt (Value.ref _) (Value.ref _)) _ _ _); k_dflt (refine' lt_walk ?q1 ?q2 ?q3 ?q4 ?q5 ?q6 ?_; (case q1 => is_list); (case q2 => assumption); (case q3 => is_list); (case q4 => assumption); (case q5 => assumption); (case q6 => first | units_room | ktr_units))))

local macro_rules | `(tactic| walk_at "call ref") => `(tactic| (k_here; (with_reducible show wpAny _ _ (call (Value.ref 35) [Value.ref _, Value.ref _, Value.int _ _]) _ _ _); k_dflt (refine' added_tells ?k1 ?k2 ?k3 ?k4 ?k5 ?kK ?q1 ?q2 ?q3 ?q4 ?q5 ?q6 ?b0 ?b1 ?kd ?ku ?_; (case k1 => k_asm); (case k2 => k_asm); (case k3 => k_asm); (case k4 => k_asm); (case k5 => k_asm); (case kK => first | exact rfl | assumption); (case q1 => exact News.isList (by k_asm) (by (repeat (first | assumption | apply List.Mem.tail)))); (case q2 => exact News.isList (by k_asm) (by (repeat (first | assumption | apply List.Mem.tail)))); (case q3 => assumption); (case q4 => assumption); (case q5 => exact figs_length_le _ _ _); (case q6 => exact figs_length_le _ _ _); (case b0 => omega); (case b1 => omega); (case kd => ktr_room); (case ku => ktr_units); intro l9 us9 c9 h9 tk9 F9 N9 ne9 hI9; (try dsimp only); (try k_fold))))

theorem ints_nums {vs : List Value} {xs : List Int} (h : IntsAre vs ((xs.take 3).map (fun x => Int.fmod (x + 1000000) 2000000 - 1000000) ++ [-86, 13])) : ∃ ns, IntsAre vs ns ∧ Nums ns := ⟨_, h, nums_of xs⟩

theorem pow_million {prog : Program} {w : World} {A : Around} {E : Value → Shared → Prop} {s : Shared} {t u : Tok} {Q : Value → Shared → Prop} (h : ∀ t tk, Q (.int 1000000 t) { s with toks := tk }) :
    wpAny (model prog w) A (binaryOp .Pow (.int 10 t) (.int 6 u)) Q E s :=
  PySem.AutoIntOps.pow_4 (by decide) (by decide) (by decide) (by decide) (by decide) (h s.toks (s.toks + 1))

local macro_rules | `(tactic| walk_at "binaryOp Pow int int") => `(tactic| (k_here; k_dflt (refine pow_million ?_); intro t9 tk9))

theorem item_menu {prog : Program} {w : World} {A : Around} {E : Value → Shared → Prop} {s : Shared} {value slice : PySem.Expr} {l : Addr} {t3 t5 t7 t9 : Tok} {k : Int} {u : Tok} {Q : Value → Shared → Prop} (hl : s.heap.IsList l [Value.int 3 t3, Value.int 5 t5, Value.int 7 t7, Value.int 9 t9].toArray)
    (h0 : 0 ≤ k) (h1 : k < 4) (h : ∀ b t, (b = 3 ∨ b = 5 ∨ b = 7 ∨ b = 9) → Q (.int b t) s)
    (hs : subscripted slice false (.ref l) (.int k u) = operate [.ref l, .int k u] (getItem (.ref l) (.int k u)) := by with_unfolding_all rfl) :
    wpAny (model prog w) A (subscriptTail value slice (.ref l) (.int k u)) Q E s := by
  refine item_anyK hl (ns := [3, 5, 7, 9]) (.cons _ _ (.cons _ _ (.cons _ _ (.cons _ _ .nil)))) h0 (by simpa using h1) (by omega) (fun t => h _ t ?_) hs
  have : k = 0 ∨ k = 1 ∨ k = 2 ∨ k = 3 := by omega
  rcases this with rfl | rfl | rfl | rfl <;> decide

local macro_rules | `(tactic| walk_at "subscriptTail") => `(tactic| (k_here; (with_reducible show wpAny _ _ (subscriptTail (Expr.List _ _) _ (Value.ref _) (Value.int _ _)) _ _ _); (with_unfolding_all refine' item_menu ?k1 ?k2 ?k3 ?_ ?k6; (case k1 => is_list); (case k2 => (rw [Int.fmod_eq_emod_of_nonneg _ (by omega)]; omega)); (case k3 => (rw [Int.fmod_eq_emod_of_nonneg _ (by omega)]; omega)); (case k6 => with_unfolding_all rfl); k_whole); intro b' t' hb'))

theorem law_holds : PySem.Challenge.rw_mj0328_01.Holds := Mine.hd (by
  k_go0
  k_with_none
  k_with "pyIter ref" => fail "mine"
  have kMark := kstMark
  try k_fold
  iterate 8 (all_goals (first | (with_reducible show wpAny _ _ (eval (Expr.ListComp _ _ _ _) _) _ _ _) | (first | (k_unfold; (try dsimp only)) | (k_end; wrow_close) | walk1 | (dsimp only; walk1) | (leave1; walk_say "STEP leave1"; try dsimp only)) | skip))
  rename IntsAre _ _ => hI0
  have hl0 := IntsAre.length hI0
  k_dflt (refine LCg.ListComp_U (F₀ := by k_asm) (by with_unfolding_all rfl) (by decide) (by rfl) (by decide) (by rfl) ?_)
  iterate 12 (all_goals (first | (with_reducible show LCg.CompSrc _ _ _ _ _ _ _ _ _ _ _ _ _ _) | (first | (k_unfold; (try dsimp only)) | (k_end; wrow_close) | walk1 | (dsimp only; walk1) | (leave1; walk_say "STEP leave1"; try dsimp only)) | skip))
  rename IntsAre _ (List.take _ _) => hI1
  have hl1 := IntsAre.length hI1
  k_dflt (refine LCg.CompSrc.ledger (by rfl) (by k_asm) (by k_asm) (by k_mem) (by rw [PySem.sizeLine_eq, List.size_toArray]; rw [List.length_take] at hl1; omega) ?_)
  intro g9
  k_dflt (refine kcf_list (fun x => Int.fmod (x + 1000000) 2000000 - 1000000) hI1 (fun k t I oI C oC D m₂ ys h tk E' hk' hC hx F N off ne mk => ?_) ?_)
  · try k_fold
    iterate 30 (all_goals (first | (with_reducible show KCfEl _ _ _ _) | (first | (k_unfold; (try dsimp only)) | (k_end; wrow_close) | walk1 | (dsimp only; walk1) | (leave1; walk_say "STEP leave1"; try dsimp only)) | skip))
    exact kcf_el rfl rfl rfl
  · unfold KPfDone
    intro nv hnv
    intro D1 h1 tk1 F1 N1 off1
    simp only [LCg.Off1, and_true] at off1
    try dsimp only
    try k_fold
    iterate 11 (all_goals (first | (with_reducible show wpAny _ _ (execs _ _) _ _ _) | (first | (k_unfold; (try dsimp only)) | (k_end; wrow_close) | walk1 | (dsimp only; walk1) | (leave1; walk_say "STEP leave1"; try dsimp only)) | skip))
    rename IntsAre _ (_ ++ _) => hNs0
    obtain ⟨ns, hNs, hNum⟩ := ints_nums hNs0
    clear hNs0
    have hlN := IntsAre.length hNs
    have hNlo := hNum.lo
    have hNhi := hNum.hi
    iterate 40 (all_goals (first | (with_reducible show wpAny _ _ (exec (Stmt.Assign _ (Expr.ListComp _ _ _ _) _) _) _ _ _) | (first | (k_unfold; (try dsimp only)) | (k_end; wrow_close) | walk1 | (dsimp only; walk1) | (leave1; walk_say "STEP leave1"; try dsimp only)) | skip))
    k_dflt (refine LCg.Assign_ListComp_U (F₀ := by k_asm) (by rfl) (by with_unfolding_all rfl) (by with_unfolding_all rfl) (by decide) (by rfl) (by decide) (by rfl) (by rfl) (by rfl) ?_)
    iterate 3 (all_goals (first | (with_reducible show LCg.CompSrc _ _ _ _ _ _ _ _ _ _ _ _ _ _) | (first | (k_unfold; (try dsimp only)) | (k_end; wrow_close) | walk1 | (dsimp only; walk1) | (leave1; walk_say "STEP leave1"; try dsimp only)) | skip))
    rename Int => b
    rename b = 3 ∨ _ => hb
    rename Obj.data _ = Data.cell (some (Value.int b _)) => dB
    have hb2 := div_cases hb
    obtain ⟨hb0, hb1⟩ := hb2
    rename News _ _ _ _ => N2
    replace N2 := news_two N2
    k_dflt (refine LCg.CompSrc.ledger (by rfl) (by k_asm) N2 (by k_mem) (by rw [PySem.sizeLine_eq, List.size_toArray]; omega) ?_)
    intro g7
    k_dflt (refine rows_list (fun n => figs 15 n b) hNs (fun rl => Or.inr ⟨_, List.mem_append_right _ (List.Mem.head _), rfl, _, rfl⟩) (fun k t I oI C oC D m₂ ys rl h tk E' hk' hC hx F N => ?_) ?_)
    · have hB := hNum.all k hk'
      try k_fold
      iterate 7 (first | (k_unfold; (try dsimp only)) | (k_end; wrow_close) | walk1 | (dsimp only; walk1) | (leave1; walk_say "STEP leave1"; try dsimp only))
      k_dflt (refine kcf_cell N (by rfl) (List.Mem.tail _ (List.Mem.tail _ (List.Mem.tail _ (List.mem_append_right _ (List.Mem.tail _ (List.Mem.head _)))))) dB ?_)
      iterate 4 (all_goals (first | (with_reducible show RowEnd _ _ _ _ _ _ _ _) | (first | (k_unfold; (try dsimp only)) | (k_end; wrow_close) | walk1 | (dsimp only; walk1) | (leave1; walk_say "STEP leave1"; try dsimp only)) | skip))
      exact ⟨_, _, _, _, _, rfl, rfl, by assumption, by assumption, by assumption, by assumption⟩
    · intro rv rl hR
      have hlR := hR.length
      intro DR hh1 tkR FR NR offR
      replace NR := news_perm NR
      clear offR N2
      try dsimp only
      try k_fold
      iterate 30 (all_goals (first | (with_reducible show wpAny _ _ (pyIter (Value.ref _)) _ _ _) | (first | (k_unfold; (try dsimp only)) | (k_end; wrow_close) | walk1 | (dsimp only; walk1) | (leave1; walk_say "STEP leave1"; try dsimp only)) | skip))
      rename Fr _ _ _ _ => F3
      rename News _ _ _ _ => N3
      rename IsRange _ _ _ _ _ _ _ _ => R3
      refine' kst_range (n := ns.length) (σ := Unit) (fun _ => _) (fun _ => []) (fun _ => True) [Str.ofString "k", Str.ofString "long"] (fun _ _ => True) () ?hh R3 ?hs ?hn F3 N3 trivial ?kk trivial ?_ ?_
      case hh => exact rfl
      case hs => exact small_one (by omega) (by omega) (by omega) (by omega)
      case hn => rw [show ns.length = ((ns.length : Int) - 0).toNat by omega]; exact rangeSize_nat _ _
      case kk => exact fun _ h => nomatch h
      · clear F3 N3 R3
        rintro ⟨⟩ pre j t u h tk own hk hlt hoff - - F N
        dsimp only [kstB] at F
        (try dsimp only at N); (try dsimp only at hoff)
        simp only [List.nil_append, List.cons_append, List.append_nil] at N
        have hjB := hNum.at (k := j.toNat) (by omega)
        try dsimp only
        try k_fold
        iterate 30 (all_goals (first | (with_reducible show wpAny _ _ (pyIter (Value.ref _)) _ _ _) | (first | (k_unfold; (try dsimp only)) | (k_end; wrow_close) | walk1 | (dsimp only; walk1) | (leave1; walk_say "STEP leave1"; try dsimp only)) | skip))
        rename Fr _ _ _ _ => F4
        rename News _ _ _ _ => N4
        rename IsRange _ _ _ _ _ _ _ _ => R4
        refine' kst_range (n := j.toNat) (σ := Unit) (fun _ => _) (fun _ => []) (fun _ => True) [Str.ofString "long"] (fun _ _ => True) () ?hh R4 ?hs ?hn F4 N4 trivial ?kk trivial ?_ ?_
        case hh => exact rfl
        case hs => exact small_one (by omega) (by omega) (by omega) (by omega)
        case hn => rw [show j.toNat = (j - 0).toNat by omega]; exact rangeSize_nat _ _
        case kk => exact fun _ h => nomatch h
        · clear F4 N4 R4 F N
          rintro ⟨⟩ pre2 k t2 u2 h2 tk2 own2 hk2 hlt2 hoff2 - - F N
          dsimp only [kstB] at F
          (try dsimp only at N); (try dsimp only at hoff2)
          simp only [List.nil_append, List.cons_append, List.append_nil] at N
          have hkB := hNum.at (k := k.toNat) (by omega)
          obtain ⟨lj, usj, cj, hrj, hmj, hij⟩ := hR.get j.toNat (ns.getD j.toNat 0) (getD_some (by omega))
          obtain ⟨lk, usk, ck, hrk, hmk, hik⟩ := hR.get k.toNat (ns.getD k.toNat 0) (getD_some (by omega))
          try dsimp only
          try k_fold
          iterate 2 (all_goals (first | (with_reducible show wpAny _ _ (exec (Stmt.Assign _ (Expr.ListComp _ _ _ _) _) _) _ _ _) | (first | (k_unfold; (try dsimp only)) | (k_end; wrow_close) | walk1 | (dsimp only; walk1) | (leave1; walk_say "STEP leave1"; try dsimp only)) | skip))
          k_dflt (refine LCg.Assign_ListComp_U (F₀ := by k_asm) (by rfl) (by with_unfolding_all rfl) (by with_unfolding_all rfl) (by decide) (by rfl) (by decide) (by rfl) (by rfl) (by rfl) ?_)
          iterate 14 (all_goals (first | (with_reducible show LCg.CompSrc _ _ _ _ _ _ _ _ _ _ _ _ _ _) | (first | (k_unfold; (try dsimp only)) | (k_end; wrow_close) | walk1 | (dsimp only; walk1) | (leave1; walk_say "STEP leave1"; try dsimp only)) | skip))
          have hjm : (lj, W.listOf usj.toArray cj) ∈ rl ++ own ++ own2 := List.mem_append_left _ (List.mem_append_left _ hmj)
          have hkm : (lk, W.listOf usk.toArray ck) ∈ rl ++ own ++ own2 := List.mem_append_left _ (List.mem_append_left _ hmk)
          k_dflt (refine LCg.CompSrc.ledger (by rfl) (by k_asm) (by k_asm) (by exact List.Mem.head _) (by rw [PySem.sizeLine_eq]; show 2 ≤ _; omega) ?_)
          intro g9
          k_dflt (refine rows_pair longOf (List.Mem.tail _ (List.Mem.tail _ (List.Mem.tail _ (List.Mem.tail _ hjm)))) (List.Mem.tail _ (List.Mem.tail _ (List.Mem.tail _ (List.Mem.tail _ hkm)))) hij hik (fun rl => Or.inr ⟨_, List.mem_append_right _ (List.Mem.head _), rfl, _, rfl⟩) (fun l us xs c I oI C oC D m₂ ys rl' h tk E' hm hI hxs hC hx F N => ?_) ?_)
          · have hm' := List.Mem.tail (I, oI) (List.Mem.tail (C, oC) (List.Mem.tail (D, LCg.lst ys) (List.mem_append_right rl' hm)))
            have hxl : xs.length ≤ 15 := by rcases hxs with rfl | rfl <;> exact figs_length_le _ _ _
            have hul := IntsAre.length hI
            try k_fold
            iterate 34 (all_goals (first | (with_reducible show RowEnd _ _ _ _ _ _ _ _) | (first | (k_unfold; (try dsimp only)) | (k_end; wrow_close) | walk1 | (dsimp only; walk1) | (leave1; walk_say "STEP leave1"; try dsimp only)) | skip))
            rename _ ∧ _ ∧ _ ∧ _ ∧ _ ∧ _ ∧ _ ∧ AllLt _ _ => l1
            rename IntsAre _ (List.reverse _) => hI2
            exact ⟨_, _, _, _, _, rfl, rfl, by assumption, news_skip4 (by assumption), lt_skip4 l1, ints_cast hI2 rfl⟩
          · intro v1 v2 rl2 hR2
            intro DL hL1 tkL FL NL offL
            cases hR2 with
            | cons hm1 hi1 r =>
            cases r with
            | cons hm2 hi2 r =>
            clear r
            replace NL := news_pair NL hm1 hm2
            have hord := order_is hb hjB hkB
            have hadd := added_is hb hjB hkB
            clear offL
            try dsimp only
            try k_fold
            iterate 3 (all_goals (first | (with_reducible show wpAny _ _ (exec (Stmt.If _ _ _ _) _) _ _ _) | (first | (k_unfold; (try dsimp only)) | (k_end; wrow_close) | walk1 | (dsimp only; walk1) | (leave1; walk_say "STEP leave1"; try dsimp only)) | skip))
            (first | (k_unfold; (try dsimp only)) | (k_end; wrow_close) | walk1 | (dsimp only; walk1) | (leave1; walk_say "STEP leave1"; try dsimp only))
            iterate 30 (all_goals (first | (with_reducible show wpAny _ _ (execs [Stmt.Return _ _] _) _ _ _) | (with_reducible show wpAny _ _ (exec (Stmt.If _ _ _ _) _) _ _ _) | (first | (k_unfold; (try dsimp only)) | (k_end; wrow_close) | walk1 | (dsimp only; walk1) | (leave1; walk_say "STEP leave1"; try dsimp only)) | skip))
            · rename (_ != _) = true => hbad
              exact absurd hbad (by simp)
            (first | (k_unfold; (try dsimp only)) | (k_end; wrow_close) | walk1 | (dsimp only; walk1) | (leave1; walk_say "STEP leave1"; try dsimp only))
            iterate 40 (all_goals (first | (with_reducible show wpAny _ _ (compareOp CmpOp.NotEq (Value.ref _) (Value.ref _)) _ _ _) | (first | (k_unfold; (try dsimp only)) | (k_end; wrow_close) | walk1 | (dsimp only; walk1) | (leave1; walk_say "STEP leave1"; try dsimp only)) | skip))
            rename IntsAre _ (added _ _ _) => hA
            rw [hadd] at hA
            iterate 20 (all_goals (first | (with_reducible show InvEndN _ _ _ _ _ _ _) | (first | (k_unfold; (try dsimp only)) | (k_end; wrow_close) | walk1 | (dsimp only; walk1) | (leave1; walk_say "STEP leave1"; try dsimp only)) | skip))
            all_goals (
              refine kst_end () (by assumption) (by assumption) ?hn ?ho rfl trivial (fun _ h => nomatch h) ?hr trivial
              case hn => first | kst_in | kst_inAny
              case ho => first | (intro p hp; kst_mem) | kst_anyIn
              case hr => kst_same)
        · rintro ⟨⟩ u3 h3 tk3 - - F3 N3
          dsimp only [kstB] at F3
          try dsimp only
          try k_fold
          iterate 12 (all_goals (first | (with_reducible show InvEndN _ _ _ _ _ _ _) | (first | (k_unfold; (try dsimp only)) | (k_end; wrow_close) | walk1 | (dsimp only; walk1) | (leave1; walk_say "STEP leave1"; try dsimp only)) | skip))
          refine kst_end () (by assumption) (by assumption) ?hn ?ho rfl trivial (fun _ h => nomatch h) ?hr trivial
          case hn => first | kst_in | kst_inAny
          case ho => first | (intro p hp; kst_mem) | kst_anyIn
          case hr => kst_same
      · rintro ⟨⟩ u3 h3 tk3 - - F3 N3
        dsimp only [kstB] at F3
        try dsimp only
        try k_fold
        iterate 12 (all_goals (first | (first | (k_unfold; (try dsimp only)) | (k_end; wrow_close) | walk1 | (dsimp only; walk1) | (leave1; walk_say "STEP leave1"; try dsimp only)) | skip)))
end Mine
end

theorem PySem.Challenge.cw_mj0328_01_holds : PySem.Challenge.rw_mj0328_01.Holds :=
  Mine.law_holds
