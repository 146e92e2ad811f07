import PyProof.Rows.All
import Wide.All
import OpenK.AllK
import Wide.FinOn
import PySem.Challenge.RW_da0002_02
set_option Elab.async false
namespace Mine
def fac (script : List Int) : Int := Int.fmod (script.getD 0 0) 5
theorem fac_nonneg (script : List Int) : 0 ≤ fac script := Int.fmod_nonneg_of_pos _ (by decide)
theorem fac_lt (script : List Int) : fac script < 5 := Int.fmod_lt_of_pos _ (by decide)
def M (f : Int) : List Int → Int
  | [] => 0
  | n :: r => M f r + (r.countP (fun y => decide (y * f < n)) : Nat)
def BL (f x : Int) (a : List Int) (lo hi : Int) : Prop := (∀ i : Nat, (i:Int) < lo → a.getD i 0 * f < x) ∧ (∀ i : Nat, hi ≤ (i:Int) → i < a.length → x ≤ a.getD i 0 * f)
def Inv1 (f : Int) (pre : List Int) (many : Int) (later : List Int) : Prop := later.Pairwise (· ≤ ·) ∧ later.Perm pre ∧ many = M f pre.reverse

theorem fdiv2 (a : Int) : a.fdiv 2 = a / 2 := by
  rw [Int.fdiv_eq_ediv_of_nonneg]; decide
theorem srt {a : List Int} (hs : a.Pairwise (· ≤ ·)) {i j : Nat} (hij : i ≤ j) (hj : j < a.length) : a.getD i 0 ≤ a.getD j 0 := by
  have hi : i < a.length := by omega
  rw [List.getD_eq_getElem?_getD, List.getD_eq_getElem?_getD, List.getElem?_eq_getElem hi, List.getElem?_eq_getElem hj]
  simp only [Option.getD_some]
  rcases Nat.lt_or_ge i j with h | h
  · exact List.pairwise_iff_getElem.mp hs i j hi hj h
  · have : i = j := by omega
    subst this; exact Int.le_refl _
theorem bl_start (f x : Int) (a : List Int) : (0:Int) ≤ 0 ∧ (0:Int) ≤ (a.length : Int) ∧ (a.length : Int) ≤ a.length ∧ BL f x a 0 a.length := by
  refine ⟨by omega, by omega, by omega, ?_, ?_⟩
  · intro i hi; omega
  · intro i h1 h2; omega
theorem bl_lo {f x : Int} {a : List Int} {lo hi : Int} (hf : 0 ≤ f) (hs : a.Pairwise (· ≤ ·)) (h0 : 0 ≤ lo) (h1 : lo < hi) (h2 : hi ≤ a.length) (hB : BL f x a lo hi) (ht : a.getD ((lo + hi).fdiv 2).toNat 0 * f < x) :
    0 ≤ (lo + hi).fdiv 2 + 1 ∧ (lo + hi).fdiv 2 + 1 ≤ hi ∧ hi ≤ a.length ∧ BL f x a ((lo + hi).fdiv 2 + 1) hi := by
  rw [fdiv2] at *
  refine ⟨by omega, by omega, h2, ?_, hB.2⟩
  intro i hi'
  have h3 := srt hs (i := i) (j := ((lo + hi) / 2).toNat) (by omega) (by omega)
  have h4 := Int.mul_le_mul_of_nonneg_right h3 hf
  omega
theorem bl_hi {f x : Int} {a : List Int} {lo hi : Int} (hf : 0 ≤ f) (hs : a.Pairwise (· ≤ ·)) (h0 : 0 ≤ lo) (h1 : lo < hi) (h2 : hi ≤ a.length) (hB : BL f x a lo hi) (ht : ¬ a.getD ((lo + hi).fdiv 2).toNat 0 * f < x) :
    0 ≤ lo ∧ lo ≤ (lo + hi).fdiv 2 ∧ (lo + hi).fdiv 2 ≤ a.length ∧ BL f x a lo ((lo + hi).fdiv 2) := by
  rw [fdiv2] at *
  refine ⟨by omega, by omega, by omega, hB.1, ?_⟩
  intro i hi' hl
  have h3 := srt hs (j := i) (i := ((lo + hi) / 2).toNat) (by omega) (by omega)
  have h4 := Int.mul_le_mul_of_nonneg_right h3 hf
  omega
theorem bl_lo1 {x : Int} {a : List Int} {lo hi : Int} (hs : a.Pairwise (· ≤ ·)) (h0 : 0 ≤ lo) (h1 : lo < hi) (h2 : hi ≤ a.length) (hB : BL 1 x a lo hi) (ht : a.getD ((lo + hi).fdiv 2).toNat 0 < x) :
    0 ≤ (lo + hi).fdiv 2 + 1 ∧ (lo + hi).fdiv 2 + 1 ≤ hi ∧ hi ≤ a.length ∧ BL 1 x a ((lo + hi).fdiv 2 + 1) hi := bl_lo (by decide) hs h0 h1 h2 hB (by rw [Int.mul_one]; exact ht)
theorem bl_hi1 {x : Int} {a : List Int} {lo hi : Int} (hs : a.Pairwise (· ≤ ·)) (h0 : 0 ≤ lo) (h1 : lo < hi) (h2 : hi ≤ a.length) (hB : BL 1 x a lo hi) (ht : ¬ a.getD ((lo + hi).fdiv 2).toNat 0 < x) :
    0 ≤ lo ∧ lo ≤ (lo + hi).fdiv 2 ∧ (lo + hi).fdiv 2 ≤ a.length ∧ BL 1 x a lo ((lo + hi).fdiv 2) := bl_hi (by decide) hs h0 h1 h2 hB (by rw [Int.mul_one]; exact ht)

theorem meas_lo {lo hi : Int} (h : lo < hi) : (hi - ((lo + hi).fdiv 2 + 1)).toNat < (hi - lo).toNat := by rw [fdiv2]; omega
theorem meas_hi {lo hi : Int} (h : lo < hi) : ((lo + hi).fdiv 2 - lo).toNat < (hi - lo).toNat := by rw [fdiv2]; omega
theorem getD_mem_take {a : List Int} {k : Nat} {y : Int} (h : y ∈ a.take k) : ∃ i, i < k ∧ i < a.length ∧ y = a.getD i 0 := by
  obtain ⟨i, hi, rfl⟩ := List.mem_iff_getElem.mp h
  have : i < k ∧ i < a.length := by simp at hi; omega
  refine ⟨i, this.1, this.2, ?_⟩
  rw [List.getElem_take, List.getD_eq_getElem?_getD, List.getElem?_eq_getElem this.2]; rfl
theorem getD_mem_drop {a : List Int} {k : Nat} {y : Int} (h : y ∈ a.drop k) : ∃ i, k ≤ i ∧ i < a.length ∧ y = a.getD i 0 := by
  obtain ⟨i, hi, rfl⟩ := List.mem_iff_getElem.mp h
  have : k + i < a.length := by simp at hi; omega
  refine ⟨k + i, by omega, this, ?_⟩
  rw [List.getElem_drop, List.getD_eq_getElem?_getD, List.getElem?_eq_getElem this]; rfl
theorem bl_count {f x : Int} {a : List Int} {lo : Int} (h0 : 0 ≤ lo) (h2 : lo ≤ a.length) (hB : BL f x a lo lo) : ((a.countP (fun y => decide (y * f < x)) : Nat) : Int) = lo := by
  have e : a = a.take lo.toNat ++ a.drop lo.toNat := (List.take_append_drop ..).symm
  have c1 : (a.take lo.toNat).countP (fun y => decide (y * f < x)) = (a.take lo.toNat).length := by
    rw [List.countP_eq_length]
    intro y hy
    obtain ⟨i, hi, hl, rfl⟩ := getD_mem_take hy
    exact decide_eq_true (hB.1 i (by omega))
  have c2 : (a.drop lo.toNat).countP (fun y => decide (y * f < x)) = 0 := by
    rw [List.countP_eq_zero]
    intro y hy
    obtain ⟨i, hi, hl, rfl⟩ := getD_mem_drop hy
    have := hB.2 i (by omega) hl
    rw [decide_eq_true_eq]; omega
  rw [e, List.countP_append, c1, c2, List.length_take]
  omega
theorem ins_sorted {x : Int} {a : List Int} {lo : Int} (hs : a.Pairwise (· ≤ ·)) (h0 : 0 ≤ lo) (hB : BL 1 x a lo lo) : (a.take lo.toNat ++ x :: a.drop lo.toNat).Pairwise (· ≤ ·) := by
  have e : a = a.take lo.toNat ++ a.drop lo.toNat := (List.take_append_drop ..).symm
  rw [e] at hs
  obtain ⟨p1, p2, p3⟩ := List.pairwise_append.mp hs
  refine List.pairwise_append.mpr ⟨p1, List.pairwise_cons.mpr ⟨?_, p2⟩, ?_⟩
  · intro y hy
    obtain ⟨i, hi, hl, rfl⟩ := getD_mem_drop hy
    have := hB.2 i (by omega) hl
    omega
  · intro y hy z hz
    rcases List.mem_cons.mp hz with rfl | hz
    · obtain ⟨i, hi, hl, rfl⟩ := getD_mem_take hy
      have := hB.1 i (by omega)
      omega
    · exact p3 y hy z hz
theorem ins_perm (x : Int) (a : List Int) (k : Nat) : (a.take k ++ x :: a.drop k).Perm (x :: a) := by
  have h := (List.perm_middle (a := x) (l₁ := a.take k) (l₂ := a.drop k))
  rw [List.take_append_drop] at h
  exact h
theorem inv1_step {f x many : Int} {pre later : List Int} {lo lo2 : Int} (hI : Inv1 f pre many later) (h0 : 0 ≤ lo) (h2 : lo ≤ later.length) (hB : BL f x later lo lo) (g0 : 0 ≤ lo2) (hC : BL 1 x later lo2 lo2) :
    Inv1 f (pre ++ [x]) (many + lo) (later.take lo2.toNat ++ x :: later.drop lo2.toNat) := by
  obtain ⟨hs, hp, hm⟩ := hI
  refine ⟨ins_sorted hs g0 hC, ?_, ?_⟩
  · exact (ins_perm x later _).trans ((hp.cons x).trans (List.perm_append_singleton x pre).symm)
  · rw [List.reverse_append, List.reverse_singleton, List.singleton_append]
    show many + lo = M f pre.reverse + _
    have hc := bl_count h0 h2 hB
    rw [(hp.trans (List.reverse_perm pre).symm).countP_eq] at hc
    omega
theorem take_snoc {rr pre post : List Int} {x : Int} (h : rr = pre ++ x :: post) : rr.take (pre.length + 1) = pre ++ [x] := by
  subst h
  rw [show pre ++ x :: post = (pre ++ [x]) ++ post by simp, show pre.length + 1 = (pre ++ [x]).length by simp, List.take_left']
  rfl
theorem inv1_end {rr : List Int} {f x many : Int} {pre post later : List Int} {lo hi lo2 hi2 : Int} (hE : rr = pre ++ x :: post) (hI : Inv1 f pre many later) (h0 : 0 ≤ lo) (h1 : lo ≤ hi) (h2 : hi ≤ later.length) (h3 : ¬ lo < hi) (hB : BL f x later lo hi)
    (g0 : 0 ≤ lo2) (g1 : lo2 ≤ hi2) (g3 : ¬ lo2 < hi2) (hC : BL 1 x later lo2 hi2) :
    Inv1 f (rr.take (pre.length + 1)) (many + lo) (later.take lo2.toNat ++ x :: later.drop lo2.toNat) := by
  have e1 : hi = lo := by omega
  have e2 : hi2 = lo2 := by omega
  subst e1; subst e2
  rw [take_snoc hE]
  exact inv1_step hI h0 h2 hB g0 hC
theorem M_snoc (f x : Int) : ∀ l : List Int, M f (l ++ [x]) = M f l + (l.countP (fun y => decide (x * f < y)) : Nat)
  | [] => by simp [M]
  | n :: r => by
    show M f (r ++ [x]) + ((r ++ [x]).countP _ : Nat) = M f r + _ + _
    rw [M_snoc f x r, List.countP_append, List.countP_cons, List.countP_cons, List.countP_nil]
    by_cases h : x * f < n <;> simp [h] <;> omega
end Mine
namespace Mine
def S (row : List Int) (k : Nat) : Int := (row.take k).sum
def mx (row : List Int) : Nat → Int
  | 0 => 0
  | k + 1 => max (mx row k) (S row (k + 1))
def gs (row : List Int) (k : Nat) : List Int := (List.range (k + 1)).map (mx row)
def Best (R : Nat → Nat → Prop) (v : Int) : Prop := 0 ≤ v ∧ (v = 0 ∨ ∃ i j : Nat, R i j ∧ v = (j : Int) - i) ∧ ∀ i j : Nat, R i j → (j : Int) - i ≤ v
def Rk (row : List Int) (b : Int) (k i j : Nat) : Prop := i < j ∧ j ≤ k ∧ S row j - S row i ≤ b
def Ro (row : List Int) (b : Int) (k i j : Nat) : Prop := i < k ∧ i < j ∧ j ≤ row.length ∧ S row j - S row i ≤ b
def Ri (row : List Int) (b : Int) (k l i j : Nat) : Prop := Ro row b k i j ∨ (i = k ∧ i < j ∧ j ≤ k + l ∧ S row j - S row i ≤ b)

theorem S_zero (row : List Int) : S row 0 = 0 := by simp [S]
theorem S_succ {row : List Int} {k : Nat} (h : k < row.length) : S row (k + 1) = S row k + row.getD k 0 := by
  unfold S
  rw [List.take_add_one, List.sum_append, List.getD_eq_getElem?_getD, List.getElem?_eq_getElem h]
  simp
theorem S_slice {row : List Int} {i j : Nat} (hij : i ≤ j) : ((row.drop i).take (j - i)).sum = S row j - S row i := by
  have e : row.take j = row.take i ++ (row.drop i).take (j - i) := by
    have := List.take_add (l := row) (i := i) (j := j - i)
    rw [← this]; congr 1; omega
  unfold S
  rw [e, List.sum_append]; omega
theorem mx_mono (row : List Int) : ∀ {i j : Nat}, i ≤ j → mx row i ≤ mx row j := by
  intro i j h
  induction j with
  | zero => have : i = 0 := by omega
            subst this; exact Int.le_refl _
  | succ j ih =>
    rcases Nat.lt_or_ge i (j + 1) with h1 | h1
    · have := ih (by omega)
      show _ ≤ max (mx row j) _
      omega
    · have : i = j + 1 := by omega
      subst this; exact Int.le_refl _
theorem S_le_mx (row : List Int) : ∀ i : Nat, S row i ≤ mx row i
  | 0 => by rw [S_zero]; exact Int.le_refl _
  | k + 1 => by show _ ≤ max _ _; omega
theorem gs_length (row : List Int) (k : Nat) : (gs row k).length = k + 1 := by simp [gs]
theorem gs_getD {row : List Int} {k i : Nat} (h : i ≤ k) : (gs row k).getD i 0 = mx row i := by
  unfold gs
  rw [List.getD_eq_getElem?_getD, List.getElem?_eq_getElem (by simp; omega)]
  simp
theorem gs_sorted {row g : List Int} {k : Nat} (h : g = gs row k) : g.Pairwise (· ≤ ·) := by
  subst h
  rw [List.pairwise_iff_getElem]
  intro i j hi hj hij
  simp only [gs, List.getElem_map, List.getElem_range]
  exact mx_mono row (by omega)
theorem gs_succ (row : List Int) (k : Nat) : gs row (k + 1) = gs row k ++ [mx row (k + 1)] := by
  simp [gs, List.range_succ]
theorem best_zero {R : Nat → Nat → Prop} (h : ∀ i j, ¬ R i j) : Best R 0 := ⟨Int.le_refl _, .inl rfl, fun i j hr => absurd hr (h i j)⟩
theorem best_mono {R R' : Nat → Nat → Prop} {v : Int} (h : Best R v) (e : ∀ i j, R i j ↔ R' i j) : Best R' v := by
  obtain ⟨h0, h1, h2⟩ := h
  refine ⟨h0, ?_, fun i j hr => h2 i j ((e i j).mpr hr)⟩
  rcases h1 with h1 | ⟨i, j, hr, hv⟩
  · exact .inl h1
  · exact .inr ⟨i, j, (e i j).mp hr, hv⟩
theorem best_uniq {R R' : Nat → Nat → Prop} {v v' : Int} (h : Best R v) (h' : Best R' v') (e : ∀ i j, R i j ↔ R' i j) : v = v' := by
  have hh := best_mono h e
  obtain ⟨h0, h1, h2⟩ := hh
  obtain ⟨g0, g1, g2⟩ := h'
  rcases h1 with h1 | ⟨i, j, hr, hv⟩ <;> rcases g1 with g1 | ⟨i', j', hr', hv'⟩
  · omega
  · have := h2 i' j' hr'; omega
  · have := g2 i j hr; omega
  · have := h2 i' j' hr'; have := g2 i j hr; omega
/-- one more pair of places, the best of those that are new -/
theorem best_add {R R' : Nat → Nat → Prop} {v : Int} {a b : Nat} (h : Best R v) (hab : R' a b) (hle : ∀ i j, R i j → R' i j) (hnew : ∀ i j, R' i j → R i j ∨ (j : Int) - i ≤ (b : Int) - a) :
    Best R' (if (b : Int) - a > v then (b : Int) - a else v) := by
  obtain ⟨h0, h1, h2⟩ := h
  by_cases hc : (b : Int) - a > v
  · rw [if_pos hc]
    refine ⟨by omega, .inr ⟨a, b, hab, rfl⟩, fun i j hr => ?_⟩
    rcases hnew i j hr with h | h
    · have := h2 i j h; omega
    · exact h
  · rw [if_neg hc]
    refine ⟨h0, ?_, fun i j hr => ?_⟩
    · rcases h1 with h1 | ⟨i, j, hr, hv⟩
      · exact .inl h1
      · exact .inr ⟨i, j, hle i j hr, hv⟩
    · rcases hnew i j hr with h | h
      · exact h2 i j h
      · omega
theorem best_same {R R' : Nat → Nat → Prop} {v : Int} (h : Best R v) (hle : ∀ i j, R i j → R' i j) (hnew : ∀ i j, R' i j → R i j) : Best R' v := best_mono h fun i j => ⟨hle i j, hnew i j⟩

theorem start1 (row : List Int) (b : Int) : (0:Int) = S row ([] : List Int).length ∧ [0] = gs row ([] : List Int).length ∧ Best (Rk row b ([] : List Int).length) 0 ∧ [(0:Int)].length = ([] : List Int).length + 1 := by
  refine ⟨(S_zero row).symm, rfl, best_zero fun i j h => ?_, rfl⟩
  have h1 := h.1; have h2 := h.2.1; simp at h2; omega
theorem startO (row : List Int) (b : Int) : Best (Ro row b ([] : List Int).length) 0 := best_zero fun i j h => by have h1 := h.1; simp at h1
theorem startI {row pre : List Int} {b kN v : Int} (hN : kN = 0 + (pre.length : Int)) (h : Best (Ro row b pre.length) v) : Best (Ri row b kN.toNat ([] : List Int).length) v := by
  have e : kN.toNat = pre.length := by omega
  rw [e]
  refine best_same h (fun i j hr => .inl hr) fun i j hr => ?_
  rcases hr with hr | hr
  · exact hr
  · have := hr.1; have := hr.2.1; have := hr.2.2.1; simp at this; omega
theorem bl1_first {row : List Int} {k lo : Nat} {t : Int} (hB : BL 1 t (gs row k) lo lo) (hlo : lo ≤ k) : t ≤ S row lo := by
  have h1 := hB.2 lo (Int.le_refl _) (by rw [gs_length]; omega)
  rw [gs_getD hlo] at h1
  cases lo with
  | zero =>
    have e : mx row 0 = S row 0 := by rw [S_zero]; rfl
    rw [e] at h1; omega
  | succ n =>
    have h2 := hB.1 n (by omega)
    rw [gs_getD (by omega)] at h2
    have e : mx row (n + 1) = max (mx row n) (S row (n + 1)) := rfl
    rw [e] at h1; omega
theorem turn1 {row pre g : List Int} {b kN here longest lo hi : Int} (hN : kN = 1 + (pre.length : Int)) (hlt : pre.length < ((row.length : Int) + 1 - 1).toNat) (h1 : here = S row pre.length) (h2 : g = gs row pre.length) (h3 : Best (Rk row b pre.length) longest)
    (h0 : 0 ≤ lo) (hl : lo ≤ hi) (hh : hi ≤ (g.length : Int)) (hn : ¬ lo < hi) (hB : BL 1 (here + row.getD (kN - 1).toNat 0 - b) g lo hi) :
    here + row.getD (kN - 1).toNat 0 = S row (pre ++ [kN]).length ∧
    g ++ [if here + row.getD (kN - 1).toNat 0 > g.getD (-1 + (g.length : Int)).toNat 0 then here + row.getD (kN - 1).toNat 0 else g.getD (-1 + (g.length : Int)).toNat 0] = gs row (pre ++ [kN]).length ∧
    Best (Rk row b (pre ++ [kN]).length) (if lo < kN then (if kN - lo > longest then kN - lo else longest) else longest) ∧
    (g ++ [if here + row.getD (kN - 1).toNat 0 > g.getD (-1 + (g.length : Int)).toNat 0 then here + row.getD (kN - 1).toNat 0 else g.getD (-1 + (g.length : Int)).toNat 0]).length = (pre ++ [kN]).length + 1 := by
  have e : (kN - 1).toNat = pre.length := by omega
  have eh : hi = lo := by omega
  subst eh
  have el : (pre ++ [kN]).length = pre.length + 1 := by simp
  rw [e, el]
  have eS : here + row.getD pre.length 0 = S row (pre.length + 1) := by rw [S_succ (by omega), h1]
  rw [e, eS] at hB
  rw [eS]
  have eg : g.getD (-1 + (g.length : Int)).toNat 0 = mx row pre.length := by
    rw [h2, gs_length, show (-1 + ((pre.length + 1 : Nat) : Int)).toNat = pre.length by omega, gs_getD (Nat.le_refl _)]
  have em : (if S row (pre.length + 1) > mx row pre.length then S row (pre.length + 1) else mx row pre.length) = mx row (pre.length + 1) := by
    show _ = max _ _
    split <;> omega
  rw [eg, em]
  refine ⟨rfl, ?_, ?_, ?_⟩
  · rw [gs_succ, h2]
  · subst h2
    obtain ⟨l, rfl⟩ := Int.eq_ofNat_of_zero_le h0
    have hkN : kN = ((pre.length + 1 : Nat) : Int) := by omega
    subst hkN
    rw [gs_length] at hh
    have hold : ∀ i j, Rk row b pre.length i j → Rk row b (pre.length + 1) i j := fun i j hr => ⟨hr.1, by have := hr.2.1; omega, hr.2.2⟩
    have hge : ∀ i j, Rk row b (pre.length + 1) i j → Rk row b pre.length i j ∨ (j = pre.length + 1 ∧ l ≤ i) := fun i j hr => by
      obtain ⟨r1, r2, r3⟩ := hr
      rcases Nat.lt_or_ge pre.length j with hj | hj
      · have ej : j = pre.length + 1 := by omega
        subst ej
        refine .inr ⟨rfl, ?_⟩
        rcases Nat.lt_or_ge i l with hi' | hi'
        · have h4 := hB.1 i (by omega)
          rw [gs_getD (by omega)] at h4
          have := S_le_mx row i
          omega
        · exact hi'
      · exact .inl ⟨r1, hj, r3⟩
    by_cases hc : (l : Int) < ((pre.length + 1 : Nat) : Int)
    · have hc' : l ≤ pre.length := by omega
      have hf := bl1_first hB hc'
      rw [if_pos hc]
      refine best_add (a := l) (b := pre.length + 1) h3 ⟨by omega, Nat.le_refl _, by omega⟩ hold fun i j hr => ?_
      rcases hge i j hr with h | ⟨h, h'⟩
      · exact .inl h
      · exact .inr (by omega)
    · rw [if_neg hc]
      refine best_same h3 hold fun i j hr => ?_
      rcases hge i j hr with h | ⟨h, h'⟩
      · exact h
      · have := hr.1; omega
  · rw [List.length_append, h2, gs_length]; rfl
theorem turn1y {row pre g : List Int} {b kN here longest lo hi : Int} (hN : kN = 1 + (pre.length : Int)) (hlt : pre.length < ((row.length : Int) + 1 - 1).toNat) (h1 : here = S row pre.length) (h2 : g = gs row pre.length) (h3 : Best (Rk row b pre.length) longest)
    (h0 : 0 ≤ lo) (hl : lo ≤ hi) (hh : hi ≤ (g.length : Int)) (hn : ¬ lo < hi) (hB : BL 1 (here + row.getD (kN - 1).toNat 0 - b) g lo hi) (hc : lo < kN) :
    here + row.getD (kN - 1).toNat 0 = S row (pre ++ [kN]).length ∧
    g ++ [if here + row.getD (kN - 1).toNat 0 > g.getD (-1 + (g.length : Int)).toNat 0 then here + row.getD (kN - 1).toNat 0 else g.getD (-1 + (g.length : Int)).toNat 0] = gs row (pre ++ [kN]).length ∧
    Best (Rk row b (pre ++ [kN]).length) (if kN - lo > longest then kN - lo else longest) ∧
    (g ++ [if here + row.getD (kN - 1).toNat 0 > g.getD (-1 + (g.length : Int)).toNat 0 then here + row.getD (kN - 1).toNat 0 else g.getD (-1 + (g.length : Int)).toNat 0]).length = (pre ++ [kN]).length + 1 := by
  have := turn1 hN hlt h1 h2 h3 h0 hl hh hn hB
  rw [if_pos hc] at this
  exact this
theorem turn1n {row pre g : List Int} {b kN here longest lo hi : Int} (hN : kN = 1 + (pre.length : Int)) (hlt : pre.length < ((row.length : Int) + 1 - 1).toNat) (h1 : here = S row pre.length) (h2 : g = gs row pre.length) (h3 : Best (Rk row b pre.length) longest)
    (h0 : 0 ≤ lo) (hl : lo ≤ hi) (hh : hi ≤ (g.length : Int)) (hn : ¬ lo < hi) (hB : BL 1 (here + row.getD (kN - 1).toNat 0 - b) g lo hi) (hc : ¬ lo < kN) :
    here + row.getD (kN - 1).toNat 0 = S row (pre ++ [kN]).length ∧
    g ++ [if here + row.getD (kN - 1).toNat 0 > g.getD (-1 + (g.length : Int)).toNat 0 then here + row.getD (kN - 1).toNat 0 else g.getD (-1 + (g.length : Int)).toNat 0] = gs row (pre ++ [kN]).length ∧
    Best (Rk row b (pre ++ [kN]).length) longest ∧
    (g ++ [if here + row.getD (kN - 1).toNat 0 > g.getD (-1 + (g.length : Int)).toNat 0 then here + row.getD (kN - 1).toNat 0 else g.getD (-1 + (g.length : Int)).toNat 0]).length = (pre ++ [kN]).length + 1 := by
  have := turn1 hN hlt h1 h2 h3 h0 hl hh hn hB
  rw [if_neg hc] at this
  exact this
theorem sliceIs {row pre pre2 : List Int} {kN kN2 : Int} (hN : kN = 0 + (pre.length : Int)) (hM : kN2 = kN + 1 + (pre2.length : Int)) (hlt : pre2.length < ((row.length : Int) + 1 - (kN + 1)).toNat) :
    (List.take (min kN2.toNat row.length - kN.toNat) (List.drop kN.toNat row)).sum = S row (pre.length + pre2.length + 1) - S row pre.length := by
  have e1 : kN.toNat = pre.length := by omega
  have e2 : min kN2.toNat row.length = pre.length + pre2.length + 1 := by omega
  rw [e1, e2]
  exact S_slice (by omega)
theorem turnIy {row pre pre2 : List Int} {b kN kN2 due : Int} (hN : kN = 0 + (pre.length : Int)) (hM : kN2 = kN + 1 + (pre2.length : Int)) (hlt : pre2.length < ((row.length : Int) + 1 - (kN + 1)).toNat)
    (h : Best (Ri row b kN.toNat pre2.length) due) (hc : (List.take (min kN2.toNat row.length - kN.toNat) (List.drop kN.toNat row)).sum ≤ b) :
    Best (Ri row b kN.toNat (pre2 ++ [kN2]).length) (if kN2 - kN > due then kN2 - kN else due) := by
  rw [sliceIs hN hM hlt] at hc
  have e1 : kN.toNat = pre.length := by omega
  have el : (pre2 ++ [kN2]).length = pre2.length + 1 := by simp
  rw [e1] at h ⊢
  rw [el]
  have e3 : kN2 - kN = ((pre.length + pre2.length + 1 : Nat) : Int) - ((pre.length : Nat) : Int) := by omega
  rw [e3]
  refine best_add h (.inr ⟨rfl, by omega, by omega, by exact hc⟩) (fun i j hr => ?_) fun i j hr => ?_
  · rcases hr with hr | hr
    · exact .inl hr
    · exact .inr ⟨hr.1, hr.2.1, by have := hr.2.2.1; omega, hr.2.2.2⟩
  · rcases hr with hr | hr
    · exact .inl (.inl hr)
    · refine .inr ?_
      have := hr.1; have := hr.2.2.1
      omega
theorem turnIn {row pre pre2 : List Int} {b kN kN2 due : Int} (hN : kN = 0 + (pre.length : Int)) (hM : kN2 = kN + 1 + (pre2.length : Int)) (hlt : pre2.length < ((row.length : Int) + 1 - (kN + 1)).toNat)
    (h : Best (Ri row b kN.toNat pre2.length) due) (hc : ¬ (List.take (min kN2.toNat row.length - kN.toNat) (List.drop kN.toNat row)).sum ≤ b) :
    Best (Ri row b kN.toNat (pre2 ++ [kN2]).length) due := by
  rw [sliceIs hN hM hlt] at hc
  have e1 : kN.toNat = pre.length := by omega
  have el : (pre2 ++ [kN2]).length = pre2.length + 1 := by simp
  rw [e1] at h ⊢
  rw [el]
  refine best_same h (fun i j hr => ?_) fun i j hr => ?_
  · rcases hr with hr | hr
    · exact .inl hr
    · exact .inr ⟨hr.1, hr.2.1, by have := hr.2.2.1; omega, hr.2.2.2⟩
  · rcases hr with hr | hr
    · exact .inl hr
    · obtain ⟨r1, r2, r3, r4⟩ := hr
      rcases Nat.lt_or_ge j (pre.length + pre2.length + 1) with hj | hj
      · exact .inr ⟨r1, r2, by omega, r4⟩
      · have : j = pre.length + pre2.length + 1 := by omega
        subst this; subst r1
        exact absurd r4 hc
theorem turnO {row pre : List Int} {b kN due : Int} (hN : kN = 0 + (pre.length : Int)) (hlt : pre.length < ((row.length : Int) - 0).toNat)
    (h : Best (Ri row b kN.toNat (PySem.W.rangeKs (kN + 1) ((row.length : Int) + 1 - (kN + 1)).toNat).length) due) : Best (Ro row b (pre ++ [kN]).length) due := by
  rw [PySem.W.rangeKs_length] at h
  have e1 : kN.toNat = pre.length := by omega
  have el : (pre ++ [kN]).length = pre.length + 1 := by simp
  rw [e1] at h
  rw [el]
  refine best_same h (fun i j hr => ?_) fun i j hr => ?_
  · rcases hr with hr | hr
    · exact ⟨by have := hr.1; omega, hr.2⟩
    · obtain ⟨r1, r2, r3, r4⟩ := hr
      exact ⟨by omega, r2, by omega, r4⟩
  · obtain ⟨r1, r2, r3, r4⟩ := hr
    rcases Nat.lt_or_ge i pre.length with hi | hi
    · exact .inl ⟨hi, r2, r3, r4⟩
    · exact .inr ⟨by omega, r2, by omega, r4⟩
theorem end02 {row : List Int} {b longest due : Int} (h1 : Best (Rk row b (PySem.W.rangeKs 1 ((row.length : Int) + 1 - 1).toNat).length) longest)
    (h2 : Best (Ro row b (PySem.W.rangeKs 0 ((row.length : Int) - 0).toNat).length) due) : longest = due := by
  rw [PySem.W.rangeKs_length] at h1 h2
  refine best_uniq h1 h2 fun i j => ⟨fun h => ?_, fun h => ?_⟩
  · obtain ⟨r1, r2, r3⟩ := h
    exact ⟨by omega, r1, by omega, r3⟩
  · obtain ⟨r0, r1, r2, r3⟩ := h
    exact ⟨r1, by omega, r3⟩
theorem end02e {script : List Int} {b due : Int} (h0 : ¬ 0 < script.length) (h2 : Best (Ro (List.drop 1 script) b (PySem.W.rangeKs 0 (((List.drop 1 script).length : Int) - 0).toNat).length) due) : 0 = due := by
  refine best_uniq (R := fun _ _ => False) (best_zero fun _ _ h => h) h2 fun i j => ⟨fun h => h.elim, fun h => ?_⟩
  have := h.1; have := h.2.1; have := h.2.2.1
  simp at this; omega
end Mine
open PySem PySem.W PyProof.Rows Mine
set_option maxRecDepth 100000 in
set_option maxHeartbeats 8000000 in
theorem PySem.Challenge.cw_da0002_02_holds : PySem.Challenge.rw_da0002_02.Holds := by
  (k_with "exec While Compare cons nil" => (k_while_given ["a", "x"] (fun a x script lo hi => 0 ≤ lo ∧ lo ≤ hi ∧ hi ≤ (a.length : Int) ∧ Mine.BL 1 x a lo hi) (fun a x script lo hi => (hi - lo).toNat) "lo" "hi"))
  (k_with "pyIter ref" => (k_of "end" => k_state_given ["row", "bound"] (fun row bound pre here longest greatest => here = S row pre.length ∧ greatest = gs row pre.length ∧ Best (Rk row bound pre.length) longest ∧ greatest.length = pre.length + 1) "here" "longest" "greatest"))
  (k_with "pyIter ref" => (k_of "i" => k_state_given ["row", "bound"] (fun row bound pre due => Best (Ro row bound pre.length) due) "due"))
  (k_with "pyIter ref" => (k_of "j" => k_state_given ["row", "bound", "i"] (fun row bound i pre due => Best (Ri row bound i.toNat pre.length) due) "due"))
  (k_with "state" => exact bl_start _ _ _)
  (k_with "state" => exact bl_lo1 (gs_sorted (by assumption)) (by assumption) (by assumption) (by assumption) (by assumption) (by assumption))
  (k_with "state" => exact bl_hi1 (gs_sorted (by assumption)) (by assumption) (by assumption) (by assumption) (by assumption) (by assumption))
  (k_with "state" => exact start1 _ _)
  (k_with "state" => exact startO _ _)
  (k_with "state" => exact startI (by assumption) (by assumption))
  (k_with "state" => exact turn1y (by assumption) (by assumption) (by assumption) (by assumption) (by assumption) (by assumption) (by assumption) (by assumption) (by assumption) (by assumption) (by assumption))
  (k_with "state" => exact turn1n (by assumption) (by assumption) (by assumption) (by assumption) (by assumption) (by assumption) (by assumption) (by assumption) (by assumption) (by assumption) (by assumption))
  (k_with "state" => exact turnIy (by assumption) (by assumption) (by assumption) (by assumption) (by assumption))
  (k_with "state" => exact turnIn (by assumption) (by assumption) (by assumption) (by assumption) (by assumption))
  (k_with "state" => exact turnO (by assumption) (by assumption) (by assumption))
  (k_with "end" => (have e9 := end02 (by assumption) (by assumption); simp [e9]; done))
  (k_with "end" => (have e9 := end02e (by assumption) (by assumption); simp [← e9]; done))
  (k_with "measure" => exact meas_lo (by assumption))
  (k_with "measure" => exact meas_hi (by assumption))
  (w_on; o_law; k_head; (case hw => w_witness2); w_strict k_go)
