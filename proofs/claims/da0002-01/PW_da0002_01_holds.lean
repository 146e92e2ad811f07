import PyProof.Rows.All
import Wide.All
import OpenK.AllK
import Wide.FinOn
import PySem.Challenge.RW_da0002_01
set_option Elab.async false
section PartMath
namespace Mine
def fac (script : List Int) : Int := Int.fmod (script.getD 0 0) 5
theorem fac_nonneg (script : List Int) : 0 ≤ fac script := Int.fmod_nonneg_of_pos _ (by decide)
theorem fac_lt (script : List Int) : fac script < 5 := Int.fmod_lt_of_pos _ (by decide)
def M (f : Int) : List Int → Int
  | [] => 0
  | n :: r => M f r + (r.countP (fun y => decide (y * f < n)) : Nat)
def BL (f x : Int) (a : List Int) (lo hi : Int) : Prop := (∀ i : Nat, (i:Int) < lo → a.getD i 0 * f < x) ∧ (∀ i : Nat, hi ≤ (i:Int) → i < a.length → x ≤ a.getD i 0 * f)
def Inv1 (f : Int) (pre : List Int) (many : Int) (later : List Int) : Prop := later.Pairwise (· ≤ ·) ∧ later.Perm pre ∧ many = M f pre.reverse

theorem fdiv2 (a : Int) : a.fdiv 2 = a / 2 := by
  rw [Int.fdiv_eq_ediv_of_nonneg]; decide
theorem srt {a : List Int} (hs : a.Pairwise (· ≤ ·)) {i j : Nat} (hij : i ≤ j) (hj : j < a.length) : a.getD i 0 ≤ a.getD j 0 := by
  have hi : i < a.length := by omega
  rw [List.getD_eq_getElem?_getD, List.getD_eq_getElem?_getD, List.getElem?_eq_getElem hi, List.getElem?_eq_getElem hj]
  simp only [Option.getD_some]
  rcases Nat.lt_or_ge i j with h | h
  · exact List.pairwise_iff_getElem.mp hs i j hi hj h
  · have : i = j := by omega
    subst this; exact Int.le_refl _
theorem bl_start (f x : Int) (a : List Int) : (0:Int) ≤ 0 ∧ (0:Int) ≤ (a.length : Int) ∧ (a.length : Int) ≤ a.length ∧ BL f x a 0 a.length := by
  refine ⟨by omega, by omega, by omega, ?_, ?_⟩
  · intro i hi; omega
  · intro i h1 h2; omega
theorem bl_lo {f x : Int} {a : List Int} {lo hi : Int} (hf : 0 ≤ f) (hs : a.Pairwise (· ≤ ·)) (h0 : 0 ≤ lo) (h1 : lo < hi) (h2 : hi ≤ a.length) (hB : BL f x a lo hi) (ht : a.getD ((lo + hi).fdiv 2).toNat 0 * f < x) :
    0 ≤ (lo + hi).fdiv 2 + 1 ∧ (lo + hi).fdiv 2 + 1 ≤ hi ∧ hi ≤ a.length ∧ BL f x a ((lo + hi).fdiv 2 + 1) hi := by
  rw [fdiv2] at *
  refine ⟨by omega, by omega, h2, ?_, hB.2⟩
  intro i hi'
  have h3 := srt hs (i := i) (j := ((lo + hi) / 2).toNat) (by omega) (by omega)
  have h4 := Int.mul_le_mul_of_nonneg_right h3 hf
  omega
theorem bl_hi {f x : Int} {a : List Int} {lo hi : Int} (hf : 0 ≤ f) (hs : a.Pairwise (· ≤ ·)) (h0 : 0 ≤ lo) (h1 : lo < hi) (h2 : hi ≤ a.length) (hB : BL f x a lo hi) (ht : ¬ a.getD ((lo + hi).fdiv 2).toNat 0 * f < x) :
    0 ≤ lo ∧ lo ≤ (lo + hi).fdiv 2 ∧ (lo + hi).fdiv 2 ≤ a.length ∧ BL f x a lo ((lo + hi).fdiv 2) := by
  rw [fdiv2] at *
  refine ⟨by omega, by omega, by omega, hB.1, ?_⟩
  intro i hi' hl
  have h3 := srt hs (j := i) (i := ((lo + hi) / 2).toNat) (by omega) (by omega)
  have h4 := Int.mul_le_mul_of_nonneg_right h3 hf
  omega
theorem bl_lo1 {x : Int} {a : List Int} {lo hi : Int} (hs : a.Pairwise (· ≤ ·)) (h0 : 0 ≤ lo) (h1 : lo < hi) (h2 : hi ≤ a.length) (hB : BL 1 x a lo hi) (ht : a.getD ((lo + hi).fdiv 2).toNat 0 < x) :
    0 ≤ (lo + hi).fdiv 2 + 1 ∧ (lo + hi).fdiv 2 + 1 ≤ hi ∧ hi ≤ a.length ∧ BL 1 x a ((lo + hi).fdiv 2 + 1) hi := bl_lo (by decide) hs h0 h1 h2 hB (by rw [Int.mul_one]; exact ht)
theorem bl_hi1 {x : Int} {a : List Int} {lo hi : Int} (hs : a.Pairwise (· ≤ ·)) (h0 : 0 ≤ lo) (h1 : lo < hi) (h2 : hi ≤ a.length) (hB : BL 1 x a lo hi) (ht : ¬ a.getD ((lo + hi).fdiv 2).toNat 0 < x) :
    0 ≤ lo ∧ lo ≤ (lo + hi).fdiv 2 ∧ (lo + hi).fdiv 2 ≤ a.length ∧ BL 1 x a lo ((lo + hi).fdiv 2) := bl_hi (by decide) hs h0 h1 h2 hB (by rw [Int.mul_one]; exact ht)

theorem meas_lo {lo hi : Int} (h : lo < hi) : (hi - ((lo + hi).fdiv 2 + 1)).toNat < (hi - lo).toNat := by rw [fdiv2]; omega
theorem meas_hi {lo hi : Int} (h : lo < hi) : ((lo + hi).fdiv 2 - lo).toNat < (hi - lo).toNat := by rw [fdiv2]; omega
theorem getD_mem_take {a : List Int} {k : Nat} {y : Int} (h : y ∈ a.take k) : ∃ i, i < k ∧ i < a.length ∧ y = a.getD i 0 := by
  obtain ⟨i, hi, rfl⟩ := List.mem_iff_getElem.mp h
  have : i < k ∧ i < a.length := by simp at hi; omega
  refine ⟨i, this.1, this.2, ?_⟩
  rw [List.getElem_take, List.getD_eq_getElem?_getD, List.getElem?_eq_getElem this.2]; rfl
theorem getD_mem_drop {a : List Int} {k : Nat} {y : Int} (h : y ∈ a.drop k) : ∃ i, k ≤ i ∧ i < a.length ∧ y = a.getD i 0 := by
  obtain ⟨i, hi, rfl⟩ := List.mem_iff_getElem.mp h
  have : k + i < a.length := by simp at hi; omega
  refine ⟨k + i, by omega, this, ?_⟩
  rw [List.getElem_drop, List.getD_eq_getElem?_getD, List.getElem?_eq_getElem this]; rfl
theorem bl_count {f x : Int} {a : List Int} {lo : Int} (h0 : 0 ≤ lo) (h2 : lo ≤ a.length) (hB : BL f x a lo lo) : ((a.countP (fun y => decide (y * f < x)) : Nat) : Int) = lo := by
  have e : a = a.take lo.toNat ++ a.drop lo.toNat := (List.take_append_drop ..).symm
  have c1 : (a.take lo.toNat).countP (fun y => decide (y * f < x)) = (a.take lo.toNat).length := by
    rw [List.countP_eq_length]
    intro y hy
    obtain ⟨i, hi, hl, rfl⟩ := getD_mem_take hy
    exact decide_eq_true (hB.1 i (by omega))
  have c2 : (a.drop lo.toNat).countP (fun y => decide (y * f < x)) = 0 := by
    rw [List.countP_eq_zero]
    intro y hy
    obtain ⟨i, hi, hl, rfl⟩ := getD_mem_drop hy
    have := hB.2 i (by omega) hl
    rw [decide_eq_true_eq]; omega
  rw [e, List.countP_append, c1, c2, List.length_take]
  omega
theorem ins_sorted {x : Int} {a : List Int} {lo : Int} (hs : a.Pairwise (· ≤ ·)) (h0 : 0 ≤ lo) (hB : BL 1 x a lo lo) : (a.take lo.toNat ++ x :: a.drop lo.toNat).Pairwise (· ≤ ·) := by
  have e : a = a.take lo.toNat ++ a.drop lo.toNat := (List.take_append_drop ..).symm
  rw [e] at hs
  obtain ⟨p1, p2, p3⟩ := List.pairwise_append.mp hs
  refine List.pairwise_append.mpr ⟨p1, List.pairwise_cons.mpr ⟨?_, p2⟩, ?_⟩
  · intro y hy
    obtain ⟨i, hi, hl, rfl⟩ := getD_mem_drop hy
    have := hB.2 i (by omega) hl
    omega
  · intro y hy z hz
    rcases List.mem_cons.mp hz with rfl | hz
    · obtain ⟨i, hi, hl, rfl⟩ := getD_mem_take hy
      have := hB.1 i (by omega)
      omega
    · exact p3 y hy z hz
theorem ins_perm (x : Int) (a : List Int) (k : Nat) : (a.take k ++ x :: a.drop k).Perm (x :: a) := by
  have h := (List.perm_middle (a := x) (l₁ := a.take k) (l₂ := a.drop k))
  rw [List.take_append_drop] at h
  exact h
theorem inv1_step {f x many : Int} {pre later : List Int} {lo lo2 : Int} (hI : Inv1 f pre many later) (h0 : 0 ≤ lo) (h2 : lo ≤ later.length) (hB : BL f x later lo lo) (g0 : 0 ≤ lo2) (hC : BL 1 x later lo2 lo2) :
    Inv1 f (pre ++ [x]) (many + lo) (later.take lo2.toNat ++ x :: later.drop lo2.toNat) := by
  obtain ⟨hs, hp, hm⟩ := hI
  refine ⟨ins_sorted hs g0 hC, ?_, ?_⟩
  · exact (ins_perm x later _).trans ((hp.cons x).trans (List.perm_append_singleton x pre).symm)
  · rw [List.reverse_append, List.reverse_singleton, List.singleton_append]
    show many + lo = M f pre.reverse + _
    have hc := bl_count h0 h2 hB
    rw [(hp.trans (List.reverse_perm pre).symm).countP_eq] at hc
    omega
theorem take_snoc {rr pre post : List Int} {x : Int} (h : rr = pre ++ x :: post) : rr.take (pre.length + 1) = pre ++ [x] := by
  subst h
  rw [show pre ++ x :: post = (pre ++ [x]) ++ post by simp, show pre.length + 1 = (pre ++ [x]).length by simp, List.take_left']
  rfl
theorem inv1_end {rr : List Int} {f x many : Int} {pre post later : List Int} {lo hi lo2 hi2 : Int} (hE : rr = pre ++ x :: post) (hI : Inv1 f pre many later) (h0 : 0 ≤ lo) (h1 : lo ≤ hi) (h2 : hi ≤ later.length) (h3 : ¬ lo < hi) (hB : BL f x later lo hi)
    (g0 : 0 ≤ lo2) (g1 : lo2 ≤ hi2) (g3 : ¬ lo2 < hi2) (hC : BL 1 x later lo2 hi2) :
    Inv1 f (rr.take (pre.length + 1)) (many + lo) (later.take lo2.toNat ++ x :: later.drop lo2.toNat) := by
  have e1 : hi = lo := by omega
  have e2 : hi2 = lo2 := by omega
  subst e1; subst e2
  rw [take_snoc hE]
  exact inv1_step hI h0 h2 hB g0 hC
theorem M_snoc (f x : Int) : ∀ l : List Int, M f (l ++ [x]) = M f l + (l.countP (fun y => decide (x * f < y)) : Nat)
  | [] => by simp [M]
  | n :: r => by
    show M f (r ++ [x]) + ((r ++ [x]).countP _ : Nat) = M f r + _ + _
    rw [M_snoc f x r, List.countP_append, List.countP_cons, List.countP_cons, List.countP_nil]
    by_cases h : x * f < n <;> simp [h] <;> omega
theorem end01 {f many : Int} {row later n : List Int} (hI : Inv1 f row.reverse many later) (hp : n.Perm row) (ho : n.Pairwise (fun a b => a ≤ b)) : later = n := by
  have hq : later.Perm n := (hI.2.1.trans (List.reverse_perm row)).trans hp.symm
  exact hq.eq_of_pairwise (fun a b _ _ h1 h2 => Int.le_antisymm h1 h2) hI.1 ho
theorem end01b {f many due : Int} {row later : List Int} (hI : Inv1 f row.reverse many later) (hd : due = M f row) : many = due := by
  rw [hI.2.2, List.reverse_reverse, hd]
theorem len_later {script : List Int} {f : Int} {pre post later : List Int} {x many : Int} (h : ¬ (63:Int) < (script.length : Int)) (hEq : (List.drop 1 script).reverse = pre ++ x :: post) (hI : Inv1 f pre many later) : later.length + 1 ≤ 63 := by
  have h1 := hI.2.1.length_eq
  have h2 := congrArg List.length hEq
  simp at h2
  omega
theorem no_turn {script pre post : List Int} {x : Int} (h : ¬ 0 < script.length) (hEq : (List.drop 1 script).reverse = pre ++ x :: post) : False := by
  have h2 := congrArg List.length hEq
  simp at h2
  omega
theorem no_turn2 {script : List Int} (h : ¬ 0 < script.length) (hEq : 0 < (List.drop 1 script).length) : False := by
  simp at hEq; omega
theorem no_turn3 {row : List Int} {i : Nat} (h : row = []) (hi : i < row.length) : False := by subst h; simp at hi
end Mine
end PartMath
section PartRev
open PySem PySem.W PyProof.Rows PySem.Calls PyProof.V PySem.Spec
set_option maxRecDepth 100000
set_option maxHeartbeats 8000000
namespace Mine
section
variable {prog : Program} {w : World} {A : Around} {E : Value → Shared → Prop} {s : Shared} {env : Env} {h₀ : Heap} {x : Str} {body : List Stmt} {Q : Flow → Shared → Prop}

def REnd (h₀ : Heap) (L I : Addr) (it : Obj) (J : (Str → Option Value) → List (Addr × Obj) → Prop) (s₁ s₂ : Shared) : Prop :=
  ∃ h' tk m' nx, s₂ = { s₁ with heap := h', toks := tk } ∧ Fr h₀ L h' m' ∧ News h₀ L h' ((I, it) :: nx) ∧ (∀ p ∈ nx, p.1 ≠ I) ∧ J m' nx
def RPost (h₀ : Heap) (L I : Addr) (it : Obj) (J : (Str → Option Value) → List (Addr × Obj) → Prop) (s₁ : Shared) (Q : Flow → Shared → Prop) (f : Flow) (s₂ : Shared) : Prop :=
  match f with
  | .ret v => Q (.ret v) s₂
  | .brk => Q .next s₂
  | _ => REnd h₀ L I it J s₁ s₂
theorem REnd.intro {L I : Addr} {it : Obj} {J : (Str → Option Value) → List (Addr × Obj) → Prop} {s₁ : Shared} {h' : Heap} {tk : Nat} {m' : Str → Option Value} {news' : List (Addr × Obj)} (nx : List (Addr × Obj)) (F : Fr h₀ L h' m') (N : News h₀ L h' news')
    (hs : ∀ p ∈ (I, it) :: nx, p ∈ news') (ho : ∀ p ∈ nx, p.1 ≠ I) (hJ : J m' nx) : REnd h₀ L I it J s₁ { s₁ with heap := h', toks := tk } := ⟨h', tk, m', nx, rfl, F, fun p hp => N p (hs p hp), ho, hJ⟩

theorem rev_inv {I ax : Addr} {vs : List Value} {ns : List Int} {nn : Nat} {m₀ : Str → Option Value} {news : List (Addr × Obj)} (J : Nat → (Str → Option Value) → List (Addr × Obj) → Prop)
    (hh : A.handled = none) (hi : IntsAre vs ns) (F : Fr h₀ env.locals s.heap m₀) (N : News h₀ env.locals s.heap ((I, revObj ax ((vs.length : Int) - 1)) :: news))
    (hoff : ∀ p ∈ news, p.1 ≠ I) (hm : (ax, listOf vs.toArray nn) ∈ news) (hJm : ∀ i m nx, J i m nx → (ax, listOf vs.toArray nn) ∈ nx) (hj : J 0 m₀ news)
    (turn : ∀ i n t m₁ news₁ h tk it, ns.reverse[i]? = some n → (∀ p ∈ news₁, p.1 ≠ I) → J i m₁ news₁ → Fr h₀ env.locals h (fun y => if y = x then some (.int n t) else m₁ y) → News h₀ env.locals h ((I, it) :: news₁) →
      wpAny (model prog w) A (execs body env) (RPost h₀ env.locals I it (J (i + 1)) { s with heap := h, toks := tk } Q) E { s with heap := h, toks := tk })
    (done : ∀ m₁ news₁ h tk, J ns.length m₁ news₁ → Fr h₀ env.locals h m₁ → News h₀ env.locals h news₁ → Q .next { s with heap := h, toks := tk }) :
    wpAny (model prog w) A (pyIter (.ref I)) (fun it s₂ => LoopAtV prog w A h₀ env x body Q E it s₂) E s := by
  have hIx := N _ (List.mem_cons_self ..)
  have hax := N _ (List.mem_cons_of_mem _ hm)
  have hl : s.heap.IsList ax vs.toArray := ⟨_, hax.1, rfl, nn, rfl⟩
  have hne : ax ≠ I := hoff _ hm
  have hit : s.heap.IsRevIter I ax ((vs.length : Int) - 1) := ⟨_, hIx.1, rfl, rfl⟩
  refine wpAny_pyIter_revIter hit ?_
  have W := Walks.listRev (prog := prog) (w := w) hh I ax hne vs.toArray
  have hlen : vs.toArray.size = ns.length := by simp [hi.length]
  rw [hlen] at W
  have hlv : vs.length = ns.length := hi.length
  refine ⟨I, _, _, ns.length, _, _, m₀, news, J, rfl, W, ?_, ?_, ?_, ⟨Nat.zero_le _, ?_, hl⟩, F, (fun p hp => N p (List.mem_cons_of_mem _ hp)), hj, ?_, ?_⟩
  · intro hmm
    rcases List.mem_cons.mp hmm with e | hmm
    · exact hIx.2.1 e.symm
    · exact hax.2.1 (List.mem_singleton.mp hmm).symm
  · intro b hb
    rw [List.mem_singleton.mp hb]
    exact hIx.2.2
  · intro p hp hI
    exact hoff p hp (List.mem_singleton.mp hI)
  · have e : (ns.length : Int) - 1 - ((0 : Nat) : Int) = (vs.length : Int) - 1 := by omega
    rw [e]
    exact hit
  · rintro i v m₁ news₁ s₁ own ⟨hh', tk', rfl⟩ hin hP hJ hofs hown hget hall hst F₁ N₁
    obtain ⟨it, hit', hic, hid⟩ := hst.2.1
    have hlt' : i < ns.length := hin
    have hrv : ns.reverse[i]? = some (ns.reverse[i]'(by simp; omega)) := List.getElem?_eq_getElem (by simp; omega)
    obtain ⟨t, hx⟩ := hi.reverse.get i _ hrv
    have hv : v = .int (ns.reverse[i]'(by simp; omega)) t := by
      have hP' : vs.reverse[i]? = some v := by
        rw [List.getElem?_reverse (by omega)]
        have : vs.toArray[ns.length - 1 - i]? = some v := hP
        rw [hlv]
        simpa using this
      rw [hx] at hP'
      exact (Option.some.inj hP').symm
    subst hv
    have hmemax : (ax, listOf vs.toArray nn) ∈ news₁ := hJm _ _ _ hJ
    have hitown : (I, it) ∈ own := hall I (List.mem_cons_self ..) hIx.2.2 _ hit'
    have hofs' : ∀ p ∈ news₁, p.1 ≠ I := fun p hp e => hofs p hp (List.mem_singleton.mpr e)
    have N₂ : News h₀ env.locals hh' ((I, it) :: news₁) := fun p hp => by
      rcases List.mem_cons.mp hp with rfl | hp
      · exact N₁ _ (List.mem_append_left _ hitown)
      · exact N₁ _ (List.mem_append_right _ hp)
    refine wpAny_mono (turn i _ t m₁ news₁ hh' tk' it hrv hofs' hJ F₁ N₂) (fun f s₂ p => ?_) fun _ _ e => e
    have fin : REnd h₀ env.locals I it (J (i + 1)) { s with heap := hh', toks := tk' } s₂ → LoopStepU h₀ env.locals [I] own (J (i + 1)) { s with heap := hh', toks := tk' } .next s₂ := by
      rintro ⟨h', tk, m', nx, e, F', N', ho, hm'⟩
      refine ⟨rfl, h', tk, m', nx, e, F', fun p hp => ?_, fun p hp hq => ho p hp (List.mem_singleton.mp hq), hm'⟩
      rcases List.mem_append.mp hp with hp | hp
      · have h2 : hh'.get? p.1 = some p.2 := hget p hp
        rcases List.mem_cons.mp (hown p hp) with h1 | h1
        · have h3 : p = (I, it) := by
            rw [h1, hit'] at h2
            exact Prod.ext h1 (Option.some.inj h2).symm
          rw [h3]; exact N' _ (List.mem_cons_self ..)
        · have h1' : p.1 = ax := List.mem_singleton.mp h1
          have h3 : p = (ax, listOf vs.toArray nn) := by
            rw [h1', (N₁ _ (List.mem_append_right _ hmemax)).1] at h2
            exact Prod.ext h1' (Option.some.inj h2).symm
          rw [h3]; exact N' _ (List.mem_cons_of_mem _ (hJm _ _ _ hm'))
      · exact N' _ (List.mem_cons_of_mem _ hp)
    cases f with
    | ret v => exact .ret p
    | brk => exact .brk p
    | next => exact .next (fin p)
    | cont => exact .cont (fin p)
  · rintro h' tk m' news' F' N' _ hJ
    exact done m' news' h' tk hJ F' N'

/-- the table of the law's own codes: empty, or with the one entry at 35, 48 -/
def J1 (q : Str) (m₀ : Str → Option Value) (l ax P : Addr) (vs : List Value) (n1 : Nat) (p1 p2 p3 : Addr × Obj) (f : Int) (rrow : List Int) (i : Nat) (m : Str → Option Value) (nx : List (Addr × Obj)) : Prop :=
  ∃ (many : Int) (tm : Nat) (vl : List Value) (later : List Int) (nl : Nat), m (Str.ofString "many") = some (.int many tm) ∧ (∀ z, z ≠ Str.ofString "x" → z ≠ Str.ofString "many" → m z = m₀ z) ∧ IntsAre vl later ∧ Inv1 f (rrow.take i) many later ∧
    ((i = 0 ∧ nx = [(l, listOf vl.toArray nl), (ax, listOf vs.toArray n1), p1, p2, p3, (P, tabObj #[])]) ∨
      ∃ (c' : Addr) (oc : Obj) (fs : Array Value) (t : Tok), oc.data = .fields fs ∧ fs[1]? = some (.str q t) ∧ (@LT.lt Nat _ l c' ∧ @LT.lt Nat _ ax c' ∧ @LT.lt Nat _ p1.1 c' ∧ @LT.lt Nat _ p2.1 c' ∧ @LT.lt Nat _ p3.1 c' ∧ @LT.lt Nat _ P c') ∧ 0 < i ∧ nx = [(c', oc), (l, listOf vl.toArray nl), (ax, listOf vs.toArray n1), p1, p2, p3, (P, tabObj #[rawInt ((35 : Nat) : Int), rawInt ((48 : Nat) : Int), .ref c'])])

theorem fr1 {L : Addr} {h : Heap} {m₀ m₁ : Str → Option Value} {many : Int} {tm : Nat} {v : Value} (h1 : m₁ (Str.ofString "many") = some (.int many tm)) (h2 : ∀ z, z ≠ Str.ofString "x" → z ≠ Str.ofString "many" → m₁ z = m₀ z)
    (F : Fr h₀ L h (fun y => if y = Str.ofString "x" then some v else m₁ y)) : Fr h₀ L h (fun y => if y = Str.ofString "x" then some v else if y = Str.ofString "many" then some (.int many tm) else m₀ y) := by
  have e : (fun y => if y = Str.ofString "x" then some v else m₁ y) = fun y => if y = Str.ofString "x" then some v else if y = Str.ofString "many" then some (.int many tm) else m₀ y := by
    funext y
    by_cases hx : y = Str.ofString "x"
    · rw [if_pos hx, if_pos hx]
    · rw [if_neg hx, if_neg hx]
      by_cases hy : y = Str.ofString "many"
      · rw [if_pos hy, hy, h1]
      · rw [if_neg hy, h2 y hx hy]
  rw [← e]; exact F
theorem fr2 {L : Addr} {h : Heap} {m₀ m₁ : Str → Option Value} {many : Int} {tm : Nat} (h1 : m₁ (Str.ofString "many") = some (.int many tm)) (h2 : ∀ z, z ≠ Str.ofString "x" → z ≠ Str.ofString "many" → m₁ z = m₀ z)
    (F : Fr h₀ L h m₁) : Fr h₀ L h (fun y => if y = Str.ofString "x" then m₁ y else if y = Str.ofString "many" then some (.int many tm) else m₀ y) := by
  have e : m₁ = fun y => if y = Str.ofString "x" then m₁ y else if y = Str.ofString "many" then some (.int many tm) else m₀ y := by
    funext y
    by_cases hx : y = Str.ofString "x"
    · rw [if_pos hx]
    · rw [if_neg hx]
      by_cases hy : y = Str.ofString "many"
      · rw [if_pos hy, hy, h1]
      · rw [if_neg hy, h2 y hx hy]
  rw [← e]; exact F

theorem loop01 {I l ax P : Addr} {vs : List Value} {ns : List Int} {n0 n1 : Nat} {m₀ : Str → Option Value} {p1 p2 p3 : Addr × Obj} {t₀ : Nat} (f : Int)
    (hh : A.handled = none) (hi : IntsAre vs ns) (F : Fr h₀ env.locals s.heap m₀)
    (N : News h₀ env.locals s.heap [(I, revObj ax ((vs.length : Int) - 1)), (l, listOf #[] n0), (ax, listOf vs.toArray n1), p1, p2, p3, (P, tabObj #[])])
    (hoff : ∀ p ∈ [(l, listOf #[] n0), (ax, listOf vs.toArray n1), p1, p2, p3, (P, tabObj #[])], p.1 ≠ I)
    (hm : m₀ (Str.ofString "many") = some (.int 0 t₀))
    (turnA : ∀ pre post n many tm vl later nl t h tk it, ns.reverse = pre ++ n :: post → IntsAre vl later → Inv1 f pre many later →
      (∀ p ∈ [(l, listOf vl.toArray nl), (ax, listOf vs.toArray n1), p1, p2, p3, (P, tabObj #[])], p.1 ≠ I) →
      Fr h₀ env.locals h (fun y => if y = Str.ofString "x" then some (.int n t) else if y = Str.ofString "many" then some (.int many tm) else m₀ y) → News h₀ env.locals h [(I, it), (l, listOf vl.toArray nl), (ax, listOf vs.toArray n1), p1, p2, p3, (P, tabObj #[])] →
      wpAny (model prog w) A (execs body env) (RPost h₀ env.locals I it (J1 (env.qual ++ "<lambda>") m₀ l ax P vs n1 p1 p2 p3 f ns.reverse (pre.length + 1)) { s with heap := h, toks := tk } Q) E { s with heap := h, toks := tk })
    (turnB : ∀ pre post n many tm vl later nl t h tk it c' oc fs tq, ns.reverse = pre ++ n :: post → IntsAre vl later → Inv1 f pre many later → oc.data = .fields fs → fs[1]? = some (.str (env.qual ++ "<lambda>") tq) → (@LT.lt Nat _ l c' ∧ @LT.lt Nat _ ax c' ∧ @LT.lt Nat _ p1.1 c' ∧ @LT.lt Nat _ p2.1 c' ∧ @LT.lt Nat _ p3.1 c' ∧ @LT.lt Nat _ P c') →
      (∀ p ∈ [(c', oc), (l, listOf vl.toArray nl), (ax, listOf vs.toArray n1), p1, p2, p3, (P, tabObj #[rawInt ((35 : Nat) : Int), rawInt ((48 : Nat) : Int), .ref c'])], p.1 ≠ I) →
      Fr h₀ env.locals h (fun y => if y = Str.ofString "x" then some (.int n t) else if y = Str.ofString "many" then some (.int many tm) else m₀ y) → News h₀ env.locals h [(I, it), (c', oc), (l, listOf vl.toArray nl), (ax, listOf vs.toArray n1), p1, p2, p3, (P, tabObj #[rawInt ((35 : Nat) : Int), rawInt ((48 : Nat) : Int), .ref c'])] →
      wpAny (model prog w) A (execs body env) (RPost h₀ env.locals I it (J1 (env.qual ++ "<lambda>") m₀ l ax P vs n1 p1 p2 p3 f ns.reverse (pre.length + 1)) { s with heap := h, toks := tk } Q) E { s with heap := h, toks := tk })
    (doneA : ∀ (u : Str → Option Value) many tm vl later nl h tk, ns = [] → IntsAre vl later → Inv1 f ns.reverse many later → Fr h₀ env.locals h (fun y => if y = Str.ofString "x" then u y else if y = Str.ofString "many" then some (.int many tm) else m₀ y) →
      News h₀ env.locals h [(l, listOf vl.toArray nl), (ax, listOf vs.toArray n1), p1, p2, p3, (P, tabObj #[])] → Q .next { s with heap := h, toks := tk })
    (doneB : ∀ (u : Str → Option Value) many tm vl later nl h tk c' oc fs tq, 0 < ns.length → IntsAre vl later → Inv1 f ns.reverse many later → oc.data = .fields fs → fs[1]? = some (.str (env.qual ++ "<lambda>") tq) → (@LT.lt Nat _ l c' ∧ @LT.lt Nat _ ax c' ∧ @LT.lt Nat _ p1.1 c' ∧ @LT.lt Nat _ p2.1 c' ∧ @LT.lt Nat _ p3.1 c' ∧ @LT.lt Nat _ P c') → Fr h₀ env.locals h (fun y => if y = Str.ofString "x" then u y else if y = Str.ofString "many" then some (.int many tm) else m₀ y) →
      News h₀ env.locals h [(c', oc), (l, listOf vl.toArray nl), (ax, listOf vs.toArray n1), p1, p2, p3, (P, tabObj #[rawInt ((35 : Nat) : Int), rawInt ((48 : Nat) : Int), .ref c'])] → Q .next { s with heap := h, toks := tk }) :
    wpAny (model prog w) A (pyIter (.ref I)) (fun it s₂ => LoopAtV prog w A h₀ env (Str.ofString "x") body Q E it s₂) E s := by
  refine rev_inv (J1 (env.qual ++ "<lambda>") m₀ l ax P vs n1 p1 p2 p3 f ns.reverse) hh hi F N hoff (nn := n1) (.tail _ (.head _)) ?_ ⟨0, t₀, [], [], n0, hm, fun _ _ _ => rfl, .nil, ⟨.nil, .nil, rfl⟩, .inl ⟨rfl, rfl⟩⟩ ?_ ?_
  · rintro i m nx ⟨many, tm, vl, later, nl, h1, h2, h3, h4, ⟨_, rfl⟩ | ⟨c', oc, fs, t, h5, h6, h7, h8, rfl⟩⟩
    · exact .tail _ (.head _)
    · exact .tail _ (.tail _ (.head _))
  · intro i n t m₁ nx h tk it hn hofs hJ F₁ N₁
    have hs : ns.reverse.take (i + 1) = ns.reverse.take i ++ [n] := by simp [List.take_add_one, hn]
    have e : ns.reverse = ns.reverse.take i ++ n :: ns.reverse.drop (i + 1) := by
      have ht := List.take_append_drop (i + 1) ns.reverse
      rw [hs, List.append_assoc] at ht
      exact ht.symm
    have hlt : i < ns.reverse.length := (List.getElem?_eq_some_iff.mp hn).1
    have hl : (ns.reverse.take i).length = i := by rw [List.length_take]; omega
    obtain ⟨many, tm, vl, later, nl, h1, h2, h3, h4, ⟨_, rfl⟩ | ⟨c', oc, fs, tq, h5, h6, h7, h8, rfl⟩⟩ := hJ
    · have := turnA (ns.reverse.take i) _ n many tm vl later nl t h tk it e h3 h4 hofs (fr1 h1 h2 F₁) N₁
      rw [hl] at this
      exact this
    · have := turnB (ns.reverse.take i) _ n many tm vl later nl t h tk it c' oc fs tq e h3 h4 h5 h6 h7 hofs (fr1 h1 h2 F₁) N₁
      rw [hl] at this
      exact this
  · intro m₁ nx h tk hJ F₁ N₁
    have ht : ns.reverse.take ns.length = ns.reverse := List.take_of_length_le (by simp)
    obtain ⟨many, tm, vl, later, nl, h1, h2, h3, h4, ⟨hz, rfl⟩ | ⟨c', oc, fs, tq, h5, h6, h7, h8, rfl⟩⟩ := hJ
    · rw [ht] at h4
      exact doneA m₁ many tm vl later nl h tk (List.eq_nil_of_length_eq_zero hz) h3 h4 (fr2 h1 h2 F₁) N₁
    · rw [ht] at h4
      exact doneB m₁ many tm vl later nl h tk c' oc fs tq h8 h3 h4 h5 h6 h7 (fr2 h1 h2 F₁) N₁

theorem insert01 {L D : Addr} {m : Str → Option Value} {news news' : List (Addr × Obj)} {vl : List Value} {later : List Int} {nl : Nat} {k x : Int} {u tx : Tok} {Q : Value → Shared → Prop} (F : Fr h₀ L s.heap m) (N : News h₀ L s.heap news)
    (hi : IntsAre vl later) (h0 : 0 ≤ k) (h1 : k ≤ (later.length : Int)) (h2 : later.length ≤ 63)
    (U : Upd D (listOf vl.toArray nl) (listOf (vl.take k.toNat ++ .int x tx :: vl.drop k.toNat).toArray (nl + 1)) news news')
    (h : ∀ h', Fr h₀ L h' m → News h₀ L h' news' → IntsAre (vl.take k.toNat ++ .int x tx :: vl.drop k.toNat) (later.take k.toNat ++ x :: later.drop k.toNat) → Q .none { s with heap := h' }) :
    wpAny (model prog w) A (call (.builtin "list.insert") [.ref D, .int k u, .int x tx]) Q E s := by
  have hl := hi.length
  refine kl_insert (its := vl.toArray) (l := vl.take k.toNat ++ .int x tx :: vl.drop k.toNat) F N ?_ ?_ U ?_ fun h' F' N' => h h' F' N' ?_
  · simp [Builtin.List.listFitsIndex]; omega
  · unfold kl_ins
    rw [if_neg (by omega), Nat.min_eq_left (by show k.toNat ≤ vl.length; omega)]
  · show vl.length ≤ _
    rw [PySem.sizeLine_eq]; omega
  · exact .append (hi.take _) (.cons _ _ (hi.drop _))
theorem mulok (a c : Int) : IntMulOk a (c.fmod 5) := .of_right (PySem.intBits_le_64 (by have := Int.fmod_nonneg_of_pos c (show (0:Int) < 5 by decide); omega) (by have := Int.fmod_lt_of_pos c (show (0:Int) < 5 by decide); omega))
end
end Mine
end PartRev
section PartCell
open PySem PySem.W PyProof.Rows PySem.Calls PyProof.V PySem.Spec
set_option maxRecDepth 100000
set_option maxHeartbeats 8000000
namespace Mine
section
variable {prog : Program} {w : World} {A : Around} {E : Value → Shared → Prop} {s : Shared} {env : Env} {h₀ : Heap} {j : Str} {px : Pos} {body : List Stmt} {Q : Flow → Shared → Prop}

def CEnd (h₀ : Heap) (L I : Addr) (it : Obj) (g : Obj → List (Addr × Obj)) (J : (Str → Option Value) → Prop) (s₁ s₂ : Shared) : Prop :=
  ∃ h' tk m' oc v, s₂ = { s₁ with heap := h', toks := tk } ∧ Fr h₀ L h' m' ∧ News h₀ L h' ((I, it) :: g oc) ∧ oc.data = .cell v ∧ J m'
def CPost (h₀ : Heap) (L I : Addr) (it : Obj) (g : Obj → List (Addr × Obj)) (J : (Str → Option Value) → Prop) (s₁ : Shared) (f : Flow) (s₂ : Shared) : Prop :=
  f = .next ∧ CEnd h₀ L I it g J s₁ s₂
theorem CEnd.intro {L I : Addr} {it : Obj} {g : Obj → List (Addr × Obj)} {J : (Str → Option Value) → Prop} {s₁ : Shared} {h' : Heap} {tk : Nat} {m' : Str → Option Value} {news' : List (Addr × Obj)} {oc : Obj} {v : Option Value} (F : Fr h₀ L h' m') (N : News h₀ L h' news')
    (hd : oc.data = .cell v) (hs : ∀ p ∈ (I, it) :: g oc, p ∈ news') (hJ : J m') : CEnd h₀ L I it g J s₁ { s₁ with heap := h', toks := tk } := ⟨h', tk, m', oc, v, rfl, F, fun p hp => N p (hs p hp), hd, hJ⟩

theorem cell_range {r c : Addr} {n : Nat} {b₀ : Int} {t₀ u₀ w₀ : Tok} {m₀ : Str → Option Value} {news : List (Addr × Obj)} {g : Obj → List (Addr × Obj)} {o₀ : Obj} {v₀ : Option Value} (J : Nat → (Str → Option Value) → Prop)
    (hh : A.handled = none) (hr : IsRange s.heap r 0 b₀ 1 t₀ u₀ w₀) (hb : b₀ = (n : Int)) (hn : n ≤ 63)
    (hk : env.scope.kind = .function) (hx : env.kindOf j = some .cell) (hc : env.cells.lookup j = some c)
    (F : Fr h₀ env.locals s.heap m₀) (N : News h₀ env.locals s.heap news) (U : UpdF c o₀ news g) (hd : o₀.data = .cell v₀) (hj : J 0 m₀)
    (turn : ∀ (s₁ : Shared) i t m₁ h oc I it, i < n → J i m₁ → oc.data = .cell (some (.int (i : Int) t)) → (∀ p ∈ g oc, p.1 < I) → Fr h₀ env.locals h m₁ → News h₀ env.locals h ((I, it) :: g oc) →
      wpAny (model prog w) A (execs body env) (CPost h₀ env.locals I it g (J (i + 1)) { s₁ with heap := h }) E { s₁ with heap := h })
    (done : ∀ m₁ h tk oc v, J n m₁ → oc.data = .cell v → Fr h₀ env.locals h m₁ → News h₀ env.locals h (g oc) → Q .next { s with heap := h, toks := tk }) :
    wpAny (model prog w) A (pyIter (.ref r)) (fun it s₂ => LoopAtT prog w A h₀ env (.Name j px) body Q E it s₂) E s := by
  subst hb
  have hsmall : Builtin.Range.small 0 (n : Int) 1 = true := small_one (by omega) (by omega) (by omega) (by omega)
  have hnn : Builtin.Range.rangeSize 0 (n : Int) 1 = (n : Int) := by
    have := rangeSize_nat 0 (n : Int)
    rw [this]; omega
  obtain ⟨pre, post, rfl, hg, h1, h2⟩ := U.split
  refine wpAny_pyIter_range hr hsmall ?_
  have W : Walks prog w A s.heap.objs.size [s.heap.objs.size] [s.heap.objs.size] n (fun i v => i < n ∧ ∃ t, v = .int (0 + i * 1) t)
      (fun i h => IsRangeIter h s.heap.objs.size (0 + (i : Nat) * 1) ((n : Int) - (i : Nat)) 1) := (Walks.range hh _ 0 1 n).bound
  have hlt : ∀ p ∈ pre ++ (c, o₀) :: post, p.1 < s.heap.objs.size := fun p hp => Heap.lt_size (N p hp).1
  have hgl : ∀ (o : Obj) p, p ∈ g o → p.1 < s.heap.objs.size := fun o p hp => by
    rw [hg o] at hp
    rcases List.mem_append.mp hp with hp | hp
    · exact hlt p (List.mem_append_left _ hp)
    · rcases List.mem_cons.mp hp with rfl | hp
      · exact hlt (c, o₀) (List.mem_append_right _ (.head _))
      · exact hlt p (List.mem_append_right _ (.tail _ hp))
  refine ⟨s.heap.objs.size, _, _, n, _, _, m₀, pre ++ (c, o₀) :: post, (fun i m nx => ∃ oc v, oc.data = .cell v ∧ nx = g oc ∧ J i m), rfl, W, ?_, ?_, ?_, ?_, F.push _, (fun p hp => ⟨Heap.get?_push_of_some _ (N p hp).1, (N p hp).2⟩), ?_, ⟨o₀, v₀, hd, (hg o₀).symm, hj⟩, ?_, ?_⟩
  · intro hm
    exact absurd F.ns.lt ((List.mem_singleton.mp hm) ▸ Nat.lt_irrefl _)
  · intro b hb
    rw [List.mem_singleton.mp hb]
    exact next_is_new F
  · intro p hp hI
    exact absurd (hlt p hp) ((List.mem_singleton.mp hI) ▸ Nat.lt_irrefl _)
  · show IsRangeIter _ _ _ _ _
    rw [hnn]; simpa using Heap.get?_push_size _ rfl
  · intro i s' v Q' _ hQ'
    exact wpAny_of_eq (a := ()) rfl hQ'
  · rintro i v m₁ nx s₁ own hin ⟨_, t, rfl⟩ ⟨oc, v', hd', rfl, hJ⟩ hofs hown hget hall hst F₁ N₁
    have e1 : (0 : Int) + (i : Int) * 1 = (i : Int) := by omega
    rw [e1]
    have hI0 : h₀.get? s.heap.objs.size = none := next_is_new F
    have hit' : s₁.heap.get? s.heap.objs.size = some _ := hst
    have hitown := hall s.heap.objs.size (List.mem_singleton.mpr rfl) hI0 _ hit'
    refine wpAny_assign_Name ?_
    rw [hg oc] at N₁
    have hmem := N₁ (c, oc) (List.mem_append_right _ (List.mem_append_right _ (.head _)))
    refine wpAny_storeName_cell hk hx hc ⟨oc, hmem.1, hd'⟩ fun h' hv hs => ?_
    obtain ⟨o', ho', hd2⟩ := hv
    have F₂ : Fr h₀ env.locals h' m₁ := ⟨F₁.ns.sameBut hs (Ne.symm hmem.2.1), fun b ob e => (hs.2 b (fun q => by rw [q, hmem.2.2] at e; cases e)).trans (F₁.keep b ob e), F₁.above⟩
    have hne : s.heap.objs.size ≠ c := fun q => Nat.lt_irrefl _ (q ▸ hgl oc (c, oc) (by rw [hg oc]; exact List.mem_append_right _ (.head _)) : s.heap.objs.size < s.heap.objs.size)
    have hI' : h'.get? s.heap.objs.size = some _ := (hs.2 _ hne).trans hit'
    have hIn := N₁ _ (List.mem_append_left _ hitown)
    have N₂ : News h₀ env.locals h' ((s.heap.objs.size, _) :: g o') := fun p hp => by
      rcases List.mem_cons.mp hp with rfl | hp
      · exact ⟨hI', hIn.2⟩
      · rw [hg o'] at hp
        rcases List.mem_append.mp hp with hp | hp
        · have n := N₁ p (List.mem_append_right _ (List.mem_append_left _ hp))
          exact ⟨(hs.2 _ (h1 p hp)).trans n.1, n.2⟩
        · rcases List.mem_cons.mp hp with rfl | hp
          · exact ⟨ho', hmem.2⟩
          · have n := N₁ p (List.mem_append_right _ (List.mem_append_right _ (.tail _ hp)))
            exact ⟨(hs.2 _ (h2 p hp)).trans n.1, n.2⟩
    refine wpAny_mono (turn s₁ i t m₁ h' o' _ _ hin hJ hd2 (fun p hp => hgl o' p hp) F₂ N₂) (fun f s₂ p => ?_) fun _ _ e => e
    obtain ⟨rfl, h3, tk3, m3, oc3, v3, e3, F3, N3, hd3, hJ3⟩ := p
    refine ⟨rfl, h3, tk3, m3, g oc3, e3, F3, fun p hp => ?_, fun p hp hI => ?_, oc3, v3, hd3, rfl, hJ3⟩
    · rcases List.mem_append.mp hp with hp | hp
      · have q1 := List.mem_singleton.mp (hown p hp)
        have q2 := hget p hp
        rw [q1, hit'] at q2
        have q3 : p = (s.heap.objs.size, _) := Prod.ext q1 (Option.some.inj q2).symm
        rw [q3]; exact N3 _ (.head _)
      · exact N3 _ (.tail _ hp)
    · have q := hgl oc3 p hp
      rw [List.mem_singleton.mp hI] at q
      exact Nat.lt_irrefl _ q
  · rintro h' tk m' news' F' N' _ ⟨oc, v, hd', rfl, hJ⟩
    exact done m' h' tk oc v hJ hd' F' N'
theorem fold_len (p : Int → Prop) [DecidablePred p] : ∀ (ks l : List Int), (List.foldl (fun l' k' => if p k' then l' ++ [k'] else l') l ks).length = l.length + ks.countP (fun k => decide (p k))
  | [], l => by simp
  | k :: r, l => by
    rw [List.foldl_cons, fold_len p r, List.countP_cons]
    by_cases h : p k <;> simp [h] <;> omega
theorem count_range (row : List Int) (q : Int → Bool) : ∀ i : Nat, i ≤ row.length → (rangeKs 0 i).countP (fun k => q (row.getD k.toNat 0)) = (row.take i).countP q
  | 0, _ => by simp [rangeKs]
  | i + 1, h => by
    have e : rangeKs 0 (i + 1) = rangeKs 0 i ++ [(i : Int)] := by simp [rangeKs, List.range_succ]
    have e2 : row.take (i + 1) = row.take i ++ [row.getD i 0] := by
      rw [List.take_add_one, List.getD_eq_getElem?_getD, List.getElem?_eq_getElem (by omega)]; simp
    rw [e, e2, List.countP_append, List.countP_append, count_range row q i (by omega)]
    simp [List.countP_cons]
theorem due_step {row : List Int} {f due : Int} {i : Nat} (hi : i < row.length) (hd : due = M f (row.take i)) :
    due + ((List.foldl (fun l' k' => if row.getD ((i : Int)).toNat 0 * f < row.getD k'.toNat 0 then l' ++ [k'] else l') [] (rangeKs 0 ((i : Int) - 0).toNat)).length : Int) = M f (row.take (i + 1)) := by
  have e2 : row.take (i + 1) = row.take i ++ [row.getD i 0] := by
    rw [List.take_add_one, List.getD_eq_getElem?_getD, List.getElem?_eq_getElem hi]; simp
  rw [e2, M_snoc, hd, fold_len (fun k' => row.getD ((i : Int)).toNat 0 * f < row.getD k'.toNat 0), show ((i : Int) - 0).toNat = i by omega, show ((i : Int)).toNat = i by omega,
    count_range row (fun y => decide (row.getD i 0 * f < y)) i (by omega)]
  simp
def J2 (m₀ : Str → Option Value) (f : Int) (row : List Int) (i : Nat) (m : Str → Option Value) : Prop := ∃ (due : Int) (td : Nat), m (Str.ofString "due") = some (.int due td) ∧ (∀ z, z ≠ Str.ofString "due" → m z = m₀ z) ∧ due = M f (row.take i)
theorem fr3 {L : Addr} {h : Heap} {m₀ m₁ : Str → Option Value} {due : Int} {td : Nat} (h1 : m₁ (Str.ofString "due") = some (.int due td)) (h2 : ∀ z, z ≠ Str.ofString "due" → m₁ z = m₀ z)
    (F : Fr h₀ L h m₁) : Fr h₀ L h (fun y => if y = Str.ofString "due" then some (.int due td) else m₀ y) := by
  have e : m₁ = fun y => if y = Str.ofString "due" then some (.int due td) else m₀ y := by
    funext y
    by_cases hy : y = Str.ofString "due"
    · rw [if_pos hy, hy, h1]
    · rw [if_neg hy, h2 y hy]
  rw [← e]; exact F
theorem loop2 {r c : Addr} {b₀ : Int} {t₀ u₀ w₀ : Tok} {m₀ : Str → Option Value} {news : List (Addr × Obj)} {g : Obj → List (Addr × Obj)} {o₀ : Obj} {v₀ : Option Value} {td₀ : Nat} (f : Int) (row : List Int)
    (hh : A.handled = none) (hr : IsRange s.heap r 0 b₀ 1 t₀ u₀ w₀) (hb : b₀ = (row.length : Int)) (hn : row.length ≤ 63)
    (hk : env.scope.kind = .function) (hx : env.kindOf j = some .cell) (hc : env.cells.lookup j = some c)
    (F : Fr h₀ env.locals s.heap m₀) (N : News h₀ env.locals s.heap news) (U : UpdF c o₀ news g) (hd : o₀.data = .cell v₀) (hj : m₀ (Str.ofString "due") = some (.int 0 td₀))
    (turn : ∀ (s₁ : Shared) i t h oc I it due td, i < row.length → due = M f (row.take i) → oc.data = .cell (some (.int (i : Int) t)) → (∀ p ∈ g oc, p.1 < I) → Fr h₀ env.locals h (fun y => if y = Str.ofString "due" then some (.int due td) else m₀ y) → News h₀ env.locals h ((I, it) :: g oc) →
      wpAny (model prog w) A (execs body env) (CPost h₀ env.locals I it g (J2 m₀ f row (i + 1)) { s₁ with heap := h }) E { s₁ with heap := h })
    (done : ∀ h tk oc v due td, due = M f row → oc.data = .cell v → Fr h₀ env.locals h (fun y => if y = Str.ofString "due" then some (.int due td) else m₀ y) → News h₀ env.locals h (g oc) → Q .next { s with heap := h, toks := tk }) :
    wpAny (model prog w) A (pyIter (.ref r)) (fun it s₂ => LoopAtT prog w A h₀ env (.Name j px) body Q E it s₂) E s := by
  refine cell_range (J2 m₀ f row) hh hr hb hn hk hx hc F N U hd ⟨0, td₀, hj, fun _ _ => rfl, rfl⟩ ?_ ?_
  · rintro s₁ i t m₁ h oc I it hi ⟨due, td, h1, h2, h3⟩ hdc hlt F₁ N₁
    exact turn s₁ i t h oc I it due td hi h3 hdc hlt (fr3 h1 h2 F₁) N₁
  · rintro m₁ h tk oc v ⟨due, td, h1, h2, h3⟩ hdc F₁ N₁
    rw [List.take_length] at h3
    exact done h tk oc v due td h3 hdc (fr3 h1 h2 F₁) N₁
end
end Mine
end PartCell
open PySem PySem.W PyProof.Rows
namespace Mine
def NeAll (d : Nat) : List (Addr × Obj) → Prop
  | [] => True
  | p :: r => @Ne Nat p.1 d ∧ NeAll d r
theorem neAll {d : Addr} : ∀ {l : List (Addr × Obj)}, (∀ p ∈ l, p.1 ≠ d) → NeAll d l
  | [], _ => trivial
  | p :: _, h => ⟨h p (.head _), neAll fun q hq => h q (.tail _ hq)⟩
end Mine
open Mine
local macro_rules | `(tactic| walk_at "binaryOp Mult int int") => `(tactic| with_reducible refine mul_int ?_ (mulok _ _))
local macro_rules | `(tactic| walk_at "call builtin:list.insert") => `(tactic| (refine' insert01 ?F ?N ?i ?k0 ?k1 ?k2 ?U ?_; (case F => k_asm); (case N => k_asm); (case i => assumption); (case k0 => assumption); (case k1 => omega); (case k2 => omega); (case U => first | (refine Upd.tail (neN (by dsimp only; omega)) (Upd.tail (neN (by dsimp only; omega)) (Upd.tail (neN (by dsimp only; omega)) (Upd.head (List.forall_mem_cons.mpr ⟨neN (by dsimp only; omega), List.forall_mem_cons.mpr ⟨neN (by dsimp only; omega), List.forall_mem_cons.mpr ⟨neN (by dsimp only; omega), List.forall_mem_cons.mpr ⟨neN (by dsimp only; omega), List.forall_mem_cons.mpr ⟨neN (by dsimp only; omega), fun _ h => (nomatch h)⟩⟩⟩⟩⟩))))) | k_upd); intro h' F' N' hIns))
local macro_rules | `(tactic| walk_at "RPost") => `(tactic| (dsimp only [RPost]))
local macro_rules | `(tactic| walk_at "REnd") => `(tactic| (
  (rename Fr _ _ _ _ => eF); (rename News _ _ _ _ => eN); (rename (Obj.data _ = Data.fields _) => e1); (rename (GetElem?.getElem? _ _ = some (Value.str _ _)) => e2);
  (with_unfolding_all refine' REnd.intro _ eF eN ?sub ?off ⟨_, _, _, _, _, ?m1, ?m2, ?ii, ?inv, .inr ⟨_, _, _, _, e1, e2, ?lts, Nat.succ_pos _, rfl⟩⟩);
  (case m1 => with_unfolding_all rfl);
  (case m2 => (intro z h1 h2; simp [h1, h2]));
  (case ii => assumption);
  (case inv => exact inv1_end (by assumption) (by assumption) (by assumption) (by assumption) (by assumption) (by assumption) (by assumption) (by assumption) (by assumption) (by assumption) (by assumption));
  (case sub => kst_in);
  (case lts => (dsimp only at *; refine ⟨?_, ?_, ?_, ?_, ?_, ?_⟩ <;> (refine ltN ?_; omega)));
  (case off => (refine List.forall_mem_cons.mpr ⟨neN (by dsimp only; omega), List.forall_mem_cons.mpr ⟨neN (by dsimp only; omega), List.forall_mem_cons.mpr ⟨neN (by dsimp only; omega), List.forall_mem_cons.mpr ⟨neN (by dsimp only; omega), List.forall_mem_cons.mpr ⟨neN (by dsimp only; omega), List.forall_mem_cons.mpr ⟨neN (by dsimp only; omega), List.forall_mem_cons.mpr ⟨neN (by dsimp only; omega), fun _ h => (nomatch h)⟩⟩⟩⟩⟩⟩⟩))))
local macro_rules | `(tactic| walk_at "exec For Name Call cons nil") => `(tactic| (k_here; (with_reducible show wpAny _ _ (exec (Stmt.For (Expr.Name (Str.ofString "j") _) _ _ _ _) _) _ _ _); (rename Fr _ _ _ _ => lF'); (with_unfolding_all refine' For_invTF lF' ?_ (by intro _; rfl))))
set_option maxRecDepth 100000 in
set_option maxHeartbeats 8000000 in
theorem PySem.Challenge.cw_da0002_01_holds : PySem.Challenge.rw_da0002_01.Holds := by
  (k_with "exec While Compare cons nil" => ((with_reducible show wpAny _ _ (exec (Stmt.While _ [_, Stmt.If (Expr.Compare (Expr.Call _ _ _ _) _ _ _) _ _ _] _ _) _) _ _ _); k_while_given ["a", "x"] (fun a x script lo hi => 0 ≤ lo ∧ lo ≤ hi ∧ hi ≤ (a.length : Int) ∧ Mine.BL (Mine.fac script) x a lo hi) (fun a x script lo hi => (hi - lo).toNat) "lo" "hi"))
  (k_with "exec While Compare cons nil" => ((with_reducible show wpAny _ _ (exec (Stmt.While _ [_, Stmt.If (Expr.Compare (Expr.Subscript _ _ _) _ _ _) _ _ _] _ _) _) _ _ _); k_while_given ["a", "x"] (fun a x script lo hi => 0 ≤ lo ∧ lo ≤ hi ∧ hi ≤ (a.length : Int) ∧ Mine.BL 1 x a lo hi) (fun a x script lo hi => (hi - lo).toNat) "lo" "hi"))
  (k_with "state" => exact bl_start _ _ _)
  (k_with "state" => exact bl_lo (fac_nonneg _) (by assumption) (by assumption) (by assumption) (by assumption) (by assumption) (by assumption))
  (k_with "state" => exact bl_hi (fac_nonneg _) (by assumption) (by assumption) (by assumption) (by assumption) (by assumption) (by assumption))
  (k_with "state" => exact bl_lo1 (by assumption) (by assumption) (by assumption) (by assumption) (by assumption) (by assumption))
  (k_with "state" => exact bl_hi1 (by assumption) (by assumption) (by assumption) (by assumption) (by assumption) (by assumption))
  (k_with "measure" => exact meas_lo (by assumption))
  (k_with "measure" => exact meas_hi (by assumption))
  (k_with "end" => (have e9 := end01 (by assumption) (by assumption) (by assumption); simp [e9]; done))
  (k_with "end" => exact absurd (end01b (by assumption) (by assumption)) (by assumption))
  (w_on; o_law; k_head; (case hw => w_witness2); w_strict (k_go0; (rename List Int => script); (rename ¬ _ < _ => hScr); (all_goals try k_fold); k_steps))
  · (with_reducible show wpAny _ _ (pyIter (Value.ref _)) (fun it s₂ => LoopAtV _ _ _ _ _ (Str.ofString "x") _ _ _ it s₂) _ _)
    (rename Fr _ _ _ _ => lF'); (rename News _ _ _ _ => lN'); (rename (IntsAre _ _) => lI0)
    with_unfolding_all refine' loop01 (fac script) (by rfl) lI0 lF' lN' ?ypkoff ?ypkm ?ypturnA ?ypturnB ?ypdoneA ?ypdoneB
    (case ypkoff => (refine List.forall_mem_cons.mpr ⟨neN (by dsimp only; omega), List.forall_mem_cons.mpr ⟨neN (by dsimp only; omega), List.forall_mem_cons.mpr ⟨neN (by dsimp only; omega), List.forall_mem_cons.mpr ⟨neN (by dsimp only; omega), List.forall_mem_cons.mpr ⟨neN (by dsimp only; omega), List.forall_mem_cons.mpr ⟨neN (by dsimp only; omega), fun _ h => (nomatch h)⟩⟩⟩⟩⟩⟩))
    (case ypkm => with_unfolding_all rfl)
    (case ypturnB =>
      intro pre post x many tm vl later nl t h tk it c' oc fs tq hEq kFacts kInv kd1 kd2 kLts kOff kFr kNews
      clear lF' lN'
      dsimp only at kLts
      (have kMark := kstMark)
      (have kLen := len_later hScr hEq kInv)
      (have kSrt := kInv.1)
      (replace kOff := neAll kOff)
      simp only [NeAll, and_true] at kOff
      (try k_fold)
      k_steps)
    (case ypturnA =>
      intro pre post x many tm vl later nl t h tk it hEq kFacts kInv kOff kFr kNews
      clear lF' lN'
      (have kMark := kstMark)
      (have kLen := len_later hScr hEq kInv)
      (have kSrt := kInv.1)
      (replace kOff := neAll kOff)
      simp only [NeAll, and_true] at kOff
      (try k_fold)
      k_steps)
    (case ypdoneA =>
      intro u many tm vl later nl h tk hNil kFacts kInv kFr kNews
      clear lF' lN'
      (have kMark := kstMark)
      (try k_fold)
      k_steps
      (rename Fr _ _ _ _ => lF'); (rename News _ _ _ _ => lN'); (rename IsRange _ _ _ _ _ _ _ _ => rgX)
      with_unfolding_all refine' loop2 (fac script) (List.drop 1 script) (by rfl) rgX ?zpAhb ?zpAhn ?zpAhk ?zpAhx ?zpAhc lF' lN' ?zpAU ?zpAhd ?zpAhj ?zpAturn ?zpAdone
      (case zpAhb => rfl)
      (case zpAhn => (simp only [List.length_drop]; omega))
      (case zpAhk => rfl)
      (case zpAhx => with_unfolding_all rfl)
      (case zpAhc => with_unfolding_all rfl)
      (case zpAU => k_updF)
      (case zpAhd => assumption)
      (case zpAhj => with_unfolding_all rfl)
      (case zpAdone =>
        intro h tk oc v due td hdue hdc kFr kNews
        clear lF' lN'
        (try dsimp only at kNews)
        (try k_fold)
        k_steps)
      (case zpAturn =>
        intro s₁ i t h oc I it due td hi hdue hdc hlt kFr kNews
        exact (no_turn3 hNil hi).elim))
    (case ypdoneB =>
      intro u many tm vl later nl h tk c' oc fs tq hPos kFacts kInv kd1 kd2 kLts kFr kNews
      clear lF' lN'
      dsimp only at kLts
      (have kMark := kstMark)
      (try k_fold)
      k_steps
      (rename Fr _ _ _ _ => lF'); (rename News _ _ _ _ => lN'); (rename IsRange _ _ _ _ _ _ _ _ => rgX)
      with_unfolding_all refine' loop2 (fac script) (List.drop 1 script) (by rfl) rgX ?zpBhb ?zpBhn ?zpBhk ?zpBhx ?zpBhc lF' lN' ?zpBU ?zpBhd ?zpBhj ?zpBturn ?zpBdone
      (case zpBhb => rfl)
      (case zpBhn => (simp only [List.length_drop]; omega))
      (case zpBhk => rfl)
      (case zpBhx => with_unfolding_all rfl)
      (case zpBhc => with_unfolding_all rfl)
      (case zpBU => k_updF)
      (case zpBhd => assumption)
      (case zpBhj => with_unfolding_all rfl)
      (case zpBdone =>
        intro h tk oc v due td hdue hdc kFr kNews
        clear lF' lN'
        (try dsimp only at kNews)
        (try k_fold)
        k_steps)
      (case zpBturn =>
        intro s₁ i t h oc I it due td hi hdue hdc hlt kFr kNews
        clear lF' lN'
        (try dsimp only at hlt kNews)
        (k_lt hlt)
        (try k_fold)
        k_steps
        refine And.intro rfl ?_
        (rename Fr _ _ _ _ => eF); (rename News _ _ _ _ => eN)
        (with_unfolding_all refine' CEnd.intro eF eN hdc ?zpBsub ⟨_, _, ?zpBm1, ?zpBm2, ?zpBdu⟩)
        (case zpBm1 => with_unfolding_all rfl)
        (case zpBm2 => (intro z h1; simp [h1]))
        (case zpBdu => exact due_step (by assumption) (by assumption))
        (case zpBsub => kst_in)))
  · (with_reducible show wpAny _ _ (pyIter (Value.ref _)) (fun it s₂ => LoopAtV _ _ _ _ _ (Str.ofString "x") _ _ _ it s₂) _ _)
    (rename Fr _ _ _ _ => lF'); (rename News _ _ _ _ => lN'); (rename (IntsAre _ _) => lI0)
    with_unfolding_all refine' loop01 (fac script) (by rfl) lI0 lF' lN' ?yqkoff ?yqkm ?yqturnA ?yqturnB ?yqdoneA ?yqdoneB
    (case yqkoff => (refine List.forall_mem_cons.mpr ⟨neN (by dsimp only; omega), List.forall_mem_cons.mpr ⟨neN (by dsimp only; omega), List.forall_mem_cons.mpr ⟨neN (by dsimp only; omega), List.forall_mem_cons.mpr ⟨neN (by dsimp only; omega), List.forall_mem_cons.mpr ⟨neN (by dsimp only; omega), List.forall_mem_cons.mpr ⟨neN (by dsimp only; omega), fun _ h => (nomatch h)⟩⟩⟩⟩⟩⟩))
    (case yqkm => with_unfolding_all rfl)
    (case yqturnB =>
      intro pre post x many tm vl later nl t h tk it c' oc fs tq hEq kFacts kInv kd1 kd2 kLts kOff kFr kNews
      exact (no_turn (by assumption) hEq).elim)
    (case yqturnA =>
      intro pre post x many tm vl later nl t h tk it hEq kFacts kInv kOff kFr kNews
      exact (no_turn (by assumption) hEq).elim)
    (case yqdoneA =>
      intro u many tm vl later nl h tk hNil kFacts kInv kFr kNews
      clear lF' lN'
      (have kMark := kstMark)
      (try k_fold)
      k_steps
      (rename Fr _ _ _ _ => lF'); (rename News _ _ _ _ => lN'); (rename IsRange _ _ _ _ _ _ _ _ => rgX)
      with_unfolding_all refine' loop2 (fac script) (List.drop 1 script) (by rfl) rgX ?zqAhb ?zqAhn ?zqAhk ?zqAhx ?zqAhc lF' lN' ?zqAU ?zqAhd ?zqAhj ?zqAturn ?zqAdone
      (case zqAhb => rfl)
      (case zqAhn => (simp only [List.length_drop]; omega))
      (case zqAhk => rfl)
      (case zqAhx => with_unfolding_all rfl)
      (case zqAhc => with_unfolding_all rfl)
      (case zqAU => k_updF)
      (case zqAhd => assumption)
      (case zqAhj => with_unfolding_all rfl)
      (case zqAdone =>
        intro h tk oc v due td hdue hdc kFr kNews
        clear lF' lN'
        (try dsimp only at kNews)
        (try k_fold)
        k_steps)
      (case zqAturn =>
        intro s₁ i t h oc I it due td hi hdue hdc hlt kFr kNews
        exact (no_turn3 hNil hi).elim))
    (case yqdoneB =>
      intro u many tm vl later nl h tk c' oc fs tq hPos kFacts kInv kd1 kd2 kLts kFr kNews
      exact (no_turn2 (by assumption) hPos).elim)
