import PyProof.Rows.All
import Wide.All
import OpenK.AllK
import Wide.FinOn
import PySem.Challenge.RW_da0002_03
set_option Elab.async false
section PartR03
open PySem PySem.W PyProof.Rows PySem.Calls PyProof.V PySem.Spec
set_option maxRecDepth 100000
set_option maxHeartbeats 8000000
namespace Mine
section
variable {prog : Program} {w : World} {A : Around} {E : Value → Shared → Prop} {s : Shared} {env : Env} {h₀ : Heap} {x : Str} {body : List Stmt} {Q : Flow → Shared → Prop}

def REnd (h₀ : Heap) (L I : Addr) (it : Obj) (J : (Str → Option Value) → List (Addr × Obj) → Prop) (s₁ s₂ : Shared) : Prop :=
  ∃ h' tk m' nx, s₂ = { s₁ with heap := h', toks := tk } ∧ Fr h₀ L h' m' ∧ News h₀ L h' ((I, it) :: nx) ∧ (∀ p ∈ nx, p.1 ≠ I) ∧ J m' nx
def RPost (h₀ : Heap) (L I : Addr) (it : Obj) (J : (Str → Option Value) → List (Addr × Obj) → Prop) (s₁ : Shared) (Q : Flow → Shared → Prop) (f : Flow) (s₂ : Shared) : Prop :=
  match f with
  | .ret v => Q (.ret v) s₂
  | .brk => Q .next s₂
  | _ => REnd h₀ L I it J s₁ s₂
theorem REnd.intro {L I : Addr} {it : Obj} {J : (Str → Option Value) → List (Addr × Obj) → Prop} {s₁ : Shared} {h' : Heap} {tk : Nat} {m' : Str → Option Value} {news' : List (Addr × Obj)} (nx : List (Addr × Obj)) (F : Fr h₀ L h' m') (N : News h₀ L h' news')
    (hs : ∀ p ∈ (I, it) :: nx, p ∈ news') (ho : ∀ p ∈ nx, p.1 ≠ I) (hJ : J m' nx) : REnd h₀ L I it J s₁ { s₁ with heap := h', toks := tk } := ⟨h', tk, m', nx, rfl, F, fun p hp => N p (hs p hp), ho, hJ⟩

/-- a loop over a range, of any step, whose turns may lay new things -/
theorem range_inv {r : Addr} {a₀ b₀ st : Int} {n : Nat} {t₀ u₀ v₀ : Tok} {m₀ : Str → Option Value} {news : List (Addr × Obj)} (J : Nat → (Str → Option Value) → List (Addr × Obj) → Prop)
    (hh : A.handled = none) (hr : IsRange s.heap r a₀ b₀ st t₀ u₀ v₀) (hsmall : Builtin.Range.small a₀ b₀ st = true) (hn : Builtin.Range.rangeSize a₀ b₀ st = (n : Int))
    (F : Fr h₀ env.locals s.heap m₀) (N : News h₀ env.locals s.heap news) (hj : J 0 m₀ news)
    (turn : ∀ i t m₁ news₁ h tk I it, i < n → (∀ p ∈ news₁, p.1 ≠ I) → J i m₁ news₁ → Fr h₀ env.locals h (fun y => if y = x then some (.int (a₀ + (i : Int) * st) t) else m₁ y) → News h₀ env.locals h ((I, it) :: news₁) →
      wpAny (model prog w) A (execs body env) (RPost h₀ env.locals I it (J (i + 1)) { s with heap := h, toks := tk } Q) E { s with heap := h, toks := tk })
    (done : ∀ m₁ news₁ h tk, J n m₁ news₁ → Fr h₀ env.locals h m₁ → News h₀ env.locals h news₁ → Q .next { s with heap := h, toks := tk }) :
    wpAny (model prog w) A (pyIter (.ref r)) (fun it s₂ => LoopAtV prog w A h₀ env x body Q E it s₂) E s := by
  refine wpAny_pyIter_range hr hsmall ?_
  have W : Walks prog w A s.heap.objs.size [s.heap.objs.size] [s.heap.objs.size] n (fun i v => i < n ∧ ∃ t, v = .int (a₀ + i * st) t)
      (fun i h => IsRangeIter h s.heap.objs.size (a₀ + (i : Nat) * st) ((n : Int) - (i : Nat)) st) := (Walks.range hh _ a₀ st n).bound
  refine ⟨s.heap.objs.size, _, _, n, _, _, m₀, news, J, rfl, W, ?_, ?_, ?_, ?_, F.push _, (fun p hp => ⟨Heap.get?_push_of_some _ (N p hp).1, (N p hp).2⟩), hj, ?_, ?_⟩
  · intro hm
    exact absurd F.ns.lt ((List.mem_singleton.mp hm) ▸ Nat.lt_irrefl _)
  · intro b hb
    rw [List.mem_singleton.mp hb]
    exact next_is_new F
  · intro p hp hI
    exact absurd (Heap.lt_size (N p hp).1) ((List.mem_singleton.mp hI) ▸ Nat.lt_irrefl _)
  · show IsRangeIter _ _ _ _ _
    rw [hn]; simpa using Heap.get?_push_size _ rfl
  · rintro i v m₁ news₁ s₁ own ⟨hh', tk', rfl⟩ hin ⟨_, t, rfl⟩ hJ hofs hown hget hall hst F₁ N₁
    have hI0 : h₀.get? s.heap.objs.size = none := next_is_new F
    obtain ⟨it, hit'⟩ : ∃ it, hh'.get? s.heap.objs.size = some it := ⟨_, hst⟩
    have hitown := hall s.heap.objs.size (List.mem_singleton.mpr rfl) hI0 _ hit'
    have hofs' : ∀ p ∈ news₁, p.1 ≠ s.heap.objs.size := fun p hp e => hofs p hp (List.mem_singleton.mpr e)
    have N₂ : News h₀ env.locals hh' ((s.heap.objs.size, it) :: news₁) := fun p hp => by
      rcases List.mem_cons.mp hp with rfl | hp
      · exact N₁ _ (List.mem_append_left _ hitown)
      · exact N₁ _ (List.mem_append_right _ hp)
    refine wpAny_mono (turn i t m₁ news₁ hh' tk' _ it hin hofs' hJ F₁ N₂) (fun f s₂ p => ?_) fun _ _ e => e
    have fin : REnd h₀ env.locals s.heap.objs.size it (J (i + 1)) { s with heap := hh', toks := tk' } s₂ → LoopStepU h₀ env.locals [s.heap.objs.size] own (J (i + 1)) { s with heap := hh', toks := tk' } .next s₂ := by
      rintro ⟨h', tk, m', nx, e, F', N', ho, hm'⟩
      refine ⟨rfl, h', tk, m', nx, e, F', fun p hp => ?_, fun p hp hq => ho p hp (List.mem_singleton.mp hq), hm'⟩
      rcases List.mem_append.mp hp with hp | hp
      · have h1 := List.mem_singleton.mp (hown p hp)
        have h2 : hh'.get? p.1 = some p.2 := hget p hp
        rw [h1, hit'] at h2
        have h3 : p = (s.heap.objs.size, it) := Prod.ext h1 (Option.some.inj h2).symm
        rw [h3]; exact N' _ (List.mem_cons_self ..)
      · exact N' _ (List.mem_cons_of_mem _ hp)
    cases f with
    | ret v => exact .ret p
    | brk => exact .brk p
    | next => exact .next (fin p)
    | cont => exact .cont (fin p)
  · rintro h' tk m' news' F' N' _ hJ
    exact done m' news' h' tk hJ F' N'
end
end Mine
end PartR03
section PartL03
open PySem PySem.W PyProof.Rows PySem.Calls PyProof.V PySem.Spec
set_option maxRecDepth 100000
set_option maxHeartbeats 8000000
namespace Mine
theorem size_two (n : Nat) : Builtin.Range.rangeSize 0 ((n : Int) - 1) 2 = ((n / 2 : Nat) : Int) := by
  unfold Builtin.Range.rangeSize
  rw [if_pos (by decide)]
  split <;> omega
theorem small_two {n : Nat} (h : n ≤ 63) : Builtin.Range.small 0 ((n : Int) - 1) 2 = true := by
  unfold Builtin.Range.small
  rw [size_two]
  simp only [Builtin.Range.rangeFitsLong, Bool.and_eq_true, Bool.or_eq_true, decide_eq_true_eq, beq_iff_eq, show (2 : Int) > 0 by decide, if_true]
  omega
/-- the made pairs -/
abbrev tupOf (a b : Int) (t u : Tok) (n : Nat) : Obj := { cls := .type "tuple", data := .seq #[.int a t, .int b u] n }
inductive TupsIn (ts : List (Addr × Obj)) : List Value → List (Int × Int) → Prop
  | nil : TupsIn ts [] []
  | cons {a : Addr} {i j : Int} {t u : Tok} {n : Nat} {vs : List Value} {ps : List (Int × Int)} : (a, tupOf i j t u n) ∈ ts → TupsIn ts vs ps → TupsIn ts (.ref a :: vs) ((i, j) :: ps)
theorem TupsIn.mono {ts ts' : List (Addr × Obj)} (hs : ∀ p ∈ ts, p ∈ ts') {vs : List Value} {ps : List (Int × Int)} (h : TupsIn ts vs ps) : TupsIn ts' vs ps := by
  induction h with
  | nil => exact .nil
  | cons hm _ ih => exact .cons (hs _ hm) ih
theorem TupsIn.append {ts : List (Addr × Obj)} {vs ws : List Value} {ps qs : List (Int × Int)} (h : TupsIn ts vs ps) (k : TupsIn ts ws qs) : TupsIn ts (vs ++ ws) (ps ++ qs) := by
  induction h with
  | nil => exact k
  | cons hm _ ih => exact .cons hm ih
theorem TupsIn.length {ts : List (Addr × Obj)} {vs : List Value} {ps : List (Int × Int)} (h : TupsIn ts vs ps) : vs.length = ps.length := by
  induction h with
  | nil => rfl
  | cons _ _ ih => simp [ih]
theorem TupsIn.get {ts : List (Addr × Obj)} {vs : List Value} {ps : List (Int × Int)} (h : TupsIn ts vs ps) : ∀ (k : Nat) (p : Int × Int), ps[k]? = some p → ∃ a t u n, vs[k]? = some (.ref a) ∧ (a, tupOf p.1 p.2 t u n) ∈ ts := by
  induction h with
  | nil => intro k p hp; simp at hp
  | cons hm _ ih =>
    intro k p hp
    cases k with
    | zero => simp at hp; subst hp; exact ⟨_, _, _, _, rfl, hm⟩
    | succ k => simpa using ih k p (by simpa using hp)
def pairAt (script : List Int) (k : Nat) : Int × Int := ((script.getD (2 * k) 0).fmod 30, (script.getD (2 * k) 0).fmod 30 + (script.getD (2 * k + 1) 0).fmod 16)
def mk (script : List Int) (i : Nat) : List (Int × Int) := (List.range i).map (pairAt script)
theorem mk_succ (script : List Int) (i : Nat) : mk script (i + 1) = mk script i ++ [pairAt script i] := by simp [mk, List.range_succ]

theorem mk_bd {script : List Int} {i : Nat} : ∀ p ∈ mk script i, (0 ≤ p.1 ∧ p.1 < 30) ∧ p.1 ≤ p.2 ∧ p.2 < 45 := by
  intro p hp
  obtain ⟨k, _, rfl⟩ := List.mem_map.mp hp
  have h1 := Int.fmod_nonneg_of_pos (script.getD (2 * k) 0) (show (0:Int) < 30 by decide)
  have h2 := Int.fmod_lt_of_pos (script.getD (2 * k) 0) (show (0:Int) < 30 by decide)
  have h3 := Int.fmod_nonneg_of_pos (script.getD (2 * k + 1) 0) (show (0:Int) < 16 by decide)
  have h4 := Int.fmod_lt_of_pos (script.getD (2 * k + 1) 0) (show (0:Int) < 16 by decide)
  simp only [pairAt]
  omega
theorem mk_bd2 {script : List Int} {i : Nat} : ∀ p ∈ mk script i, 0 ≤ p.2 ∧ p.2 < 64 := fun p hp => by have := mk_bd p hp; omega
theorem tups_step {script : List Int} {ts : List (Addr × Obj)} {vs : List Value} {i : Nat} {D : Addr} {t u : Tok} {n : Nat} (hT : TupsIn ts vs (mk script i)) :
    TupsIn ((D, tupOf ((script.getD (0 + (i : Int) * 2).toNat 0).fmod 30) ((script.getD (0 + (i : Int) * 2).toNat 0).fmod 30 + (script.getD (0 + (i : Int) * 2 + 1).toNat 0).fmod 16) t u n) :: ts) (vs ++ [.ref D]) (mk script (i + 1)) := by
  rw [mk_succ]
  have e1 : (0 + (i : Int) * 2).toNat = 2 * i := by omega
  have e2 : (0 + (i : Int) * 2 + 1).toNat = 2 * i + 1 := by omega
  rw [e1, e2]
  exact (hT.mono fun p hp => .tail _ hp).append (.cons (.head _) .nil)
theorem own_cons {p : Addr × Obj} {ts : List (Addr × Obj)} {adr : List Addr} (h : OwnOff ts adr) (hp : ∀ b ∈ adr, p.1 ≠ b) : OwnOff (p :: ts) adr := fun q hq => by
  rcases List.mem_cons.mp hq with rfl | hq
  · exact hp
  · exact h q hq
section
variable {prog : Program} {w : World} {A : Around} {E : Value → Shared → Prop} {s : Shared} {env : Env} {h₀ : Heap} {x : Str} {body : List Stmt} {Q : Flow → Shared → Prop}
def J31 (m₀ : Str → Option Value) (l : Addr) (p1 p2 : Addr × Obj) (script : List Int) (i : Nat) (m : Str → Option Value) (nx : List (Addr × Obj)) : Prop :=
  ∃ (vs : List Value) (nl : Nat) (ts : List (Addr × Obj)), (∀ z, z ≠ Str.ofString "k" → z ≠ Str.ofString "start" → m z = m₀ z) ∧ nx = (l, listOf vs.toArray nl) :: p1 :: p2 :: ts ∧ TupsIn ts vs (mk script i) ∧ OwnOff ts [l, p1.1, p2.1]
theorem fr31 {L : Addr} {h : Heap} {m₀ m₁ : Str → Option Value} {v : Value} (h2 : ∀ z, z ≠ Str.ofString "k" → z ≠ Str.ofString "start" → m₁ z = m₀ z)
    (F : Fr h₀ L h (fun y => if y = Str.ofString "k" then some v else m₁ y)) : Fr h₀ L h (fun y => if y = Str.ofString "k" then some v else if y = Str.ofString "start" then m₁ y else m₀ y) := by
  have e : (fun y => if y = Str.ofString "k" then some v else m₁ y) = fun y => if y = Str.ofString "k" then some v else if y = Str.ofString "start" then m₁ y else m₀ y := by
    funext y
    by_cases hx : y = Str.ofString "k"
    · rw [if_pos hx, if_pos hx]
    · rw [if_neg hx, if_neg hx]
      by_cases hy : y = Str.ofString "start"
      · rw [if_pos hy]
      · rw [if_neg hy, h2 y hx hy]
  rw [← e]; exact F
theorem fr31o {L : Addr} {h : Heap} {m₀ m₁ : Str → Option Value} (h2 : ∀ z, z ≠ Str.ofString "k" → z ≠ Str.ofString "start" → m₁ z = m₀ z)
    (F : Fr h₀ L h m₁) : Fr h₀ L h (fun y => if y = Str.ofString "k" then m₁ y else if y = Str.ofString "start" then m₁ y else m₀ y) := by
  have e : m₁ = fun y => if y = Str.ofString "k" then m₁ y else if y = Str.ofString "start" then m₁ y else m₀ y := by
    funext y
    by_cases hx : y = Str.ofString "k"
    · rw [if_pos hx]
    · rw [if_neg hx]
      by_cases hy : y = Str.ofString "start"
      · rw [if_pos hy]
      · rw [if_neg hy, h2 y hx hy]
  rw [← e]; exact F
theorem loop31 {r l : Addr} {t₀ u₀ v₀ : Tok} {m₀ : Str → Option Value} {p1 p2 : Addr × Obj} {nl₀ : Nat} (script : List Int)
    (hh : A.handled = none) (hr : IsRange s.heap r 0 ((script.length : Int) - 1) 2 t₀ u₀ v₀) (h63 : script.length ≤ 63)
    (F : Fr h₀ env.locals s.heap m₀) (N : News h₀ env.locals s.heap [(l, listOf #[] nl₀), p1, p2])
    (turn : ∀ (i : Nat) t (u : Str → Option Value) vs nl ts h tk I it, 2 * i + 1 < script.length → TupsIn ts vs (mk script i) → vs.length = i → OwnOff ts [l, p1.1, p2.1] → (∀ p ∈ (l, listOf vs.toArray nl) :: p1 :: p2 :: ts, p.1 ≠ I) →
      Fr h₀ env.locals h (fun y => if y = Str.ofString "k" then some (.int (0 + (i : Int) * 2) t) else if y = Str.ofString "start" then u y else m₀ y) → News h₀ env.locals h ((I, it) :: (l, listOf vs.toArray nl) :: p1 :: p2 :: ts) →
      wpAny (model prog w) A (execs body env) (RPost h₀ env.locals I it (J31 m₀ l p1 p2 script (i + 1)) { s with heap := h, toks := tk } Q) E { s with heap := h, toks := tk })
    (done : ∀ (u : Str → Option Value) vs nl ts h tk, TupsIn ts vs (mk script (script.length / 2)) → vs.length = script.length / 2 → OwnOff ts [l, p1.1, p2.1] → Fr h₀ env.locals h (fun y => if y = Str.ofString "k" then u y else if y = Str.ofString "start" then u y else m₀ y) →
      News h₀ env.locals h ((l, listOf vs.toArray nl) :: p1 :: p2 :: ts) → Q .next { s with heap := h, toks := tk }) :
    wpAny (model prog w) A (pyIter (.ref r)) (fun it s₂ => LoopAtV prog w A h₀ env (Str.ofString "k") body Q E it s₂) E s := by
  have hlen : ∀ {ts : List (Addr × Obj)} {vs : List Value} {i : Nat}, TupsIn ts vs (mk script i) → vs.length = i := fun h => by rw [h.length]; simp [mk]
  refine range_inv (J31 m₀ l p1 p2 script) (n := script.length / 2) hh hr (small_two h63) (size_two _) F N ⟨[], nl₀, [], fun _ _ _ => rfl, rfl, .nil, fun p hp => (nomatch hp)⟩ ?_ ?_
  · rintro i t m₁ nx h tk I it hi hofs ⟨vs, nl, ts, h1, rfl, h3, h4⟩ F₁ N₁
    exact turn i t m₁ vs nl ts h tk I it (by omega) h3 (hlen h3) h4 hofs (fr31 h1 F₁) N₁
  · rintro m₁ nx h tk ⟨vs, nl, ts, h1, rfl, h3, h4⟩ F₁ N₁
    exact done m₁ vs nl ts h tk h3 (hlen h3) h4 (fr31o h1 F₁) N₁
theorem end31 {L D I l : Addr} {it : Obj} {m₀ m' : Str → Option Value} {p1 p2 : Addr × Obj} {script : List Int} {i : Nat} {s₁ : Shared} {h' : Heap} {tk : Nat} {vs : List Value} {ts : List (Addr × Obj)} {t u : Tok} {n nl : Nat}
    (F : Fr h₀ L h' m') (N : News h₀ L h' ((D, tupOf ((script.getD (0 + (i : Int) * 2).toNat 0).fmod 30) ((script.getD (0 + (i : Int) * 2).toNat 0).fmod 30 + (script.getD (0 + (i : Int) * 2 + 1).toNat 0).fmod 16) t u n) :: (I, it) :: (l, listOf (vs ++ [Value.ref D]).toArray nl) :: p1 :: p2 :: ts))
    (hT : TupsIn ts vs (mk script i)) (hOff : OwnOff ts [l, p1.1, p2.1]) (n1 : @Ne Nat l I) (n2 : @Ne Nat p1.1 I) (n3 : @Ne Nat p2.1 I) (n4 : ∀ p ∈ ts, p.1 ≠ I) (hl : @LT.lt Nat _ I D ∧ @LT.lt Nat _ l D ∧ @LT.lt Nat _ p1.1 D ∧ @LT.lt Nat _ p2.1 D ∧ AllLt D ts)
    (hm : ∀ z, z ≠ Str.ofString "k" → z ≠ Str.ofString "start" → m' z = m₀ z) : REnd h₀ L I it (J31 m₀ l p1 p2 script (i + 1)) s₁ { s₁ with heap := h', toks := tk } := by
  obtain ⟨l1, l2, l3, l4, _⟩ := hl
  refine REnd.intro ((l, listOf (vs ++ [Value.ref D]).toArray nl) :: p1 :: p2 :: (D, tupOf ((script.getD (0 + (i : Int) * 2).toNat 0).fmod 30) ((script.getD (0 + (i : Int) * 2).toNat 0).fmod 30 + (script.getD (0 + (i : Int) * 2 + 1).toNat 0).fmod 16) t u n) :: ts) F N ?_ ?_ ⟨vs ++ [Value.ref D], nl, _, hm, rfl, tups_step hT, own_cons hOff ?_⟩
  · intro p hp
    simp only [List.mem_cons] at hp ⊢
    rcases hp with h | h | h | h | h | h
    · exact .inr (.inl h)
    · exact .inr (.inr (.inl h))
    · exact .inr (.inr (.inr (.inl h)))
    · exact .inr (.inr (.inr (.inr (.inl h))))
    · exact .inl h
    · exact .inr (.inr (.inr (.inr (.inr h))))
  · refine List.forall_mem_cons.mpr ⟨n1, List.forall_mem_cons.mpr ⟨n2, List.forall_mem_cons.mpr ⟨n3, List.forall_mem_cons.mpr ⟨Nat.ne_of_gt l1, n4⟩⟩⟩⟩
  · refine List.forall_mem_cons.mpr ⟨Nat.ne_of_gt l2, List.forall_mem_cons.mpr ⟨Nat.ne_of_gt l3, List.forall_mem_cons.mpr ⟨Nat.ne_of_gt l4, fun _ h => (nomatch h)⟩⟩⟩
end
end Mine
end PartL03
section PartSort03
open PySem PySem.W PyProof.Rows
namespace Mine
/-- the asks of a tree, answered by keys; each is between places below n -/
def asked {α : Type} (key : Nat → Int) (n : Nat) : KasT α → (α → Prop) → Prop
  | .ret a, Q => Q a
  | .ask i j k, Q => i < n ∧ j < n ∧ asked key n (k (decide (key i < key j))) Q
theorem asked_bind {α β : Type} {key : Nat → Int} {n : Nat} {f : α → KasT β} {Q : β → Prop} : ∀ {t : KasT α}, asked key n t (fun a => asked key n (f a) Q) → asked key n (t.bind f) Q
  | .ret _, h => h
  | .ask _ _ _, h => ⟨h.1, h.2.1, asked_bind h.2.2⟩
theorem asked_mono {α : Type} {key : Nat → Int} {n : Nat} {Q Q' : α → Prop} (hq : ∀ a, Q a → Q' a) : ∀ {t : KasT α}, asked key n t Q → asked key n t Q'
  | .ret _, h => hq _ h
  | .ask _ _ _, h => ⟨h.1, h.2.1, asked_mono hq h.2.2⟩
theorem asked_wp {α : Type} {key : Nat → Int} {n : Nat} {cmp : Nat → Nat → (Bool → Shared → Prop) → Shared → Prop} {s : Shared} {Q : α → Shared → Prop} {P : α → Prop}
    (hc : ∀ i j C, i < n → j < n → C (decide (key i < key j)) s → cmp i j C s) (hq : ∀ a, P a → Q a s) : ∀ {t : KasT α}, asked key n t P → t.kasWp cmp Q s
  | .ret _, h => hq _ h
  | .ask i j k, h => by
    show cmp i j (fun b s' => (k b).kasWp cmp Q s') s
    exact hc i j _ h.1 h.2.1 (asked_wp hc hq h.2.2)

def PK (key : Nat → Int) (p : Array Nat) (k : Nat) : Int := key (p[k]?.getD 0)
def POk (n : Nat) (p : Array Nat) : Prop := p.toList.Perm (List.range n)
def Srt (key : Nat → Int) (p : Array Nat) (k : Nat) : Prop := ∀ i j, i ≤ j → j < k → PK key p i ≤ PK key p j
def NInc (key : Nat → Int) (p : Array Nat) (k : Nat) : Prop := ∀ i j, i ≤ j → j < k → PK key p j ≤ PK key p i
theorem POk.size {n : Nat} {p : Array Nat} (h : POk n p) : p.size = n := by
  have := h.length_eq
  simpa using this
theorem POk.lt {n k : Nat} {p : Array Nat} (h : POk n p) (hk : k < n) : p.getD k 0 < n := by
  have hs := h.size
  have hk' : k < p.size := by omega
  have e : p.getD k 0 = p[k] := by simp [Array.getD, hk']
  rw [e]
  have hm : p[k] ∈ p.toList := by simp
  have := h.mem_iff.mp hm
  simpa using this
theorem PK_getD (key : Nat → Int) (p : Array Nat) (k : Nat) : key (p.getD k 0) = PK key p k := by
  unfold PK
  congr 1
  simp [Array.getD_eq_getD_getElem?]
theorem POk.of_perm {n : Nat} {p q : Array Nat} (h : POk n p) (hq : q.Perm p) : POk n q := (Array.perm_iff_toList_perm.mp hq).trans h
theorem PK_bubble {key : Nat → Int} {p : Array Nat} {src d : Nat} (hs : src < p.size) (hd : d ≤ src) (k : Nat) :
    PK key (bubble p src d) k = if k = src - d then PK key p src else if src - d < k ∧ k ≤ src then PK key p (k - 1) else PK key p k := by
  have e := getElem?_bubble hs d hd k
  unfold PK
  rw [e]
  split
  · rfl
  · split <;> rfl
theorem PK_mirror {key : Nat → Int} {p : Array Nat} {i j : Nat} (hj : j ≤ p.size) (k : Nat) :
    PK key (kas_rev p i j) k = if i ≤ k ∧ k < j then PK key p (i + j - 1 - k) else PK key p k := by
  have e := getElem?_mirror_all (i := i) hj k
  unfold PK kas_rev
  rw [e]
  split <;> rfl
theorem PK_mirror_equal {key : Nat → Int} {p : Array Nat} {i j : Nat} (hj : j ≤ p.size) (heq : ∀ k, i ≤ k → k < j → PK key p k = PK key p (j - 1)) (k : Nat) :
    PK key (kas_rev p i j) k = PK key p k := by
  rw [PK_mirror hj]
  split
  · rw [heq _ (by omega) (by omega), heq k (by omega) (by omega)]
  · rfl
theorem POk.rev {n i j : Nat} {p : Array Nat} (h : POk n p) : POk n (kas_rev p i j) := h.of_perm (mirror_perm _ _ _ _)
theorem POk.bub {n i j : Nat} {p : Array Nat} (h : POk n p) : POk n (bubble p i j) := h.of_perm (bubble_perm _ _ _)

theorem srt_succ {key : Nat → Int} {p : Array Nat} {n : Nat} (h : Srt key p n) (h1 : 1 ≤ n) (hl : PK key p (n - 1) ≤ PK key p n) : Srt key p (n + 1) := by
  intro i j hij hj
  by_cases hjn : j < n
  · exact h i j hij hjn
  · have ej : j = n := by omega
    subst ej
    by_cases hi : i = j
    · subst hi; exact Int.le_refl _
    · exact Int.le_trans (h i (j - 1) (by omega) (by omega)) hl
theorem ninc_succ {key : Nat → Int} {p : Array Nat} {n : Nat} (h : NInc key p n) (h1 : 1 ≤ n) (hl : PK key p n ≤ PK key p (n - 1)) : NInc key p (n + 1) := by
  intro i j hij hj
  by_cases hjn : j < n
  · exact h i j hij hjn
  · have ej : j = n := by omega
    subst ej
    by_cases hi : i = j
    · subst hi; exact Int.le_refl _
    · exact Int.le_trans hl (h i (j - 1) (by omega) (by omega))
theorem ninc_congr {key : Nat → Int} {p q : Array Nat} {n : Nat} (h : NInc key p n) (e : ∀ k, PK key q k = PK key p k) : NInc key q n := fun i j hij hj => by rw [e, e]; exact h i j hij hj

theorem a_asc {key : Nat → Int} {N : Nat} {p : Array Nat} (hp : POk N p) {Q : Nat → Prop} : ∀ (f a : Nat), 1 ≤ a → a + f ≤ N → Srt key p a →
    (∀ m, a ≤ m → m ≤ a + f → Srt key p m → (m < a + f → PK key p m < PK key p (m - 1)) → Q m) → asked key N (kas_asc p f a) Q
  | 0, a, h1, h2, hs, h => h a (Nat.le_refl _) (Nat.le_refl _) hs (fun hlt => by omega)
  | f + 1, a, h1, h2, hs, h => by
    refine ⟨hp.lt (by omega), hp.lt (by omega), ?_⟩
    rw [PK_getD key, PK_getD key]
    by_cases hc : PK key p a < PK key p (a - 1)
    · simp only [hc, decide_true, if_true]
      exact h a (Nat.le_refl _) (by omega) hs fun _ => hc
    · simp only [hc, decide_false, Bool.false_eq_true, if_false]
      exact a_asc hp f (a + 1) (by omega) (by omega) (srt_succ hs h1 (by omega)) fun m m1 m2 m3 m4 => h m (by omega) (by omega) m3 fun hlt => m4 (by omega)
theorem a_desc {key : Nat → Int} {N : Nat} {Q : Array Nat × Nat × Nat → Prop} : ∀ (f : Nat) (p : Array Nat) (n q : Nat), POk N p → 1 ≤ n → n + f ≤ N → NInc key p n → q + 1 ≤ n → (∀ i, n - (q + 1) ≤ i → i < n → PK key p i = PK key p (n - 1)) →
    (∀ p' m q', POk N p' → n ≤ m → m ≤ n + f → NInc key p' m → q' + 1 ≤ m → (∀ i, m - (q' + 1) ≤ i → i < m → PK key p' i = PK key p' (m - 1)) → Q (p', m, q')) → asked key N (kas_desc f p n q) Q
  | 0, p, n, q, hp, h1, h2, hs, hq, he, h => h p n q hp (Nat.le_refl _) (Nat.le_refl _) hs hq he
  | f + 1, p, n, q, hp, h1, h2, hs, hq, he, h => by
    refine ⟨hp.lt (by omega), hp.lt (by omega), ?_⟩
    rw [PK_getD key, PK_getD key]
    have hsz := hp.size
    by_cases hc : PK key p n < PK key p (n - 1)
    · simp only [hc, decide_true, if_true]
      by_cases hq0 : q > 0
      · rw [if_pos hq0]
        have e := PK_mirror_equal (key := key) (p := p) (i := n - (q + 1)) (j := n) (by omega) he
        exact a_desc f _ (n + 1) 0 hp.rev (by omega) (by omega) (ninc_succ (ninc_congr hs e) h1 (by rw [e, e]; omega)) (by omega) (fun i i1 i2 => by congr 1; omega) fun p' m q' a1 a2 a3 a4 a5 a6 => h p' m q' a1 (by omega) (by omega) a4 a5 a6
      · rw [if_neg hq0]
        exact a_desc f p (n + 1) 0 hp (by omega) (by omega) (ninc_succ hs h1 (by omega)) (by omega) (fun i i1 i2 => by congr 1; omega) fun p' m q' a1 a2 a3 a4 a5 a6 => h p' m q' a1 (by omega) (by omega) a4 a5 a6
    · simp only [hc, decide_false, Bool.false_eq_true, if_false]
      refine ⟨hp.lt (by omega), hp.lt (by omega), ?_⟩
      rw [PK_getD key, PK_getD key]
      by_cases hd : PK key p (n - 1) < PK key p n
      · simp only [hd, decide_true, if_true]
        exact h p n q hp (Nat.le_refl _) (by omega) hs hq he
      · simp only [hd, decide_false, Bool.false_eq_true, if_false]
        have heq : PK key p n = PK key p (n - 1) := by omega
        refine a_desc f p (n + 1) (q + 1) hp (by omega) (by omega) (ninc_succ hs h1 (by omega)) (by omega) (fun i i1 i2 => ?_) fun p' m q' a1 a2 a3 a4 a5 a6 => h p' m q' a1 (by omega) (by omega) a4 a5 a6
        rw [show n + 1 - 1 = n by omega]
        by_cases hin : i = n
        · subst hin; rfl
        · rw [heq]; exact he i (by omega) (by omega)
def CntOk (key : Nat → Int) (N : Nat) (r : Nat × Array Nat) : Prop := POk N r.2 ∧ 1 ≤ r.1 ∧ r.1 ≤ N ∧ Srt key r.2 r.1
theorem a_tail3 {key : Nat → Int} {N n : Nat} {p : Array Nat} (hp : POk N p) (h1 : 1 ≤ n) (h2 : n ≤ N) (hs : NInc key p n) : asked key N (kas_tail3 n N p) (CntOk key N) := by
  have hsz := hp.size
  unfold kas_tail3
  refine asked_bind (a_asc hp.rev (N - n) n h1 (by omega) ?_ ?_)
  · intro i j hij hj
    rw [PK_mirror (by omega), PK_mirror (by omega), if_pos ⟨by omega, by omega⟩, if_pos ⟨by omega, by omega⟩]
    exact hs _ _ (by omega) (by omega)
  · intro m m1 m2 m3 _
    exact ⟨hp.rev, by omega, by omega, m3⟩
theorem a_descPart {key : Nat → Int} {N n : Nat} {p : Array Nat} (hp : POk N p) (h2 : n + 1 ≤ N) (hs : NInc key p (n + 1)) : asked key N (kas_descPart n N p) (CntOk key N) := by
  unfold kas_descPart
  refine asked_bind (a_desc _ p (n + 1) 0 hp (by omega) (by omega) hs (by omega) (fun i i1 i2 => by congr 1; omega) ?_)
  intro p' m q' a1 a2 a3 a4 a5 a6
  have hsz := a1.size
  show asked key N (if q' > 0 then kas_tail3 m N (kas_rev p' (m - (q' + 1)) m) else kas_tail3 m N p') _
  by_cases hq : q' > 0
  · rw [if_pos hq]
    have e := PK_mirror_equal (key := key) (p := p') (i := m - (q' + 1)) (j := m) (by omega) a6
    exact a_tail3 a1.rev (by omega) (by omega) (ninc_congr a4 e)
  · rw [if_neg hq]
    exact a_tail3 a1 (by omega) (by omega) a4
theorem a_count {key : Nat → Int} {N : Nat} {p : Array Nat} (hp : POk N p) (h1 : 1 ≤ N) : asked key N (kas_count N p) (CntOk key N) := by
  have hsz := hp.size
  unfold kas_count
  refine asked_bind (a_asc hp (N - 1) 1 (Nat.le_refl _) (by omega) ?_ ?_)
  · intro i j hij hj
    have : i = j := by omega
    subst this; exact Int.le_refl _
  intro n n1 n2 n3 n4
  by_cases hn : n = N
  · subst hn
    simp only [beq_self_eq_true, if_true]
    exact ⟨hp, n1, Nat.le_refl _, n3⟩
  · have hb : (n == N) = false := by simpa using hn
    rw [hb]
    simp only [Bool.false_eq_true, if_false]
    have hlt := n4 (by omega)
    by_cases hg : n > 1
    · rw [if_pos hg]
      refine ⟨hp.lt (by omega), hp.lt (by omega), ?_⟩
      rw [PK_getD key, PK_getD key]
      by_cases hc : PK key p 0 < PK key p (n - 1)
      · simp only [hc, decide_true, if_true]
        exact ⟨hp, by omega, by omega, n3⟩
      · simp only [hc, decide_false, Bool.false_eq_true, if_false]
        have hall : ∀ k, k < n → PK key p k = PK key p 0 := fun k hk => by
          have h3 := n3 0 k (by omega) hk
          have h4 := n3 k (n - 1) (by omega) (by omega)
          omega
        have e := PK_mirror_equal (key := key) (p := p) (i := 0) (j := n) (by omega) (fun k _ k2 => by rw [hall k k2, hall (n - 1) (by omega)])
        refine a_descPart hp.rev (by omega) (ninc_congr (ninc_succ (fun i j hij hj => ?_) (by omega) (by omega)) e)
        rw [hall i (by omega), hall j (by omega)]; exact Int.le_refl _
    · rw [if_neg hg]
      have en : n = 1 := by omega
      subst en
      refine a_descPart hp (by omega) (ninc_succ (fun i j hij hj => ?_) (by omega) (by omega))
      have : i = j := by omega
      subst this; exact Int.le_refl _
theorem a_place {key : Nat → Int} {N k : Nat} {p : Array Nat} (hp : POk N p) (hk : k < N) (hs : Srt key p k) {Q : Nat → Prop}
    (h : ∀ l, l ≤ k → (∀ i, i < l → PK key p i ≤ PK key p k) → (∀ i, l ≤ i → i < k → PK key p k < PK key p i) → Q l) : ∀ (f l r : Nat), r - l ≤ f → l ≤ r → r ≤ k → (∀ i, i < l → PK key p i ≤ PK key p k) → (∀ i, r ≤ i → i < k → PK key p k < PK key p i) → asked key N (kas_place p k f l r) Q
  | 0, l, r, h1, h2, h3, h4, h5 => h l (by omega) h4 fun i i1 i2 => h5 i (by omega) i2
  | f + 1, l, r, h1, h2, h3, h4, h5 => by
    unfold kas_place
    by_cases hlr : l ≥ r
    · rw [if_pos hlr]
      exact h l (by omega) h4 fun i i1 i2 => h5 i (by omega) i2
    · rw [if_neg hlr]
      refine ⟨hp.lt hk, hp.lt (by omega), ?_⟩
      rw [PK_getD key, PK_getD key]
      by_cases hc : PK key p k < PK key p ((l + r) / 2)
      · simp only [hc, decide_true, if_true]
        exact a_place hp hk hs h f l _ (by omega) (by omega) (by omega) h4 fun i i1 i2 => Int.lt_of_lt_of_le hc (hs _ i i1 i2)
      · simp only [hc, decide_false, Bool.false_eq_true, if_false]
        exact a_place hp hk hs h f _ r (by omega) (by omega) h3 (fun i i1 => Int.le_trans (hs i ((l + r) / 2) (by omega) (by omega)) (by omega)) h5
theorem a_bin {key : Nat → Int} {N : Nat} : ∀ (f : Nat) (p : Array Nat) (k : Nat), POk N p → k + f = N → Srt key p k → asked key N (kas_bin f p k) (fun p' => POk N p' ∧ Srt key p' N)
  | 0, p, k, hp, hk, hs => ⟨hp, by have e : k = N := by omega
                                   rw [← e]; exact hs⟩
  | f + 1, p, k, hp, hk, hs => by
    have hsz := hp.size
    unfold kas_bin
    refine asked_bind (a_place hp (by omega) hs ?_ k 0 k (by omega) (by omega) (Nat.le_refl _) (fun i hi => by omega) (fun i h1 h2 => by omega))
    intro l hl h1 h2
    refine a_bin f _ (k + 1) hp.bub (by omega) ?_
    intro i j hij hj
    rw [PK_bubble (by omega) (by omega), PK_bubble (by omega) (by omega), show k - (k - l) = l by omega]
    by_cases ei : i = l
    · rw [if_pos ei]
      by_cases ej : j = l
      · rw [if_pos ej]; exact Int.le_refl _
      · rw [if_neg ej, if_pos ⟨by omega, by omega⟩]
        exact Int.le_of_lt (h2 (j - 1) (by omega) (by omega))
    · rw [if_neg ei]
      by_cases gi : l < i ∧ i ≤ k
      · rw [if_pos gi, if_neg (by omega), if_pos ⟨by omega, by omega⟩]
        exact hs _ _ (by omega) (by omega)
      · rw [if_neg gi]
        by_cases ej : j = l
        · rw [if_pos ej]
          exact h1 i (by omega)
        · rw [if_neg ej]
          by_cases gj : l < j ∧ j ≤ k
          · rw [if_pos gj]
            have e1 := h1 i (by omega)
            have e2 := h2 (j - 1) (by omega) (by omega)
            omega
          · rw [if_neg gj]
            exact hs i j hij (by omega)
theorem a_sort (key : Nat → Int) {n : Nat} (h : 1 ≤ n) : asked key n (kas_sort n) (fun p => POk n p ∧ Srt key p n) := by
  unfold kas_sort
  refine asked_bind (asked_mono ?_ (a_count (key := key) (p := (List.range n).toArray) (List.Perm.refl _) h))
  rintro ⟨m, p⟩ ⟨h1, h2, h3, h4⟩
  show asked key n (if m < n then kas_bin (n - max m 1) p (max m 1) else .ret p) _
  simp only at h1 h2 h3 h4
  by_cases hm : m < n
  · rw [if_pos hm, show max m 1 = m by omega]
    exact a_bin _ p m h1 (by omega) h4
  · rw [if_neg hm]
    have e : m = n := by omega
    subst e
    exact ⟨h1, h4⟩
end Mine
end PartSort03
section PartTSort03
open PySem PySem.W PyProof.Rows PySem.Calls PyProof.V PySem.Spec
set_option maxRecDepth 100000
set_option maxHeartbeats 8000000
namespace Mine
section
variable {prog : Program} {w : World} {A : Around} {E : Value → Shared → Prop} {s : Shared} {h₀ : Heap} {L : Addr} {m : Str → Option Value}
def ky (p : Int × Int) : Int := 64 * p.1 + p.2
theorem tup_lt {x y : Addr} {a b c d : Int} {t u t' u' : Tok} {n n' : Nat} {Q : Bool → Shared → Prop} (hx : s.heap.get? x = some (tupOf a b t u n)) (hy : s.heap.get? y = some (tupOf c d t' u' n'))
    (hb : 0 ≤ b ∧ b < 64) (hd : 0 ≤ d ∧ d < 64) (h : Q (decide (ky (a, b) < ky (c, d))) s) : wpAny (model prog w) A (keyLt' (tuples' true) (.ref x) (.ref y)) Q E s := by
  refine kat_lt hx rfl hy rfl ?_
  show KatLex prog w A true _ Q [(.int a t, .int c t'), (.int b u, .int d u')] 0 s
  refine kat_cons (wpAny_eqBool_int ?_)
  by_cases e : a = c
  · have e' : (a == c) = true := by simp [e]
    rw [e']
    refine kat_yes (kat_cons (wpAny_eqBool_int ?_))
    by_cases e2 : b = d
    · have e2' : (b == d) = true := by simp [e2]
      rw [e2']
      refine kat_yes (kat_nil ?_)
      have hh : decide (ky (a, b) < ky (c, d)) = false := by rw [e, e2]; simp
      rw [hh] at h
      exact h
    · have e2' : (b == d) = false := by simpa using e2
      rw [e2']
      refine kat_no (kat_one _ _ (PyProof.Rows.lt_int ?_))
      show Q (decide (b < d)) s
      have hh : decide (ky (a, b) < ky (c, d)) = decide (b < d) := by
        unfold ky; rw [e]; congr 1; simp
      rw [← hh]; exact h
  · have e' : (a == c) = false := by simpa using e
    rw [e']
    refine kat_no ?_
    show wpAny _ _ (oneLt' true (.int a t) (.int c t')) _ _ _
    refine oneLt_int ?_
    have hh : decide (ky (a, b) < ky (c, d)) = decide (a < c) := by
      unfold ky
      by_cases hac : a < c
      · rw [decide_eq_true hac, decide_eq_true]; simp only; omega
      · rw [decide_eq_false hac, decide_eq_false]; simp only; omega
    rw [← hh]; exact h

theorem TupsIn.firsts {ts : List (Addr × Obj)} {vs : List Value} {ps : List (Int × Int)} (hT : TupsIn ts vs ps) {h : Heap} (hk : ∀ p ∈ ts, h.get? p.1 = some p.2) : ∃ fs : List Value, KatTups h vs fs ∧ fs.length = vs.length ∧ ∀ v ∈ fs, ∃ i t, v = .int i t := by
  induction hT with
  | nil => exact ⟨[], KatTups.nil, rfl, fun v hv => (nomatch hv)⟩
  | cons hm _ ih =>
    obtain ⟨fs, h1, h2, h3⟩ := ih
    refine ⟨_ :: fs, KatTups.cons (hk _ hm) rfl rfl rfl h1, by simp [h2], fun v hv => ?_⟩
    rcases List.mem_cons.mp hv with rfl | hv
    · exact ⟨_, _, rfl⟩
    · exact h3 v hv
theorem TupsIn.pick {ts : List (Addr × Obj)} {vs : List Value} {ps : List (Int × Int)} (hT : TupsIn ts vs ps) : ∀ (is : List Nat), (∀ i ∈ is, i < ps.length) → TupsIn ts (is.map fun i => vs.getD i Value.none) (is.map fun i => ps.getD i (0, 0))
  | [], _ => .nil
  | i :: is, h => by
    have hi := h i (.head _)
    obtain ⟨a, t, u, n, e, hm⟩ := hT.get i _ (List.getElem?_eq_getElem hi)
    have e1 : vs.getD i Value.none = .ref a := by rw [List.getD_eq_getElem?_getD, e]; rfl
    have e2 : ps.getD i (0, 0) = (ps[i].1, ps[i].2) := by rw [List.getD_eq_getElem?_getD, List.getElem?_eq_getElem hi]; rfl
    show TupsIn ts (vs.getD i Value.none :: _) (ps.getD i (0, 0) :: _)
    rw [e1, e2]
    exact .cons hm (hT.pick is fun j hj => h j (.tail _ hj))
def SrtP (ps : List (Int × Int)) : Prop := ps.Pairwise (fun a b => ky a ≤ ky b)

theorem short_sort {D : Addr} {vs : List Value} {nl : Nat} {news : List (Addr × Obj)} {g : Obj → List (Addr × Obj)} {Q : Value → Shared → Prop} (F : Fr h₀ L s.heap m) (N : News h₀ L s.heap news) (U : UpdF D (listOf vs.toArray nl) news g)
    (h2 : vs.length < 2) (h : ∀ c h', Fr h₀ L h' m → News h₀ L h' (g (listOf vs.toArray c)) → Q .none { s with heap := h' }) :
    wpAny (model prog w) A (call (.builtin "list.sort") [.ref D]) Q E s := by
  obtain ⟨pre, post, rfl, hg, x1, x2⟩ := U.split
  have nz := N (D, listOf vs.toArray nl) (List.mem_append_right _ (.head _))
  have ho : s.heap.get? D = some (seqObj "list" vs.toArray nl) := nz.1
  have ha : D < s.heap.objs.size := Heap.lt_size ho
  refine wpAny_call_entry slot_list_sort ⟨_, nz.1, rfl⟩ entry_list_sort ?_ (args_list_sort _)
  rw [list_sort_plain]
  have s1 := Heap.SameBut.update s.heap D (Obj.mapSeq fun _ => (#[] : Array Value))
  obtain ⟨e1, ho1⟩ : ∃ e1, (s.heap.update D (Obj.mapSeq fun _ => (#[] : Array Value))).get? D = some (seqObj "list" #[] e1) := ⟨_, get?_update_seq ho fun _ => #[]⟩
  have N₀ : News h₀ L s.heap (pre ++ post) := fun p hp => N p ((List.mem_append.mp hp).elim (fun q => List.mem_append_left _ q) fun q => List.mem_append_right _ (.tail _ q))
  have hna : ∀ p ∈ pre ++ post, p.1 ≠ D := fun p hp => (List.mem_append.mp hp).elim (x1 p) (x2 p)
  have F3 : Fr h₀ L (((s.heap.update D (Obj.mapSeq fun _ => (#[] : Array Value))).push (seqObj "tuple" vs.toArray 0)).push (seqObj "list" #[] 0)) m := ((kas_fr F s1 nz.2.1 nz.2.2).push _).push _
  have N2 : News h₀ L (((s.heap.update D (Obj.mapSeq fun _ => (#[] : Array Value))).push (seqObj "tuple" vs.toArray 0)).push (seqObj "list" #[] 0)) (pre ++ post) :=
    (kas_news N₀ s1 hna).grown fun b x e => Heap.get?_push_of_some _ (Heap.get?_push_of_some _ e)
  have ho6 : (((s.heap.update D (Obj.mapSeq fun _ => (#[] : Array Value))).push (seqObj "tuple" vs.toArray 0)).push (seqObj "list" #[] 0)).get? D = some (seqObj "list" #[] e1) := Heap.get?_push_of_some _ (Heap.get?_push_of_some _ ho1)
  refine wpAny_bind (listItems_at ho rfl ?_)
  refine wpAny_bind (listUpdate_at ho rfl ?_ (by rw [List.size_toArray, sizeLine_eq]; omega) (Nat.zero_le _))
  refine wpAny_bind (seqEpoch_at ho1 rfl ?_)
  refine wpAny_bind (wpAny_newTuple ?_ (by show vs.length ≤ _; rw [sizeLine_eq]; omega))
  refine wpAny_bind (wpAny_newList ?_ (Nat.zero_le _))
  refine wpAny_holding ?_
  show wpAny (model prog w) A.in1 _ _ E { s with heap := ((s.heap.update D (Obj.mapSeq fun _ => (#[] : Array Value))).push (seqObj "tuple" vs.toArray 0)).push (seqObj "list" #[] 0) }
  dsimp only
  have hn2 : vs.toArray.size < 2 := by rw [List.size_toArray]; omega
  rw [if_pos hn2, if_pos hn2]
  refine wpAny_bind (wpAny_pure ?_)
  rw [StateT.run_pure]
  refine wpAny_bind (wpAny_pure ?_)
  dsimp only
  have hout : Array.map (fun x => x.2) (vs.toArray.zip vs.toArray) = vs.toArray := by
    apply Array.toList_inj.mp
    simp [List.map_snd_zip]
  have hout' : Array.map (fun x => x.2) (arrOf (SortSt.mk' general' (vs.toArray.zip vs.toArray) #[] 7 none)) = vs.toArray := hout
  rw [hout']
  have s2 := Heap.SameBut.update (((s.heap.update D (Obj.mapSeq fun _ => (#[] : Array Value))).push (seqObj "tuple" vs.toArray 0)).push (seqObj "list" #[] 0)) D (Obj.mapSeq fun _ => vs.toArray)
  obtain ⟨c2, hc2⟩ : ∃ c2, ((((s.heap.update D (Obj.mapSeq fun _ => (#[] : Array Value))).push (seqObj "tuple" vs.toArray 0)).push (seqObj "list" #[] 0)).update D (Obj.mapSeq fun _ => vs.toArray)).get? D = some (seqObj "list" vs.toArray c2) := ⟨_, get?_update_seq ho6 fun _ => vs.toArray⟩
  refine wpAny_bind (seqEpoch_at ho6 rfl ?_)
  refine wpAny_bind (listUpdate_at ho6 rfl ?_ (Nat.zero_le _) (by rw [List.size_toArray, sizeLine_eq]; omega))
  simp only [bne_self_eq_false, Bool.false_eq_true, if_false]
  refine wpAny_pure ⟨_, rfl, h c2 _ (kas_fr F3 s2 nz.2.1 nz.2.2) ?_⟩
  rw [hg]
  intro p hp
  rcases List.mem_append.mp hp with hp | hp
  · have q := N2 p (List.mem_append_left _ hp)
    exact ⟨(s2.2 p.1 (x1 p hp)).trans q.1, q.2⟩
  · rcases List.mem_cons.mp hp with rfl | hp
    · exact ⟨hc2, nz.2⟩
    · have q := N2 p (List.mem_append_right _ hp)
      exact ⟨(s2.2 p.1 (x2 p hp)).trans q.1, q.2⟩

theorem sort03 {D : Addr} {vs : List Value} {ps : List (Int × Int)} {ts : List (Addr × Obj)} {nl : Nat} {news : List (Addr × Obj)} {g : Obj → List (Addr × Obj)} {Q : Value → Shared → Prop} (F : Fr h₀ L s.heap m) (N : News h₀ L s.heap news) (U : UpdF D (listOf vs.toArray nl) news g)
    (hT : TupsIn ts vs ps) (hts : ∀ p ∈ ts, p ∈ news ∧ p.1 ≠ D) (h64 : vs.length < 64) (hbd : ∀ p ∈ ps, 0 ≤ p.2 ∧ p.2 < 64)
    (h : ∀ vs' ps' c h', Fr h₀ L h' m → News h₀ L h' (g (listOf (List.toArray vs') c)) → TupsIn ts vs' ps' → ps'.Perm ps → SrtP ps' → Q .none { s with heap := h' }) :
    wpAny (model prog w) A (call (.builtin "list.sort") [.ref D]) Q E s := by
  have hlen := hT.length
  rcases Nat.lt_or_ge vs.length 2 with h2 | h2
  · refine short_sort F N U h2 fun c h' F' N' => h vs ps c h' F' N' hT (.refl _) ?_
    match ps, hlen with
    | [], _ => exact .nil
    | [_], _ => exact List.pairwise_singleton ..
    | _ :: _ :: _, e => simp at e; omega
  · have U' := U
    obtain ⟨pre, post, e0, hg, x1, x2⟩ := U'.split
    refine kat_lsort (vs := vs) F N U rfl h2 h64 fun e1 h' F' N' => ?_
    have hmem : ∀ p ∈ ts, h'.get? p.1 = some p.2 := fun p hp => by
      obtain ⟨h1, h3⟩ := hts p hp
      refine (N' p ?_).1
      rw [hg]
      rw [e0] at h1
      rcases List.mem_append.mp h1 with h1 | h1
      · exact List.mem_append_left _ h1
      · rcases List.mem_cons.mp h1 with rfl | h1
        · exact absurd rfl h3
        · exact List.mem_append_right _ (.tail _ h1)
    obtain ⟨fs, k1, k2, k3⟩ := hT.firsts hmem
    refine kat_kind (T := .type "int") k1 (by omega) (fun v hv => ?_) (by decide) ?_
    · obtain ⟨i, t, rfl⟩ := k3 v hv
      exact Looks.of_pure rfl
    show (kas_sort vs.length).kasWp (kas_ask prog w A.in1 (tuples' true) vs) _ _
    refine asked_wp (key := fun i => ky (ps.getD i (0, 0))) (P := fun p => POk vs.length p ∧ Srt (fun i => ky (ps.getD i (0, 0))) p vs.length) ?_ ?_ (a_sort _ (by omega))
    · intro i j C hi hj hC
      obtain ⟨a, t, u, n, e, hm⟩ := hT.get i _ (List.getElem?_eq_getElem (by omega))
      obtain ⟨a', t', u', n', e', hm'⟩ := hT.get j _ (List.getElem?_eq_getElem (by omega))
      have f1 : vs.getD i Value.none = .ref a := by rw [List.getD_eq_getElem?_getD, e]; rfl
      have f2 : vs.getD j Value.none = .ref a' := by rw [List.getD_eq_getElem?_getD, e']; rfl
      have q1 : ps.getD i (0, 0) = (ps[i].1, ps[i].2) := by rw [List.getD_eq_getElem?_getD, List.getElem?_eq_getElem (by omega)]; rfl
      have q2 : ps.getD j (0, 0) = (ps[j].1, ps[j].2) := by rw [List.getD_eq_getElem?_getD, List.getElem?_eq_getElem (by omega)]; rfl
      unfold kas_ask
      rw [f1, f2]
      refine tup_lt (s := { s with heap := h' }) (hmem _ hm) (hmem _ hm') (hbd _ (List.getElem_mem _)) (hbd _ (List.getElem_mem _)) ?_
      rw [← q1, ← q2]
      exact hC
    · rintro p ⟨hp, hs⟩
      have U2 : UpdF D (seqObj "list" #[] e1) (g (seqObj "list" #[] e1)) g := by
        rw [show g = fun o' => pre ++ (D, o') :: post from funext hg]
        clear hs hp hmem N N' U hts e0 hg
        induction pre with
        | nil => exact .head x2
        | cons q r ih => exact .tail (x1 q (.head _)) (ih fun p hp => x1 p (.tail _ hp))
      refine KasFin.intro F' N' U2 fun h3 c F3 N3 => ?_
      have hlt : ∀ i ∈ p.toList, i < ps.length := fun i hi => by
        have := hp.mem_iff.mp hi
        rw [List.mem_range] at this; omega
      refine h _ _ c h3 F3 N3 (hT.pick p.toList hlt) ?_ ?_
      · have e : (List.range vs.length).map (fun i => ps.getD i (0, 0)) = ps := by
          rw [hlen]
          apply List.ext_getElem
          · simp
          · intro k k1 k2
            simp [k2]
        have := hp.map (fun i => ps.getD i (0, 0))
        rw [e] at this
        exact this
      · unfold SrtP
        rw [List.pairwise_map, List.pairwise_iff_getElem]
        intro i j hi hj hij
        have hsz := hp.size
        have hjs : j < vs.length := by rw [Array.length_toList] at hj; omega
        have := hs i j (by omega) hjs
        unfold PK at this
        rw [Array.getElem?_eq_getElem (by omega), Array.getElem?_eq_getElem (by omega)] at this
        simpa using this
end
end Mine
end PartTSort03
section PartC03
open PySem PySem.W PyProof.Rows PySem.Calls PyProof.V PySem.Spec
set_option maxRecDepth 100000
set_option maxHeartbeats 8000000
namespace Mine
section
open LCg
variable {prog : Program} {w : World} {A : Around} {E : Value → Shared → Prop} {s : Shared} {h₀ : Heap} {L : Addr} {m : Str → Option Value} {env : Env}
theorem tup_item0 {value slice : PySem.Expr} {a : Addr} {i j : Int} {t u tk : Tok} {n : Nat} {news : List (Addr × Obj)} {Q : Value → Shared → Prop} (N : News h₀ L s.heap news) (hm : (a, tupOf i j t u n) ∈ news) (h : Q (.int i t) s)
    (hs : subscripted slice false (.ref a) (.int 0 tk) = operate [.ref a, .int 0 tk] (getItem (.ref a) (.int 0 tk)) := by with_unfolding_all rfl) :
    wpAny (model prog w) A (subscriptTail value slice (.ref a) (.int 0 tk)) Q E s :=
  item_tupleT (l := [.int i t, .int j u]) (j := 0) ⟨_, (N _ hm).1, rfl, n, rfl⟩ (by decide) (by decide) (by first | rfl | decide) rfl h hs
theorem tup_item1 {value slice : PySem.Expr} {a : Addr} {i j : Int} {t u tk : Tok} {n : Nat} {news : List (Addr × Obj)} {Q : Value → Shared → Prop} (N : News h₀ L s.heap news) (hm : (a, tupOf i j t u n) ∈ news) (h : Q (.int j u) s)
    (hs : subscripted slice false (.ref a) (.int 1 tk) = operate [.ref a, .int 1 tk] (getItem (.ref a) (.int 1 tk)) := by with_unfolding_all rfl) :
    wpAny (model prog w) A (subscriptTail value slice (.ref a) (.int 1 tk)) Q E s :=
  item_tupleT (l := [.int i t, .int j u]) (j := 1) ⟨_, (N _ hm).1, rfl, n, rfl⟩ (by decide) (by decide) (by first | rfl | decide) rfl h hs
theorem comp1 {elt : PySem.Expr} {x y : Str} {scope : Scope} {cl : List (Str × Addr)} {Q : Flow → Shared → Prop} {ax : Addr} {vs : List Value} {nn : Nat} {ps : List (Int × Int)} {ts news : List (Addr × Obj)} {s₁ : Shared}
    (hh : A.handled = none) (F : Fr h₀ L s₁.heap m) (N : News h₀ L s₁.heap news) (hm : (ax, listOf vs.toArray nn) ∈ news) (hT : TupsIn ts vs ps) (hts : ∀ p ∈ ts, p ∈ news) (h63 : vs.length ≤ 63)
    (turn : ∀ (p : Int × Int) (a : Addr) t u n ys I oI C oC D m₂ h tk (E' : Value → Shared → Prop) (s₂ : Shared), (a, tupOf p.1 p.2 t u n) ∈ ts → NsObj oC m₂ → m₂ x = some (.ref a) → Fr h₀ L h m → News h₀ L h ((I, oI) :: (C, oC) :: (D, lst ys) :: news) → Off3 I C D news → ((@Ne Nat I C) ∧ (@Ne Nat I D) ∧ (@Ne Nat C D)) →
      wpAny (model prog w) A (eval elt (compEnvC scope cl C env)) (CompEnd h₀ L m { s₂ with heap := h, toks := tk } I oI C oC D (lst ys) (fun nw => nw = news) (fun y _ => ∃ t', y = .int p.1 t')) E' { s₂ with heap := h, toks := tk })
    (fin : ∀ (ys : List Value) (g : Heap) D h tk, IntsAre ys (ps.map (·.1)) → Fr h₀ L h (fun z => if z = y then some (.ref D) else m z) → News h₀ L h ((D, lst ys) :: news) → Off1 D news → Q .next { s₁ with heap := h, toks := tk }) :
    CompSrc prog w A h₀ L m env elt x scope cl (fun s₂ => FinA h₀ L m s₂ y Q) (.ref ax) s₁ := by
  refine .inl ⟨ax, vs.toArray, news, rfl, hh, F, N, .inr ⟨_, hm, rfl, nn, rfl⟩, by rw [List.size_toArray, sizeLine_eq]; omega, ?_⟩
  rintro s₂ ⟨g, rfl⟩
  have hlen := hT.length
  have key : ∀ k i ys, i + k = vs.length → IntsAre ys ((ps.map (·.1)).take i) →
      CompRest prog w A h₀ L m env elt x scope cl { s₁ with heap := g } (SrcAt h₀ ax vs.toArray) (fun i v => vs.toArray[i]? = some v) (FinA h₀ L m { s₁ with heap := g } y Q) k i ys news := by
    intro k
    induction k with
    | zero =>
      intro i ys hi hI
      refine CompRest.zero fun D h tk F' N' o1 => ?_
      have e : (ps.map (·.1)).take i = ps.map (·.1) := List.take_of_length_le (by simp; omega)
      rw [e] at hI
      exact fin ys g D h tk hI F' N' o1
    | succ k ih =>
      intro i ys hi hI
      refine CompRest.succ fun v I oI C oC D m₂ h tk E' hv hn hx F' N' o3 on => ?_
      have hip : i < ps.length := by omega
      obtain ⟨a, t, u, n, ea, hma⟩ := hT.get i _ (List.getElem?_eq_getElem hip)
      have ev : v = .ref a := by
        have : vs[i]? = some v := by simpa using hv
        rw [ea] at this; exact (Option.some.inj this).symm
      subst ev
      refine wpAny_mono (turn ps[i] a t u n ys I oI C oC D m₂ h tk E' _ hma hn hx F' N' o3 on) (fun y s₃ h₃ => ?_) fun _ _ e => e
      obtain ⟨h₃, tk₃, nw, rfl, F₃, N₃, off₃, rfl, t', rfl⟩ := h₃
      refine ⟨h₃, tk₃, nw, rfl, F₃, N₃, off₃, .inr ⟨_, hm, rfl, nn, rfl⟩, ih (i + 1) _ (by omega) ?_⟩
      have e : (ps.map (·.1)).take (i + 1) = (ps.map (·.1)).take i ++ [ps[i].1] := by
        rw [List.take_add_one]; simp [hip]
      rw [e]
      exact .append hI (.cons _ _ .nil)
  have := key vs.toArray.size 0 [] (by simp) (by simpa using IntsAre.nil)
  exact this
end
end Mine
end PartC03
section PartF03
open PySem PySem.W PyProof.Rows PySem.Calls PyProof.V PySem.Spec
set_option maxRecDepth 100000
set_option maxHeartbeats 8000000
namespace Mine
section
variable {prog : Program} {w : World} {A : Around} {E : Value → Shared → Prop} {s : Shared} {env : Env} {h₀ : Heap} {x : Str} {body : List Stmt} {Q : Flow → Shared → Prop}
/-- a loop over a list of the ledger, whatever its items -/
theorem list_inv {ax : Addr} {vs : List Value} {nn : Nat} {m₀ : Str → Option Value} {news : List (Addr × Obj)} (J : Nat → (Str → Option Value) → List (Addr × Obj) → Prop)
    (hh : A.handled = none) (F : Fr h₀ env.locals s.heap m₀) (N : News h₀ env.locals s.heap news) (hm : (ax, listOf vs.toArray nn) ∈ news) (hJm : ∀ i m nx, J i m nx → (ax, listOf vs.toArray nn) ∈ nx) (hj : J 0 m₀ news)
    (turn : ∀ i v m₁ news₁ h tk I it, vs[i]? = some v → (∀ p ∈ news₁, p.1 ≠ I) → J i m₁ news₁ → Fr h₀ env.locals h (fun y => if y = x then some v else m₁ y) → News h₀ env.locals h ((I, it) :: news₁) →
      wpAny (model prog w) A (execs body env) (RPost h₀ env.locals I it (J (i + 1)) { s with heap := h, toks := tk } Q) E { s with heap := h, toks := tk })
    (done : ∀ m₁ news₁ h tk, J vs.length m₁ news₁ → Fr h₀ env.locals h m₁ → News h₀ env.locals h news₁ → Q .next { s with heap := h, toks := tk }) :
    wpAny (model prog w) A (pyIter (.ref ax)) (fun it s₂ => LoopAtV prog w A h₀ env x body Q E it s₂) E s := by
  have hax := N _ hm
  have hl : s.heap.IsList ax vs.toArray := ⟨_, hax.1, rfl, nn, rfl⟩
  have hlt : ax < s.heap.objs.size := Heap.lt_size hax.1
  have hne : ax ≠ s.heap.objs.size := Nat.ne_of_lt hlt
  refine wpAny_pyIter_list hl ?_
  have W := Walks.list (prog := prog) (w := w) hh s.heap.objs.size ax hne vs.toArray
  have hlen : vs.toArray.size = vs.length := by simp
  rw [hlen] at W
  have hI0 : h₀.get? s.heap.objs.size = none := next_is_new F
  refine ⟨s.heap.objs.size, _, _, vs.length, _, _, m₀, news, J, rfl, W, ?_, ?_, ?_, ⟨⟨_, Heap.get?_push_size _ rfl, rfl, rfl⟩, hl.at fun o e => Heap.get?_push_of_some _ e⟩, F.push _, (fun p hp => ⟨Heap.get?_push_of_some _ (N p hp).1, (N p hp).2⟩), hj, ?_, ?_⟩
  · intro hmm
    rcases List.mem_cons.mp hmm with e | hmm
    · exact absurd F.ns.lt (e ▸ Nat.lt_irrefl _)
    · exact hax.2.1 (List.mem_singleton.mp hmm).symm
  · intro b hb
    rw [List.mem_singleton.mp hb]
    exact hI0
  · intro p hp hI
    exact absurd (Heap.lt_size (N p hp).1) ((List.mem_singleton.mp hI) ▸ Nat.lt_irrefl _)
  · rintro i v m₁ news₁ s₁ own ⟨hh', tk', rfl⟩ hin hP hJ hofs hown hget hall hst F₁ N₁
    obtain ⟨it, hit', hic⟩ := hst.1
    have hv : vs[i]? = some v := by simpa using hP
    have hmemax : (ax, listOf vs.toArray nn) ∈ news₁ := hJm _ _ _ hJ
    have hitown := hall s.heap.objs.size (List.mem_cons_self ..) hI0 _ hit'
    have hofs' : ∀ p ∈ news₁, p.1 ≠ s.heap.objs.size := fun p hp e => hofs p hp (List.mem_singleton.mpr e)
    have N₂ : News h₀ env.locals hh' ((s.heap.objs.size, it) :: news₁) := fun p hp => by
      rcases List.mem_cons.mp hp with rfl | hp
      · exact N₁ _ (List.mem_append_left _ hitown)
      · exact N₁ _ (List.mem_append_right _ hp)
    refine wpAny_mono (turn i v m₁ news₁ hh' tk' _ it hv hofs' hJ F₁ N₂) (fun f s₂ p => ?_) fun _ _ e => e
    have fin : REnd h₀ env.locals s.heap.objs.size it (J (i + 1)) { s with heap := hh', toks := tk' } s₂ → LoopStepU h₀ env.locals [s.heap.objs.size] own (J (i + 1)) { s with heap := hh', toks := tk' } .next s₂ := by
      rintro ⟨h', tk, m', nx, e, F', N', ho, hm'⟩
      refine ⟨rfl, h', tk, m', nx, e, F', fun p hp => ?_, fun p hp hq => ho p hp (List.mem_singleton.mp hq), hm'⟩
      rcases List.mem_append.mp hp with hp | hp
      · have h2 : hh'.get? p.1 = some p.2 := hget p hp
        rcases List.mem_cons.mp (hown p hp) with h1 | h1
        · have h3 : p = (s.heap.objs.size, it) := by
            rw [h1, hit'] at h2
            exact Prod.ext h1 (Option.some.inj h2).symm
          rw [h3]; exact N' _ (List.mem_cons_self ..)
        · have h1' : p.1 = ax := List.mem_singleton.mp h1
          have h3 : p = (ax, listOf vs.toArray nn) := by
            rw [h1', (N₁ _ (List.mem_append_right _ hmemax)).1] at h2
            exact Prod.ext h1' (Option.some.inj h2).symm
          rw [h3]; exact N' _ (List.mem_cons_of_mem _ (hJm _ _ _ hm'))
      · exact N' _ (List.mem_cons_of_mem _ hp)
    cases f with
    | ret v => exact .ret p
    | brk => exact .brk p
    | next => exact .next (fin p)
    | cont => exact .cont (fin p)
  · rintro h' tk m' news' F' N' _ hJ
    exact done m' news' h' tk hJ F' N'

def mxE (ps : List (Int × Int)) : Nat → Int
  | 0 => 0
  | k + 1 => max (mxE ps k) (ps.getD k (0, 0)).2
def farL (ps : List (Int × Int)) (k : Nat) : List Int := (List.range (k + 1)).map (mxE ps)
theorem farL_succ (ps : List (Int × Int)) (k : Nat) : farL ps (k + 1) = farL ps k ++ [mxE ps (k + 1)] := by simp [farL, List.range_succ]
theorem farL_length (ps : List (Int × Int)) (k : Nat) : (farL ps k).length = k + 1 := by simp [farL]
theorem farL_getD {ps : List (Int × Int)} {k i : Nat} (h : i ≤ k) : (farL ps k).getD i 0 = mxE ps i := by
  unfold farL
  rw [List.getD_eq_getElem?_getD, List.getElem?_eq_getElem (by simp; omega)]
  simp
def J33 (m₀ : Str → Option Value) (lf : Addr) (rest : List (Addr × Obj)) (ps : List (Int × Int)) (i : Nat) (m : Str → Option Value) (nx : List (Addr × Obj)) : Prop :=
  ∃ (vf : List Value) (nf : Nat), (∀ z, z ≠ Str.ofString "stretch" → m z = m₀ z) ∧ nx = (lf, listOf vf.toArray nf) :: rest ∧ IntsAre vf (farL ps i)
theorem fr33 {L : Addr} {h : Heap} {m₀ m₁ : Str → Option Value} {v : Value} (h2 : ∀ z, z ≠ Str.ofString "stretch" → m₁ z = m₀ z)
    (F : Fr h₀ L h (fun y => if y = Str.ofString "stretch" then some v else m₁ y)) : Fr h₀ L h (fun y => if y = Str.ofString "stretch" then some v else m₀ y) := by
  have e : (fun y => if y = Str.ofString "stretch" then some v else m₁ y) = fun y => if y = Str.ofString "stretch" then some v else m₀ y := by
    funext y
    by_cases hx : y = Str.ofString "stretch"
    · rw [if_pos hx, if_pos hx]
    · rw [if_neg hx, if_neg hx, h2 y hx]
  rw [← e]; exact F
theorem fr33o {L : Addr} {h : Heap} {m₀ m₁ : Str → Option Value} (h2 : ∀ z, z ≠ Str.ofString "stretch" → m₁ z = m₀ z)
    (F : Fr h₀ L h m₁) : Fr h₀ L h (fun y => if y = Str.ofString "stretch" then m₁ y else m₀ y) := by
  have e : m₁ = fun y => if y = Str.ofString "stretch" then m₁ y else m₀ y := by
    funext y
    by_cases hx : y = Str.ofString "stretch"
    · rw [if_pos hx]
    · rw [if_neg hx, h2 y hx]
  rw [← e]; exact F
theorem loop33 {ax lf : Addr} {vs : List Value} {nn nf₀ : Nat} {tk₀ : Tok} {ps : List (Int × Int)} {ts rest : List (Addr × Obj)} {m₀ : Str → Option Value}
    (hh : A.handled = none) (F : Fr h₀ env.locals s.heap m₀) (N : News h₀ env.locals s.heap ((lf, listOf #[.int 0 tk₀] nf₀) :: rest)) (hm : (ax, listOf vs.toArray nn) ∈ rest) (hT : TupsIn ts vs ps)
    (turn : ∀ i (p : Int × Int) a t u n vf nf h tk I it, ps[i]? = some p → (a, tupOf p.1 p.2 t u n) ∈ ts → IntsAre vf (farL ps i) → vf.length = i + 1 → (∀ q ∈ (lf, listOf vf.toArray nf) :: rest, q.1 ≠ I) → Fr h₀ env.locals h (fun y => if y = Str.ofString "stretch" then some (.ref a) else m₀ y) → News h₀ env.locals h ((I, it) :: (lf, listOf vf.toArray nf) :: rest) →
      wpAny (model prog w) A (execs body env) (RPost h₀ env.locals I it (J33 m₀ lf rest ps (i + 1)) { s with heap := h, toks := tk } Q) E { s with heap := h, toks := tk })
    (done : ∀ (u : Str → Option Value) vf nf h tk, IntsAre vf (farL ps ps.length) → Fr h₀ env.locals h (fun y => if y = Str.ofString "stretch" then u y else m₀ y) → News h₀ env.locals h ((lf, listOf vf.toArray nf) :: rest) → Q .next { s with heap := h, toks := tk }) :
    wpAny (model prog w) A (pyIter (.ref ax)) (fun it s₂ => LoopAtV prog w A h₀ env (Str.ofString "stretch") body Q E it s₂) E s := by
  have hlen := hT.length
  refine list_inv (J33 m₀ lf rest ps) hh F N (.tail _ hm) ?_ ⟨[.int 0 tk₀], nf₀, fun _ _ => rfl, rfl, .cons _ _ .nil⟩ ?_ ?_
  · rintro i m nx ⟨vf, nf, _, rfl, _⟩
    exact .tail _ hm
  · rintro i v m₁ nx h tk I it hv hofs ⟨vf, nf, h1, rfl, h3⟩ F₁ N₁
    have hi : i < ps.length := by rw [← hlen]; exact (List.getElem?_eq_some_iff.mp hv).1
    obtain ⟨a, t, u, n, ea, hma⟩ := hT.get i _ (List.getElem?_eq_getElem hi)
    rw [ea] at hv
    cases hv
    exact turn i ps[i] a t u n vf nf h tk I it (List.getElem?_eq_getElem hi) hma h3 (by rw [h3.length, farL_length]) hofs (fr33 h1 F₁) N₁
  · rintro m₁ nx h tk ⟨vf, nf, h1, rfl, h3⟩ F₁ N₁
    rw [hlen] at h3
    exact done m₁ vf nf h tk h3 (fr33o h1 F₁) N₁
theorem far_val {ps : List (Int × Int)} {i : Nat} {e : Int} : (if e > (farL ps i).getD (-1 + ((farL ps i).length : Int)).toNat 0 then e else (farL ps i).getD (-1 + ((farL ps i).length : Int)).toNat 0) = max (mxE ps i) e := by
  rw [farL_length, show (-1 + ((i + 1 : Nat) : Int)).toNat = i by omega, farL_getD (Nat.le_refl _)]
  split <;> omega
theorem end33 {L I lf : Addr} {it : Obj} {m₀ m' : Str → Option Value} {rest : List (Addr × Obj)} {ps : List (Int × Int)} {i : Nat} {s₁ : Shared} {h' : Heap} {tk : Nat} {vf vf' : List Value} {nf nf' : Nat}
    (F : Fr h₀ L h' m') (N : News h₀ L h' ((I, it) :: (lf, listOf vf'.toArray nf') :: rest)) (hI : IntsAre vf' (farL ps (i + 1))) (hne : ∀ q ∈ (lf, listOf vf.toArray nf) :: rest, q.1 ≠ I)
    (hm : ∀ z, z ≠ Str.ofString "stretch" → m' z = m₀ z) : REnd h₀ L I it (J33 m₀ lf rest ps (i + 1)) s₁ { s₁ with heap := h', toks := tk } := by
  refine REnd.intro ((lf, listOf vf'.toArray nf') :: rest) F N (fun p hp => hp) ?_ ⟨vf', nf', hm, rfl, hI⟩
  intro q hq
  rcases List.mem_cons.mp hq with rfl | hq
  · exact hne (lf, listOf vf.toArray nf) (.head _)
  · exact hne q (.tail _ hq)
theorem far_step {ps : List (Int × Int)} {i : Nat} {p : Int × Int} {vf : List Value} {v : Int} {t : Tok} (hp : ps[i]? = some p) (hI : IntsAre vf (farL ps i)) (hv : v = max (mxE ps i) p.2) : IntsAre (vf ++ [.int v t]) (farL ps (i + 1)) := by
  rw [farL_succ]
  have e : mxE ps (i + 1) = v := by
    show max _ (ps.getD i (0, 0)).2 = v
    rw [List.getD_eq_getElem?_getD, hp, hv]; rfl
  rw [e]
  exact .append hI (.cons _ _ .nil)
end
end Mine
end PartF03
section PartPlan03
namespace Mine
/-- a place that k stretches, one after the other, cover up to -/
inductive Cov (ps : List (Int × Int)) : Nat → Int → Prop
  | zero : Cov ps 0 0
  | step {k : Nat} {a e p : Int} : Cov ps k a → (a, e) ∈ ps → a < p → p ≤ e → Cov ps (k + 1) p
def PW (ps : List (Int × Int)) (at' many : Int) : Prop :=
  0 ≤ at' ∧ 0 ≤ many ∧ (∀ p, 0 ≤ p → p ≤ at' → ∃ k : Nat, (k : Int) ≤ many ∧ Cov ps k p) ∧ (∀ (k : Nat) p, (k : Int) ≤ many → Cov ps k p → p ≤ at') ∧ (∀ (k : Nat) p, (k : Int) < many → Cov ps k p → p < 30)
def Nxt (ps : List (Int × Int)) (x v : Int) : Prop := (∀ a e, (a, e) ∈ ps → a ≤ x → e ≤ v) ∧ (v = 0 ∨ ∃ a e, (a, e) ∈ ps ∧ a ≤ x ∧ e = v)
theorem pw_start (ps : List (Int × Int)) : PW ps 0 0 := by
  refine ⟨by omega, by omega, fun p h1 h2 => ?_, fun k p hk hc => ?_, fun k p hk hc => by omega⟩
  · have : p = 0 := by omega
    subst this; exact ⟨0, by omega, .zero⟩
  · have : k = 0 := by omega
    subst this; cases hc; omega
theorem pw_step {ps : List (Int × Int)} {at' many v v2 : Int} (hps : ∀ p ∈ ps, 0 ≤ p.1) (h : PW ps at' many) (hlt : at' < 30) (h1 : Nxt ps at' v) (hv : v > at') (h2 : Nxt ps at' v2) : PW ps v2 (many + 1) ∧ v2 > at' := by
  obtain ⟨w0, w1, w2, w3, w4⟩ := h
  have hvv : v ≤ v2 := by
    rcases h1.2 with h | ⟨a, e, hm, ha, rfl⟩
    · omega
    · exact h2.1 a e hm ha
  refine ⟨⟨by omega, by omega, fun p p0 p1 => ?_, fun k p hk hc => ?_, fun k p hk hc => ?_⟩, by omega⟩
  · rcases Int.lt_or_le at' p with hp | hp
    · rcases h2.2 with h | ⟨a, e, hm, ha, rfl⟩
      · omega
      · obtain ⟨k, hk, hc⟩ := w2 a (hps _ hm) ha
        exact ⟨k + 1, by omega, .step hc hm (by omega) p1⟩
    · obtain ⟨k, hk, hc⟩ := w2 p p0 hp
      exact ⟨k, by omega, hc⟩
  · cases hc with
    | zero => omega
    | step hc hm ha he =>
      have := w3 _ _ (by omega) hc
      have := h2.1 _ _ hm (by omega)
      omega
  · have := w3 k p (by omega) hc
    omega
def IsDue (ps : List (Int × Int)) (q : Int) : Option Int → Prop
  | none => ∀ k, ¬ Cov ps k q
  | some d => 0 ≤ d ∧ Cov ps d.toNat q ∧ ∀ k : Nat, Cov ps k q → d ≤ (k : Int)
theorem stuck {ps : List (Int × Int)} {at' many v : Int} (h : PW ps at' many) (h1 : Nxt ps at' v) (hv : ¬ v > at') : ∀ k p, Cov ps k p → p ≤ at' := by
  intro k p hc
  induction hc with
  | zero => exact h.1
  | step _ hm ha he ih =>
    have := h1.1 _ _ hm ih
    omega
theorem end_lo {ps : List (Int × Int)} {at' many v : Int} {o : Option Int} (h : PW ps at' many) (hlt : at' < 30) (h1 : Nxt ps at' v) (hv : ¬ v > at') (ho : IsDue ps 30 o) : o = none := by
  cases o with
  | none => rfl
  | some d =>
    have := stuck h h1 hv _ _ ho.2.1
    omega
theorem end_hi {ps : List (Int × Int)} {at' many : Int} {o : Option Int} (h : PW ps at' many) (hge : ¬ at' < 30) (ho : IsDue ps 30 o) : o = some many := by
  obtain ⟨w0, w1, w2, w3, w4⟩ := h
  obtain ⟨k, hk, hc⟩ := w2 30 (by omega) (by omega)
  cases o with
  | none => exact absurd hc (ho k)
  | some d =>
    obtain ⟨d0, d1, d2⟩ := ho
    have a1 := d2 k hc
    rcases Int.lt_or_le d many with hd | hd
    · have := w4 d.toNat 30 (by omega) d1
      omega
    · have : d = many := by omega
      rw [this]

/-- bisect_right's while: all left of lo are at most x, all from hi on are above it -/
def BR (x : Int) (a : List Int) (lo hi : Int) : Prop := (∀ i : Nat, (i:Int) < lo → a.getD i 0 ≤ x) ∧ (∀ i : Nat, hi ≤ (i:Int) → i < a.length → x < a.getD i 0)
theorem fdiv2 (a : Int) : a.fdiv 2 = a / 2 := by
  rw [Int.fdiv_eq_ediv_of_nonneg]; decide
theorem srt {a : List Int} (hs : a.Pairwise (· ≤ ·)) {i j : Nat} (hij : i ≤ j) (hj : j < a.length) : a.getD i 0 ≤ a.getD j 0 := by
  have hi : i < a.length := by omega
  rw [List.getD_eq_getElem?_getD, List.getD_eq_getElem?_getD, List.getElem?_eq_getElem hi, List.getElem?_eq_getElem hj]
  simp only [Option.getD_some]
  rcases Nat.lt_or_ge i j with h | h
  · exact List.pairwise_iff_getElem.mp hs i j hi hj h
  · have : i = j := by omega
    subst this; exact Int.le_refl _
theorem br_start (x : Int) (a : List Int) : (0:Int) ≤ 0 ∧ (0:Int) ≤ (a.length : Int) ∧ (a.length : Int) ≤ a.length ∧ BR x a 0 a.length := by
  refine ⟨by omega, by omega, by omega, ?_, ?_⟩
  · intro i hi; omega
  · intro i h1 h2; omega
theorem br_lo {x : Int} {a : List Int} {lo hi : Int} (hs : a.Pairwise (· ≤ ·)) (h0 : 0 ≤ lo) (h1 : lo < hi) (h2 : hi ≤ a.length) (hB : BR x a lo hi) (ht : ¬ x < a.getD ((lo + hi).fdiv 2).toNat 0) :
    0 ≤ (lo + hi).fdiv 2 + 1 ∧ (lo + hi).fdiv 2 + 1 ≤ hi ∧ hi ≤ a.length ∧ BR x a ((lo + hi).fdiv 2 + 1) hi := by
  rw [fdiv2] at *
  refine ⟨by omega, by omega, h2, ?_, hB.2⟩
  intro i hi'
  have h3 := srt hs (i := i) (j := ((lo + hi) / 2).toNat) (by omega) (by omega)
  omega
theorem br_hi {x : Int} {a : List Int} {lo hi : Int} (hs : a.Pairwise (· ≤ ·)) (h0 : 0 ≤ lo) (h1 : lo < hi) (h2 : hi ≤ a.length) (hB : BR x a lo hi) (ht : x < a.getD ((lo + hi).fdiv 2).toNat 0) :
    0 ≤ lo ∧ lo ≤ (lo + hi).fdiv 2 ∧ (lo + hi).fdiv 2 ≤ a.length ∧ BR x a lo ((lo + hi).fdiv 2) := by
  rw [fdiv2] at *
  refine ⟨by omega, by omega, by omega, hB.1, ?_⟩
  intro i hi' hl
  have h3 := srt hs (j := i) (i := ((lo + hi) / 2).toNat) (by omega) (by omega)
  omega
theorem meas_lo {lo hi : Int} (h : lo < hi) : (hi - ((lo + hi).fdiv 2 + 1)).toNat < (hi - lo).toNat := by rw [fdiv2]; omega
theorem meas_hi {lo hi : Int} (h : lo < hi) : ((lo + hi).fdiv 2 - lo).toNat < (hi - lo).toNat := by rw [fdiv2]; omega
theorem fst_sorted {ps : List (Int × Int)} (hs : SrtP ps) (hb : ∀ p ∈ ps, 0 ≤ p.2 ∧ p.2 < 64) : (ps.map (fun x => x.1)).Pairwise (· ≤ ·) := by
  rw [List.pairwise_map]
  refine List.Pairwise.imp_of_mem ?_ hs
  intro a b ha hb' hab
  have h1 := hb a ha
  have h2 := hb b hb'
  unfold ky at hab
  omega
theorem mxE_ge {ps : List (Int × Int)} : ∀ {k i : Nat}, i < k → (ps.getD i (0, 0)).2 ≤ mxE ps k
  | 0, i, h => by omega
  | k + 1, i, h => by
    show _ ≤ max (mxE ps k) (ps.getD k (0, 0)).2
    rcases Nat.lt_or_ge i k with h1 | h1
    · have := mxE_ge (ps := ps) h1; omega
    · have : i = k := by omega
      subst this; omega
theorem mxE_is {ps : List (Int × Int)} : ∀ (k : Nat), mxE ps k = 0 ∨ ∃ i, i < k ∧ (ps.getD i (0, 0)).2 = mxE ps k
  | 0 => .inl rfl
  | k + 1 => by
    show max (mxE ps k) (ps.getD k (0, 0)).2 = 0 ∨ ∃ i, i < k + 1 ∧ (ps.getD i (0, 0)).2 = max (mxE ps k) (ps.getD k (0, 0)).2
    rcases Int.le_total (mxE ps k) (ps.getD k (0, 0)).2 with h | h
    · exact .inr ⟨k, by omega, by omega⟩
    · rcases mxE_is (ps := ps) k with h1 | ⟨i, h1, h2⟩
      · exact .inl (by omega)
      · exact .inr ⟨i, by omega, by omega⟩
theorem nxt_of {ps : List (Int × Int)} {x lo hi : Int} (h0 : 0 ≤ lo) (h1 : lo ≤ hi) (h2 : hi ≤ ((ps.map (fun x => x.1)).length : Int)) (h3 : ¬ lo < hi) (hB : BR x (ps.map (fun x => x.1)) lo hi) : Nxt ps x ((farL ps ps.length).getD lo.toNat 0) := by
  have e : hi = lo := by omega
  subst e
  rw [List.length_map] at h2
  rw [farL_getD (by omega)]
  have hg : ∀ i, i < ps.length → (ps.map (fun x => x.1)).getD i 0 = (ps.getD i (0, 0)).1 := fun i hi => by
    rw [List.getD_eq_getElem?_getD, List.getD_eq_getElem?_getD, List.getElem?_map, List.getElem?_eq_getElem hi]; rfl
  refine ⟨fun a e hm ha => ?_, ?_⟩
  · obtain ⟨i, hi', he⟩ := List.mem_iff_getElem.mp hm
    have hgd : ps.getD i (0, 0) = (a, e) := by rw [List.getD_eq_getElem?_getD, List.getElem?_eq_getElem hi', he]; rfl
    rcases Int.lt_or_le (i : Int) hi with hl | hl
    · have := mxE_ge (ps := ps) (k := hi.toNat) (i := i) (by omega)
      rw [hgd] at this; exact this
    · have := hB.2 i hl (by rw [List.length_map]; exact hi')
      rw [hg i hi', hgd] at this
      omega
  · rcases mxE_is (ps := ps) hi.toNat with h | ⟨i, h4, h5⟩
    · exact .inl h
    · have hil : i < ps.length := by omega
      have := hB.1 i (by omega)
      rw [hg i hil] at this
      refine .inr ⟨(ps.getD i (0, 0)).1, (ps.getD i (0, 0)).2, ?_, this, h5⟩
      rw [List.getD_eq_getElem?_getD, List.getElem?_eq_getElem hil]
      exact List.getElem_mem _
theorem pw_turn {ps : List (Int × Int)} {at' many lo hi lo2 hi2 : Int} (hps : ∀ p ∈ ps, 0 ≤ p.1) (h : PW ps at' many) (hlt : at' < 30) (hv : (farL ps ps.length).getD lo.toNat 0 > at')
    (a0 : 0 ≤ lo) (a1 : lo ≤ hi) (a2 : hi ≤ ((ps.map (fun x => x.1)).length : Int)) (a3 : ¬ lo < hi) (aB : BR at' (ps.map (fun x => x.1)) lo hi)
    (b0 : 0 ≤ lo2) (b1 : lo2 ≤ hi2) (b2 : hi2 ≤ ((ps.map (fun x => x.1)).length : Int)) (b3 : ¬ lo2 < hi2) (bB : BR at' (ps.map (fun x => x.1)) lo2 hi2) :
    PW ps ((farL ps ps.length).getD lo2.toNat 0) (many + 1) ∧ (farL ps ps.length).getD lo2.toNat 0 > at' := pw_step hps h hlt (nxt_of a0 a1 a2 a3 aB) hv (nxt_of b0 b1 b2 b3 bB)
theorem pw_meas {v at' : Int} (h : v > at') (hlt : at' < 30) : (30 - v).toNat < (30 - at').toNat := by omega
def Exit (ps : List (Int × Int)) (at' many : Int) : Prop := PW ps at' many ∧ (at' < 30 → ∃ v, Nxt ps at' v ∧ ¬ v > at')
theorem exit_hi {ps : List (Int × Int)} {at' many : Int} (h : PW ps at' many) (hc : ¬ at' < 30) : Exit ps at' many := ⟨h, fun hlt => absurd hlt hc⟩
theorem exit_lo {ps : List (Int × Int)} {at' many lo hi : Int} (h : PW ps at' many) (hv : ¬ at' < (farL ps ps.length).getD lo.toNat 0) (a0 : 0 ≤ lo) (a1 : lo ≤ hi) (a2 : hi ≤ ((ps.map (fun x => x.1)).length : Int)) (a3 : ¬ lo < hi) (aB : BR at' (ps.map (fun x => x.1)) lo hi) : Exit ps at' many :=
  ⟨h, fun _ => ⟨_, nxt_of a0 a1 a2 a3 aB, hv⟩⟩
theorem exit_end {ps : List (Int × Int)} {at' many : Int} {o : Option Int} (h : Exit ps at' many) (ho : IsDue ps 30 o) : (at' < 30 → o = none) ∧ (¬ at' < 30 → o = some many) :=
  ⟨fun hlt => by obtain ⟨v, h1, h2⟩ := h.2 hlt; exact end_lo h.1 hlt h1 h2 ho, fun hge => end_hi h.1 hge ho⟩
/-- the walk is to stop here -/
structure Hold (P : Prop) : Prop where
  out : P
theorem hold {P : Prop} (h : Hold P) : P := h.out
section
open PySem PySem.W PyProof.Rows
variable {prog : Program} {w : World} {A : Around} {E : Value → Shared → Prop} {s : Shared} {env : Env} {h₀ : Heap} {L : Addr}
def Mid (ps : List (Int × Int)) (h₀ : Heap) (L : Addr) (m₀ : Str → Option Value) (led : List (Addr × Obj)) (s : Shared) (f : Flow) (s' : Shared) : Prop :=
  f = .next ∧ ∃ at' ta many tm h tk, s' = { s with heap := h, toks := tk } ∧ Exit ps at' many ∧ Fr h₀ L h (fun y => if y = Str.ofString "at" then some (.int at' ta) else if y = Str.ofString "many" then some (.int many tm) else m₀ y) ∧ News h₀ L h led
theorem Mid.intro {ps : List (Int × Int)} {m₀ m' : Str → Option Value} {led : List (Addr × Obj)} {at' many : Int} {ta tm : Tok} {h : Heap} {tk : Nat} (he : Exit ps at' many) (F : Fr h₀ L h m') (N : News h₀ L h led) (h1 : m' (Str.ofString "at") = some (.int at' ta)) (h2 : m' (Str.ofString "many") = some (.int many tm))
    (h3 : ∀ z, z ≠ Str.ofString "at" → z ≠ Str.ofString "many" → m' z = m₀ z) : Mid ps h₀ L m₀ led s .next { s with heap := h, toks := tk } := by
  refine ⟨rfl, at', ta, many, tm, h, tk, rfl, he, ?_, N⟩
  have e : m' = fun y => if y = Str.ofString "at" then some (.int at' ta) else if y = Str.ofString "many" then some (.int many tm) else m₀ y := by
    funext y
    by_cases hy : y = Str.ofString "at"
    · rw [if_pos hy, hy, h1]
    · rw [if_neg hy]
      by_cases hz : y = Str.ofString "many"
      · rw [if_pos hz, hz, h2]
      · rw [if_neg hz, h3 y hy hz]
  rw [← e]; exact F
theorem mid_cut {st : Stmt} {Q : Flow → Shared → Prop} {m₀ : Str → Option Value} {led : List (Addr × Obj)} (ps : List (Int × Int)) (F₀ : Fr h₀ L s.heap m₀) (N₀ : News h₀ L s.heap led)
    (hw : wpAny (model prog w) A (exec st env) (Mid ps h₀ L m₀ led s) E s)
    (k : ∀ at' ta many tm h tk, Exit ps at' many → Fr h₀ L h (fun y => if y = Str.ofString "at" then some (.int at' ta) else if y = Str.ofString "many" then some (.int many tm) else m₀ y) → News h₀ L h led → Q .next { s with heap := h, toks := tk }) :
    wpAny (model prog w) A (exec st env) Q E s :=
  wpAny_mono hw (fun f s' ⟨hf, at', ta, many, tm, h, tk, es, he, F, N⟩ => by subst hf; subst es; exact k at' ta many tm h tk he F N) fun _ _ e => e
end
end Mine
end PartPlan03
section PartP03
open PySem PySem.W PyProof.Rows PySem.Calls PyProof.V PySem.Spec
set_option maxRecDepth 100000
set_option maxHeartbeats 8000000
namespace Mine
section
open LCg
variable {prog : Program} {w : World} {A : Around} {E : Value → Shared → Prop} {s : Shared} {h₀ : Heap} {L : Addr} {m : Str → Option Value} {env : Env}
def PEnd (h₀ : Heap) (L : Addr) (m : Str → Option Value) (s₁ : Shared) (I : Addr) (oI : Obj) (C : Addr) (oC : Obj) (D : Addr) (oD : Obj) (news : List (Addr × Obj)) (k : Value → Prop) (y : Value) (s₂ : Shared) : Prop :=
  ∃ h' tk, s₂ = { s₁ with heap := h', toks := tk } ∧ Fr h₀ L h' m ∧ News h₀ L h' ((I, oI) :: (C, oC) :: (D, oD) :: news) ∧ k y
/-- a comprehension over a list of made pairs, unpacked, with one test -/
theorem pblock {elt iter c : PySem.Expr} {x x₂ : Str} {px px₂ tp : Pos} {kk : Nat} {scope : Scope} {cl : List (Str × Addr)} {pos : Pos} {s₂ : Shared} {I ax : Addr} {vs : List Value} {nn : Nat} {ps : List (Int × Int)} {ts news : List (Addr × Obj)} {RR : Value → Addr → Result → Shared → Prop}
    (hh : A.handled = none) (hne : ax ≠ I) (hm : (ax, listOf vs.toArray nn) ∈ news) (hT : TupsIn ts vs ps) (hts : ∀ p ∈ ts, p ∈ news) (h63 : vs.length ≤ 63) (hit : s₂.heap.IsListIter I ax 0)
    (hcell : ∀ y ∈ scope.names, y.2 ≠ .cell) (hkind : scope.kind = .function) (hx : scope.names.lookup x = some .local) (hx₂ : scope.names.lookup x₂ = some .local) (hxx : x ≠ x₂)
    (F : Fr h₀ L s₂.heap m) (N : News h₀ L s₂.heap news) (hIL : L ≠ I) (hI₀ : h₀.get? I = none) (off : ∀ p ∈ news, p.1 ≠ I)
    (Jc : Nat → List Value → Prop) (hJ0 : Jc 0 [])
    (turn : ∀ i p ys t u I oI C oC D m₂ h tk (E' : Value → Shared → Prop), ps[i]? = some p → Jc i ys → NsObj oC m₂ → m₂ x = some (.int p.1 t) → m₂ x₂ = some (.int p.2 u) → Fr h₀ L h m → News h₀ L h ((I, oI) :: (C, oC) :: (D, lst ys) :: news) → Off3 I C D news → ((@Ne Nat I C) ∧ (@Ne Nat I D) ∧ (@Ne Nat C D)) →
      wpAny (model prog w) A (isTrue c (compEnvC scope cl C env) (eval c (compEnvC scope cl C env))) (fun okb s₃ => if okb = true then
        wpAny (model prog w) A (eval elt (compEnvC scope cl C env)) (PEnd h₀ L m { s₂ with heap := h, toks := tk } I oI C oC D (lst ys) news (fun y => Jc (i + 1) (ys ++ [y]))) E' s₃
        else PEnd h₀ L m { s₂ with heap := h, toks := tk } I oI C oC D (lst ys) news (fun _ => Jc (i + 1) ys) .none s₃) E' { s₂ with heap := h, toks := tk })
    (hRR : ∀ D C h tk m' ys, Fr h₀ L h m → News h₀ L h ((D, lst ys) :: news) → Off1 D news → h.Ns C m' → h₀.get? C = none → h₀.get? D = none → C ≠ L → D ≠ L → C ≠ D → (∀ p ∈ news, p.1 ≠ C) → Jc ps.length ys → RR (.ref D) C (.ok .next) { s₂ with heap := h, toks := tk }) :
    wpAny (model prog w) A (newList []) (fun acc s₃ => wpAny (model prog w) A (newFunctionEnv scope env.globals cl [] env.qual none .none (some env)) (fun cenv s₄ =>
      codeAny (model prog w) A (.compStart (.ListComp elt [⟨.Tuple [.Name x px, .Name x₂ px₂] kk tp, iter, [c], 0⟩] scope pos) 0 (.ref I) acc { cenv with scope := relabel scope env }) (RR acc cenv.locals) s₄) E s₃) E s₂ := by
  have hlen := hT.length
  refine wpAny_newObj_type (wpAny_newFunctionEnv hcell (by intro y hy; simp at hy) (fun h₁ hns₁ hsb₁ => ?_) hkind)
  dsimp only at hns₁ hsb₁ ⊢
  generalize hH2 : s₂.heap.push { cls := .type "list", dict := none, data := .seq ([] : List Value).toArray } = H2 at hns₁ hsb₁ ⊢
  have hC : H2.objs.size = s₂.heap.objs.size + 1 := by rw [← hH2, Heap.size_push]
  have hDC : s₂.heap.objs.size ≠ H2.objs.size := by rw [hC]; exact Nat.ne_of_lt (Nat.lt_succ_self _)
  have below : ∀ b, b < s₂.heap.objs.size → b ≠ H2.objs.size ∧ b ≠ s₂.heap.objs.size := fun b hb => ⟨by rw [hC]; exact Nat.ne_of_lt (Nat.lt_succ_of_lt hb), Nat.ne_of_lt hb⟩
  have hIlt : I < s₂.heap.objs.size := by obtain ⟨o, e, _⟩ := hit; exact Heap.lt_size e
  have old : ∀ b o, s₂.heap.get? b = some o → h₁.get? b = some o := fun b o e => hsb₁.extBut b o (below b (Heap.lt_size e)).1 (Heap.get?_push_of_some _ (hH2 ▸ Heap.get?_push_of_some _ e))
  have hacc : h₁.get? s₂.heap.objs.size = some (lst []) := hsb₁.extBut _ _ hDC (Heap.get?_push_of_some _ (hH2 ▸ Heap.get?_push_size _ rfl))
  have hl₁ : h₁.IsList ax vs.toArray := ⟨_, old _ _ (N _ hm).1, rfl, nn, rfl⟩
  have hit₁ : h₁.IsListIter I ax 0 := hit.at fun o e => old _ _ e
  have fresh : ∀ a, s₂.heap.objs.size ≤ a → s₂.heap.get? a = none := fun a ha => by
    cases e : s₂.heap.get? a with
    | none => rfl
    | some o' => exact absurd (Heap.lt_size e) (Nat.not_lt.mpr ha)
  have fresh₀ : ∀ a, s₂.heap.objs.size ≤ a → h₀.get? a = none := fun a ha => by
    cases e : h₀.get? a with
    | none => rfl
    | some o' => have := F.keep a o' e; rw [fresh a ha] at this; cases this
  have hD₀ : h₀.get? s₂.heap.objs.size = none := fresh₀ _ (Nat.le_refl _)
  have hC₀ : h₀.get? H2.objs.size = none := fresh₀ _ (by rw [hC]; exact Nat.le_succ _)
  have hLlt : L < s₂.heap.objs.size := F.ns.lt
  have hDL : s₂.heap.objs.size ≠ L := Ne.symm (below L hLlt).2
  have hCL : H2.objs.size ≠ L := Ne.symm (below L hLlt).1
  have hCI : I ≠ H2.objs.size := (below I hIlt).1
  have hDI : I ≠ s₂.heap.objs.size := (below I hIlt).2
  have off₀ : Off3 I H2.objs.size s₂.heap.objs.size news := Off3.of fun p hp => ⟨off p hp, (below _ (Heap.lt_size (N p hp).1)).1, (below _ (Heap.lt_size (N p hp).1)).2⟩
  have off3 := off₀.mem
  have W := Walks.list (prog := prog) (w := w) hh I ax hne vs.toArray
  have hvn : vs.toArray.size = vs.length := by simp
  rw [hvn] at W
  have loop : ∀ s₃ : Shared, s₃ = { s₂ with heap := h₁, toks := s₂.toks + ([] : List (Str × Value)).length } →
      codeAny (model prog w) A (.compLoop (.ListComp elt [⟨.Tuple [.Name x px, .Name x₂ px₂] kk tp, iter, [c], 0⟩] scope pos) 0 (.ref I) (.ref s₂.heap.objs.size) (compEnvC scope cl H2.objs.size env))
        (RR (.ref s₂.heap.objs.size) H2.objs.size) s₃ := by
    rintro s₃ rfl
    refine kct_loop
      (fun k s' => ∃ h' tk i ys m', s' = { s₂ with heap := h', toks := tk } ∧ i ≤ vs.length ∧ k = vs.length + 1 - i ∧ ys.length ≤ i ∧ (h'.IsListIter I ax i ∧ h'.IsList ax vs.toArray) ∧ Fr h₀ L h' m ∧ h'.Ns H2.objs.size m' ∧
        News h₀ L h' ((s₂.heap.objs.size, lst ys) :: news) ∧ Jc i ys) ?_ (vs.length + 1)
      ⟨h₁, _, 0, [], _, rfl, Nat.zero_le _, rfl, Nat.le_refl _, ⟨hit₁, hl₁⟩, F.keeps old, hns₁, fun p hp => ?_, hJ0⟩
    · rintro k s' ⟨h', tk, i, ys, m', rfl, hi, rfl, hyl, hst', F', hn', N', hJ⟩
      by_cases hlt : i < vs.length
      · refine W.item i _ _ _ hlt hst' fun v h₂ tk₂ hPv hst₂ hk₂ => ?_
        have hip : i < ps.length := by omega
        obtain ⟨a, t, u, n, ea, hma⟩ := hT.get i _ (List.getElem?_eq_getElem hip)
        have ev : v = .ref a := by
          have : vs[i]? = some v := by simpa using hPv
          rw [ea] at this; exact (Option.some.inj this).symm
        subst ev
        have N₂ : News h₀ L h₂ ((s₂.heap.objs.size, lst ys) :: news) := news_but N' hk₂ fun p hp => by
          rcases List.mem_cons.mp hp with rfl | hp
          · exact Ne.symm hDI
          · exact (off3 p hp).1
        have ht : IsTup h₂ a #[.int ps[i].1 t, .int ps[i].2 u] := ⟨_, (N₂ _ (List.mem_cons_of_mem _ (hts _ hma))).1, rfl, n, rfl⟩
        refine wpAny_letOwnedTupleGo_listiter hst₂.1 ?_
        refine assign_Tuple_tuple hh ht rfl rfl fun h₅ he => ?_
        have he' : ∀ b o, h₂.get? b = some o → h₅.get? b = some o := fun b o e => he b o (Nat.ne_of_lt (Heap.lt_size e)) e
        refine assignInOrder_cons (wpAny_assign_Name (wpAny_storeName_local (lookup_relabel_local hx) ((hn'.at' fun o e => hk₂ _ o (by simpa using Ne.symm hCI) e).at' fun o e => he' _ o e) (fun h₆ hn₆ hs₆ => ?_) (by simp [compEnvC, relabel, hkind])))
        refine assignInOrder_cons (wpAny_assign_Name (wpAny_storeName_local (lookup_relabel_local hx₂) hn₆ (fun h₃ hn₃ hs₃ => ?_) (by simp [compEnvC, relabel, hkind])))
        refine assignInOrder_nil ?_
        have old3 : ∀ b o, b ≠ H2.objs.size → h₂.get? b = some o → h₃.get? b = some o := fun b o hb e => hs₃.extBut b o hb (hs₆.extBut b o hb (he' b o e))
        have hst₃ : h₃.IsListIter I ax (i + 1) := hst₂.1.at fun o e => old3 _ o hCI e
        obtain ⟨oI, heI, hoI⟩ : ∃ oI : Obj, h₃.get? I = some oI ∧ ∀ h : Heap, h.get? I = some oI → h.IsListIter I ax (i + 1) := by
          obtain ⟨o, e, r⟩ := hst₃
          exact ⟨o, e, fun h e' => ⟨o, e', r⟩⟩
        obtain ⟨oC, heC, hoC⟩ := ns_obj hn₃
        have F₃ : Fr h₀ L h₃ m := (((fr_but F' hk₂ hIL hI₀).keeps he').change hs₆ hCL hC₀).change hs₃ hCL hC₀
        have N₃ : News h₀ L h₃ ((I, oI) :: (H2.objs.size, oC) :: (s₂.heap.objs.size, lst ys) :: news) := fun p hp => by
          rcases List.mem_cons.mp hp with rfl | hp
          · exact ⟨heI, Ne.symm hIL, hI₀⟩
          · rcases List.mem_cons.mp hp with rfl | hp
            · exact ⟨heC, hCL, hC₀⟩
            · have z := N₂ p hp
              refine ⟨old3 _ _ ?_ z.1, z.2⟩
              rcases List.mem_cons.mp hp with rfl | hp
              · exact hDC
              · exact (off3 p hp).2.1
        have fin : ∀ (ys' : List Value) (h₅ : Heap) (tk₅ : Nat), ys'.length ≤ i + 1 → Fr h₀ L h₅ m → News h₀ L h₅ ((I, oI) :: (H2.objs.size, oC) :: (s₂.heap.objs.size, lst ys') :: news) → Jc (i + 1) ys' →
            ∃ q', q' < vs.length + 1 - i ∧ (∃ h' tk i ys m', ({ s₂ with heap := h₅, toks := tk₅ } : Shared) = { s₂ with heap := h', toks := tk } ∧ i ≤ vs.length ∧ q' = vs.length + 1 - i ∧ ys.length ≤ i ∧ (h'.IsListIter I ax i ∧ h'.IsList ax vs.toArray) ∧ Fr h₀ L h' m ∧ h'.Ns H2.objs.size m' ∧
              News h₀ L h' ((s₂.heap.objs.size, lst ys) :: news) ∧ Jc i ys) := by
          intro ys' h₅ tk₅ hl F₅ N₅ J₅
          have zI := (N₅ (I, oI) List.mem_cons_self).1
          have zC := (N₅ (H2.objs.size, oC) (List.mem_cons_of_mem _ List.mem_cons_self)).1
          have N₅' : News h₀ L h₅ ((s₂.heap.objs.size, lst ys') :: news) := fun q hq => N₅ q (List.mem_cons_of_mem _ (List.mem_cons_of_mem _ hq))
          exact ⟨vs.length + 1 - (i + 1), by omega, h₅, tk₅, i + 1, ys', _, rfl, hlt, rfl, hl, ⟨hoI h₅ zI, ⟨_, (N₅' _ (List.mem_cons_of_mem _ hm)).1, rfl, nn, rfl⟩⟩, F₅, hoC.ns zC, N₅', J₅⟩
        refine wpAny_mono (turn i ps[i] ys t u I oI H2.objs.size oC s₂.heap.objs.size _ h₃ _ _ (List.getElem?_eq_getElem hip) hJ hoC (by simp [hxx]) (by simp) F₃ N₃ off₀ ⟨hCI, hDI, Ne.symm hDC⟩) (fun okb s₅ h₅ => ?_) fun _ _ e => e
        cases okb with
        | false =>
          simp only [Bool.false_eq_true, if_false] at h₅ ⊢
          obtain ⟨h₅, tk₅, rfl, F₅, N₅, J₅⟩ := h₅
          exact fin ys h₅ tk₅ (Nat.le_succ_of_le hyl) F₅ N₅ J₅
        | true =>
          simp only [if_true] at h₅ ⊢
          refine wpAny_mono h₅ (fun y s₆ h₆ => ?_) fun _ _ e => e
          obtain ⟨h₅, tk₅, rfl, F₅, N₅, J₅⟩ := h₆
          have zI := (N₅ (I, oI) List.mem_cons_self).1
          have zC := (N₅ (H2.objs.size, oC) (List.mem_cons_of_mem _ List.mem_cons_self)).1
          have zD := (N₅ (s₂.heap.objs.size, lst ys) (List.mem_cons_of_mem _ (List.mem_cons_of_mem _ List.mem_cons_self))).1
          have N₅' : News h₀ L h₅ news := fun q hq => N₅ q (List.mem_cons_of_mem _ (List.mem_cons_of_mem _ (List.mem_cons_of_mem _ hq)))
          refine append_at (hsz := by show ys.toArray.size ≤ sizeLine; rw [List.size_toArray, sizeLine_eq]; omega) zD fun h₆ hs₆ hD₆ => ?_
          refine fin (ys ++ [y]) h₆ _ (by rw [List.length_append, List.length_singleton]; exact Nat.succ_le_succ hyl) (F₅.change hs₆ hDL hD₀) (fun q hq => ?_) J₅
          rcases List.mem_cons.mp hq with rfl | hq
          · exact ⟨hs₆.extBut I oI hDI zI, Ne.symm hIL, hI₀⟩
          rcases List.mem_cons.mp hq with rfl | hq
          · exact ⟨hs₆.extBut _ oC (Ne.symm hDC) zC, hCL, hC₀⟩
          rcases List.mem_cons.mp hq with rfl | hq
          · exact ⟨hD₆.trans (congrArg some (lst_snoc ys y)), hDL, hD₀⟩
          · exact ⟨hs₆.extBut _ _ (off3 q hq).2.2 (N₅' q hq).1, (N₅' q hq).2⟩
      · have hin : i = vs.length := Nat.le_antisymm hi (Nat.not_lt.mp hlt)
        subst hin
        refine W.done _ _ _ hst' fun h₂ tk₂ hk₂ => ?_
        rw [hlen] at hJ
        exact hRR _ _ h₂ tk₂ _ ys (fr_but F' hk₂ hIL hI₀) (news_but N' hk₂ fun p hp => by
          rcases List.mem_cons.mp hp with rfl | hp
          · exact Ne.symm hDI
          · exact (off3 p hp).1) off₀.one (hn'.at' fun o e => hk₂ _ o (by simpa using Ne.symm hCI) e) hC₀ hD₀ hCL hDL (Ne.symm hDC) (fun p hp => (off3 p hp).2.1) hJ
    · rcases List.mem_cons.mp hp with rfl | hp
      · exact ⟨hacc, hDL, hD₀⟩
      · exact ⟨old _ _ (N p hp).1, (N p hp).2⟩
  exact codeAny_compStart_list (loop _ rfl) (W.self 0 _ _ _ ⟨hit₁, hl₁⟩ (loop _ rfl))
def PTurn (prog : Program) (w : World) (A : Around) (h₀ : Heap) (L : Addr) (m : Str → Option Value) (env : Env) (c elt : PySem.Expr) (x x₂ : Str) (scope : Scope) (cl : List (Str × Addr)) (ps : List (Int × Int)) (news : List (Addr × Obj)) (Jc : Nat → List Value → Prop) (s₂ : Shared) : Prop :=
  ∀ i p ys t u I oI C oC D m₂ h tk (E' : Value → Shared → Prop), ps[i]? = some p → Jc i ys → NsObj oC m₂ → m₂ x = some (.int p.1 t) → m₂ x₂ = some (.int p.2 u) → Fr h₀ L h m → News h₀ L h ((I, oI) :: (C, oC) :: (D, lst ys) :: news) → Off3 I C D news → ((@Ne Nat I C) ∧ (@Ne Nat I D) ∧ (@Ne Nat C D)) →
      wpAny (model prog w) A (isTrue c (compEnvC scope cl C env) (eval c (compEnvC scope cl C env))) (fun okb s₃ => if okb = true then
        wpAny (model prog w) A (eval elt (compEnvC scope cl C env)) (PEnd h₀ L m { s₂ with heap := h, toks := tk } I oI C oC D (lst ys) news (fun y => Jc (i + 1) (ys ++ [y]))) E' s₃
        else PEnd h₀ L m { s₂ with heap := h, toks := tk } I oI C oC D (lst ys) news (fun _ => Jc (i + 1) ys) .none s₃) E' { s₂ with heap := h, toks := tk }
def PSrc (prog : Program) (w : World) (A : Around) (h₀ : Heap) (L : Addr) (m : Str → Option Value) (env : Env) (c elt : PySem.Expr) (x x₂ : Str) (scope : Scope) (cl : List (Str × Addr)) (y : Str) (Q : Flow → Shared → Prop) (xv : Value) (s₁ : Shared) : Prop :=
  ∃ (ax : Addr) (vs : List Value) (nn : Nat) (ps : List (Int × Int)) (ts news : List (Addr × Obj)) (Jc : Nat → List Value → Prop), xv = .ref ax ∧ A.handled = none ∧ Fr h₀ L s₁.heap m ∧ News h₀ L s₁.heap news ∧ (ax, listOf vs.toArray nn) ∈ news ∧ TupsIn ts vs ps ∧ (∀ p ∈ ts, p ∈ news) ∧ vs.length ≤ 63 ∧ Jc 0 [] ∧
    (∀ g, PTurn prog w A h₀ L m env c elt x x₂ scope cl ps news Jc { s₁ with heap := g }) ∧
    (∀ ys D h tk, Jc ps.length ys → Fr h₀ L h (fun z => if z = y then some (.ref D) else m z) → News h₀ L h ((D, lst ys) :: news) → Off1 D news → Q .next { s₁ with heap := h, toks := tk })
theorem Assign_pairs {elt iter c : PySem.Expr} {x x₂ y : Str} {px px₂ tp py : Pos} {kk : Nat} {scope : Scope} {cl : List (Str × Addr)} {pos spos : Pos} {Q : Flow → Shared → Prop} (F₀ : Fr h₀ L s.heap m) (hLe : env.locals = L)
    (hsw : swapsWith (.ListComp elt [⟨.Tuple [.Name x px, .Name x₂ px₂] kk tp, iter, [c], 0⟩] scope pos) (some (.Name y py)) spos.line env = pure true)
    (hclos : closureFor scope env = pure cl) (hcell : ∀ z ∈ scope.names, z.2 ≠ .cell) (hkind : scope.kind = .function)
    (hnames : ∀ z ∈ scope.names, z.2 = .local → scope.names.lookup z.1 = some .local) (hx : scope.names.lookup x = some .local) (hx₂ : scope.names.lookup x₂ = some .local) (hxx : x ≠ x₂)
    (hy : env.kindOf y = some .local) (hp : (env.scope.kind == .class || (env.scope.kind == .module && env.locals != env.globals)) = false)
    (h : wpAny (model prog w) A (eval iter env) (PSrc prog w A h₀ L m env c elt x x₂ scope cl y Q) E s)
    (hs : ∀ x, foldedSetIterable iter env x = pure x := by intro _; rfl) :
    wpAny (model prog w) A (exec (.Assign [.Name y py] (.ListComp elt [⟨.Tuple [.Name x px, .Name x₂ px₂] kk tp, iter, [c], 0⟩] scope pos) spos) env) Q E s := by
  subst hLe
  rw [exec_Assign_Name_used _ _ _ _ hsw]
  refine wpAny_bind (wpAny_standAt (wpAny_bind ?_))
  show wpAny _ A (do let _ ← comprehension (.ListComp elt [⟨.Tuple [.Name x px, .Name x₂ px₂] kk tp, iter, [c], 0⟩] scope pos) scope env _ (newList []) false (eval iter env) (some (assign (.Name y py) env))) _ _ s
  refine wpAny_bind (wpAny_mono (wpAny_comprehension_free (use := some (assign (.Name y py) env)) (Q := fun _ s' => Q .next s') rfl hs hclos hkind hnames
    (wpAny_mono h (fun xv s₁ h₁ => ?_) fun _ _ e => e)) (fun _ s' hq => wpAny_pure (wpAny_pure hq)) fun _ _ e => e)
  obtain ⟨ax, vs, nn, ps, ts, news, Jc, rfl, hh, F, N, hm, hT, hts, h63, hJ0, turn, fin⟩ := h₁
  have hl : s₁.heap.IsList ax vs.toArray := ⟨_, (N _ hm).1, rfl, nn, rfl⟩
  have hlt : ax < s₁.heap.objs.size := Heap.lt_size (N _ hm).1
  refine wpAny_pyIter_list hl ?_
  have up : ∀ b o, s₁.heap.get? b = some o → (s₁.heap.push { cls := .type "list_iterator", data := .fields #[.ref ax, .int 0 0] }).get? b = some o := fun b o e => Heap.get?_push_of_some _ e
  refine pblock hh (Nat.ne_of_lt hlt) hm hT hts h63 ⟨_, Heap.get?_push_size _ rfl, rfl, rfl⟩ hcell hkind hx hx₂ hxx (F.keeps up) (N.grown up) (Nat.ne_of_lt F.ns.lt) (next_is_new F) (fun p hp => Nat.ne_of_lt (Heap.lt_size (N p hp).1)) Jc hJ0 (turn _) ?_
  intro D C h' tk m' ys F' N' o1 hn hC₀ hD₀ hCL hDL hCD offC hJ
  show wpAny _ A (assign (.Name y py) env (.ref D)) _ _ _
  refine wpAny_assign_Name (wpAny_storeName_local hy F'.ns (fun h₂ hn₂ hs₂ => ?_) hp)
  have hL₀ : h₀.get? env.locals = none := Heap.get?_none_of_le F'.above
  have F₂ : Fr h₀ env.locals h₂ (fun z => if z = y then some (.ref D) else m z) := ⟨hn₂, fun b o e => hs₂.extBut b o (fun q => by rw [q, hL₀] at e; cases e) (F'.keep b o e), F'.above⟩
  refine ⟨m', hn.sameBut hs₂ hCL, fun h'' hs'' => fin ys D h'' _ hJ (F₂.change hs'' hCL hC₀) (fun p hp => ?_) o1⟩
  have z : h₂.get? p.1 = some p.2 := hs₂.extBut _ _ (N' p hp).2.1 (N' p hp).1
  refine ⟨hs''.extBut _ _ ?_ z, (N' p hp).2⟩
  rcases List.mem_cons.mp hp with rfl | hp
  · exact Ne.symm hCD
  · exact offC p hp
theorem PSrc.intro {elt c : PySem.Expr} {x x₂ y : Str} {scope : Scope} {cl : List (Str × Addr)} {Q : Flow → Shared → Prop} {ax : Addr} {vs : List Value} {nn : Nat} {ps : List (Int × Int)} {ts news : List (Addr × Obj)} {s₁ : Shared} (Jc : Nat → List Value → Prop)
    (hh : A.handled = none) (F : Fr h₀ L s₁.heap m) (N : News h₀ L s₁.heap news) (hm : (ax, listOf vs.toArray nn) ∈ news) (hT : TupsIn ts vs ps) (hts : ∀ p ∈ ts, p ∈ news) (h63 : vs.length ≤ 63) (hJ0 : Jc 0 [])
    (turn : ∀ g, PTurn prog w A h₀ L m env c elt x x₂ scope cl ps news Jc { s₁ with heap := g })
    (fin : ∀ ys D h tk, Jc ps.length ys → Fr h₀ L h (fun z => if z = y then some (.ref D) else m z) → News h₀ L h ((D, lst ys) :: news) → Off1 D news → Q .next { s₁ with heap := h, toks := tk }) :
    PSrc prog w A h₀ L m env c elt x x₂ scope cl y Q (.ref ax) s₁ := ⟨ax, vs, nn, ps, ts, news, Jc, rfl, hh, F, N, hm, hT, hts, h63, hJ0, turn, fin⟩
end
end Mine
end PartP03
section PartQ03
open PySem PySem.W PyProof.Rows PySem.Calls PyProof.V PySem.Spec
set_option maxRecDepth 100000
set_option maxHeartbeats 8000000
namespace Mine
/-- ints and Nones -/
inductive OptsAre : List Value → List (Option Int) → Prop
  | nil : OptsAre [] []
  | none {vs : List Value} {ds : List (Option Int)} : OptsAre vs ds → OptsAre (.none :: vs) (Option.none :: ds)
  | int {d : Int} {t : Tok} {vs : List Value} {ds : List (Option Int)} : OptsAre vs ds → OptsAre (.int d t :: vs) (some d :: ds)
theorem OptsAre.length {vs : List Value} {ds : List (Option Int)} (h : OptsAre vs ds) : vs.length = ds.length := by
  induction h with
  | nil => rfl
  | none _ ih => simp [ih]
  | int _ ih => simp [ih]
theorem OptsAre.getNone {vs : List Value} {ds : List (Option Int)} (h : OptsAre vs ds) : ∀ {k : Nat}, k < ds.length → ds.getD k Option.none = Option.none → vs[k]? = some Value.none := by
  induction h with
  | nil => intro k hk; simp at hk
  | none _ ih =>
    intro k hk e
    cases k with
    | zero => rfl
    | succ k => simpa using ih (by simpa using hk) (by simpa using e)
  | int _ ih =>
    intro k hk e
    cases k with
    | zero => simp at e
    | succ k => simpa using ih (by simpa using hk) (by simpa using e)
theorem OptsAre.getSome {vs : List Value} {ds : List (Option Int)} (h : OptsAre vs ds) : ∀ {k : Nat} {d : Int}, ds.getD k Option.none = some d → ∃ t, vs[k]? = some (.int d t) := by
  induction h with
  | nil => intro k d e; simp at e
  | none _ ih =>
    intro k d e
    cases k with
    | zero => simp at e
    | succ k => simpa using ih (by simpa using e)
  | int _ ih =>
    intro k d e
    cases k with
    | zero => simp at e; subst e; exact ⟨_, rfl⟩
    | succ k => simpa using ih (by simpa using e)
theorem OptsAre.set {d : Int} {t : Tok} {vs : List Value} {ds : List (Option Int)} (h : OptsAre vs ds) : ∀ (k : Nat), OptsAre (vs.set k (.int d t)) (ds.set k (some d)) := by
  induction h with
  | nil => intro k; exact .nil
  | none h ih =>
    intro k
    cases k with
    | zero => exact .int h
    | succ k => exact .none (ih k)
  | int h ih =>
    intro k
    cases k with
    | zero => exact .int h
    | succ k => exact .int (ih k)
def DueOk (ps : List (Int × Int)) (i : Nat) (dl : List (Option Int)) : Prop := dl.length = 31 ∧ ∀ q : Nat, (q ≤ i → IsDue ps (q : Int) (dl.getD q none)) ∧ (i < q → dl.getD q none = none)
def waysOf (ps : List (Int × Int)) (dl : List (Option Int)) (P : Int) (i : Nat) : List Int := (ps.take i).filterMap (fun p => if p.1 < P ∧ P ≤ p.2 then dl.getD p.1.toNat none else none)
theorem ways_yes {ps : List (Int × Int)} {dl : List (Option Int)} {P : Int} {i : Nat} {p : Int × Int} {ys : List Value} {d : Int} {t : Tok} (hp : ps[i]? = some p) (h1 : p.1 < P) (h2 : P ≤ p.2) (hd : dl.getD p.1.toNat none = some d) (hI : IntsAre ys (waysOf ps dl P i)) : IntsAre (ys ++ [.int d t]) (waysOf ps dl P (i + 1)) := by
  have e : waysOf ps dl P (i + 1) = waysOf ps dl P i ++ [d] := by
    unfold waysOf
    rw [List.take_add_one, hp, Option.toList_some, List.filterMap_append]
    congr 1
    simp only [List.filterMap_cons, List.filterMap_nil, h1, h2, and_self, if_true, hd]
  rw [e]
  exact .append hI (.cons _ _ .nil)
theorem ways_no {ps : List (Int × Int)} {dl : List (Option Int)} {P : Int} {i : Nat} {p : Int × Int} {ys : List Value} (hp : ps[i]? = some p) (h : ¬ (p.1 < P ∧ P ≤ p.2) ∨ dl.getD p.1.toNat none = none) (hI : IntsAre ys (waysOf ps dl P i)) : IntsAre ys (waysOf ps dl P (i + 1)) := by
  have e : waysOf ps dl P (i + 1) = waysOf ps dl P i := by
    unfold waysOf
    rw [List.take_add_one, hp, Option.toList_some, List.filterMap_append]
    rcases h with h | h
    · simp [h]
    · by_cases hc : p.1 < P ∧ P ≤ p.2
      · simp only [List.filterMap_cons, List.filterMap_nil, hc, and_self, if_true, h, List.append_nil]
      · simp [hc]
  rw [e]; exact hI
theorem mem_ways {ps : List (Int × Int)} {dl : List (Option Int)} {P d : Int} : d ∈ waysOf ps dl P ps.length ↔ ∃ a e, (a, e) ∈ ps ∧ a < P ∧ P ≤ e ∧ dl.getD a.toNat none = some d := by
  unfold waysOf
  rw [List.take_length, List.mem_filterMap]
  constructor
  · rintro ⟨⟨a, e⟩, hm, h⟩
    by_cases hc : a < P ∧ P ≤ e
    · simp only [hc, and_self, if_true] at h
      exact ⟨a, e, hm, hc.1, hc.2, h⟩
    · simp only [hc, if_false] at h
      cases h
  · rintro ⟨a, e, hm, h1, h2, h3⟩
    exact ⟨(a, e), hm, by simp only [h1, h2, and_self, if_true]; exact h3⟩
theorem cov_pos {ps : List (Int × Int)} {k : Nat} {P : Int} (hP : 0 < P) (h : Cov ps k P) : ∃ k' a e, k = k' + 1 ∧ Cov ps k' a ∧ (a, e) ∈ ps ∧ a < P ∧ P ≤ e := by
  cases h with
  | zero => omega
  | step hc hm h1 h2 => exact ⟨_, _, _, rfl, hc, hm, h1, h2⟩
theorem due_none {ps : List (Int × Int)} {i : Nat} {dl : List (Option Int)} (hps : ∀ p ∈ ps, 0 ≤ p.1) (h : DueOk ps i dl) (hi : i < 30) (hw : waysOf ps dl (1 + (i : Int)) ps.length = []) : DueOk ps (i + 1) dl := by
  refine ⟨h.1, fun q => ⟨fun hq => ?_, fun hq => (h.2 q).2 (by omega)⟩⟩
  rcases Nat.lt_or_ge i q with h1 | h1
  · have e : q = i + 1 := by omega
    subst e
    rw [(h.2 (i + 1)).2 (by omega)]
    intro k hc
    obtain ⟨k', a, e, rfl, hc', hm, ha, he⟩ := cov_pos (by omega) hc
    have ha0 := hps _ hm
    have hd := (h.2 a.toNat).1 (by omega)
    have ea : ((a.toNat : Nat) : Int) = a := by omega
    rw [ea] at hd
    cases hdd : dl.getD a.toNat none with
    | none => rw [hdd] at hd; exact hd _ hc'
    | some d =>
      have : d ∈ waysOf ps dl (1 + (i : Int)) ps.length := mem_ways.mpr ⟨a, e, hm, by omega, by omega, hdd⟩
      rw [hw] at this; cases this
  · exact (h.2 q).1 h1
theorem due_some {ps : List (Int × Int)} {i : Nat} {dl : List (Option Int)} {M : Int} (hps : ∀ p ∈ ps, 0 ≤ p.1) (h : DueOk ps i dl) (hi : i < 30) (hM : M ∈ waysOf ps dl (1 + (i : Int)) ps.length) (hle : ∀ x ∈ waysOf ps dl (1 + (i : Int)) ps.length, M ≤ x) :
    DueOk ps (i + 1) (dl.set (1 + (i : Int)).toNat (some (1 + M))) := by
  have eP : (1 + (i : Int)).toNat = i + 1 := by omega
  rw [eP]
  refine ⟨by rw [List.length_set]; exact h.1, fun q => ⟨fun hq => ?_, fun hq => ?_⟩⟩
  · rcases Nat.lt_or_ge i q with h1 | h1
    · have e : q = i + 1 := by omega
      subst e
      have hg : (dl.set (i + 1) (some (1 + M))).getD (i + 1) none = some (1 + M) := by
        rw [List.getD_eq_getElem?_getD, List.getElem?_set_self (by rw [h.1]; omega)]; rfl
      rw [hg]
      obtain ⟨a, e, hm, ha, he, hd⟩ := mem_ways.mp hM
      have ha0 := hps _ hm
      have hda := (h.2 a.toNat).1 (by omega)
      have ea : ((a.toNat : Nat) : Int) = a := by omega
      rw [ea, hd] at hda
      obtain ⟨d0, d1, d2⟩ := hda
      refine ⟨by omega, ?_, fun k hc => ?_⟩
      · have := Cov.step (p := ((i + 1 : Nat) : Int)) d1 hm (by omega) (by omega)
        have e3 : (1 + M).toNat = M.toNat + 1 := by omega
        rw [e3]; exact this
      · obtain ⟨k', a', e', rfl, hc', hm', ha', he'⟩ := cov_pos (by omega) hc
        have ha0' := hps _ hm'
        have hd' := (h.2 a'.toNat).1 (by omega)
        have ea' : ((a'.toNat : Nat) : Int) = a' := by omega
        rw [ea'] at hd'
        cases hdd : dl.getD a'.toNat none with
        | none => rw [hdd] at hd'; exact absurd hc' (hd' _)
        | some d' =>
          rw [hdd] at hd'
          have hw' : d' ∈ waysOf ps dl (1 + (i : Int)) ps.length := mem_ways.mpr ⟨a', e', hm', by omega, by omega, hdd⟩
          have := hle _ hw'
          have := hd'.2.2 _ hc'
          omega
    · have hg : (dl.set (i + 1) (some (1 + M))).getD q none = dl.getD q none := by
        rw [List.getD_eq_getElem?_getD, List.getD_eq_getElem?_getD, List.getElem?_set_ne (by omega)]
      rw [hg]
      exact (h.2 q).1 h1
  · have hg : (dl.set (i + 1) (some (1 + M))).getD q none = dl.getD q none := by
      rw [List.getD_eq_getElem?_getD, List.getD_eq_getElem?_getD, List.getElem?_set_ne (by omega)]
    rw [hg]
    exact (h.2 q).2 (by omega)
def dl0 : List (Option Int) := some 0 :: List.replicate 30 none
theorem due_start (ps : List (Int × Int)) : DueOk ps 0 dl0 := by
  refine ⟨rfl, fun q => ⟨fun hq => ?_, fun hq => ?_⟩⟩
  · have e : q = 0 := by omega
    subst e
    exact ⟨by omega, .zero, fun k _ => by omega⟩
  · obtain ⟨q', rfl⟩ : ∃ q', q = q' + 1 := ⟨q - 1, by omega⟩
    show (List.replicate 30 none).getD q' none = none
    rw [List.getD_eq_getElem?_getD, List.getElem?_replicate]
    split <;> rfl

theorem opts_rep : ∀ n : Nat, OptsAre (List.replicate n Value.none) (List.replicate n Option.none)
  | 0 => .nil
  | n + 1 => .none (opts_rep n)
theorem opts0 (t : Tok) : OptsAre (Value.int 0 t :: List.replicate 30 Value.none) dl0 := .int (opts_rep 30)
theorem shrink {h₀ : Heap} {L : Addr} {h : Heap} {a b c d x1 x2 x3 x4 x5 x6 : Addr × Obj} {ts : List (Addr × Obj)} (N : News h₀ L h (a :: x1 :: x2 :: x3 :: x4 :: x5 :: x6 :: b :: c :: d :: ts)) : News h₀ L h (a :: b :: c :: d :: ts) := fun p hp => N p (by
  simp only [List.mem_cons] at hp ⊢
  rcases hp with h | h | h | h | h
  · exact .inl h
  · exact .inr (.inr (.inr (.inr (.inr (.inr (.inr (.inl h)))))))
  · exact .inr (.inr (.inr (.inr (.inr (.inr (.inr (.inr (.inl h))))))))
  · exact .inr (.inr (.inr (.inr (.inr (.inr (.inr (.inr (.inr (.inl h)))))))))
  · exact .inr (.inr (.inr (.inr (.inr (.inr (.inr (.inr (.inr (.inr h))))))))))
section
variable {prog : Program} {w : World} {A : Around} {E : Value → Shared → Prop} {s : Shared} {h₀ : Heap} {L : Addr} {m : Str → Option Value}
theorem due_item {value slice : PySem.Expr} {D : Addr} {vs : List Value} {n : Nat} {k : Int} {u : Tok} {v : Value} {news : List (Addr × Obj)} {Q : Value → Shared → Prop} (N : News h₀ L s.heap news) (hm : (D, listOf vs.toArray n) ∈ news) (h0 : 0 ≤ k) (hhi : k < 2 ^ 63) (hx : vs[k.toNat]? = some v) (h : Q v s)
    (hs : subscripted slice false (.ref D) (.int k u) = operate [.ref D, .int k u] (getItem (.ref D) (.int k u)) := by with_unfolding_all rfl) :
    wpAny (model prog w) A (subscriptTail value slice (.ref D) (.int k u)) Q E s :=
  have hl : s.heap.IsList D vs.toArray := ⟨_, (N _ hm).1, rfl, n, rfl⟩
  tail_any hl.typeIs slot_list_getitem.lookup (wpAny_getItem_list hl h0 hhi (by simpa using hx) h) hs
theorem min03 {D : Addr} {ys : List Value} {ns : List Int} {news : List (Addr × Obj)} {Q : Value → Shared → Prop} (F : Fr h₀ L s.heap m) (N : News h₀ L s.heap news) (hm : (D, LCg.lst ys) ∈ news) (hi : IntsAre ys ns) (hne : decide (ns = []) = false) (hh : A.handled = none)
    (h : ∀ h' M (t : Tok) tk, Fr h₀ L h' m → News h₀ L h' news → M ∈ ns → (∀ a, a ∈ ns → M ≤ a) → Q (.int M t) { s with heap := h', toks := tk }) : wpAny (model prog w) A (call (.builtin "min") [.ref D]) Q E s :=
  kso_min F N ⟨_, (N _ hm).1, rfl, _, rfl⟩ hi (List.length_pos_iff.mpr (of_decide_eq_false hne)) hh h
theorem due_set {D : Addr} {vs : List Value} {n : Nat} {k : Int} {t : Tok} {v : Value} {news news' : List (Addr × Obj)} {Q : Unit → Shared → Prop} (F : Fr h₀ L s.heap m) (N : News h₀ L s.heap news) (U : Upd D (listOf vs.toArray n) (listOf (vs.set k.toNat v).toArray n) news news') (h0 : 0 ≤ k) (h1 : k < (vs.length : Int)) (hfit : k < 2 ^ 63)
    (h : ∀ h', Fr h₀ L h' m → News h₀ L h' news' → Q () { s with heap := h' }) :
    wpAny (model prog w) A (setItem (.ref D) (.int k t) v) Q E s := by
  obtain ⟨pre, post, rfl, rfl, a, b⟩ := U.split
  have z := N (D, listOf vs.toArray n) (List.mem_append.mpr (.inr (.head _)))
  have hs : vs.toArray.size = vs.length := List.size_toArray ..
  refine ki_setAt z.1 h0 hfit (by omega) (h _ (F.change (Heap.SameBut.update ..) z.2.1 z.2.2) (ki_turn _ N a b ?_ ?_))
  · show vs.toArray.setIfInBounds k.toNat v = (vs.set k.toNat v).toArray
    apply Array.toList_inj.mp
    simp
  · simp
end

section
variable {prog : Program} {w : World} {A : Around} {E : Value → Shared → Prop} {s : Shared} {env : Env} {h₀ : Heap} {j : Str} {px : Pos} {body : List Stmt} {Q : Flow → Shared → Prop}
def CEnd (h₀ : Heap) (L I : Addr) (it : Obj) (g : Obj → Obj → List (Addr × Obj)) (J : (Str → Option Value) → Obj → Prop) (s₁ s₂ : Shared) : Prop :=
  ∃ h' tk m' oc v od, s₂ = { s₁ with heap := h', toks := tk } ∧ Fr h₀ L h' m' ∧ News h₀ L h' ((I, it) :: g oc od) ∧ oc.data = .cell v ∧ J m' od
def CPost (h₀ : Heap) (L I : Addr) (it : Obj) (g : Obj → Obj → List (Addr × Obj)) (J : (Str → Option Value) → Obj → Prop) (s₁ : Shared) (f : Flow) (s₂ : Shared) : Prop :=
  f = .next ∧ CEnd h₀ L I it g J s₁ s₂
theorem CEnd.intro {L I : Addr} {it : Obj} {g : Obj → Obj → List (Addr × Obj)} {J : (Str → Option Value) → Obj → Prop} {s₁ : Shared} {h' : Heap} {tk : Nat} {m' : Str → Option Value} {news' : List (Addr × Obj)} {oc : Obj} {v : Option Value} (od : Obj) (F : Fr h₀ L h' m') (N : News h₀ L h' news')
    (hd : oc.data = .cell v) (hs : ∀ p ∈ (I, it) :: g oc od, p ∈ news') (hJ : J m' od) : CEnd h₀ L I it g J s₁ { s₁ with heap := h', toks := tk } := ⟨h', tk, m', oc, v, od, rfl, F, fun p hp => N p (hs p hp), hd, hJ⟩
/-- a loop over a range whose target is a cell, beside one more object that turns -/
theorem cell_range2 {r c : Addr} {n : Nat} {b₀ : Int} {t₀ u₀ w₀ : Tok} {m₀ : Str → Option Value} {g : Obj → Obj → List (Addr × Obj)} {o₀ od₀ : Obj} {v₀ : Option Value} (J : Nat → (Str → Option Value) → Obj → Prop)
    (hh : A.handled = none) (hr : IsRange s.heap r 1 b₀ 1 t₀ u₀ w₀) (hb : b₀ = (n : Int) + 1) (hn : n ≤ 63)
    (hk : env.scope.kind = .function) (hx : env.kindOf j = some .cell) (hc : env.cells.lookup j = some c)
    (F : Fr h₀ env.locals s.heap m₀) (N : News h₀ env.locals s.heap (g o₀ od₀)) (U : ∀ o od, UpdF c o (g o od) (fun o' => g o' od)) (hadr : ∀ o od o' od', (g o od).map (·.1) = (g o' od').map (·.1)) (hd : o₀.data = .cell v₀) (hj : J 0 m₀ od₀)
    (turn : ∀ (s₁ : Shared) i t m₁ h oc od I it, i < n → J i m₁ od → oc.data = .cell (some (.int (1 + (i : Int)) t)) → (∀ p ∈ g oc od, p.1 < I) → Fr h₀ env.locals h m₁ → News h₀ env.locals h ((I, it) :: g oc od) →
      wpAny (model prog w) A (execs body env) (CPost h₀ env.locals I it g (J (i + 1)) { s₁ with heap := h }) E { s₁ with heap := h })
    (done : ∀ m₁ h tk oc v od, J n m₁ od → oc.data = .cell v → Fr h₀ env.locals h m₁ → News h₀ env.locals h (g oc od) → Q .next { s with heap := h, toks := tk }) :
    wpAny (model prog w) A (pyIter (.ref r)) (fun it s₂ => LoopAtT prog w A h₀ env (.Name j px) body Q E it s₂) E s := by
  subst hb
  have hsmall : Builtin.Range.small 1 ((n : Int) + 1) 1 = true := small_one (by omega) (by omega) (by omega) (by omega)
  have hnn : Builtin.Range.rangeSize 1 ((n : Int) + 1) 1 = (n : Int) := by
    have := rangeSize_nat 1 ((n : Int) + 1)
    rw [this]; omega
  refine wpAny_pyIter_range hr hsmall ?_
  have W : Walks prog w A s.heap.objs.size [s.heap.objs.size] [s.heap.objs.size] n (fun i v => i < n ∧ ∃ t, v = .int (1 + i * 1) t)
      (fun i h => IsRangeIter h s.heap.objs.size (1 + (i : Nat) * 1) ((n : Int) - (i : Nat)) 1) := (Walks.range hh _ 1 1 n).bound
  have hlt : ∀ p ∈ g o₀ od₀, p.1 < s.heap.objs.size := fun p hp => Heap.lt_size (N p hp).1
  have hgl : ∀ (o od : Obj) p, p ∈ g o od → p.1 < s.heap.objs.size := fun o od p hp => by
    have h1 : p.1 ∈ (g o od).map (·.1) := List.mem_map.mpr ⟨p, hp, rfl⟩
    rw [hadr o od o₀ od₀] at h1
    obtain ⟨q, hq, e⟩ := List.mem_map.mp h1
    rw [← e]; exact hlt q hq
  refine ⟨s.heap.objs.size, _, _, n, _, _, m₀, g o₀ od₀, (fun i m nx => ∃ oc v od, oc.data = .cell v ∧ nx = g oc od ∧ J i m od), rfl, W, ?_, ?_, ?_, ?_, F.push _, (fun p hp => ⟨Heap.get?_push_of_some _ (N p hp).1, (N p hp).2⟩), ?_, ⟨o₀, v₀, od₀, hd, rfl, hj⟩, ?_, ?_⟩
  · intro hm
    exact absurd F.ns.lt ((List.mem_singleton.mp hm) ▸ Nat.lt_irrefl _)
  · intro b hb
    rw [List.mem_singleton.mp hb]
    exact next_is_new F
  · intro p hp hI
    exact absurd (hlt p hp) ((List.mem_singleton.mp hI) ▸ Nat.lt_irrefl _)
  · show IsRangeIter _ _ _ _ _
    rw [hnn]; simpa using Heap.get?_push_size _ rfl
  · intro i s' v Q' _ hQ'
    exact wpAny_of_eq (a := ()) rfl hQ'
  · rintro i v m₁ nx s₁ own hin ⟨_, t, rfl⟩ ⟨oc, v', od, hd', rfl, hJ⟩ hofs hown hget hall hst F₁ N₁
    have e1 : (1 : Int) + (i : Int) * 1 = 1 + (i : Int) := by omega
    rw [e1]
    have hI0 : h₀.get? s.heap.objs.size = none := next_is_new F
    have hit' : s₁.heap.get? s.heap.objs.size = some _ := hst
    have hitown := hall s.heap.objs.size (List.mem_singleton.mpr rfl) hI0 _ hit'
    obtain ⟨pre, post, e0, hg, h1, h2⟩ := (U oc od).split
    refine wpAny_assign_Name ?_
    rw [e0] at N₁
    have hmem := N₁ (c, oc) (List.mem_append_right _ (List.mem_append_right _ (.head _)))
    refine wpAny_storeName_cell hk hx hc ⟨oc, hmem.1, hd'⟩ fun h' hv hs => ?_
    obtain ⟨o', ho', hd2⟩ := hv
    have F₂ : Fr h₀ env.locals h' m₁ := ⟨F₁.ns.sameBut hs (Ne.symm hmem.2.1), fun b ob e => (hs.2 b (fun q => by rw [q, hmem.2.2] at e; cases e)).trans (F₁.keep b ob e), F₁.above⟩
    have hne : s.heap.objs.size ≠ c := fun q => Nat.lt_irrefl _ (q ▸ hgl oc od (c, oc) (by rw [e0]; exact List.mem_append_right _ (.head _)) : s.heap.objs.size < s.heap.objs.size)
    have hI' : h'.get? s.heap.objs.size = some _ := (hs.2 _ hne).trans hit'
    have hIn := N₁ _ (List.mem_append_left _ hitown)
    have N₂ : News h₀ env.locals h' ((s.heap.objs.size, _) :: g o' od) := fun p hp => by
      rcases List.mem_cons.mp hp with rfl | hp
      · exact ⟨hI', hIn.2⟩
      · rw [hg o'] at hp
        rcases List.mem_append.mp hp with hp | hp
        · have n := N₁ p (List.mem_append_right _ (List.mem_append_left _ hp))
          exact ⟨(hs.2 _ (h1 p hp)).trans n.1, n.2⟩
        · rcases List.mem_cons.mp hp with rfl | hp
          · exact ⟨ho', hmem.2⟩
          · have n := N₁ p (List.mem_append_right _ (List.mem_append_right _ (.tail _ hp)))
            exact ⟨(hs.2 _ (h2 p hp)).trans n.1, n.2⟩
    refine wpAny_mono (turn s₁ i t m₁ h' o' od _ _ hin hJ hd2 (fun p hp => hgl o' od p hp) F₂ N₂) (fun f s₂ p => ?_) fun _ _ e => e
    obtain ⟨rfl, h3, tk3, m3, oc3, v3, od3, e3, F3, N3, hd3, hJ3⟩ := p
    refine ⟨rfl, h3, tk3, m3, g oc3 od3, e3, F3, fun p hp => ?_, fun p hp hI => ?_, oc3, v3, od3, hd3, rfl, hJ3⟩
    · rcases List.mem_append.mp hp with hp | hp
      · have q1 := List.mem_singleton.mp (hown p hp)
        have q2 := hget p hp
        rw [q1, hit'] at q2
        have q3 : p = (s.heap.objs.size, _) := Prod.ext q1 (Option.some.inj q2).symm
        rw [q3]; exact N3 _ (.head _)
      · exact N3 _ (.tail _ hp)
    · have q := hgl oc3 od3 p hp
      rw [List.mem_singleton.mp hI] at q
      exact Nat.lt_irrefl _ q
  · rintro h' tk m' news' F' N' _ ⟨oc, v, od, hd', rfl, hJ⟩
    exact done m' h' tk oc v od hJ hd' F' N'
def J34 (m₀ : Str → Option Value) (ps : List (Int × Int)) (i : Nat) (m : Str → Option Value) (od : Obj) : Prop :=
  ∃ (vd : List Value) (nd : Nat) (dl : List (Option Int)), od = listOf vd.toArray nd ∧ OptsAre vd dl ∧ DueOk ps i dl ∧ ∀ z, z ≠ Str.ofString "ways" → m z = m₀ z
theorem fr34 {L : Addr} {h : Heap} {m₀ m₁ : Str → Option Value} (h2 : ∀ z, z ≠ Str.ofString "ways" → m₁ z = m₀ z)
    (F : Fr h₀ L h m₁) : Fr h₀ L h (fun y => if y = Str.ofString "ways" then m₁ y else m₀ y) := by
  have e : m₁ = fun y => if y = Str.ofString "ways" then m₁ y else m₀ y := by
    funext y
    by_cases hx : y = Str.ofString "ways"
    · rw [if_pos hx]
    · rw [if_neg hx, h2 y hx]
  rw [← e]; exact F
abbrev led4 (Dd ax cP cD : Addr) (vs : List Value) (nn : Nat) (oD : Obj) (ts : List (Addr × Obj)) : Obj → Obj → List (Addr × Obj) := fun oc od => (Dd, od) :: (ax, listOf vs.toArray nn) :: (cP, oc) :: (cD, oD) :: ts
theorem loop34 {r Dd ax cP cD : Addr} {b₀ : Int} {t₀ u₀ w₀ : Tok} {m₀ : Str → Option Value} {vs : List Value} {nn nd₀ : Nat} {oD o₀ : Obj} {ts : List (Addr × Obj)} {v₀ : Option Value} {vd₀ : List Value} (ps : List (Int × Int))
    (hh : A.handled = none) (hr : IsRange s.heap r 1 b₀ 1 t₀ u₀ w₀) (hb : b₀ = 31)
    (hk : env.scope.kind = .function) (hx : env.kindOf j = some .cell) (hc : env.cells.lookup j = some cP)
    (F : Fr h₀ env.locals s.heap m₀) (N : News h₀ env.locals s.heap (led4 Dd ax cP cD vs nn oD ts o₀ (listOf vd₀.toArray nd₀))) (hv : OptsAre vd₀ dl0)
    (U : ∀ o od, UpdF cP o (led4 Dd ax cP cD vs nn oD ts o od) (fun o' => led4 Dd ax cP cD vs nn oD ts o' od)) (hd : o₀.data = .cell v₀)
    (turn : ∀ (s₁ : Shared) i t (u : Str → Option Value) h oc vd nd dl I it, i < 30 → OptsAre vd dl → DueOk ps i dl → oc.data = .cell (some (.int (1 + (i : Int)) t)) → (∀ p ∈ led4 Dd ax cP cD vs nn oD ts oc (listOf vd.toArray nd), p.1 < I) →
      Fr h₀ env.locals h (fun y => if y = Str.ofString "ways" then u y else m₀ y) → News h₀ env.locals h ((I, it) :: led4 Dd ax cP cD vs nn oD ts oc (listOf vd.toArray nd)) →
      wpAny (model prog w) A (execs body env) (CPost h₀ env.locals I it (led4 Dd ax cP cD vs nn oD ts) (J34 m₀ ps (i + 1)) { s₁ with heap := h }) E { s₁ with heap := h })
    (done : ∀ (u : Str → Option Value) h tk oc v vd nd dl, OptsAre vd dl → DueOk ps 30 dl → oc.data = .cell v → Fr h₀ env.locals h (fun y => if y = Str.ofString "ways" then u y else m₀ y) → News h₀ env.locals h (led4 Dd ax cP cD vs nn oD ts oc (listOf vd.toArray nd)) → Q .next { s with heap := h, toks := tk }) :
    wpAny (model prog w) A (pyIter (.ref r)) (fun it s₂ => LoopAtT prog w A h₀ env (.Name j px) body Q E it s₂) E s := by
  refine cell_range2 (J34 m₀ ps) (n := 30) hh hr (by omega) (by omega) hk hx hc F N U (fun _ _ _ _ => rfl) hd ⟨_, _, _, rfl, hv, due_start ps, fun _ _ => rfl⟩ ?_ ?_
  · rintro s₁ i t m₁ h oc od I it hi ⟨vd, nd, dl, rfl, h1, h2, h3⟩ hdc hlt F₁ N₁
    exact turn s₁ i t m₁ h oc vd nd dl I it hi h1 h2 hdc hlt (fr34 h3 F₁) N₁
  · rintro m₁ h tk oc v od ⟨vd, nd, dl, rfl, h1, h2, h3⟩ hdc F₁ N₁
    exact done m₁ h tk oc v vd nd dl h1 h2 hdc (fr34 h3 F₁) N₁
theorem cend_of {L I Dd ax cP cD : Addr} {it oc oD : Obj} {x0 x1 : Addr × Obj} {vd vs : List Value} {nd nn i tk : Nat} {ts : List (Addr × Obj)} {dl : List (Option Int)} {ps : List (Int × Int)} {m₀ m' : Str → Option Value} {v : Option Value} {s₁ : Shared} {h' : Heap}
    (F : Fr h₀ L h' m') (N : News h₀ L h' (x0 :: x1 :: (I, it) :: (Dd, listOf vd.toArray nd) :: (ax, listOf vs.toArray nn) :: (cP, oc) :: (cD, oD) :: ts)) (hd : oc.data = .cell v) (hO : OptsAre vd dl) (hD : DueOk ps (i + 1) dl) (hm : ∀ z, z ≠ Str.ofString "ways" → m' z = m₀ z) :
    CEnd h₀ L I it (led4 Dd ax cP cD vs nn oD ts) (J34 m₀ ps (i + 1)) s₁ { s₁ with heap := h', toks := tk } :=
  CEnd.intro (listOf vd.toArray nd) F N hd (fun _ hp => .tail _ (.tail _ hp)) ⟨vd, nd, dl, rfl, hO, hD, hm⟩
end
end Mine
end PartQ03
open PySem PySem.W PyProof.Rows
open Mine
local macro_rules | `(tactic| walk_at "RPost") => `(tactic| (dsimp only [RPost]))
local macro_rules | `(tactic| walk_at "exec Assign cons ListComp") => `(tactic| (k_here; (with_reducible show wpAny _ _ (exec (Stmt.Assign [Expr.Name (Str.ofString "starts") _] _ _) _) _ _ _); k_dflt (refine LCg.Assign_ListComp_U (F₀ := by k_asm) (by rfl) (by with_unfolding_all rfl) (by with_unfolding_all rfl) (by decide) (by rfl) (by decide) (by rfl) (by rfl) (by rfl) ?_)))
local macro_rules | `(tactic| walk_at "subscriptTail Name Constant ref int") => `(tactic| (k_here; (with_reducible show wpAny _ _ (subscriptTail _ _ (Value.ref _) (Value.int 1 _)) _ _ _); (rename News _ _ _ _ => lN'); refine' tup_item1 lN' ?m ?_; (case m => kst_mem)))
local macro_rules | `(tactic| walk_at "CompSrc") => `(tactic| fail "mine")
local macro_rules | `(tactic| walk_at "exec While BoolOp cons nil") => `(tactic| refine hold ?_)
local macro_rules | `(tactic| walk_at "binaryOp Mult ref int") => `(tactic| (k_here; refine' KMa.mul (vs := [Value.none]) (ws := List.replicate 30 Value.none) ?F ?N ?l ?lo ?hi ?z ?e ?_; (case F => k_asm); (case N => k_asm); (case l => is_list); (case lo => decide); (case hi => decide); (case z => decide); (case e => rfl); intro D' h' F' N' l1; (try k_lt l1)))
local macro_rules | `(tactic| walk_at "exec For Name Call cons nil") => `(tactic| (k_here; (with_reducible show wpAny _ _ (exec (Stmt.For (Expr.Name (Str.ofString "place") _) _ _ _ _) _) _ _ _); (rename Fr _ _ _ _ => lF'); (with_unfolding_all refine' For_invTF lF' ?_ (by intro _; rfl))))
local macro_rules | `(tactic| walk_at "exec Assign cons ListComp") => `(tactic| (k_here; (with_reducible show wpAny _ _ (exec (Stmt.Assign [Expr.Name (Str.ofString "ways") _] _ _) _) _ _ _); k_dflt (refine Assign_pairs (F₀ := by k_asm) (by rfl) (by with_unfolding_all rfl) (by with_unfolding_all rfl) (by decide) (by rfl) (by decide) (by rfl) (by rfl) (by decide) (by rfl) (by rfl) ?_)))
local macro_rules | `(tactic| walk_at "subscriptTail Name Name ref int") => `(tactic| (k_here; (rename News _ _ _ _ => lN'); refine' due_item lN' ?m ?h0 ?h1 ?hx ?_; (case m => k_mem); (case hx => assumption); (case h0 => omega); (case h1 => omega)))
local macro_rules | `(tactic| walk_at "subscriptTail Name Constant ref int") => `(tactic| (k_here; (with_reducible show wpAny _ _ (subscriptTail _ _ (Value.ref _) (Value.int 30 _)) _ _ _); (rename News _ _ _ _ => lN'); refine' due_item lN' ?m ?h0 ?h1 ?hx ?_; (case m => k_mem); (case hx => assumption); (case h0 => decide); (case h1 => decide)))
local macro_rules | `(tactic| walk_at "call builtin:min") => `(tactic| (k_here; with_unfolding_all refine' min03 ?F ?N ?m ?i ?n ?h ?_; (case F => k_asm); (case N => k_asm); (case m => k_mem); (case i => assumption); (case n => assumption); (case h => with_unfolding_all rfl); intro h' M' t' k' F' N' a' b'))
local macro_rules | `(tactic| walk_at "setItem ref int") => `(tactic| (k_here; refine' due_set ?F ?N ?U ?h0 ?h1 ?h2 ?_; (case F => k_asm); (case N => k_asm); (case U => k_upd); (case h0 => omega); (case h1 => omega); (case h2 => omega); intro h' F' N'))
local macro_rules | `(tactic| walk_at "CPost") => `(tactic| refine And.intro rfl ?_)
set_option maxRecDepth 100000 in
set_option maxHeartbeats 8000000 in
theorem PySem.Challenge.cw_da0002_03_holds : PySem.Challenge.rw_da0002_03.Holds := by
  w_on; o_law; k_head
  case hw => w_witness2
  k_go0; (rename List Int => script); (rename ¬ _ < _ => hScr); (all_goals try k_fold); k_steps
  · (with_reducible show wpAny _ _ (pyIter (Value.ref _)) (fun it s₂ => LoopAtV _ _ _ _ _ (Str.ofString "k") _ _ _ it s₂) _ _)
    (rename Fr _ _ _ _ => lF'); (rename News _ _ _ _ => lN'); (rename IsRange _ _ _ _ _ _ _ _ => rgX)
    with_unfolding_all refine' loop31 script (by rfl) rgX (by omega) lF' lN' ?ya1 ?ya2
    case ya1 =>
      intro i t u vs nl ts h tk I it hi hT hvl hOff hne kFr kNews
      clear lF' lN'
      (have kMark := kstMark)
      simp only [List.forall_mem_cons] at hne
      obtain ⟨hne1, hne2, hne3, hne4⟩ := hne
      (replace hne1 := neN hne1); (replace hne2 := neN hne2); (replace hne3 := neN hne3)
      dsimp only at hOff hne1 hne2 hne3
      (try k_fold)
      k_steps
      (rename Fr _ _ _ _ => eF); (rename News _ _ _ _ => eN)
      simp only [List.push_toArray] at eN
      with_unfolding_all exact end31 eF eN hT hOff hne1 hne2 hne3 hne4 (by assumption) (by intro z h1 h2; simp [h1, h2])
    case ya2 =>
      intro u vs nl ts h tk hT hvl hOff kFr kNews
      clear lF' lN'
      (have kMark := kstMark)
      dsimp only at hOff
      (try k_fold)
      k_steps
      (with_reducible show wpAny _ _ (call (Value.builtin "list.sort") _) _ _ _)
      (rename Fr _ _ _ _ => lF'); (rename News _ _ _ _ => lN')
      with_unfolding_all refine' sort03 lF' lN' ?yc1 hT ?yc2 (by omega) mk_bd2 ?yc3
      (case yc1 => k_updF)
      (case yc2 => (intro p hp; exact ⟨.tail _ (.tail _ (.tail _ hp)), OwnOff.ne hOff (.head _) p hp⟩))
      case yc3 =>
        intro vs' ps' c h' F' N' hT' hPm hSr
        (have hpl : ps'.length ≤ 31 := by have := hPm.length_eq; have := hT.length; omega)
        clear lF' lN'
        (try dsimp only at N')
        (try k_fold)
        k_steps
        (rename Fr _ _ _ _ => lF'); (rename News _ _ _ _ => lN')
        with_unfolding_all refine' comp1 (by rfl) lF' lN' (.head _) hT' (fun p hp => .tail _ (.tail _ (.tail _ hp))) ?yd1 ?yd2 ?yd3
        (case yd1 => (have := hT'.length; have := hPm.length_eq; have := hT.length; omega))
        case yd2 =>
          intro p a t u n ys I oI C oC D m₂ h tk E' s₂ hma hn hx F' N' o3 on
          clear lF' lN'
          k_steps
          refine tup_item0 N' (.tail _ (.tail _ (.tail _ (.tail _ (.tail _ (.tail _ hma)))))) ?_
          exact ⟨h, _, _, rfl, F', N', o3, rfl, _, rfl⟩
        case yd3 =>
          intro ys g D h tk hIy F' N' o1
          (simp only [LCg.Off1] at o1)
          clear lF' lN'
          (try k_fold)
          k_steps
          (rename Fr _ _ _ _ => lF'); (rename News _ _ _ _ => lN')
          with_unfolding_all refine' loop33 (by rfl) lF' lN' (.tail _ (.head _)) hT' ?ye1 ?ye2
          case ye1 =>
            intro i p a t u n vf nf h tk I it hp hma hIf hvf hne kFr kNews
            clear lF' lN'
            (have hne0 := hne)
            simp only [List.forall_mem_cons] at hne
            obtain ⟨hne1, hne2, hne3, hne4, hne5, hne6⟩ := hne
            (replace hne1 := neN hne1); (replace hne2 := neN hne2); (replace hne3 := neN hne3); (replace hne4 := neN hne4); (replace hne5 := neN hne5)
            (try dsimp only at hne1 hne2 hne3 hne4 hne5)
            (have hi := (List.getElem?_eq_some_iff.mp hp).1)
            (try k_fold)
            k_steps
            (rename Fr _ _ _ _ => eF); (rename News _ _ _ _ => eN)
            simp only [List.push_toArray] at eN
            with_unfolding_all exact end33 eF eN (far_step hp hIf far_val) hne0 (by intro z h1; simp [h1])
          case ye2 =>
            intro u2 vf nf h tk hIf kFr kNews
            clear lF' lN'
            (have hps0 : ∀ p ∈ ps', 0 ≤ p.1 := fun p hp => (mk_bd p (hPm.mem_iff.mp hp)).1.1)
            (have hss := fst_sorted hSr (fun p hp => mk_bd2 p (hPm.mem_iff.mp hp)))
            (have hfl := farL_length ps' ps'.length)
            (have hml : (List.map (fun x => x.fst) ps').length = ps'.length := by simp)
            (k_with "exec While Compare cons nil" => k_while_given ["a", "x"] (fun a x script lo hi => 0 ≤ lo ∧ lo ≤ hi ∧ hi ≤ (a.length : Int) ∧ BR x a lo hi) (fun a x script lo hi => (hi - lo).toNat) "lo" "hi")
            (k_with "state" => exact br_start _ _)
            (k_with "state" => exact br_lo (by assumption) (by assumption) (by assumption) (by assumption) (by assumption) (by assumption))
            (k_with "state" => exact br_hi (by assumption) (by assumption) (by assumption) (by assumption) (by assumption) (by assumption))
            (k_with "state" => exact pw_start _)
            (k_with "state" => exact (pw_turn hps0 (by assumption) (by assumption) (by assumption) (by assumption) (by assumption) (by assumption) (by assumption) (by assumption) (by assumption) (by assumption) (by assumption) (by assumption) (by assumption)).1)
            (k_with "measure" => exact meas_lo (by assumption))
            (k_with "measure" => exact meas_hi (by assumption))
            (k_with "measure" => exact pw_meas (pw_turn hps0 (by assumption) (by assumption) (by assumption) (by assumption) (by assumption) (by assumption) (by assumption) (by assumption) (by assumption) (by assumption) (by assumption) (by assumption) (by assumption)).2 (by assumption))
            (try k_fold)
            k_steps
            refine ⟨?_⟩
            (rename Fr _ _ _ _ => lF'); (rename News _ _ _ _ => lN')
            refine mid_cut ps' lF' lN' ?_ ?_
            · k_while (fun script at' many => PW ps' at' many) (fun script at' many => (30 - at').toNat) "at" "many"
              k_steps
              · (rename Fr _ _ _ _ => eF); (rename News _ _ _ _ => eN)
                with_unfolding_all refine' Mid.intro ?yg1 eF eN ?yg2 ?yg3 ?yg4
                (case yg2 => with_unfolding_all rfl)
                (case yg3 => with_unfolding_all rfl)
                (case yg4 => (intro z h1 h2; simp [h1, h2]))
                (case yg1 => first | exact exit_hi (by assumption) (by assumption) | exact exit_lo (by assumption) (by assumption) (by assumption) (by assumption) (by assumption) (by assumption) (by assumption))
              · (rename Fr _ _ _ _ => eF); (rename News _ _ _ _ => eN)
                with_unfolding_all refine' Mid.intro ?yh1 eF eN ?yh2 ?yh3 ?yh4
                (case yh2 => with_unfolding_all rfl)
                (case yh3 => with_unfolding_all rfl)
                (case yh4 => (intro z h1 h2; simp [h1, h2]))
                (case yh1 => first | exact exit_hi (by assumption) (by assumption) | exact exit_lo (by assumption) (by assumption) (by assumption) (by assumption) (by assumption) (by assumption) (by assumption))
            · intro at' ta many tm h tk hEx kFr kNews
              clear lF' lN'
              (try k_fold)
              k_steps
              (rename Fr _ _ _ _ => lF'); (rename News _ _ _ _ => lN'); (rename IsRange _ _ _ _ _ _ _ _ => rgX)
              with_unfolding_all refine' loop34 ps' (by rfl) rgX (by rfl) ?yi1 ?yi2 ?yi3 lF' (shrink lN') (opts0 _) ?yi5 ?yi6 ?yi7 ?yi8
              (case yi1 => rfl)
              (case yi2 => with_unfolding_all rfl)
              (case yi3 => with_unfolding_all rfl)
              (case yi5 => (intro o od; (try dsimp only [led4]); k_updF))
              (case yi6 => assumption)
              case yi7 =>
                intro s₁ i t u h oc vd nd dl I it hi hO hDu hdc hlt kFr kNews
                clear lF' lN'
                (try dsimp only [led4] at hlt kNews)
                (k_lt hlt)
                (try k_fold)
                k_steps
                (rename Fr _ _ _ _ => lF'); (rename News _ _ _ _ => lN')
                with_unfolding_all refine' PSrc.intro (fun k ys => IntsAre ys (waysOf ps' dl (1 + (i : Int)) k)) (by rfl) lF' lN' (.tail _ (.tail _ (.head _))) hT' (fun p hp => .tail _ (.tail _ (.tail _ (.tail _ (.tail _ hp))))) ?yj1 (.nil) ?yj2 ?yj3
                (case yj1 => (have := hT'.length; omega))
                case yj2 =>
                  intro g i2 p ys t2 u2 I2 oI C oC D2 m₂ h2 tk2 E' hp hJ hn hx hx2 F' N' o3 on
                  clear lF' lN'
                  (have hb := mk_bd p (hPm.mem_iff.mp (List.mem_of_getElem? hp)))
                  (have hlen31 := hDu.1)
                  cases hdd : dl.getD p.1.toNat none with
                  | none =>
                    (have hv := hO.getNone (k := p.1.toNat) (by omega) hdd)
                    k_steps
                    all_goals ((rename Fr _ _ _ _ => eF); (rename News _ _ _ _ => eN); first
                      | exact ⟨_, _, rfl, eF, eN, ways_yes hp (by assumption) (by assumption) hdd hJ⟩
                      | exact ⟨_, _, rfl, eF, eN, ways_no hp (.inr hdd) hJ⟩
                      | exact ⟨_, _, rfl, eF, eN, ways_no hp (.inl (by omega)) hJ⟩)
                  | some d =>
                    obtain ⟨t3, hv⟩ := hO.getSome hdd
                    k_steps
                    all_goals ((rename Fr _ _ _ _ => eF); (rename News _ _ _ _ => eN); first
                      | exact ⟨_, _, rfl, eF, eN, ways_yes hp (by assumption) (by assumption) hdd hJ⟩
                      | exact ⟨_, _, rfl, eF, eN, ways_no hp (.inr hdd) hJ⟩
                      | exact ⟨_, _, rfl, eF, eN, ways_no hp (.inl (by omega)) hJ⟩)
                case yj3 =>
                  intro ys D2 h2 tk2 hJ F' N' o1
                  clear lF' lN'
                  (simp only [LCg.Off1] at o1)
                  (try dsimp only at hJ)
                  (have hvl : vd.length = 31 := by have := hO.length; have := hDu.1; omega)
                  k_steps
                  all_goals ((rename Fr _ _ _ _ => eF); (rename News _ _ _ _ => eN); with_unfolding_all first
                    | exact cend_of eF eN hdc hO (due_none hps0 hDu hi (of_decide_eq_true (by assumption))) (by intro z h1; simp [h1])
                    | exact cend_of eF eN hdc (hO.set _) (due_some hps0 hDu hi (by assumption) (by assumption)) (by intro z h1; simp [h1]))
              case yi8 =>
                intro u h tk oc v vd nd dl hO hDu hdc kFr kNews
                clear lF' lN'
                (try dsimp only [led4] at kNews)
                (have hE := exit_end hEx ((hDu.2 30).1 (Nat.le_refl _)))
                (have hlen31 := hDu.1)
                rcases Int.lt_or_le at' 30 with hlt | hge
                · (have hv : vd[(30 : Int).toNat]? = some Value.none := hO.getNone (k := 30) (by omega) (hE.1 hlt))
                  k_steps
                · obtain ⟨t3, hv0⟩ := hO.getSome (k := 30) (hE.2 (by omega))
                  (have hv : vd[(30 : Int).toNat]? = some (Value.int many t3) := hv0)
                  k_steps
