import PyProof.Rows.All
import Wide.All
import OpenK.AllK
import Wide.FinOn
import KE.IntBitsLaws
import PySem.Challenge.RW_pm0087_01
set_option Elab.async false
set_option compiler.extract_closed false
section
open PySem PySem.W PyProof.Rows
namespace Mine
set_option maxRecDepth 100000 in
set_option maxHeartbeats 8000000 in
open_top hd for PySem.Challenge.rw_pm0087_01
end Mine

end
section
open PySem PySem.W PySem.Calls PyProof.Rows
namespace Mine

abbrev Led := List (Addr × Obj)
abbrev tup4 (p q r s : Int) (t0 t1 t2 t3 n : Nat) : Obj := { cls := .type "tuple", data := .seq #[.int p t0, .int q t1, .int r t2, .int s t3] n }
abbrev Small (p : Int) : Prop := PySem.Builtin.Int.intBits p ≤ 1000

/-- a call's contract -/
abbrev Con (w : World) (mean : ExcName → Option Value) (mg mb : Str → Option Value) (f : Addr) (vs : List Value) (news : Led) (sz : Nat) (Ret : (h₀ : Heap) → (L : Addr) → (m : Str → Option Value) → (Q : Value → Heap → Nat → Prop) → Prop) : Prop :=
  ∀ (dp un : Nat) (gd : Option (List Code)) (cn : Str) (cs : Scope) (a : Addr) (ccd : Value) (cl : List (Str × Addr)) (outer : List Env) (A₀ : Around) (base h₀ : Heap) (L : Addr) (m : Str → Option Value) (s : Shared) (Q E : Value → Shared → Prop),
    Below A₀ base outer h₀ → Fr h₀ L s.heap m → (hd.heap_39 w.params).In h₀ → News h₀ L s.heap news → Top hd.view_39 (looseW hd.view_39 []) mean mg mb h₀ → cs.kind = .function → dp + sz < recursionLimit → un + 8 * sz < cLine →
    Ret h₀ L m (fun v h t => Q v { s with heap := h, toks := t }) →
    wpAny (model Challenge.rw_pm0087_01.row.prog w) (ktrTop dp un gd cn cs L a ccd cl outer) (call (.ref f) vs) Q E s
end Mine

end
section
open PySem
namespace Mine

abbrev M4 := Int × Int × Int × Int
def mmul (x y : M4) : M4 := (x.1 * y.1 + x.2.1 * y.2.2.1, x.1 * y.2.1 + x.2.1 * y.2.2.2, x.2.2.1 * y.1 + x.2.2.2 * y.2.2.1, x.2.2.1 * y.2.1 + x.2.2.2 * y.2.2.2)
def m1 : M4 := (1, 0, 0, 1)
/-- the matrix of a letter: a 97, A 65, b 98, B 66 -/
def letM (c : Nat) : M4 := if c = 97 then (1, 2, 0, 1) else if c = 65 then (1, -2, 0, 1) else if c = 98 then (1, 0, 2, 1) else (1, 0, -2, 1)
def mu : List Nat → M4
  | [] => m1
  | c :: r => mmul (letM c) (mu r)
def inv (c : Nat) : Nat := if c = 97 then 65 else if c = 65 then 97 else if c = 98 then 66 else 98
def Lw (c : Nat) : Prop := c = 97 ∨ c = 65 ∨ c = 98 ∨ c = 66
def Wd (u : List Nat) : Prop := ∀ c ∈ u, Lw c
def Red : List Nat → Prop
  | a :: b :: r => b ≠ inv a ∧ Red (b :: r)
  | _ => True
def run (x y : Nat) (k : Int) : List Nat := List.replicate k.toNat x ++ List.replicate (-k).toNat y
def txt (l : List Nat) : Str := ⟨l.toArray⟩
abbrev ab (x : Int) : Int := if x < 0 then -x else x
abbrev sg (x : Int) : Int := if 0 < x then 1 else -1
structure Mv where
  one : Nat
  p1 : Nat
  p2 : Nat
  back : Nat
  u1 : Nat
  u2 : Nat
def mvOf : Nat → Mv
  | 0 => ⟨97, 97, 98, 65, 66, 65⟩
  | 1 => ⟨98, 98, 97, 66, 65, 66⟩
  | 2 => ⟨97, 97, 66, 65, 98, 65⟩
  | 3 => ⟨98, 98, 65, 66, 97, 66⟩
  | 4 => ⟨97, 98, 97, 65, 65, 66⟩
  | 5 => ⟨98, 97, 98, 66, 66, 65⟩
  | 6 => ⟨97, 66, 97, 65, 65, 98⟩
  | _ => ⟨98, 65, 98, 66, 66, 97⟩
/-- where the matrix stands -/
structure At (p q r s : Int) (u : List Nat) : Prop where
  wd : Wd u
  red : Red u
  mu : mu u = (p, q, r, s)

theorem txt_app (u v : List Nat) : txt u ++ txt v = txt (u ++ v) := Str.ext' (by simp [txt, Str.cps_append])
theorem txt_len (u : List Nat) : (txt u).length = u.length := by simp [txt, Str.length]

theorem foldl_rep (c : Nat) : ∀ (n : Nat) (acc : Array Nat), (List.replicate n #[c]).foldl (· ++ ·) acc = acc ++ (List.replicate n c).toArray
  | 0, acc => by simp
  | n + 1, acc => by
    rw [List.replicate_succ, List.foldl_cons, foldl_rep c n, List.replicate_succ]
    rw [← Array.toList_inj]
    simp
theorem mul_one (c : Nat) (k : Int) : Txt.mul (txt [c]) k = txt (List.replicate k.toNat c) := by
  unfold Txt.mul
  by_cases h : k < 1
  · rw [if_pos h, show k.toNat = 0 by omega]; rfl
  · rw [if_neg h]
    by_cases h1 : k = 1
    · subst h1
      rfl
    · have hb : (k == 1 || (txt [c]).length == 0) = false := by
        rw [txt_len]
        simp [h1]
      rw [hb]
      simp only [Bool.false_eq_true, if_false]
      show (⟨(List.replicate k.toNat #[c]).foldl (· ++ ·) #[]⟩ : Str) = _
      rw [foldl_rep]
      simp [txt]
theorem of_a : Str.ofString "a" = txt [97] := by decide +kernel
theorem of_A : Str.ofString "A" = txt [65] := by decide +kernel
theorem of_b : Str.ofString "b" = txt [98] := by decide +kernel
theorem of_B : Str.ofString "B" = txt [66] := by decide +kernel

/-! ping-pong -/
theorem run_pos {x y : Nat} {k : Int} (h : 0 < k) : run x y k = x :: run x y (k - 1) := by
  unfold run
  rw [show k.toNat = (k - 1).toNat + 1 by omega, show (-(k - 1)).toNat = 0 by omega, show (-k).toNat = 0 by omega, List.replicate_succ]
  rfl
theorem run_neg {x y : Nat} {k : Int} (h : k < 0) : run x y k = y :: run x y (k + 1) := by
  unfold run
  rw [show k.toNat = 0 by omega, show (k + 1).toNat = 0 by omega, show (-k).toNat = (-(k + 1)).toNat + 1 by omega, List.replicate_succ]
  rfl
/-- a reduced word splits off its first syllable -/
theorem split_xy {x y : Nat} (hxy : x ≠ y) (hx : inv x = y) (hy : inv y = x) : ∀ (u : List Nat), Red u → (∀ c r, u = c :: r → c = x ∨ c = y) → u ≠ [] →
    ∃ (k : Int) (v : List Nat), k ≠ 0 ∧ u = run x y k ++ v ∧ v.length < u.length ∧ k.natAbs ≤ u.length ∧ Red v ∧ (∀ c r, v = c :: r → ¬ (c = x ∨ c = y)) := by
  intro u
  induction u with
  | nil => intro _ _ h; exact absurd rfl h
  | cons c r ih =>
    intro hr hc _
    have ha := hc c r rfl
    cases hr0 : r with
    | nil =>
      rcases ha with h | h
      · exact ⟨1, [], by decide, by rw [h]; rfl, by simp, by simp, trivial, (fun _ _ h => nomatch h)⟩
      · exact ⟨-1, [], by decide, by rw [h]; rfl, by simp, by simp, trivial, (fun _ _ h => nomatch h)⟩
    | cons b t =>
      subst hr0
      have hni := hr.1
      by_cases hb : b = x ∨ b = y
      · obtain ⟨k, v, hk, e, hl, hkl, h2, h3⟩ := ih hr.2 (fun c' r' h => by injection h with h1 _; rw [← h1]; exact hb) (by simp)
        have hbc : b = c := by
          rcases ha with h | h <;> rcases hb with h' | h'
          · rw [h, h']
          · exact absurd (by rw [h, h', hx]) hni
          · exact absurd (by rw [h, h', hy]) hni
          · rw [h, h']
        rcases ha with h | h
        · have hpos : 0 < k := by
            rcases Int.lt_or_gt_of_ne hk with h' | h'
            · exfalso
              rw [run_neg h'] at e
              injection e with e2 _
              exact hxy (by rw [← h, ← hbc, e2])
            · exact h'
          refine ⟨k + 1, v, by omega, ?_, by simp only [List.length_cons] at hl ⊢; omega, by simp only [List.length_cons] at hkl ⊢; omega, h2, h3⟩
          rw [run_pos (by omega), e, show k + 1 - 1 = k by omega, h]
          rfl
        · have hneg : k < 0 := by
            rcases Int.lt_or_gt_of_ne hk with h' | h'
            · exact h'
            · exfalso
              rw [run_pos h'] at e
              injection e with e2 _
              exact hxy (by rw [← h, ← hbc, e2])
          refine ⟨k - 1, v, by omega, ?_, by simp only [List.length_cons] at hl ⊢; omega, by simp only [List.length_cons] at hkl ⊢; omega, h2, h3⟩
          rw [run_neg (by omega), e, show k - 1 + 1 = k by omega, h]
          rfl
      · have h3 : ∀ c' r', b :: t = c' :: r' → ¬ (c' = x ∨ c' = y) := fun c' r' h => by injection h with h1 _; rw [← h1]; exact hb
        rcases ha with h | h
        · exact ⟨1, b :: t, by decide, by rw [h]; rfl, by simp, by simp, hr.2, h3⟩
        · exact ⟨-1, b :: t, by decide, by rw [h]; rfl, by simp, by simp, hr.2, h3⟩
theorem mu_a {v : List Nat} {p q r s : Int} (h : mu v = (p, q, r, s)) : mu (97 :: v) = (p + 2 * r, q + 2 * s, r, s) := by
  show mmul (letM 97) (mu v) = _
  rw [h]
  simp [letM, mmul]
theorem mu_A {v : List Nat} {p q r s : Int} (h : mu v = (p, q, r, s)) : mu (65 :: v) = (p - 2 * r, q - 2 * s, r, s) := by
  show mmul (letM 65) (mu v) = _
  rw [h]
  simp [letM, mmul]
  omega
theorem mu_b {v : List Nat} {p q r s : Int} (h : mu v = (p, q, r, s)) : mu (98 :: v) = (p, q, r + 2 * p, s + 2 * q) := by
  show mmul (letM 98) (mu v) = _
  rw [h]
  simp [letM, mmul]
  omega
theorem mu_B {v : List Nat} {p q r s : Int} (h : mu v = (p, q, r, s)) : mu (66 :: v) = (p, q, r - 2 * p, s - 2 * q) := by
  show mmul (letM 66) (mu v) = _
  rw [h]
  simp [letM, mmul]
  omega
theorem reps {f : Int → M4} {x : Nat} {v : List Nat} (h0 : mu v = f 0) (hs : ∀ (u : List Nat) (k : Int), mu u = f k → mu (x :: u) = f (k + 1)) : ∀ n : Nat, mu (List.replicate n x ++ v) = f n
  | 0 => h0
  | n + 1 => by
    rw [List.replicate_succ, List.cons_append]
    exact hs _ _ (reps h0 hs n)
theorem mu_run_a {v : List Nat} {p q r s : Int} (h : mu v = (p, q, r, s)) (k : Int) : mu (run 97 65 k ++ v) = (p + 2 * k * r, q + 2 * k * s, r, s) := by
  rcases Int.le_total 0 k with hk | hk
  · have e : run 97 65 k = List.replicate k.toNat 97 := by unfold run; rw [show (-k).toNat = 0 by omega]; simp
    have := reps (f := fun k => (p + 2 * k * r, q + 2 * k * s, r, s)) (x := 97) (v := v) (by simpa using h) (fun u k hu => by
      rw [mu_a hu]
      grind) k.toNat
    rw [e, this, Int.toNat_of_nonneg hk]
  · have e : run 97 65 k = List.replicate (-k).toNat 65 := by unfold run; rw [show k.toNat = 0 by omega]; simp
    have := reps (f := fun k => (p - 2 * k * r, q - 2 * k * s, r, s)) (x := 65) (v := v) (by simpa using h) (fun u k hu => by
      rw [mu_A hu]
      grind) (-k).toNat
    rw [e, this, Int.toNat_of_nonneg (by omega)]
    grind
theorem mu_run_b {v : List Nat} {p q r s : Int} (h : mu v = (p, q, r, s)) (k : Int) : mu (run 98 66 k ++ v) = (p, q, r + 2 * k * p, s + 2 * k * q) := by
  rcases Int.le_total 0 k with hk | hk
  · have e : run 98 66 k = List.replicate k.toNat 98 := by unfold run; rw [show (-k).toNat = 0 by omega]; simp
    have := reps (f := fun k => (p, q, r + 2 * k * p, s + 2 * k * q)) (x := 98) (v := v) (by simpa using h) (fun u k hu => by
      rw [mu_b hu]
      grind) k.toNat
    rw [e, this, Int.toNat_of_nonneg hk]
  · have e : run 98 66 k = List.replicate (-k).toNat 66 := by unfold run; rw [show k.toNat = 0 by omega]; simp
    have := reps (f := fun k => (p, q, r - 2 * k * p, s - 2 * k * q)) (x := 66) (v := v) (by simpa using h) (fun u k hu => by
      rw [mu_B hu]
      grind) (-k).toNat
    rw [e, this, Int.toNat_of_nonneg (by omega)]
    grind
theorem ab_eq (x : Int) : ab x = (x.natAbs : Int) := by unfold ab; split <;> omega
theorem absmul {k t : Int} (hk : k ≠ 0) : t.natAbs ≤ (k * t).natAbs := by
  rw [Int.natAbs_mul]
  exact Nat.le_mul_of_pos_left _ (by omega)
theorem mu_nil : mu [] = (1, 0, 0, 1) := rfl
theorem wd_tail {a b : List Nat} (h : Wd (a ++ b)) : Wd b := fun c hc => h c (List.mem_append.mpr (.inr hc))
theorem notA {c : Nat} (h : Lw c) (h' : ¬ (c = 97 ∨ c = 65)) : c = 98 ∨ c = 66 := by
  rcases h with h | h | h | h
  · exact absurd (.inl h) h'
  · exact absurd (.inr h) h'
  · exact .inl h
  · exact .inr h
theorem notB {c : Nat} (h : Lw c) (h' : ¬ (c = 98 ∨ c = 66)) : c = 97 ∨ c = 65 := by
  rcases h with h | h | h | h
  · exact .inl h
  · exact .inr h
  · exact absurd (.inl h) h'
  · exact absurd (.inr h) h'
theorem inj4 {p q r s p' q' r' s' : Int} (h : ((p, q, r, s) : M4) = (p', q', r', s')) : p = p' ∧ q = q' ∧ r = r' ∧ s = s' := by
  simpa using h
theorem pp : ∀ (n : Nat) (u : List Nat), u.length ≤ n → Wd u → Red u → ∀ p q r s, mu u = (p, q, r, s) →
    (∀ c t, u = c :: t → c = 97 ∨ c = 65 → r.natAbs < p.natAbs) ∧ (∀ c t, u = c :: t → c = 98 ∨ c = 66 → p.natAbs < r.natAbs) := by
  intro n
  induction n with
  | zero =>
    intro u hl _ _ p q r s _
    have : u = [] := List.length_eq_zero_iff.mp (by omega)
    subst this
    exact ⟨(fun _ _ h => nomatch h), (fun _ _ h => nomatch h)⟩
  | succ n ih =>
    intro u hl hw hr p q r s hm
    constructor
    · intro c t hu hc
      subst hu
      obtain ⟨k, v, hk, e, hlt, -, hrv, hv⟩ := split_xy (x := 97) (y := 65) (by decide) rfl rfl (c :: t) hr (fun c' r' h => by injection h with h1 _; rw [← h1]; exact hc) (by simp)
      have hwv : Wd v := wd_tail (a := run 97 65 k) (e ▸ hw)
      obtain ⟨p', q', r', s', hm'⟩ : ∃ p' q' r' s', mu v = (p', q', r', s') := ⟨_, _, _, _, rfl⟩
      have h1 := mu_run_a hm' k
      rw [← e, hm] at h1
      obtain ⟨e1, e2, e3, e4⟩ := inj4 h1
      have key : r'.natAbs < (p' + 2 * k * r').natAbs := by
        have e5 : 2 * k * r' = 2 * (k * r') := Int.mul_assoc 2 k r'
        rw [e5]
        have h2 := absmul (t := r') hk
        cases v with
        | nil =>
          rw [mu_nil] at hm'
          obtain ⟨a1, a2, a3, a4⟩ := inj4 hm'
          subst a1 a3
          simp
        | cons b w =>
          have h3 := (ih (b :: w) (by omega) hwv hrv p' q' r' s' hm').2 b w rfl (notA (hwv b (.head _)) (hv b w rfl))
          generalize k * r' = z at h2
          omega
      rw [e1, e3]
      exact key
    · intro c t hu hc
      subst hu
      obtain ⟨k, v, hk, e, hlt, -, hrv, hv⟩ := split_xy (x := 98) (y := 66) (by decide) rfl rfl (c :: t) hr (fun c' r' h => by injection h with h1 _; rw [← h1]; exact hc) (by simp)
      have hwv : Wd v := wd_tail (a := run 98 66 k) (e ▸ hw)
      obtain ⟨p', q', r', s', hm'⟩ : ∃ p' q' r' s', mu v = (p', q', r', s') := ⟨_, _, _, _, rfl⟩
      have h1 := mu_run_b hm' k
      rw [← e, hm] at h1
      obtain ⟨e1, e2, e3, e4⟩ := inj4 h1
      have key : p'.natAbs < (r' + 2 * k * p').natAbs := by
        have e5 : 2 * k * p' = 2 * (k * p') := Int.mul_assoc 2 k p'
        rw [e5]
        have h2 := absmul (t := p') hk
        cases v with
        | nil =>
          rw [mu_nil] at hm'
          obtain ⟨a1, a2, a3, a4⟩ := inj4 hm'
          subst a1 a3
          simp only [Int.mul_one] at h2 ⊢
          omega
        | cons b w =>
          have h3 := (ih (b :: w) (by omega) hwv hrv p' q' r' s' hm').1 b w rfl (notB (hwv b (.head _)) (hv b w rfl))
          generalize k * p' = z at h2
          omega
      rw [e1, e3]
      exact key
theorem fdiv_is {a b K m : Int} (hb : 0 < b) (e : a = m + K * b) (h0 : 0 ≤ m) (h1 : m < b) : a.fdiv b = K := by
  rw [Int.fdiv_eq_ediv_of_nonneg _ (by omega), e, Int.add_mul_ediv_right _ _ (by omega), Int.ediv_eq_zero_of_lt h0 h1, Int.zero_add]
theorem fdiv_step {p' r k : Int} (hr : r ≠ 0) (h : p'.natAbs < r.natAbs) : (p' + 2 * k * r + ab r).fdiv (2 * ab r) * sg r = k := by
  have hs : sg r * sg r = 1 := by unfold sg; split <;> rfl
  have ha : r = sg r * ab r := by unfold sg ab; split <;> split <;> omega
  have hab := ab_eq r
  have e : (p' + 2 * k * r + ab r).fdiv (2 * ab r) = k * sg r := by
    refine fdiv_is (m := p' + ab r) (by omega) ?_ (by omega) (by omega)
    have : 2 * k * r = k * sg r * (2 * ab r) := by
      have e1 : 2 * k * r = 2 * k * (sg r * ab r) := by rw [← ha]
      rw [e1]
      grind
    omega
  rw [e, Int.mul_assoc, hs, Int.mul_one]
theorem eu_stop {p q s : Int} {u : List Nat} (h : At p q 0 s u) : ∃ n : Int, q = 2 * n ∧ u = run 97 65 n ∧ n.natAbs ≤ u.length := by
  cases u with
  | nil =>
    obtain ⟨a1, a2, a3, a4⟩ := inj4 (mu_nil.symm.trans h.mu)
    exact ⟨0, by omega, rfl, by simp⟩
  | cons c t =>
    have hpp := pp _ _ (Nat.le_refl _) h.wd h.red _ _ _ _ h.mu
    by_cases hc : c = 97 ∨ c = 65
    · obtain ⟨k, v, hk, e, hlt, hkl, hrv, hv⟩ := split_xy (x := 97) (y := 65) (by decide) rfl rfl (c :: t) h.red (fun c' r' h => by injection h with h1 _; rw [← h1]; exact hc) (by simp)
      have hwv : Wd v := wd_tail (a := run 97 65 k) (e ▸ h.wd)
      obtain ⟨p', q', r', s', hm'⟩ : ∃ p' q' r' s', mu v = (p', q', r', s') := ⟨_, _, _, _, rfl⟩
      have h1 := mu_run_a hm' k
      rw [← e, h.mu] at h1
      obtain ⟨e1, e2, e3, e4⟩ := inj4 h1
      cases v with
      | nil =>
        rw [mu_nil] at hm'
        obtain ⟨a1, a2, a3, a4⟩ := inj4 hm'
        subst a2 a4
        exact ⟨k, by rw [e2]; omega, by rw [e, List.append_nil], hkl⟩
      | cons b w =>
        have h3 := (pp _ _ (Nat.le_refl _) hwv hrv p' q' r' s' hm').2 b w rfl (notA (hwv b (.head _)) (hv b w rfl))
        omega
    · have h3 := hpp.2 c t rfl (notA (h.wd c (.head _)) hc)
      omega
theorem eu_a {p q r s : Int} {u : List Nat} (h : At p q r s u) (h0 : r ≠ 0) (h1 : ab r < ab p) :
    ∃ (k : Int) (v : List Nat), (p + ab r).fdiv (2 * ab r) * sg r = k ∧ u = run 97 65 k ++ v ∧ v.length < u.length ∧ k.natAbs ≤ u.length ∧ At (p - 2 * k * r) (q - 2 * k * s) r s v := by
  rw [ab_eq, ab_eq] at h1
  cases u with
  | nil =>
    obtain ⟨a1, a2, a3, a4⟩ := inj4 (mu_nil.symm.trans h.mu)
    omega
  | cons c t =>
    have hpp := pp _ _ (Nat.le_refl _) h.wd h.red _ _ _ _ h.mu
    by_cases hc : c = 97 ∨ c = 65
    · obtain ⟨k, v, hk, e, hlt, hkl, hrv, hv⟩ := split_xy (x := 97) (y := 65) (by decide) rfl rfl (c :: t) h.red (fun c' r' h => by injection h with h1 _; rw [← h1]; exact hc) (by simp)
      have hwv : Wd v := wd_tail (a := run 97 65 k) (e ▸ h.wd)
      obtain ⟨p', q', r', s', hm'⟩ : ∃ p' q' r' s', mu v = (p', q', r', s') := ⟨_, _, _, _, rfl⟩
      have h2 := mu_run_a hm' k
      rw [← e, h.mu] at h2
      obtain ⟨e1, e2, e3, e4⟩ := inj4 h2
      subst e3 e4
      cases v with
      | nil =>
        rw [mu_nil] at hm'
        obtain ⟨a1, a2, a3, a4⟩ := inj4 hm'
        omega
      | cons b w =>
        have h3 := (pp _ _ (Nat.le_refl _) hwv hrv p' q' r s hm').2 b w rfl (notA (hwv b (.head _)) (hv b w rfl))
        refine ⟨k, b :: w, ?_, e, hlt, hkl, hwv, hrv, ?_⟩
        · rw [e1]
          exact fdiv_step h0 h3
        · rw [hm', e1, e2]
          congr 1
          · omega
          · congr 1
            omega
    · have h3 := hpp.2 c t rfl (notA (h.wd c (.head _)) hc)
      omega
theorem eu_b {p q r s : Int} {u : List Nat} (h : At p q r s u) (h0 : r ≠ 0) (h1 : ¬ ab r < ab p) :
    ∃ (k : Int) (v : List Nat), p ≠ 0 ∧ (r + ab p).fdiv (2 * ab p) * sg p = k ∧ u = run 98 66 k ++ v ∧ v.length < u.length ∧ k.natAbs ≤ u.length ∧ At p q (r - 2 * k * p) (s - 2 * k * q) v := by
  rw [ab_eq, ab_eq] at h1
  cases u with
  | nil =>
    obtain ⟨a1, a2, a3, a4⟩ := inj4 (mu_nil.symm.trans h.mu)
    omega
  | cons c t =>
    have hpp := pp _ _ (Nat.le_refl _) h.wd h.red _ _ _ _ h.mu
    by_cases hc : c = 98 ∨ c = 66
    · obtain ⟨k, v, hk, e, hlt, hkl, hrv, hv⟩ := split_xy (x := 98) (y := 66) (by decide) rfl rfl (c :: t) h.red (fun c' r' h => by injection h with h1 _; rw [← h1]; exact hc) (by simp)
      have hwv : Wd v := wd_tail (a := run 98 66 k) (e ▸ h.wd)
      obtain ⟨p', q', r', s', hm'⟩ : ∃ p' q' r' s', mu v = (p', q', r', s') := ⟨_, _, _, _, rfl⟩
      have h2 := mu_run_b hm' k
      rw [← e, h.mu] at h2
      obtain ⟨e1, e2, e3, e4⟩ := inj4 h2
      subst e1 e2
      have h3 : r'.natAbs < p.natAbs := by
        cases v with
        | nil =>
          rw [mu_nil] at hm'
          obtain ⟨a1, a2, a3, a4⟩ := inj4 hm'
          omega
        | cons b w => exact (pp _ _ (Nat.le_refl _) hwv hrv p q r' s' hm').1 b w rfl (notB (hwv b (.head _)) (hv b w rfl))
      have hp : p ≠ 0 := by omega
      refine ⟨k, v, hp, ?_, e, hlt, hkl, hwv, hrv, ?_⟩
      · rw [e3]
        exact fdiv_step hp h3
      · rw [hm', e3, e4]
        congr 1
        congr 1
        congr 1
        · omega
        · omega
    · have h3 := hpp.1 c t rfl (notB (h.wd c (.head _)) hc)
      omega
theorem mu_bound : ∀ (u : List Nat), Wd u → ∀ p q r s, mu u = (p, q, r, s) → p.natAbs ≤ 3 ^ u.length ∧ q.natAbs ≤ 3 ^ u.length ∧ r.natAbs ≤ 3 ^ u.length ∧ s.natAbs ≤ 3 ^ u.length := by
  intro u
  induction u with
  | nil =>
    intro _ p q r s h
    obtain ⟨a1, a2, a3, a4⟩ := inj4 (mu_nil.symm.trans h)
    subst a1 a2 a3 a4
    decide
  | cons c t ih =>
    intro hw p q r s h
    obtain ⟨p', q', r', s', hm'⟩ : ∃ p' q' r' s', mu t = (p', q', r', s') := ⟨_, _, _, _, rfl⟩
    have hb := ih (fun x hx => hw x (.tail _ hx)) p' q' r' s' hm'
    rw [List.length_cons, Nat.pow_succ]
    generalize 3 ^ t.length = z at hb
    rcases hw c (.head _) with rfl | rfl | rfl | rfl
    · obtain ⟨a1, a2, a3, a4⟩ := inj4 ((mu_a hm').symm.trans h); omega
    · obtain ⟨a1, a2, a3, a4⟩ := inj4 ((mu_A hm').symm.trans h); omega
    · obtain ⟨a1, a2, a3, a4⟩ := inj4 ((mu_b hm').symm.trans h); omega
    · obtain ⟨a1, a2, a3, a4⟩ := inj4 ((mu_B hm').symm.trans h); omega
theorem bits_of {x : Int} {n : Nat} (h : x.natAbs ≤ 3 ^ n) (hn : n ≤ 50) : Builtin.Int.intBits x ≤ 1000 := by
  have h1 : x.natAbs < 2 ^ 100 := Nat.lt_of_le_of_lt h (Nat.lt_of_le_of_lt (Nat.pow_le_pow_right (by decide) hn) (by decide +kernel))
  have h2 : Builtin.Int.intBits x ≤ 100 := intBits_le_iff.mpr h1
  exact Nat.le_trans h2 (by decide)
theorem At.bits {p q r s : Int} {u : List Nat} (h : At p q r s u) (hl : u.length ≤ 50) : Builtin.Int.intBits p ≤ 1000 ∧ Builtin.Int.intBits q ≤ 1000 ∧ Builtin.Int.intBits r ≤ 1000 ∧ Builtin.Int.intBits s ≤ 1000 := by
  have := mu_bound u h.wd p q r s h.mu
  exact ⟨bits_of this.1 hl, bits_of this.2.1 hl, bits_of this.2.2.1 hl, bits_of this.2.2.2 hl⟩
theorem mul_a (k : Int) : Txt.mul (Str.ofString "a") k = txt (List.replicate k.toNat 97) := by rw [of_a, mul_one]
theorem mul_A (k : Int) : Txt.mul (Str.ofString "A") k = txt (List.replicate k.toNat 65) := by rw [of_A, mul_one]
theorem mul_b (k : Int) : Txt.mul (Str.ofString "b") k = txt (List.replicate k.toNat 98) := by rw [of_b, mul_one]
theorem mul_B (k : Int) : Txt.mul (Str.ofString "B") k = txt (List.replicate k.toNat 66) := by rw [of_B, mul_one]
/-- between two turns -/
structure EInv (v : List Nat) (most : Int) (n : Int) (p q r s : Int) (w : Str) : Prop where
  out : ∃ w0 u, w = txt w0 ∧ w0 ++ u = v ∧ At p q r s u ∧ (u.length : Int) + n ≤ most ∧ (v.length : Int) ≤ 50
theorem EInv.start {v : List Nat} {most p q r s : Int} (hat : At p q r s v) (hv : (v.length : Int) ≤ most) (hm : most ≤ 50) : EInv v most (([] : List Int).length : Int) p q r s (Str.ofString "") :=
  ⟨[], v, rfl, rfl, hat, by simpa using hv, by omega⟩
structure EA (v : List Nat) (most n p q r s : Int) (w : Str) (k : Int) : Prop where
  lo : -100 ≤ k
  hi : k ≤ 100
  lw : w.length ≤ 100
  next : EInv v most (n + 1) (p - 2 * k * r) (q - 2 * k * s) r s (w ++ Txt.mul (Str.ofString "a") k ++ Txt.mul (Str.ofString "A") (-k))
structure EB (v : List Nat) (most n p q r s : Int) (w : Str) (k : Int) : Prop where
  lo : -100 ≤ k
  hi : k ≤ 100
  lw : w.length ≤ 100
  next : EInv v most (n + 1) p q (r - 2 * k * p) (s - 2 * k * q) (w ++ Txt.mul (Str.ofString "b") k ++ Txt.mul (Str.ofString "B") (-k))
theorem len_le {w0 u v : List Nat} (e : w0 ++ u = v) : w0.length ≤ v.length := by rw [← e]; simp
theorem len_le' {w0 u v : List Nat} (e : w0 ++ u = v) : u.length ≤ v.length := by rw [← e]; simp
section
variable {v : List Nat} {most n p q r s : Int} {w : Str}
theorem EInv.a (I : EInv v most n p q r s w) (h0 : r ≠ 0) (h1 : ab r < ab p) : ∃ k, (p + ab r).fdiv (2 * ab r) * sg r = k ∧ EA v most n p q r s w k := by
  obtain ⟨w0, u, rfl, e, hat, hl, hv⟩ := I.out
  obtain ⟨k, u', ek, eu, hlt, hkl, hat'⟩ := eu_a hat h0 h1
  have l1 := len_le e
  have l2 := len_le' e
  refine ⟨k, ek, ⟨by omega, by omega, by rw [txt_len]; omega, ⟨w0 ++ run 97 65 k, u', ?_, by rw [List.append_assoc, ← eu, e], hat', by omega, hv⟩⟩⟩
  rw [mul_a, mul_A, txt_app, txt_app, run, List.append_assoc]
theorem EInv.b (I : EInv v most n p q r s w) (h0 : r ≠ 0) (h1 : ¬ ab r < ab p) : ∃ k, (r + ab p).fdiv (2 * ab p) * sg p = k ∧ EB v most n p q r s w k := by
  obtain ⟨w0, u, rfl, e, hat, hl, hv⟩ := I.out
  obtain ⟨k, u', hp, ek, eu, hlt, hkl, hat'⟩ := eu_b hat h0 h1
  have l1 := len_le e
  have l2 := len_le' e
  refine ⟨k, ek, ⟨by omega, by omega, by rw [txt_len]; omega, ⟨w0 ++ run 98 66 k, u', ?_, by rw [List.append_assoc, ← eu, e], hat', by omega, hv⟩⟩⟩
  rw [mul_b, mul_B, txt_app, txt_app, run, List.append_assoc]
theorem EInv.a1 (I : EInv v most n p q r s w) (h0 : r ≠ 0) (h1 : ab r < ab p) (h2 : 0 < r) : ∃ k, (p + ab r).fdiv (2 * ab r) * 1 = k ∧ EA v most n p q r s w k := by
  have h := I.a h0 h1
  rwa [show sg r = 1 from if_pos h2] at h
theorem EInv.a2 (I : EInv v most n p q r s w) (h0 : r ≠ 0) (h1 : ab r < ab p) (h2 : ¬ 0 < r) : ∃ k, (p + ab r).fdiv (2 * ab r) * -1 = k ∧ EA v most n p q r s w k := by
  have h := I.a h0 h1
  rwa [show sg r = -1 from if_neg h2] at h
theorem EInv.b1 (I : EInv v most n p q r s w) (h0 : r ≠ 0) (h1 : ¬ ab r < ab p) (h2 : 0 < p) : ∃ k, (r + ab p).fdiv (2 * ab p) * 1 = k ∧ EB v most n p q r s w k := by
  have h := I.b h0 h1
  rwa [show sg p = 1 from if_pos h2] at h
theorem EInv.b2 (I : EInv v most n p q r s w) (h0 : r ≠ 0) (h1 : ¬ ab r < ab p) (h2 : ¬ 0 < p) : ∃ k, (r + ab p).fdiv (2 * ab p) * -1 = k ∧ EB v most n p q r s w k := by
  have h := I.b h0 h1
  rwa [show sg p = -1 from if_neg h2] at h
theorem log_small' {x : Int} {n : Nat} (hn : n + 1 ≤ 9000) (h : Builtin.Int.intBits x ≤ n) (h0 : x ≠ 0) : 2 * ab x ≠ 0 ∧ (2 * ab x).natAbs.log2 < 9000 := by
  have hx : x.natAbs < 2 ^ n := intBits_le_iff.mp h
  have e : (2 * ab x).natAbs = 2 * x.natAbs := by unfold ab; split <;> omega
  have h1 : 2 * ab x ≠ 0 := by unfold ab; split <;> omega
  refine ⟨h1, (Nat.log2_lt (by omega)).mpr ?_⟩
  rw [e]
  have e2 : (2 : Nat) ^ (n + 1) = 2 ^ n * 2 := Nat.pow_succ 2 n
  refine Nat.lt_of_lt_of_le (m := 2 ^ (n + 1)) (by rw [e2]; generalize (2 : Nat) ^ n = z at hx; omega) ?_
  exact Nat.pow_le_pow_right (Nat.succ_pos 1) hn
theorem log_small {x : Int} (h : Builtin.Int.intBits x ≤ 1000) (h0 : x ≠ 0) : 2 * ab x ≠ 0 ∧ (2 * ab x).natAbs.log2 < 9000 := log_small' (by decide) h h0
theorem EInv.divA (I : EInv v most n p q r s w) (h0 : r ≠ 0) : 2 * ab r ≠ 0 ∧ (2 * ab r).natAbs.log2 < 9000 := by
  obtain ⟨w0, u, rfl, e, hat, hl, hv⟩ := I.out
  have l2 := len_le' e
  exact log_small (hat.bits (by omega)).2.2.1 h0
theorem EInv.divB (I : EInv v most n p q r s w) (h0 : r ≠ 0) (h1 : ¬ ab r < ab p) : 2 * ab p ≠ 0 ∧ (2 * ab p).natAbs.log2 < 9000 := by
  obtain ⟨w0, u, rfl, e, hat, hl, hv⟩ := I.out
  have l2 := len_le' e
  obtain ⟨k, u', hp, -⟩ := eu_b hat h0 h1
  exact log_small (hat.bits (by omega)).1 hp
/-- what stands at the end -/
structure EF (v : List Nat) (q : Int) (w : Str) : Prop where
  h1 : -100 ≤ q.fdiv 2
  h2 : q.fdiv 2 ≤ 100
  h3 : -100 ≤ (-q).fdiv 2
  h4 : (-q).fdiv 2 ≤ 100
  h5 : w.length ≤ 100
  h6 : w ++ Txt.mul (Str.ofString "a") (q.fdiv 2) ++ Txt.mul (Str.ofString "A") ((-q).fdiv 2) = txt v
theorem EInv.fin (I : EInv v most n p q r s w) (h0 : r = 0) : EF v q w := by
  subst h0
  obtain ⟨w0, u, rfl, e, hat, hl, hv⟩ := I.out
  obtain ⟨k, rfl, eu, hk⟩ := eu_stop hat
  have l1 := len_le e
  have l2 := len_le' e
  have e1 : (2 * k).fdiv 2 = k := by rw [Int.fdiv_eq_ediv_of_nonneg _ (by decide)]; omega
  have e2 : (-(2 * k)).fdiv 2 = -k := by rw [Int.fdiv_eq_ediv_of_nonneg _ (by decide)]; omega
  refine ⟨by omega, by omega, by omega, by omega, by rw [txt_len]; omega, ?_⟩
  rw [e1, e2, mul_a, mul_A, txt_app, txt_app, List.append_assoc]
  show txt (w0 ++ run 97 65 k) = txt v
  rw [← eu, e]
theorem EInv.fin2 (I : EInv v most n p q r s w) (hn : most ≤ n) : EF v q w := by
  obtain ⟨w0, u, rfl, e, hat, hl, hv⟩ := id I.out
  have : u = [] := List.length_eq_zero_iff.mp (by omega)
  subst this
  refine I.fin ?_
  have := hat.mu
  exact ((congrArg (fun x : M4 => x.2.2.1) this).symm : r = 0)
end
end Mine

end
section
open PySem PySem.W PySem.Calls PyProof.Rows
namespace Mine
def upd (f : Nat → M4) (c : Nat) (m : M4) : Nat → M4 := fun x => if x = c then m else f x
def tstep (f : Nat → M4) (one p1 p2 back u1 u2 : Nat) : Nat → M4 := upd (upd f back (mmul (f u1) (f u2))) one (mmul (f p1) (f p2))
def SmallM (m : M4) : Prop := Small m.1 ∧ Small m.2.1 ∧ Small m.2.2.1 ∧ Small m.2.2.2
abbrev tupM (m : M4) (t0 t1 t2 t3 n : Nat) : Obj := tup4 m.1 m.2.1 m.2.2.1 m.2.2.2 t0 t1 t2 t3 n

theorem valueAt_stored {kvs : List (Str × Value)} {k k' : Str} {v : Value} : valueAt (stored kvs k v) k' = if k' = k then some v else valueAt kvs k' := by
  unfold valueAt stored
  by_cases h : (kvs.any fun kv => decide (kv.1 = k)) = true
  · rw [if_pos h]
    induction kvs with
    | nil => simp at h
    | cons a r ih =>
      obtain ⟨ak, av⟩ := a
      by_cases ha : ak = k
      · subst ha
        by_cases hk : k' = ak
        · subst hk; simp
        · have hk2 : ¬ ak = k' := fun e => hk e.symm
          simp only [List.map_cons, if_true, List.find?_cons, hk2, decide_false, hk, if_false]
          -- the rest holds no more than before
          clear ih h
          induction r with
          | nil => rfl
          | cons b r ih2 =>
            obtain ⟨bk, bv⟩ := b
            by_cases hb : bk = ak
            · subst hb
              simp only [List.map_cons, if_true, List.find?_cons, hk2, decide_false]
              exact ih2
            · by_cases hb2 : bk = k'
              · subst hb2; simp [hb]
              · simp only [List.map_cons, hb, if_false, List.find?_cons, hb2, decide_false]
                exact ih2
      · have h' : (r.any fun kv => decide (kv.1 = k)) = true := by simpa [ha] using h
        have ih' := ih h'
        by_cases hk : k' = ak
        · subst hk; simp [ha]
        · have hk2 : ¬ ak = k' := fun e => hk e.symm
          simp only [List.map_cons, ha, if_false, List.find?_cons, hk2, decide_false]
          exact ih'
  · rw [if_neg h, List.find?_append]
    have h2 : ∀ kv ∈ kvs, kv.1 ≠ k := fun kv hm e => h (List.any_eq_true.mpr ⟨kv, hm, by simp [e]⟩)
    by_cases hk : k' = k
    · subst hk
      have : kvs.find? (fun kv => decide (kv.1 = k')) = none := List.find?_eq_none.mpr fun kv hm => by simpa using h2 kv hm
      rw [this]; simp
    · have hk2 : ¬ k = k' := fun e => hk e.symm
      simp [hk, hk2]
theorem stored_len {kvs : List (Str × Value)} {k : Str} {v : Value} (h : (valueAt kvs k).isSome = true) : (stored kvs k v).length = kvs.length := by
  unfold stored
  have : (kvs.any fun kv => decide (kv.1 = k)) = true := by
    unfold valueAt at h
    rw [Option.isSome_map] at h
    obtain ⟨a, ha⟩ := Option.isSome_iff_exists.mp h
    exact List.any_eq_true.mpr ⟨a, List.mem_of_find?_eq_some ha, List.find?_some (p := fun kv : Str × Value => decide (kv.1 = k)) ha⟩
  rw [if_pos this, List.length_map]

/-- the table stands in the ledger -/
structure Tab (rest : Led) (kvs : List (Str × Value)) (f : Nat → M4) : Prop where
  len : kvs.length ≤ 4
  at_ : ∀ c, Lw c → ∃ (A : Addr) (t0 t1 t2 t3 : Nat), valueAt kvs (txt [c]) = some (.ref A) ∧ (A, tupM (f c) t0 t1 t2 t3 0) ∈ rest
theorem Tab.set {rest rest' : Led} {kvs : List (Str × Value)} {f : Nat → M4} {c : Nat} {m : M4} {A : Addr} {t0 t1 t2 t3 : Nat} (T : Tab rest kvs f) (hc : Lw c) (hs : ∀ p ∈ rest, p ∈ rest') (hm : (A, tupM m t0 t1 t2 t3 0) ∈ rest') :
    Tab rest' (stored kvs (txt [c]) (.ref A)) (upd f c m) := by
  refine ⟨?_, fun x hx => ?_⟩
  · obtain ⟨A', a0, a1, a2, a3, hv, -⟩ := T.at_ c hc
    rw [stored_len (by rw [hv]; rfl)]
    exact T.len
  · rw [valueAt_stored]
    by_cases h : x = c
    · subst h
      refine ⟨A, t0, t1, t2, t3, if_pos rfl, ?_⟩
      rw [show upd f x m x = m from if_pos rfl]
      exact hm
    · obtain ⟨A', a0, a1, a2, a3, hv, hm'⟩ := T.at_ x hx
      have hne : ¬ txt [x] = txt [c] := fun e => h (by simpa [txt] using e)
      refine ⟨A', a0, a1, a2, a3, by rw [if_neg hne]; exact hv, ?_⟩
      rw [show upd f c m x = f x from if_neg h]
      exact hs _ hm'
theorem Tab.mono {rest rest' : Led} {kvs : List (Str × Value)} {f : Nat → M4} (T : Tab rest kvs f) (hs : ∀ p ∈ rest, p ∈ rest') : Tab rest' kvs f :=
  ⟨T.len, fun c hc => let ⟨A, t0, t1, t2, t3, a, b⟩ := T.at_ c hc; ⟨A, t0, t1, t2, t3, a, hs _ b⟩⟩
section
variable {prog : Program} {w : World} {A : Around} {E : Value → Shared → Prop} {s : Shared} {L d : Addr} {h₀ : Heap} {m : Str → Option Value} {all rest : Led} {o : Obj} {kvs : List (Str × Value)} {f : Nat → M4} {c c' : Nat} {t : Tok}
theorem tab_get {value slice : Expr} {Q : Value → Shared → Prop} (N : News h₀ L s.heap all) (hp : (d, o) ∈ all) (hd : o.IsDictOf (PySem.strKind prog w) kvs) (T : Tab rest kvs f) (hc : Lw c)
    (h : ∀ B t0 t1 t2 t3, (B, tupM (f c) t0 t1 t2 t3 0) ∈ rest → Q (.ref B) { s with toks := s.toks + 1 })
    (hs : subscripted slice false (.ref d) (.str (txt [c]) t) = operate [.ref d, .str (txt [c]) t] (getItem (.ref d) (.str (txt [c]) t)) := by with_unfolding_all rfl) :
    wpAny (model prog w) A (subscriptTail value slice (.ref d) (.str (txt [c]) t)) Q E s := by
  obtain ⟨B, t0, t1, t2, t3, hv, hm⟩ := T.at_ c hc
  exact kdt_tail N hp hd (kdt_getItem N hp hd (strKind_is _ _ _ _) hv (h B t0 t1 t2 t3 hm)) hs
theorem item_two0 : Txt.item (txt [c, c']) 0 = txt [c] := by
  unfold Txt.item txt
  rfl
theorem item_two1 : Txt.item (txt [c, c']) 1 = txt [c'] := by
  unfold Txt.item txt
  rfl
theorem str_it0 {value slice : Expr} {u : Tok} {Q : Value → Shared → Prop} (h : Q (.str (txt [c]) s.toks) { s with toks := s.toks + 1 })
    (hs : subscripted slice false (.str (txt [c, c']) t) (.int 0 u) = operate [.str (txt [c, c']) t, .int 0 u] (getItem (.str (txt [c, c']) t) (.int 0 u)) := by with_unfolding_all rfl)
    (ht : ∀ r, letTemporaryGo value (.str (txt [c, c']) t) r = pure () := by intro _; with_unfolding_all rfl) :
    wpAny (model prog w) A (subscriptTail value slice (.str (txt [c, c']) t) (.int 0 u)) Q E s :=
  KXi.item (n := 2) (txt_len _) (by decide) (by decide) (by decide) (fun _ => by rw [item_two0]; exact h) hs ht
theorem str_it1 {value slice : Expr} {u : Tok} {Q : Value → Shared → Prop} (h : Q (.str (txt [c']) s.toks) { s with toks := s.toks + 1 })
    (hs : subscripted slice false (.str (txt [c, c']) t) (.int 1 u) = operate [.str (txt [c, c']) t, .int 1 u] (getItem (.str (txt [c, c']) t) (.int 1 u)) := by with_unfolding_all rfl)
    (ht : ∀ r, letTemporaryGo value (.str (txt [c, c']) t) r = pure () := by intro _; with_unfolding_all rfl) :
    wpAny (model prog w) A (subscriptTail value slice (.str (txt [c, c']) t) (.int 1 u)) Q E s :=
  KXi.item (n := 2) (txt_len _) (by decide) (by decide) (by decide) (fun _ => by rw [item_two1]; exact h) hs ht
end
theorem table_set {prog : Program} {w : World} {g h : Heap} {L dv Dr De Dc Db Da : Addr} {ov RL : Obj} {news : Led} {k0 k1 k2 k3 k4 k5 k6 k7 k8 k9 k10 k11 k12 k13 k14 k15 : Nat} {j0 j1 j2 j3 : Tok}
    (NR : News g L h ((Dr, RL) :: (De, tup4 1 0 (-2) 1 k0 k1 k2 k3 0) :: (Dc, tup4 1 0 2 1 k4 k5 k6 k7 0) :: (Db, tup4 1 (-2) 0 1 k8 k9 k10 k11 0) :: (Da, tup4 1 2 0 1 k12 k13 k14 k15 0) :: (dv, ov) :: news))
    (hd : ov.IsDictOf (PySem.strKind prog w) (strPairs [(.str (Str.ofString "a") j0, .ref Da), (.str (Str.ofString "A") j1, .ref Db), (.str (Str.ofString "b") j2, .ref Dc), (.str (Str.ofString "B") j3, .ref De)]))
    (la : dv < Da) (lb : dv < Db) (lc : dv < Dc) (le : dv < De) (lr : dv < Dr) (ln : ∀ p ∈ news, p.1 < dv) :
    ∃ (rest0 : Led) (kvs0 : List (Str × Value)), Tab rest0 kvs0 letM ∧ ov.IsDictOf (PySem.strKind prog w) kvs0 ∧ News g L h ((dv, ov) :: (Dr, RL) :: (rest0 ++ news)) ∧ (∀ p ∈ (Dr, RL) :: (rest0 ++ news), p.1 ≠ dv) ∧ (∀ q ∈ rest0, dv < q.1) := by
  refine ⟨[(De, tup4 1 0 (-2) 1 k0 k1 k2 k3 0), (Dc, tup4 1 0 2 1 k4 k5 k6 k7 0), (Db, tup4 1 (-2) 0 1 k8 k9 k10 k11 0), (Da, tup4 1 2 0 1 k12 k13 k14 k15 0)], _, ⟨Nat.le_of_ble_eq_true rfl, ?_⟩, hd, cb_drop NR ?_, ?_, ?_⟩
  · rintro c (rfl | rfl | rfl | rfl)
    · exact ⟨Da, _, _, _, _, rfl, .tail _ (.tail _ (.tail _ (.head _)))⟩
    · exact ⟨Db, _, _, _, _, rfl, .tail _ (.tail _ (.head _))⟩
    · exact ⟨Dc, _, _, _, _, rfl, .tail _ (.head _)⟩
    · exact ⟨De, _, _, _, _, rfl, .head _⟩
  · simp only [List.cons_append, List.nil_append, List.forall_mem_cons]
    exact ⟨.tail _ (.tail _ (.tail _ (.tail _ (.tail _ (.head _))))), .head _, .tail _ (.head _), .tail _ (.tail _ (.head _)), .tail _ (.tail _ (.tail _ (.head _))), .tail _ (.tail _ (.tail _ (.tail _ (.head _)))), fun p hp => .tail _ (.tail _ (.tail _ (.tail _ (.tail _ (.tail _ hp)))))⟩
  · simp only [List.cons_append, List.nil_append, List.forall_mem_cons]
    exact ⟨Nat.ne_of_gt lr, Nat.ne_of_gt le, Nat.ne_of_gt lc, Nat.ne_of_gt lb, Nat.ne_of_gt la, fun p hp => Nat.ne_of_lt (ln p hp)⟩
  · simp only [List.forall_mem_cons]
    exact ⟨le, lc, lb, la, fun p hp => nomatch hp⟩
/-- after a turn over the table -/
theorem turn_next {prog : Program} {w : World} {g h : Heap} {L dv Dr T1 T2 I : Addr} {ov RL oI : Obj} {news rest : Led} {f : Nat → M4} {kvs : List (Str × Value)} {one p1 p2 back u1 u2 : Nat} {k0 k1 k2 k3 k4 k5 k6 k7 : Nat}
    (N : News g L h ((T2, tupM (mmul (f u1) (f u2)) k0 k1 k2 k3 0) :: (T1, tupM (mmul (f p1) (f p2)) k4 k5 k6 k7 0) :: (dv, ov) :: (I, oI) :: (Dr, RL) :: (rest ++ news)))
    (T : Tab rest kvs f) (hd : ov.IsDictOf (PySem.strKind prog w) (stored (stored kvs (txt [back]) (.ref T2)) (txt [one]) (.ref T1))) (hb : Lw back) (ho : Lw one)
    (hne : ∀ p ∈ (Dr, RL) :: (rest ++ news), p.1 ≠ dv) (hgt : ∀ q ∈ rest, dv < q.1) (l1 : I < T1 ∧ dv < T1) (l2 : I < T2 ∧ dv < T2) (hdI : dv ≠ I) (lI : ∀ p ∈ (Dr, RL) :: (rest ++ news), p.1 ≠ I) :
    ∃ (rest' : Led) (kvs' : List (Str × Value)), Tab rest' kvs' (tstep f one p1 p2 back u1 u2) ∧ ov.IsDictOf (PySem.strKind prog w) kvs' ∧ News g L h ([(I, oI)] ++ ((dv, ov) :: (Dr, RL) :: (rest' ++ news))) ∧ (∀ p ∈ (Dr, RL) :: (rest' ++ news), p.1 ≠ dv) ∧ (∀ q ∈ rest', dv < q.1) ∧ (∀ p ∈ (dv, ov) :: (Dr, RL) :: (rest' ++ news), p.1 ≠ I) := by
  refine ⟨(T2, tupM (mmul (f u1) (f u2)) k0 k1 k2 k3 0) :: (T1, tupM (mmul (f p1) (f p2)) k4 k5 k6 k7 0) :: rest, _, (Tab.set (rest' := (T2, tupM (mmul (f u1) (f u2)) k0 k1 k2 k3 0) :: rest) T hb (fun p hp => .tail _ hp) (.head _)).set ho ?_ (.tail _ (.head _)), hd, cb_drop N ?_, ?_, ?_, ?_⟩
  · intro p hp
    rcases List.mem_cons.mp hp with rfl | hp
    · exact .head _
    · exact .tail _ (.tail _ hp)
  · simp only [List.cons_append, List.nil_append, List.forall_mem_cons]
    exact ⟨.tail _ (.tail _ (.tail _ (.head _))), .tail _ (.tail _ (.head _)), .tail _ (.tail _ (.tail _ (.tail _ (.head _)))), .head _, .tail _ (.head _), fun p hp => .tail _ (.tail _ (.tail _ (.tail _ (.tail _ hp))))⟩
  · simp only [List.cons_append, List.forall_mem_cons] at hne ⊢
    exact ⟨hne.1, Nat.ne_of_gt l2.2, Nat.ne_of_gt l1.2, hne.2⟩
  · simp only [List.forall_mem_cons]
    exact ⟨l2.2, l1.2, hgt⟩
  · simp only [List.cons_append, List.forall_mem_cons] at lI ⊢
    exact ⟨hdI, lI.1, Nat.ne_of_gt l2.1, Nat.ne_of_gt l1.1, lI.2⟩
structure SmallF (f : Nat → M4) : Prop where
  h : ∀ {c}, Lw c → SmallM (f c)
theorem smallF_letM : SmallF letM := ⟨fun {c} hc => by rcases hc with rfl | rfl | rfl | rfl <;> exact ⟨by decide +kernel, by decide +kernel, by decide +kernel, by decide +kernel⟩⟩
theorem news_drop {h₀ h : Heap} {L : Addr} {l : Led} (n : Nat) (N : News h₀ L h l) : News h₀ L h (l.drop n) := fun p hp => N p (List.mem_of_mem_drop hp)
structure Stopped (P : Prop) : Prop where
  out : P
structure Keep (P : Prop) : Prop where
  out : P
structure Brk (n : Nat) : Prop where
end Mine

end
section
open PySem PySem.W PySem.Calls PyProof.Rows
namespace Mine

local macro_rules | `(tactic| bits_by_make) => `(tactic| with_reducible assumption)
set_option maxRecDepth 100000 in
set_option maxHeartbeats 8000000 in
theorem by_c (w : World) (mean : ExcName → Option Value) (mg mb : Str → Option Value) (news : Led) (l r : Addr) (p q x y t u v z : Int) (k0 k1 k2 k3 k4 k5 k6 k7 n n' : Nat)
   (hl : (l, tup4 p q x y k0 k1 k2 k3 n) ∈ news) (hr : (r, tup4 t u v z k4 k5 k6 k7 n') ∈ news)
   (hp : Small p) (hq : Small q) (hx : Small x) (hy : Small y) (ht : Small t) (hu : Small u) (hv : Small v) (hz : Small z) :
   Con w mean mg mb 33 [.ref l, .ref r] news 1 (fun h₀ L m Q => ∀ D h' tk' t0 t1 t2 t3, (∀ p ∈ news, p.1 < D) → Fr h₀ L h' m → News h₀ L h' ((D, tup4 (p * t + q * v) (p * u + q * z) (x * t + y * v) (x * u + y * z) t0 t1 t2 t3 0) :: news) → Q (.ref D) h' tk') := by
  w_top off
  unfold Con
  intro dp un gd cn cs a ccd cl outer A₀ base h₀ L m s Q E B F X N T hk hdp hun hret
  refine wpAny_call ?_
  k_dflt cell_enter
  k_steps
  all_goals exact hret _ _ _ _ _ _ _ (by assumption) (by k_asm) (by k_asm)
theorem by_cM (w : World) (mean : ExcName → Option Value) (mg mb : Str → Option Value) (news : Led) (l r : Addr) (x y : M4) (k0 k1 k2 k3 k4 k5 k6 k7 n n' : Nat)
   (hl : (l, tupM x k0 k1 k2 k3 n) ∈ news) (hr : (r, tupM y k4 k5 k6 k7 n') ∈ news) (hx : SmallM x) (hy : SmallM y) :
   Con w mean mg mb 33 [.ref l, .ref r] news 1 (fun h₀ L m Q => ∀ D h' tk' t0 t1 t2 t3, (∀ p ∈ news, p.1 < D) → Fr h₀ L h' m → News h₀ L h' ((D, tupM (mmul x y) t0 t1 t2 t3 0) :: news) → Q (.ref D) h' tk') :=
  by_c w mean mg mb news l r _ _ _ _ _ _ _ _ k0 k1 k2 k3 k4 k5 k6 k7 n n' hl hr hx.1 hx.2.1 hx.2.2.1 hx.2.2.2 hy.1 hy.2.1 hy.2.2.1 hy.2.2.2
end Mine

end
section
open PySem PySem.W PySem.Calls PyProof.Rows
namespace Mine
theorem fr_one {h₀ h : Heap} {L : Addr} {m : Str → Option Value} {k1 : Str} {v1 : Value} (F : Fr h₀ L h m) (h1 : m k1 = some v1) : ∃ v : Str → Option Value, Fr h₀ L h (fun z => if z = k1 then some v1 else v z) := ⟨m, by
  have e : (fun z => if z = k1 then some v1 else m z) = m := by
    funext z
    by_cases a : z = k1
    · rw [if_pos a, a, h1]
    · rw [if_neg a]
  rw [e]
  exact F⟩
local macro_rules | `(tactic| mul_fits) => `(tactic| first | exact IntMulOk.of_left (intBits_le_64 (by omega) (by omega)) | exact IntMulOk.of_right (intBits_le_64 (by omega) (by omega)))
abbrev mvO (m : Mv) (t0 t1 t2 t3 : Tok) : Obj := { cls := .type "list", data := .seq #[.str (txt [m.one]) t0, .str (txt [m.p1, m.p2]) t1, .str (txt [m.back]) t2, .str (txt [m.u1, m.u2]) t3] }

theorem cases8 {k : Int} (h0 : 0 ≤ k) (h8 : k < 8) : k = 0 ∨ k = 1 ∨ k = 2 ∨ k = 3 ∨ k = 4 ∨ k = 5 ∨ k = 6 ∨ k = 7 := by omega
theorem mv_e0 {k : Int} (h0 : 0 ≤ k) (h8 : k < 8) : Txt.item (Str.ofString "aAbB") (k.fmod 2 * 2) = txt [(mvOf k.toNat).one] := by
  rcases cases8 h0 h8 with rfl | rfl | rfl | rfl | rfl | rfl | rfl | rfl <;> decide +kernel
theorem mv_e2 {k : Int} (h0 : 0 ≤ k) (h8 : k < 8) : Txt.item (Str.ofString "AaBb") (k.fmod 2 * 2) = txt [(mvOf k.toNat).back] := by
  rcases cases8 h0 h8 with rfl | rfl | rfl | rfl | rfl | rfl | rfl | rfl <;> decide +kernel
theorem mv_e1a {k : Int} (h0 : 0 ≤ k) (h8 : k < 8) (hc : (k.fdiv 4).fmod 2 = 0) : Txt.join (Str.ofString "") [Txt.item (Str.ofString "aAbB") (k.fmod 2 * 2), Txt.item (Str.ofString "aAbB") (2 - k.fmod 2 * 2 + (k.fdiv 2).fmod 2)] = txt [(mvOf k.toNat).p1, (mvOf k.toNat).p2] := by
  rcases cases8 h0 h8 with rfl | rfl | rfl | rfl | rfl | rfl | rfl | rfl <;> first | exact absurd hc (by decide) | decide +kernel
theorem mv_e1b {k : Int} (h0 : 0 ≤ k) (h8 : k < 8) (hc : (k.fdiv 4).fmod 2 ≠ 0) : Txt.join (Str.ofString "") [Txt.item (Str.ofString "aAbB") (2 - k.fmod 2 * 2 + (k.fdiv 2).fmod 2), Txt.item (Str.ofString "aAbB") (k.fmod 2 * 2)] = txt [(mvOf k.toNat).p1, (mvOf k.toNat).p2] := by
  rcases cases8 h0 h8 with rfl | rfl | rfl | rfl | rfl | rfl | rfl | rfl <;> first | exact absurd rfl hc | decide +kernel
theorem mv_e3a {k : Int} (h0 : 0 ≤ k) (h8 : k < 8) (hc : (k.fdiv 4).fmod 2 = 0) : Txt.join (Str.ofString "") [Txt.item (Str.ofString "AaBb") (2 - k.fmod 2 * 2 + (k.fdiv 2).fmod 2), Txt.item (Str.ofString "AaBb") (k.fmod 2 * 2)] = txt [(mvOf k.toNat).u1, (mvOf k.toNat).u2] := by
  rcases cases8 h0 h8 with rfl | rfl | rfl | rfl | rfl | rfl | rfl | rfl <;> first | exact absurd hc (by decide) | decide +kernel
theorem mv_e3b {k : Int} (h0 : 0 ≤ k) (h8 : k < 8) (hc : (k.fdiv 4).fmod 2 ≠ 0) : Txt.join (Str.ofString "") [Txt.item (Str.ofString "AaBb") (k.fmod 2 * 2), Txt.item (Str.ofString "AaBb") (2 - k.fmod 2 * 2 + (k.fdiv 2).fmod 2)] = txt [(mvOf k.toNat).u1, (mvOf k.toNat).u2] := by
  rcases cases8 h0 h8 with rfl | rfl | rfl | rfl | rfl | rfl | rfl | rfl <;> first | exact absurd rfl hc | decide +kernel
theorem allLt_at {d : Nat} : ∀ {l : Led}, AllLt d l → ∀ p ∈ l, p.1 < d
  | [], _, _, h => nomatch h
  | _ :: _, x, p, h => by
    rcases List.mem_cons.mp h with rfl | h
    · exact x.1
    · exact allLt_at x.2 p h
local macro_rules | `(tactic| walk_at "CompEnd") => `(tactic| (refine LCg.CompEnd.intro (by assumption) (by assumption) _ (fun _ h => h) (by assumption) (by lcg_src) ?_))
set_option maxRecDepth 100000 in
set_option maxHeartbeats 900000 in
theorem move_c (w : World) (mean : ExcName → Option Value) (mg mb : Str → Option Value) (news : Led) (tk : Tok) (k : Int) (h0 : 0 ≤ k) (h8 : k < 8) :
   Con w mean mg mb 26 [.int k tk] news 1 (fun h₀ L m Q => ∀ D h' tk' t0 t1 t2 t3, (∀ p ∈ news, p.1 < D) → Fr h₀ L h' m → News h₀ L h' ((D, mvO (mvOf k.toNat) t0 t1 t2 t3) :: news) → Q (.ref D) h' tk') := by
  have key : ∀ (h₀ : Heap) (L : Addr) (m : Str → Option Value) (Q : Value → Heap → Nat → Prop) (mv : Mv), (∀ D h' tk' t0 t1 t2 t3, (∀ p ∈ news, p.1 < D) → Fr h₀ L h' m → News h₀ L h' ((D, mvO mv t0 t1 t2 t3) :: news) → Q (.ref D) h' tk') →
     ∀ (D : Addr) (h' : Heap) (tk' t0 t1 t2 t3 : Nat) (s0 s1 s2 s3 : Str) (led : Led), News h₀ L h' led → (D, ({ cls := .type "list", data := .seq #[.str s0 t0, .str s1 t1, .str s2 t2, .str s3 t3] } : Obj)) ∈ led → (∀ p ∈ news, p ∈ led) → Fr h₀ L h' m → s0 = txt [mv.one] → s1 = txt [mv.p1, mv.p2] → s2 = txt [mv.back] → s3 = txt [mv.u1, mv.u2] → (∀ p ∈ news, p.1 < D) → Q (.ref D) h' tk' := by
    intro h₀ L m Q mv H D h' tk' t0 t1 t2 t3 s0 s1 s2 s3 led c d e b e0 e1 e2 e3 a
    subst e0 e1 e2 e3
    exact H _ _ _ _ _ _ _ a b (cb_drop c (List.forall_mem_cons.mpr ⟨d, e⟩))
  have g1 := Int.fmod_nonneg_of_pos k (show (0 : Int) < 2 by decide)
  have g2 := Int.fmod_lt_of_pos k (show (0 : Int) < 2 by decide)
  have g3 := Int.fmod_nonneg_of_pos (k.fdiv 2) (show (0 : Int) < 2 by decide)
  have g4 := Int.fmod_lt_of_pos (k.fdiv 2) (show (0 : Int) < 2 by decide)
  have g5 := Int.fmod_nonneg_of_pos (k.fdiv 4) (show (0 : Int) < 2 by decide)
  have g6 := Int.fmod_lt_of_pos (k.fdiv 4) (show (0 : Int) < 2 by decide)
  w_top off
  unfold Con
  intro dp un gd cn cs a ccd cl outer A₀ base h₀ L m s Q E B F X N T hk hdp hun hret
  have hret' := key h₀ L m (fun v h t => Q v { s with heap := h, toks := t }) _ hret
  clear hret key
  refine wpAny_call ?_
  k_dflt cell_enter
  with_reducible rename Fr _ _ _ _ => FF
  obtain ⟨vv, FF9⟩ := fr_one (k1 := Str.ofString "kind") FF rfl
  clear FF
  k_steps
  all_goals
    with_reducible rename _ < _ ∧ _ < _ ∧ _ < _ ∧ _ < _ ∧ AllLt _ _ => lz
    with_reducible rename News _ _ _ _ => NN
    refine hret' _ _ _ _ _ _ _ _ _ _ _ _ NN (.head _) (fun p hp => .tail _ (.tail _ (.tail _ (.tail _ (.tail _ hp))))) ?f ?e0 ?e1 ?e2 ?e3 (allLt_at lz.2.2.2.2)
    case f => k_asm
    case e0 => exact mv_e0 h0 h8
    case e2 => exact mv_e2 h0 h8
    case e1 => first | (with_reducible exact mv_e1a h0 h8 (by assumption)) | (with_reducible exact mv_e1b h0 h8 (by assumption))
    case e3 => first | (with_reducible exact mv_e3a h0 h8 (by assumption)) | (with_reducible exact mv_e3b h0 h8 (by assumption))
end Mine

end
section
open PySem PySem.W PySem.Calls PyProof.Rows
namespace Mine

abbrev rparams : Arguments := ⟨[], [⟨Str.ofString "text", none, ⟨2, 12, 2, 16⟩⟩], some ⟨Str.ofString "pairs", none, ⟨2, 19, 2, 24⟩⟩, [], [], none, []⟩
theorem peek_rest (K : Frag) (S : Setting) (body : List Stmt) (sc : Scope) (doc pm cdv : Value) (x : Value) (vs : List Value) (h : vs.length ≤ 1000) :
    peek1 K S (bindArgs (fnOf (Str.ofString "replace") (Str.ofString "replace") rparams body sc .none .none doc pm none cdv .none) ⟨x :: vs, []⟩) = some (({ cls := .type "tuple", data := .seq vs.toArray } : Obj), fun D => some [(Str.ofString "text", x), (Str.ofString "pairs", Value.ref D)]) := by
  have hz : ¬ (sizeLine < vs.length) := by rw [sizeLine_eq]; omega
  unfold bindArgs
  simp [newTuple, newObj, hz]
  rfl
abbrev tupO (l : List Value) : Obj := { cls := .type "tuple", data := .seq l.toArray }

/-- what replace yields -/
def repl : Str → List Str → Str
  | x, p :: z :: r => repl (Txt.join z (Txt.split x p)) r
  | x, _ => x
structure StepOk (x p z : Str) : Prop where
  h1 : (p.length == 0) = false
  h2 : x.length + 2 ≤ sizeLine
  h3 : JoinOk z (Txt.split x p) = true
/-- the sizes allow it -/
def ROk : Str → List Str → Prop
  | x, p :: z :: r => StepOk x p z ∧ ROk (Txt.join z (Txt.split x p)) r
  | _, [] => True
  | _, _ => False


theorem seq0 (n : Nat) : seqIndex? 0 (n + 1 + 1) = some 0 := by
  unfold seqIndex?
  have : (0 : Int) < ((n + 1 + 1 : Nat) : Int) := by omega
  simp
  first | done | omega
theorem seq1 (n : Nat) : seqIndex? 1 (n + 1 + 1) = some 1 := by
  unfold seqIndex?
  have : (1 : Int) < ((n + 1 + 1 : Nat) : Int) := by omega
  simp
  first | done | omega
section
variable {prog : Program} {w : World} {A : Around} {E : Value → Shared → Prop} {s : Shared} {t L : Addr} {h₀ : Heap} {m : Str → Option Value} {news : List (Addr × Obj)}
theorem tru0 {Q : Bool → Shared → Prop} (N : News h₀ L s.heap news) (hm : (t, tupO []) ∈ news) (h : Q false { s with toks := s.toks + 1 + 1 }) : wpAny (model prog w) A (truthy (.ref t)) Q E s := ktl_truthyK N hm (by simp) h
theorem tru1 {v : Value} {vs : List Value} {Q : Bool → Shared → Prop} (N : News h₀ L s.heap news) (hm : (t, tupO (v :: vs)) ∈ news) (hz : (v :: vs).length ≤ 1000) (h : Q true { s with toks := s.toks + 1 + 1 }) : wpAny (model prog w) A (truthy (.ref t)) Q E s := ktl_truthyK N hm hz h
theorem it0 {value slice : Expr} {v v2 : Value} {vs : List Value} {u : Tok} {Q : Value → Shared → Prop} (N : News h₀ L s.heap news) (hm : (t, tupO (v :: v2 :: vs)) ∈ news) (h : Q v s)
    (hs : subscripted slice false (.ref t) (.int 0 u) = operate [.ref t, .int 0 u] (getItem (.ref t) (.int 0 u)) := by with_unfolding_all rfl) :
    wpAny (model prog w) A (subscriptTail value slice (.ref t) (.int 0 u)) Q E s := item_tupleT (News.isTup N hm) (by decide) (by decide) (seq0 _) rfl h hs
theorem it1 {value slice : Expr} {v v2 : Value} {vs : List Value} {u : Tok} {Q : Value → Shared → Prop} (N : News h₀ L s.heap news) (hm : (t, tupO (v :: v2 :: vs)) ∈ news) (h : Q v2 s)
    (hs : subscripted slice false (.ref t) (.int 1 u) = operate [.ref t, .int 1 u] (getItem (.ref t) (.int 1 u)) := by with_unfolding_all rfl) :
    wpAny (model prog w) A (subscriptTail value slice (.ref t) (.int 1 u)) Q E s := item_tupleT (News.isTup N hm) (by decide) (by decide) (seq1 _) rfl h hs
theorem sl2 {value slice : Expr} {v v2 : Value} {vs : List Value} {u : Tok} {Q : Value → Shared → Prop} (F : Fr h₀ L s.heap m) (N : News h₀ L s.heap news) (hm : (t, tupO (v :: v2 :: vs)) ∈ news) (hz : vs.length ≤ 1000)
    (h : ∀ D h', Fr h₀ L h' m → News h₀ L h' ((D, tupO vs) :: news) → (∀ p ∈ news, p.1 < D) → Q (.ref D) { s with heap := h' })
    (hs : subscripted slice false (.ref t) (.ref s.heap.objs.size) = operate [.ref s.heap.objs.size, .ref t] (getItem (.ref t) (.ref s.heap.objs.size)) := by with_unfolding_all rfl)
    (hg : ∀ r, letTemporaryGo value (.ref t) r = pure () := by intro _; with_unfolding_all rfl) :
    wpAny (model prog w) A (subscriptTail value slice (.ref t) (.ref s.heap.objs.size)) Q E { s with heap := s.heap.push { cls := .type "slice", data := .fields #[.int (2 : Nat) u, .none, .none] } } :=
  slice_tuple_from (a := 2) F N (News.isTup N hm) (by decide) (by simp) (fun h' F' N' => h _ h' F' N' (fun p hp => Nat.lt_succ_of_lt (Heap.lt_size (N p hp).1))) hs hg (by simp [sizeLine_eq]; omega)
end
local macro_rules | `(tactic| walk_at "truthy ref") => `(tactic| (k_here; (with_reducible show wpAny _ _ (truthy (Value.ref _)) _ _ _); k_dflt (first
  | (refine' tru0 ?k1 ?k2 ?_; (case k1 => k_asm); (case k2 => exact .head _); k_whole)
  | (refine' tru1 ?k1 ?k2 ?k3 ?_; (case k1 => k_asm); (case k2 => exact .head _); (case k3 => (simp [strValues]; omega)); k_whole))))
local macro_rules | `(tactic| walk_at "subscriptTail Name Constant ref int") => `(tactic| (k_here; (with_reducible show wpAny _ _ (subscriptTail _ _ (Value.ref _) (Value.int 0 _)) _ _ _); k_dflt (refine' it0 ?k1 ?k2 ?_ ?k3; (case k1 => k_asm); (case k2 => k_mem); (case k3 => with_unfolding_all rfl); k_whole)))
local macro_rules | `(tactic| walk_at "subscriptTail Name Constant ref int") => `(tactic| (k_here; (with_reducible show wpAny _ _ (subscriptTail _ _ (Value.ref _) (Value.int 1 _)) _ _ _); k_dflt (refine' it1 ?k1 ?k2 ?_ ?k3; (case k1 => k_asm); (case k2 => k_mem); (case k3 => with_unfolding_all rfl); k_whole)))
local macro_rules | `(tactic| walk_at "subscriptTail Name Slice ref ref") => `(tactic| (k_here; (with_reducible show wpAny _ _ (subscriptTail _ _ (Value.ref _) (Value.ref _)) _ _ _); k_dflt (refine' sl2 ?k1 ?k2 ?k3 ?k4 ?_ ?k7 ?k8; (case k1 => k_asm); (case k2 => k_asm); (case k3 => k_mem); (case k4 => (simp [strValues]; omega)); (case k7 => with_unfolding_all rfl); (case k8 => (intro _; with_unfolding_all rfl)); k_whole); intro Dsl hsl Fsl Nsl lsl; (try k_lt lsl)))
local macro_rules | `(tactic| walk_at "call builtin:str.split") => `(tactic| (k_here; (with_reducible show wpAny _ _ (call (Value.builtin "str.split") _) _ _ _); k_dflt (refine' KSpl.split1 ?k1 ?k2 ?k3 ?_ ?k4; (case k1 => k_asm); (case k2 => k_asm); (case k3 => exact StepOk.h1 (by assumption)); (case k4 => exact StepOk.h2 (by assumption)); k_whole); intro Ds ls hs ks es as Fs Ns ls1; (try k_lt ls1)))
local macro_rules | `(tactic| walk_at "call builtin:str.join") => `(tactic| (k_here; (with_reducible show wpAny _ _ (call (Value.builtin "str.join") _) _ _ _); k_dflt (refine' SC.join (News.isList ?k1 ?k2) ?k3 (StepOk.h3 ?k4) ?_; (case k1 => k_asm); (case k2 => k_mem); (case k3 => assumption); (case k4 => assumption); k_whole); intro _ _))
set_option maxRecDepth 100000 in
set_option maxHeartbeats 8000000 in
theorem replace_c (w : World) (mean : ExcName → Option Value) (mg mb : Str → Option Value) (news : Led) (x : Str) (tkx : Tok) (l : List (Str × Tok))
   (hok : ROk x (l.map (·.1))) (hlen : l.length ≤ 1000) :
   Con w mean mg mb 21 (.str x tkx :: strValues l) news 1 (fun h₀ L m Q => ∀ h' tk' t, Fr h₀ L h' m → News h₀ L h' news → Q (.str (repl x (l.map (·.1))) t) h' tk') := by
  w_top off
  unfold Con
  intro dp un gd cn cs a ccd cl outer A₀ base h₀ L m s Q E B F X N T hk hdp hun hret
  refine wpAny_call ?_
  k_dflt (refine' kp_rest ?k1 ?k2 ?k3 ?k4 ?k5 ?kA ?kF ?kK ?k6 ?k7 ?k8 ?kV ?kP ?kG ?kB ?_ ?c2 ?c3 ?c4 ?c5; (case kA => exact rfl); (case kF => exact rfl); (case kK => assumption); (case k1 => k_asm); (case k2 => k_asm); (case k3 => k_asm); (case k4 => k_asm); (case k5 => k_asm); (case k6 => k_is); (case k7 => k_is); (case k8 => ktr_room); (case kV => exact rfl); (case kP => exact peek_rest _ _ _ _ _ _ _ _ _ (by simpa [strValues] using hlen)); (case kG => exact fun _ => rfl); (case kB => exact fun _ => locs rfl); (case c5 => decide); (case c2 => exact rfl); (case c3 => exact rfl); (case c4 => exact rfl); k_whole; intro D' g' L' h' l1 FG' F' N' B' X' T'; (try k_lt l1); (try dsimp only); (try k_lift B'); (try k_fold))
  walk1
  walk1
  refine ksw_while (σ := Str × Tok × Addr × List (Str × Tok)) (fun c => (c.2.2.1, tupO (strValues c.2.2.2)) :: news) (fun c => [(Str.ofString "text", .str c.1 c.2.1), (Str.ofString "pairs", .ref c.2.2.1)]) (fun _ => True) []
    (fun c => ROk c.1 (c.2.2.2.map (·.1)) ∧ repl c.1 (c.2.2.2.map (·.1)) = repl x (l.map (·.1)) ∧ c.2.2.2.length ≤ 1000 ∧ (∀ p ∈ news, p.1 < c.2.2.1)) (fun c => c.2.2.2.length) (x, tkx, D', l) (by assumption) (by assumption) trivial ?kk ?kp ?kt ?ke
  case kk => exact List.forall_mem_cons.mpr ⟨rfl, List.forall_mem_cons.mpr ⟨rfl, fun _ h => nomatch h⟩⟩
  case kp => exact ⟨hok, rfl, hlen, l1⟩
  case ke => passes_own
  rintro ⟨y, ty, D2, l2⟩ u h2 tk2 - ⟨hr1, hr2, hr3, hr4⟩ F2 N2
  dsimp only [kstB] at F2 N2 hr1 hr2 hr3 hr4
  rcases l2 with _ | ⟨⟨p, tp⟩, _ | ⟨⟨z, tz⟩, r⟩⟩
  · simp only [List.map_nil] at hr1 hr2
    have N3 : News g' L' h2 ((D2, tupO []) :: news) := N2
    clear N2
    have hr2' : y = repl x (l.map (·.1)) := hr2
    k_steps
    subst hr2'
    exact hret _ _ _ (by k_asm) (cb_drop (by assumption) fun p hp => .tail _ hp)
  · exact absurd hr1 (by simp [ROk])
  · simp only [List.map_cons, List.length_cons] at hr1 hr2 hr3
    have N3 : News g' L' h2 ((D2, tupO (Value.str p tp :: Value.str z tz :: strValues r)) :: news) := N2
    clear N2
    obtain ⟨hk1, hk4⟩ := hr1
    k_steps
    rename_i lsl _ Ff Nf
    refine ksw_end ⟨_, _, _, r⟩ Ff Nf (List.forall_mem_cons.mpr ⟨.head _, fun p hp => .tail _ (.tail _ (.tail _ hp))⟩) trivial (List.forall_mem_cons.mpr ⟨rfl, List.forall_mem_cons.mpr ⟨rfl, fun _ h => nomatch h⟩⟩) ?_ ⟨hk4, hr2, ?_, ?_⟩ ?_
    · ksw_same
    · dsimp only; omega
    · exact kst_ltOf lsl.2.2
    · dsimp only [List.length_cons]; omega
end Mine

end
section
open PySem PySem.W PySem.Calls PyProof.Rows
namespace Mine

section
variable {prog : Program} {w : World} {A : Around} {E : Value → Shared → Prop} {s : Shared} {a b k : Int} {t u : Tok} {Q : Value → Shared → Prop}
theorem mulK1 (he : a * 1 = k) (h : Q (.int k s.toks) { s with toks := s.toks + 1 }) : wpAny (model prog w) A (binaryOp .Mult (.int a t) (.int 1 u)) Q E s := by
  subst he
  exact mul_int h (IntMulOk.of_right (by decide))
theorem mulK2 (he : a * -1 = k) (h : Q (.int k s.toks) { s with toks := s.toks + 1 }) : wpAny (model prog w) A (binaryOp .Mult (.int a t) (.int (-1) u)) Q E s := by
  subst he
  exact mul_int h (IntMulOk.of_right (by decide))
end
theorem EA.nx {v : List Nat} {most p q r s : Int} {w : Str} {k x : Int} {pre : List Int} (h : EA v most (pre.length : Int) p q r s w k) : EInv v most ((pre ++ [x]).length : Int) (p - 2 * k * r) (q - 2 * k * s) r s (w ++ Txt.mul (Str.ofString "a") k ++ Txt.mul (Str.ofString "A") (-k)) := by
  rw [List.length_append]
  exact h.next
theorem EB.nx {v : List Nat} {most p q r s : Int} {w : Str} {k x : Int} {pre : List Int} (h : EB v most (pre.length : Int) p q r s w k) : EInv v most ((pre ++ [x]).length : Int) p q (r - 2 * k * p) (s - 2 * k * q) (w ++ Txt.mul (Str.ofString "b") k ++ Txt.mul (Str.ofString "B") (-k)) := by
  rw [List.length_append]
  exact h.next
local macro_rules | `(tactic| mul_fits) => `(tactic| first | exact IntMulOk.of_left (intBits_le_64 (by omega) (by omega)) | exact IntMulOk.of_right (intBits_le_64 (by omega) (by omega)))
local macro_rules | `(tactic| walk_at "binaryOp FloorDiv int int") => `(tactic| (k_here; (with_reducible show wpAny _ _ (binaryOp Operator.FloorDiv (Value.int (_ + _) _) (Value.int (2 * _) _)) _ _ _); k_dflt (refine' floordiv_int ?k1 ?_ (Or.inl (PyProof.noPylong_of_log2 ?k2)); (case k1 => first | exact (EInv.divA (by with_reducible assumption) (by with_reducible assumption)).1 | exact (EInv.divB (by with_reducible assumption) (by with_reducible assumption) (by with_reducible assumption)).1); (case k2 => first | exact (EInv.divA (by with_reducible assumption) (by with_reducible assumption)).2 | exact (EInv.divB (by with_reducible assumption) (by with_reducible assumption) (by with_reducible assumption)).2); k_whole)))
local macro_rules | `(tactic| walk_at "binaryOp FloorDiv int int") => `(tactic| (k_here; (with_reducible show wpAny _ _ (binaryOp Operator.FloorDiv (Value.int _ _) (Value.int 2 _)) _ _ _); k_dflt ((fail_if_success have := (EF.h1 (by with_reducible assumption))); (first | have hF := EInv.fin (by with_reducible assumption) (by with_reducible assumption) | have hF := EInv.fin2 (by with_reducible assumption) (by (simp only [rangeKs_length]; omega))); have hF1 := hF.h1; have hF2 := hF.h2; have hF3 := hF.h3; have hF4 := hF.h4; have hF5 := hF.h5; refine' floordiv_int (by decide) ?_ (Or.inl (PyProof.noPylong_of_log2 (by decide +kernel))))))
local macro_rules | `(tactic| walk_at "binaryOp Mult int int") => `(tactic| (k_here; (with_reducible show wpAny _ _ (binaryOp Operator.Mult (Value.int (Int.fdiv _ _) _) (Value.int 1 _)) _ _ _); k_dflt (first
  | (obtain ⟨k9, hk9, hE⟩ := EInv.a1 (by with_reducible assumption) (by with_reducible assumption) (by with_reducible assumption) (by with_reducible assumption); refine' mulK1 hk9 ?_; have hE1 := hE.lo; have hE2 := hE.hi; have hE3 := hE.lw)
  | (obtain ⟨k9, hk9, hE⟩ := EInv.b1 (by with_reducible assumption) (by with_reducible assumption) (by with_reducible assumption) (by with_reducible assumption); refine' mulK1 hk9 ?_; have hE1 := hE.lo; have hE2 := hE.hi; have hE3 := hE.lw))))
local macro_rules | `(tactic| walk_at "binaryOp Mult int int") => `(tactic| (k_here; (with_reducible show wpAny _ _ (binaryOp Operator.Mult (Value.int (Int.fdiv _ _) _) (Value.int (-1) _)) _ _ _); k_dflt (first
  | (obtain ⟨k9, hk9, hE⟩ := EInv.a2 (by with_reducible assumption) (by with_reducible assumption) (by with_reducible assumption) (by with_reducible assumption); refine' mulK2 hk9 ?_; have hE1 := hE.lo; have hE2 := hE.hi; have hE3 := hE.lw)
  | (obtain ⟨k9, hk9, hE⟩ := EInv.b2 (by with_reducible assumption) (by with_reducible assumption) (by with_reducible assumption) (by with_reducible assumption); refine' mulK2 hk9 ?_; have hE1 := hE.lo; have hE2 := hE.hi; have hE3 := hE.lw))))
local macro_rules | `(tactic| walk_at "binaryOp Add str str") => `(tactic| (k_here; (with_reducible show wpAny _ _ (binaryOp Operator.Add (Value.str _ _) (Value.str _ _)) _ _ _); k_dflt (refine' add_str ?_ ?hsz; (case hsz => (simp only [Str.length_append, sizeLine_eq]; omega))); intro _ _))

set_option maxRecDepth 100000 in
set_option maxHeartbeats 8000000 in
theorem euclid_c (w : World) (mean : ExcName → Option Value) (mg mb : Str → Option Value) (news : Led) (p q r s most : Int) (k0 k1 k2 k3 k4 : Tok) (v : List Nat)
   (hat : At p q r s v) (hv : (v.length : Int) ≤ most) (hm : most ≤ 50) :
   Con w mean mg mb 40 [.int p k0, .int q k1, .int r k2, .int s k3, .int most k4] news 1 (fun h₀ L m Q => ∀ h' tk' t, Fr h₀ L h' m → News h₀ L h' news → Q (.str (txt v) t) h' tk') := by
  w_top off
  unfold Con
  intro dp un gd cn cs a ccd cl outer A₀ base h₀ L m sh Q E B F X N T hk hdp hun hret
  refine wpAny_call ?_
  k_dflt cell_enter
  k_with_none
  k_with "pyIter ref" => k_state (fun pre p q r s word => EInv v most (pre.length : Int) p q r s word) "p" "q" "r" "s" "word"
  k_with "state" => exact EInv.start (by with_reducible assumption) (by with_reducible assumption) (by with_reducible assumption)
  k_with "state" => exact EA.nx (by with_reducible assumption)
  k_with "state" => exact EB.nx (by with_reducible assumption)
  k_steps
  all_goals (rw [EF.h6 (by with_reducible assumption)]; exact hret _ _ _ (by k_asm) (by first | k_asm | exact cb_drop (by assumption) (fun p hp => List.mem_append.mpr (.inl hp))))
end Mine

end
section
open PySem PySem.W PySem.Calls PyProof.Rows
namespace Mine
theorem turn_in {g h : Heap} {L : Addr} {a b : Addr × Obj} {r : Led} (N : News g L h (a :: b :: r)) : News g L h (b :: a :: r) := fun p hp => N p (by
  rcases List.mem_cons.mp hp with rfl | hp
  · exact .tail _ (.head _)
  · rcases List.mem_cons.mp hp with rfl | hp
    · exact .head _
    · exact .tail _ (.tail _ hp))
theorem hU_of {I dv : Addr} {oI : Obj} {R : Led} (h : I ≠ dv) (hne : ∀ p ∈ R, p.1 ≠ dv) : ∀ p ∈ (I, oI) :: R, p.1 ≠ dv := List.forall_mem_cons.mpr ⟨h, hne⟩

local macro_rules | `(tactic| walk_at "eval Dict") => `(tactic| (k_here; k_dflt (refine' kdn_str ?q ?F ?N ?b ?a ?l ?e ?n ?_; (case q => rfl); (case F => k_asm); (case N => first | k_asm | exact News.nil); (case b => exact Top.nolimit (by k_asm)); (case a => rfl); (case l => rfl); (case e => exact List.cons_ne_nil _ _); (case n => exact Nat.le_of_ble_eq_true rfl)); intro d' h' o' F' N' l1 lo' hd'; (try k_lt l1)))
local macro_rules | `(tactic| walk_at "exec For Tuple Subscript cons nil") => `(tactic| (k_here; (rename Fr _ _ _ _ => lF'); (with_unfolding_all refine' For_turns lF' ?_; k_whole)))
local macro_rules | `(tactic| k_mem) => `(tactic| first | with_reducible assumption | (with_reducible exact List.mem_cons_self) | ((with_reducible refine List.mem_cons_of_mem _ ?_); k_mem))
local macro_rules | `(tactic| walk_at "subscriptTail Name Slice ref ref") => `(tactic| (k_here; (with_reducible show wpAny _ _ (subscriptTail _ (PySem.Expr.Slice none none (some _) _) (Value.ref _) (Value.ref _)) _ _ _); k_dflt (refine' krv_lit ?F ?N ?l ?k ?e ?_ ?s ?t ?z; (case F => k_asm); (case N => k_asm); (case l => exact News.isList (by k_asm) (by k_mem)); (case k => exact IsPart.int _ _); (case e => exact rfl); (case s => with_unfolding_all rfl); (case t => kmk_pure); (case z => exact Nat.le_of_ble_eq_true rfl)); intro D' h' F' N' l1; (try k_lt l1)))
local macro_rules | `(tactic| walk_at "pyIter ref") => `(tactic| (k_here; (with_reducible show wpAny _ _ (pyIter (Value.ref _)) (fun it s₂ => TurnsAt _ _ _ _ _ _ _ _ _ it s₂) _ _); apply Stopped.out))
local macro_rules | `(tactic| k_mem) => `(tactic| first | ((with_reducible refine List.mem_append_right _ ?_); (with_reducible assumption)) | ((with_reducible refine List.mem_append_left _ ?_); (with_reducible assumption)))
local macro_rules | `(tactic| walk_at "subscriptTail Name Constant str int") => `(tactic| (k_here; (with_reducible show wpAny _ _ (subscriptTail _ _ (Value.str (txt [_, _]) _) (Value.int 0 _)) _ _ _); k_dflt (refine' str_it0 ?_)))
local macro_rules | `(tactic| walk_at "subscriptTail Name Constant str int") => `(tactic| (k_here; (with_reducible show wpAny _ _ (subscriptTail _ _ (Value.str (txt [_, _]) _) (Value.int 1 _)) _ _ _); k_dflt (refine' str_it1 ?_)))
local macro_rules | `(tactic| walk_at "subscriptTail Name Subscript ref str") => `(tactic| ((with_reducible rename Brk 5 => bk9); clear bk9; apply Stopped.out))
local macro_rules | `(tactic| walk_at "call ref") => `(tactic| ((with_reducible rename Brk 3 => bk9); clear bk9; apply Stopped.out))
local macro_rules | `(tactic| walk_at "setItem ref str ref") => `(tactic| ((with_reducible rename Brk 4 => bk9); clear bk9; apply Stopped.out))
set_option maxRecDepth 100000 in
set_option maxHeartbeats 1000000 in
theorem table_c (w : World) (mean : ExcName → Option Value) (mg mb : Str → Option Value) (news : Led) (M M0 M1 : Addr) (t0 t1 t2 t3 t4 t5 t6 t7 : Tok) (c1 p1 p2 b1 u1 u2 c2 p3 p4 b2 u3 u4 : Nat)
   (hM : (M, ({ cls := .type "list", data := .seq #[.ref M0, .ref M1] } : Obj)) ∈ news)
   (hM0 : (M0, ({ cls := .type "list", data := .seq #[.str (txt [c1]) t0, .str (txt [p1, p2]) t1, .str (txt [b1]) t2, .str (txt [u1, u2]) t3] } : Obj)) ∈ news)
   (hM1 : (M1, ({ cls := .type "list", data := .seq #[.str (txt [c2]) t4, .str (txt [p3, p4]) t5, .str (txt [b2]) t6, .str (txt [u3, u4]) t7] } : Obj)) ∈ news)
   (hc1 : Lw c1) (hp1 : Lw p1) (hp2 : Lw p2) (hb1 : Lw b1) (hu1 : Lw u1) (hu2 : Lw u2) (hc2 : Lw c2) (hp3 : Lw p3) (hp4 : Lw p4) (hb2 : Lw b2) (hu3 : Lw u3) (hu4 : Lw u4) 
   (hsm : SmallF (tstep letM c2 p3 p4 b2 u3 u4)) :
   Con w mean mg mb 47 [.ref M] news 2 (fun h₀ L m Q => ∀ D o rest h' tk', Fr h₀ L h' m → News h₀ L h' ((D, o) :: (rest ++ news)) → (∀ p ∈ news, p.1 < D) → (∃ kvs, o.IsDictOf (PySem.strKind Challenge.rw_pm0087_01.row.prog w) kvs ∧ Tab rest kvs (tstep (tstep letM c2 p3 p4 b2 u3 u4) c1 p1 p2 b1 u1 u2)) → Q (.ref D) h' tk') := by
  w_top off
  unfold Con
  intro dp un gd cn cs a ccd cl outer A₀ base h₀ L m sh Q E B F X N T hk hdp hun hret
  refine wpAny_call ?_
  k_dflt cell_enter
  k_with_none
  k_steps
  with_reducible rename News _ _ _ _ => NR
  with_reducible rename Fr _ _ _ _ => FR
  with_reducible rename Obj.IsDictOf _ _ _ => hdv
  obtain ⟨rest0, kvs0, hT, hd, N3, hne, hgt⟩ := table_set NR hdv (Nat.lt_of_not_le (by omega)) (Nat.lt_of_not_le (by omega)) (Nat.lt_of_not_le (by omega)) (Nat.lt_of_not_le (by omega)) (Nat.lt_of_not_le (by omega)) (by assumption)
  have KN := Keep.mk N3
  have KF := Keep.mk FR
  have KD := Keep.mk hd
  with_reducible rename News _ _ _ _ => X
  clear X
  with_reducible rename News _ _ _ _ => X
  clear X
  with_reducible rename News _ _ _ _ => X
  clear X
  with_reducible rename Fr _ _ _ _ => X
  clear X
  with_reducible rename Fr _ _ _ _ => X
  clear X
  (repeat (with_reducible rename Obj.IsDictOf _ _ _ => X; clear X))
  have N3 := KN.out
  have FR := KF.out
  have hd := KD.out
  clear KN KF KD
  refine Stopped.mk (iter_listTurns (lo := W.listOf #[Value.ref M1, Value.ref M0] 0) (vs := [.ref M1, .ref M0]) rfl FR N3 (.tail _ (.head _)) rfl rfl fun I lI => ?_)
  clear FR N3
  refine ItemsRest.val fun h1 tk1 F1 => AllObj.cons fun oI hoI => AllObj.nil fun N1 => ?_
  have N2 := turn_in N1
  have hU := hU_of (oI := oI) (Nat.ne_of_gt (lI _ (.head _))) hne
  have hS := smallF_letM
  clear N1
  have b5 : Brk 5 := ⟨⟩
  k_steps
  refine Stopped.mk ?_
  refine' tab_get ?qtaN ?qtam ?qtad ?qtaT ?qtac ?_ ?qtas
  case qtaN => k_asm
  case qtaT => with_reducible assumption
  case qtad => with_reducible assumption
  case qtam => k_mem
  case qtac => with_reducible assumption
  case qtas => with_unfolding_all rfl
  intro B9 a9 b9 c9 d9 hm9
  have b5 : Brk 5 := ⟨⟩
  k_steps
  refine Stopped.mk ?_
  refine' tab_get ?qtbN ?qtbm ?qtbd ?qtbT ?qtbc ?_ ?qtbs
  case qtbN => k_asm
  case qtbT => with_reducible assumption
  case qtbd => with_reducible assumption
  case qtbm => k_mem
  case qtbc => with_reducible assumption
  case qtbs => with_unfolding_all rfl
  intro B9 a9 b9 c9 d9 hm9
  have b3 : Brk 3 := ⟨⟩
  k_steps
  refine Stopped.mk ?_
  refine' by_cM _ _ _ _ _ _ _ _ _ _ _ _ _ _ _ _ _ _ _ ?qccm1 ?qccm2 ?qccs1 ?qccs2 _ _ _ _ _ _ _ _ _ _ _ _ _ _ _ _ _ ?qcck1 ?qcck2 ?qcck3 ?qcck4 ?qcck5 ?qcckK ?qcckd ?qccku ?_
  case qcck1 => k_asm
  case qcck2 => k_asm
  case qcck3 => k_asm
  case qcck4 => k_asm
  case qcck5 => k_asm
  case qcckK => exact rfl
  case qccm1 => k_mem
  case qccm2 => k_mem
  case qccs1 => exact SmallF.h (by with_reducible assumption) (by with_reducible assumption)
  case qccs2 => exact SmallF.h (by with_reducible assumption) (by with_reducible assumption)
  case qcckd => ktr_room
  case qccku => ktr_units
  intro D9 h9 tk9 a9 b9 c9 d9 l9 F9 N9
  (try k_lt l9)
  (try dsimp only)
  have b5 : Brk 5 := ⟨⟩
  k_steps
  refine Stopped.mk ?_
  refine' tab_get ?qtdN ?qtdm ?qtdd ?qtdT ?qtdc ?_ ?qtds
  case qtdN => k_asm
  case qtdT => with_reducible assumption
  case qtdd => with_reducible assumption
  case qtdm => k_mem
  case qtdc => with_reducible assumption
  case qtds => with_unfolding_all rfl
  intro B9 a9 b9 c9 d9 hm9
  have b5 : Brk 5 := ⟨⟩
  k_steps
  refine Stopped.mk ?_
  refine' tab_get ?qteN ?qtem ?qted ?qteT ?qtec ?_ ?qtes
  case qteN => k_asm
  case qteT => with_reducible assumption
  case qted => with_reducible assumption
  case qtem => k_mem
  case qtec => with_reducible assumption
  case qtes => with_unfolding_all rfl
  intro B9 a9 b9 c9 d9 hm9
  have b3 : Brk 3 := ⟨⟩
  k_steps
  refine Stopped.mk ?_
  refine' by_cM _ _ _ _ _ _ _ _ _ _ _ _ _ _ _ _ _ _ _ ?qcfm1 ?qcfm2 ?qcfs1 ?qcfs2 _ _ _ _ _ _ _ _ _ _ _ _ _ _ _ _ _ ?qcfk1 ?qcfk2 ?qcfk3 ?qcfk4 ?qcfk5 ?qcfkK ?qcfkd ?qcfku ?_
  case qcfk1 => k_asm
  case qcfk2 => k_asm
  case qcfk3 => k_asm
  case qcfk4 => k_asm
  case qcfk5 => k_asm
  case qcfkK => exact rfl
  case qcfm1 => k_mem
  case qcfm2 => k_mem
  case qcfs1 => exact SmallF.h (by with_reducible assumption) (by with_reducible assumption)
  case qcfs2 => exact SmallF.h (by with_reducible assumption) (by with_reducible assumption)
  case qcfkd => ktr_room
  case qcfku => ktr_units
  intro D9 h9 tk9 a9 b9 c9 d9 l9 F9 N9
  (try k_lt l9)
  (try dsimp only)
  have b4 : Brk 4 := ⟨⟩
  k_steps
  refine Stopped.mk ?_
  refine' kda_set (knd := PySem.strKind _ _) ?qsgF ?qsgN ?qsgU ?qsgd (strKind_is _ _ _ _) ?qsgz ?_
  case qsgF => k_asm
  case qsgN => k_asm
  case qsgU => first | exact UpdF.head (by assumption) | exact UpdF.tail (Nat.ne_of_gt (by dsimp only; omega)) (UpdF.head (by assumption)) | exact UpdF.tail (Nat.ne_of_gt (by dsimp only; omega)) (UpdF.tail (Nat.ne_of_gt (by dsimp only; omega)) (UpdF.head (by assumption)))
  case qsgd => with_reducible assumption
  case qsgz => (rw [sizeLine_eq]; first | exact Nat.le_trans (Tab.len (by with_reducible assumption)) (by decide) | exact Nat.le_trans (stored_length_le _ _ _) (Nat.le_trans (Nat.succ_le_succ (Tab.len (by with_reducible assumption))) (by decide)))
  intro h9 o9 F9 N9 hd9
  have b4 : Brk 4 := ⟨⟩
  k_steps
  refine Stopped.mk ?_
  refine' kda_set (knd := PySem.strKind _ _) ?qshF ?qshN ?qshU ?qshd (strKind_is _ _ _ _) ?qshz ?_
  case qshF => k_asm
  case qshN => k_asm
  case qshU => first | exact UpdF.head (by assumption) | exact UpdF.tail (Nat.ne_of_gt (by dsimp only; omega)) (UpdF.head (by assumption)) | exact UpdF.tail (Nat.ne_of_gt (by dsimp only; omega)) (UpdF.tail (Nat.ne_of_gt (by dsimp only; omega)) (UpdF.head (by assumption)))
  case qshd => with_reducible assumption
  case qshz => (rw [sizeLine_eq]; first | exact Nat.le_trans (Tab.len (by with_reducible assumption)) (by decide) | exact Nat.le_trans (stored_length_le _ _ _) (Nat.le_trans (Nat.succ_le_succ (Tab.len (by with_reducible assumption))) (by decide)))
  intro h9 o9 F9 N9 hd9
  k_steps
  with_reducible rename News _ _ _ _ => N9
  with_reducible rename Fr _ _ _ _ => F9
  with_reducible rename Obj.IsDictOf _ _ _ => hd9
  obtain ⟨rest1, kvs1, hT1, hd1, N4, hne1, hgt1, hI1⟩ := turn_next N9 hT hd9 hb2 hc2 hne hgt ⟨Nat.lt_of_not_le (by omega), Nat.lt_of_not_le (by omega)⟩ ⟨Nat.lt_of_not_le (by omega), Nat.lt_of_not_le (by omega)⟩ (Nat.ne_of_lt (lI _ (.head _))) (fun p hp => Nat.ne_of_lt (lI p (.tail _ hp)))
  refine ⟨_, _, _, _, rfl, F9, N4, fun p hp q hq => (List.mem_singleton.mp hq) ▸ hI1 p hp, ⟨?_, ?_⟩⟩
  · exact ⟨.tail _ (.head _), trivial⟩
  have KD := Keep.mk hd1
  with_reducible rename News _ _ _ _ => X
  clear X
  with_reducible rename News _ _ _ _ => X
  clear X
  with_reducible rename News _ _ _ _ => X
  clear X
  with_reducible rename News _ _ _ _ => X
  clear X
  with_reducible rename News _ _ _ _ => X
  clear X
  with_reducible rename Fr _ _ _ _ => X
  clear X
  with_reducible rename Fr _ _ _ _ => X
  clear X
  with_reducible rename Fr _ _ _ _ => X
  clear X
  with_reducible rename Fr _ _ _ _ => X
  clear X
  (repeat (with_reducible rename Obj.IsDictOf _ _ _ => X; clear X))
  have hd1 := KD.out
  clear KD
  clear hT hS hU hne hgt
  have hS := hsm
  refine ItemsRest.val fun h1 tk1 F1 => AllObj.cons fun oJ hoJ => AllObj.nil fun N1 => ?_
  have N2 := turn_in N1
  have hU := hU_of (oI := oJ) (hI1 _ (.head _)).symm hne1
  clear N1
  have b5 : Brk 5 := ⟨⟩
  k_steps
  refine Stopped.mk ?_
  refine' tab_get ?qtiN ?qtim ?qtid ?qtiT ?qtic ?_ ?qtis
  case qtiN => k_asm
  case qtiT => with_reducible assumption
  case qtid => with_reducible assumption
  case qtim => k_mem
  case qtic => with_reducible assumption
  case qtis => with_unfolding_all rfl
  intro B9 a9 b9 c9 d9 hm9
  have b5 : Brk 5 := ⟨⟩
  k_steps
  refine Stopped.mk ?_
  refine' tab_get ?qtjN ?qtjm ?qtjd ?qtjT ?qtjc ?_ ?qtjs
  case qtjN => k_asm
  case qtjT => with_reducible assumption
  case qtjd => with_reducible assumption
  case qtjm => k_mem
  case qtjc => with_reducible assumption
  case qtjs => with_unfolding_all rfl
  intro B9 a9 b9 c9 d9 hm9
  have b3 : Brk 3 := ⟨⟩
  k_steps
  refine Stopped.mk ?_
  refine' by_cM _ _ _ _ _ _ _ _ _ _ _ _ _ _ _ _ _ _ _ ?qckm1 ?qckm2 ?qcks1 ?qcks2 _ _ _ _ _ _ _ _ _ _ _ _ _ _ _ _ _ ?qckk1 ?qckk2 ?qckk3 ?qckk4 ?qckk5 ?qckkK ?qckkd ?qckku ?_
  case qckk1 => k_asm
  case qckk2 => k_asm
  case qckk3 => k_asm
  case qckk4 => k_asm
  case qckk5 => k_asm
  case qckkK => exact rfl
  case qckm1 => k_mem
  case qckm2 => k_mem
  case qcks1 => exact SmallF.h (by with_reducible assumption) (by with_reducible assumption)
  case qcks2 => exact SmallF.h (by with_reducible assumption) (by with_reducible assumption)
  case qckkd => ktr_room
  case qckku => ktr_units
  intro D9 h9 tk9 a9 b9 c9 d9 l9 F9 N9
  (try k_lt l9)
  (try dsimp only)
  have b5 : Brk 5 := ⟨⟩
  k_steps
  refine Stopped.mk ?_
  refine' tab_get ?qtlN ?qtlm ?qtld ?qtlT ?qtlc ?_ ?qtls
  case qtlN => k_asm
  case qtlT => with_reducible assumption
  case qtld => with_reducible assumption
  case qtlm => k_mem
  case qtlc => with_reducible assumption
  case qtls => with_unfolding_all rfl
  intro B9 a9 b9 c9 d9 hm9
  have b5 : Brk 5 := ⟨⟩
  k_steps
  refine Stopped.mk ?_
  refine' tab_get ?qtmN ?qtmm ?qtmd ?qtmT ?qtmc ?_ ?qtms
  case qtmN => k_asm
  case qtmT => with_reducible assumption
  case qtmd => with_reducible assumption
  case qtmm => k_mem
  case qtmc => with_reducible assumption
  case qtms => with_unfolding_all rfl
  intro B9 a9 b9 c9 d9 hm9
  have b3 : Brk 3 := ⟨⟩
  k_steps
  refine Stopped.mk ?_
  refine' by_cM _ _ _ _ _ _ _ _ _ _ _ _ _ _ _ _ _ _ _ ?qcnm1 ?qcnm2 ?qcns1 ?qcns2 _ _ _ _ _ _ _ _ _ _ _ _ _ _ _ _ _ ?qcnk1 ?qcnk2 ?qcnk3 ?qcnk4 ?qcnk5 ?qcnkK ?qcnkd ?qcnku ?_
  case qcnk1 => k_asm
  case qcnk2 => k_asm
  case qcnk3 => k_asm
  case qcnk4 => k_asm
  case qcnk5 => k_asm
  case qcnkK => exact rfl
  case qcnm1 => k_mem
  case qcnm2 => k_mem
  case qcns1 => exact SmallF.h (by with_reducible assumption) (by with_reducible assumption)
  case qcns2 => exact SmallF.h (by with_reducible assumption) (by with_reducible assumption)
  case qcnkd => ktr_room
  case qcnku => ktr_units
  intro D9 h9 tk9 a9 b9 c9 d9 l9 F9 N9
  (try k_lt l9)
  (try dsimp only)
  have b4 : Brk 4 := ⟨⟩
  k_steps
  refine Stopped.mk ?_
  refine' kda_set (knd := PySem.strKind _ _) ?qsoF ?qsoN ?qsoU ?qsod (strKind_is _ _ _ _) ?qsoz ?_
  case qsoF => k_asm
  case qsoN => k_asm
  case qsoU => first | exact UpdF.head (by assumption) | exact UpdF.tail (Nat.ne_of_gt (by dsimp only; omega)) (UpdF.head (by assumption)) | exact UpdF.tail (Nat.ne_of_gt (by dsimp only; omega)) (UpdF.tail (Nat.ne_of_gt (by dsimp only; omega)) (UpdF.head (by assumption)))
  case qsod => with_reducible assumption
  case qsoz => (rw [sizeLine_eq]; first | exact Nat.le_trans (Tab.len (by with_reducible assumption)) (by decide) | exact Nat.le_trans (stored_length_le _ _ _) (Nat.le_trans (Nat.succ_le_succ (Tab.len (by with_reducible assumption))) (by decide)))
  intro h9 o9 F9 N9 hd9
  have b4 : Brk 4 := ⟨⟩
  k_steps
  refine Stopped.mk ?_
  refine' kda_set (knd := PySem.strKind _ _) ?qspF ?qspN ?qspU ?qspd (strKind_is _ _ _ _) ?qspz ?_
  case qspF => k_asm
  case qspN => k_asm
  case qspU => first | exact UpdF.head (by assumption) | exact UpdF.tail (Nat.ne_of_gt (by dsimp only; omega)) (UpdF.head (by assumption)) | exact UpdF.tail (Nat.ne_of_gt (by dsimp only; omega)) (UpdF.tail (Nat.ne_of_gt (by dsimp only; omega)) (UpdF.head (by assumption)))
  case qspd => with_reducible assumption
  case qspz => (rw [sizeLine_eq]; first | exact Nat.le_trans (Tab.len (by with_reducible assumption)) (by decide) | exact Nat.le_trans (stored_length_le _ _ _) (Nat.le_trans (Nat.succ_le_succ (Tab.len (by with_reducible assumption))) (by decide)))
  intro h9 o9 F9 N9 hd9
  k_steps
  with_reducible rename News _ _ _ _ => N9
  with_reducible rename Fr _ _ _ _ => F9
  with_reducible rename Obj.IsDictOf _ _ _ => hd9
  obtain ⟨rest2, kvs2, hT2, hd2, N4, hne2, hgt2, hI2⟩ := turn_next N9 hT1 hd9 hb1 hc1 hne1 hgt1 ⟨Nat.lt_of_not_le (by omega), Nat.lt_of_not_le (by omega)⟩ ⟨Nat.lt_of_not_le (by omega), Nat.lt_of_not_le (by omega)⟩ (hI1 _ (.head _)) (fun p hp => hI1 p (.tail _ hp))
  refine ⟨_, _, _, _, rfl, F9, N4, fun p hp q hq => (List.mem_singleton.mp hq) ▸ hI2 p hp, ⟨⟨.tail _ (.head _), trivial⟩, ?_⟩⟩
  have KD := Keep.mk hd2
  with_reducible rename News _ _ _ _ => X
  clear X
  with_reducible rename News _ _ _ _ => X
  clear X
  with_reducible rename News _ _ _ _ => X
  clear X
  with_reducible rename News _ _ _ _ => X
  clear X
  with_reducible rename News _ _ _ _ => X
  clear X
  with_reducible rename Fr _ _ _ _ => X
  clear X
  with_reducible rename Fr _ _ _ _ => X
  clear X
  with_reducible rename Fr _ _ _ _ => X
  clear X
  with_reducible rename Fr _ _ _ _ => X
  clear X
  (repeat (with_reducible rename Obj.IsDictOf _ _ _ => X; clear X))
  have hd2 := KD.out
  clear KD
  clear hT1 hS hU hne1
  refine ItemsRest.zero fun h1 tk1 F1 N1 => ?_
  k_steps
  refine hret _ _ _ _ _ (by k_asm) ?_ (by assumption) ⟨_, hd2, hT2⟩
  refine cb_drop (by assumption) ?_
  simp only [List.forall_mem_cons]
  exact ⟨.head _, fun p hp => .tail _ (.tail _ hp)⟩
end Mine

end
section
open PySem
namespace Mine
open PySem.StrLaws PySem.Builtin PySem.Builtin.Str
structure IsRep (p z : List Nat) (R : List Nat → List Nat) : Prop where
  nil : R [] = []
  hit : ∀ l, R (p ++ l) = z ++ R l
  miss : ∀ a l, ¬ p <+: (a :: l) → R (a :: l) = a :: R l
theorem at_iff {L p : List Nat} (hp : p ≠ []) (k : Nat) : StrLaws.At (txt L) (txt p) (txt L).length k ↔ p <+: L.drop k := by
  unfold StrLaws.At
  rw [subAt_eq, txt_len, txt_len]
  show k + p.length ≤ L.length ∧ ((L.drop k).take p.length == p) = true ↔ _
  rw [beq_iff_eq, List.prefix_iff_eq_take]
  have hl : 0 < p.length := List.length_pos_iff.mpr hp
  constructor
  · exact fun h => h.2.symm
  · intro h
    refine ⟨?_, h.symm⟩
    have := congrArg List.length h
    rw [List.length_take, List.length_drop] at this
    omega
theorem rep_skip {p z : List Nat} {R : List Nat → List Nat} (I : IsRep p z R) (hp : p ≠ []) (L : List Nat) : ∀ (n a : Nat), a + n ≤ L.length → (∀ k, a ≤ k → k < a + n → ¬ p <+: L.drop k) → R (L.drop a) = (L.drop a).take n ++ R (L.drop (a + n))
  | 0, a, _, _ => by simp
  | n + 1, a, hl, h => by
    have ih := rep_skip I hp L n (a + 1) (by omega) (fun k h1 h2 => h k (by omega) (by omega))
    have e : L.drop a = L[a]'(by omega) :: L.drop (a + 1) := List.drop_eq_getElem_cons (by omega)
    rw [show a + (n + 1) = a + 1 + n by omega, e, List.take_succ_cons, List.cons_append, ← ih]
    exact I.miss _ _ (by rw [← e]; exact h a (Nat.le_refl _) (by omega))
theorem rep_free {p z : List Nat} {R : List Nat → List Nat} (I : IsRep p z R) (hp : p ≠ []) (L : List Nat) (a : Nat) (ha : a ≤ L.length) (h : ∀ k, a ≤ k → ¬ p <+: L.drop k) : R (L.drop a) = L.drop a := by
  have := rep_skip I hp L (L.length - a) a (by omega) (fun k h1 _ => h k h1)
  rw [this, show a + (L.length - a) = L.length by omega, List.drop_length, I.nil, List.append_nil]
  exact List.take_of_length_le (by simp)
theorem sub_txt (L : List Nat) (a b : Nat) : strSub (txt L) a b = txt ((L.drop a).take (b - a)) := by
  apply Str.ext'
  apply Array.toList_inj.mp
  rw [strSub_toList]
  simp [txt]
theorem join_chain {p z : List Nat} {R : List Nat → List Nat} (I : IsRep p z R) (hp : p ≠ []) (L : List Nat) : ∀ (cuts : List Nat) (a f : Nat), a ≤ L.length → ChainG (txt L) (txt p) (txt L).length a cuts f → (∀ k, f ≤ k → ¬ StrLaws.At (txt L) (txt p) (txt L).length k) → Str.join (txt z) (partsFrom (txt L) (txt p).length a cuts) = txt (R (L.drop a))
  | [], a, f, ha, h, hn => by
    have e : f = a := h
    subst e
    show strSub (txt L) f (txt L).length = _
    rw [sub_txt, rep_free I hp L f ha (fun k hk hx => hn k hk ((at_iff hp k).mpr hx)), txt_len]
    congr 1
    exact List.take_of_length_le (by simp)
  | c :: r, a, f, ha, h, hn => by
    obtain ⟨h1, h2, h3, h4⟩ := h
    have hc : c + p.length ≤ L.length := by have := h2.1; rwa [txt_len, txt_len] at this
    rw [txt_len] at h4
    have ih := join_chain I hp L r (c + p.length) f hc (by rw [txt_len]; exact h4) hn
    obtain ⟨p', q, e⟩ := partsFrom_ne (txt L) (txt p).length (c + p.length) r
    show Str.join (txt z) (strSub (txt L) a c :: partsFrom (txt L) (txt p).length (c + (txt p).length) r) = _
    rw [txt_len] at e ih ⊢
    rw [e] at ih ⊢
    show strSub (txt L) a c ++ txt z ++ Str.join (txt z) (p' :: q) = _
    rw [ih, sub_txt, txt_app, txt_app]
    congr 1
    have hd := (at_iff hp c).mp h2
    have e1 : L.drop c = p ++ L.drop (c + p.length) := by
      obtain ⟨t, ht⟩ := hd
      rw [← List.drop_drop, ← ht, List.drop_left]
    have e2 := rep_skip I hp L (c - a) a (by omega) (fun k k1 k2 hx => h3 k k1 (by omega) ((at_iff hp k).mpr hx))
    rw [show a + (c - a) = c by omega, e1, I.hit] at e2
    rw [e2, List.append_assoc]
theorem kind_low {p : List Nat} (h : ∀ c ∈ p, c < 256) (x : Str) : ¬ PySem.Builtin.Str.strKind x < PySem.Builtin.Str.strKind (txt p) := by
  have h2 : ((txt p).cps.all fun c => decide (c < 256)) = true := by
    rw [← Array.all_toList]
    exact List.all_eq_true.mpr fun c hc => decide_eq_true (h c (by simpa [txt] using hc))
  have e : PySem.Builtin.Str.strKind (txt p) = 1 := if_pos h2
  have e2 : 1 ≤ PySem.Builtin.Str.strKind x := by
    unfold PySem.Builtin.Str.strKind
    split
    · exact Nat.le_refl _
    · split <;> decide
  omega
/-- what a call of split and of join make of a text -/
theorem rep_txt {p z : List Nat} {R : List Nat → List Nat} (I : IsRep p z R) (hp : p ≠ []) (h256 : ∀ c ∈ p, c < 256) (L : List Nat) : Txt.join (txt z) (Txt.split (txt L) (txt p)) = txt (R L) := by
  show glued _ _ = _
  rw [glued_eq_join]
  obtain ⟨f, hG, hn⟩ := occ_tight (txt L) (txt p) (by rw [txt_len]; exact List.length_pos_iff.mpr hp)
  unfold Txt.split
  split
  · rename_i hc
    rw [Bool.or_eq_true, decide_eq_true_eq, decide_eq_true_eq] at hc
    have hlt : L.length < p.length := by
      rcases hc with h | h
      · rwa [txt_len, txt_len] at h
      · exact absurd h (kind_low h256 _)
    have := rep_free I hp L 0 (Nat.zero_le _) (fun k _ hx => by have := hx.length_le; rw [List.length_drop] at this; omega)
    rw [List.drop_zero] at this
    rw [this]
    rfl
  · split
    · rename_i he
      have e0 := List.isEmpty_iff.mp he
      rw [e0] at hG
      have := join_chain I hp L [] 0 f (Nat.zero_le _) hG hn
      rw [List.drop_zero] at this
      rw [← this]
      show txt L = strSub (txt L) 0 (txt L).length
      rw [sub_whole]
    · rw [partsBetween_eq]
      have := join_chain I hp L _ 0 f (Nat.zero_le _) hG hn
      rwa [List.drop_zero] at this
/-! the two kinds of pattern -/
def sub1 (c : Nat) (z : List Nat) (l : List Nat) : List Nat := l.flatMap fun a => if a = c then z else [a]
theorem sub1_rep (c : Nat) (z : List Nat) : IsRep [c] z (sub1 c z) where
  nil := rfl
  hit l := by simp [sub1]
  miss a l h := by
    have : ¬ a = c := fun e => h (by subst e; exact ⟨l, rfl⟩)
    simp [sub1, this]
def strike (x y : Nat) : List Nat → List Nat
  | a :: b :: r => if a = x ∧ b = y then strike x y r else a :: strike x y (b :: r)
  | l => l
theorem strike_rep (x y : Nat) : IsRep [x, y] [] (strike x y) where
  nil := rfl
  hit l := by simp [strike]
  miss a l h := by
    cases l with
    | nil => rfl
    | cons b r =>
      have : ¬ (a = x ∧ b = y) := fun ⟨e1, e2⟩ => h (by subst e1 e2; exact ⟨r, rfl⟩)
      simp [strike, this]
/-- how often -/
def cnt (x y : Nat) : List Nat → Nat
  | a :: b :: r => (if a = x ∧ b = y then 1 else 0) + cnt x y (b :: r)
  | _ => 0
theorem cnt_cons {x y a : Nat} (h : a ≠ x) : ∀ (l : List Nat), cnt x y (a :: l) = cnt x y l
  | [] => rfl
  | b :: r => by simp [cnt, h]
theorem strike_len {x y : Nat} (hxy : x ≠ y) : ∀ (l : List Nat), (strike x y l).length + 2 * cnt x y l = l.length
  | [] => rfl
  | [_] => rfl
  | a :: b :: r => by
    by_cases h : a = x ∧ b = y
    · have ih := strike_len hxy r
      obtain ⟨rfl, rfl⟩ := h
      have hc := cnt_cons (x := a) (y := b) (a := b) (fun e => hxy e.symm) r
      simp only [strike, cnt, and_self, if_true, List.length_cons, hc]
      omega
    · have ih := strike_len hxy (b :: r)
      simp only [strike, cnt, h, if_false, List.length_cons] at ih ⊢
      omega
theorem cnt_places (x y : Nat) : ∀ (l : List Nat), ((List.range l.length).filter fun k => (l.drop k).take 2 == [x, y]).length = cnt x y l
  | [] => rfl
  | [a] => by simp [List.range_succ, cnt]
  | a :: b :: r => by
    have ih := cnt_places x y (b :: r)
    rw [List.length_cons, List.range_succ_eq_map, List.filter_cons]
    have e : ((List.map Nat.succ (List.range (b :: r).length)).filter fun k => ((a :: b :: r).drop k).take 2 == [x, y]).length = cnt x y (b :: r) := by
      rw [← ih, List.filter_map, List.length_map]
      rfl
    show List.length (if _ then _ else _) = _
    by_cases h : a = x ∧ b = y
    · obtain ⟨rfl, rfl⟩ := h
      simp only [List.drop_zero, List.take_succ_cons, List.take_zero, beq_self_eq_true, if_true, List.length_cons, cnt, and_self]
      rw [← e]; simp; omega
    · have h' : ((List.take 2 (List.drop 0 (a :: b :: r))) == [x, y]) = false := by
        simpa using h
      rw [h']
      simp only [cnt, h, if_false, Bool.false_eq_true, Nat.zero_add]
      exact e
/-! by segments -/
theorem sub1_app (c : Nat) (z a b : List Nat) : sub1 c z (a ++ b) = sub1 c z a ++ sub1 c z b := by simp [sub1]
theorem strike_bar {x y : Nat} (hx : x ≠ 124) (hy : y ≠ 124) : ∀ (s t : List Nat), strike x y (s ++ 124 :: t) = strike x y s ++ 124 :: strike x y t
  | [], t => (strike_rep x y).miss 124 t (fun ⟨r, h⟩ => hx (by simpa using (List.cons.inj h).1))
  | [a], t => by
    have e : strike x y ([a] ++ 124 :: t) = a :: strike x y (124 :: t) := by
      have : ¬ (a = x ∧ 124 = y) := fun h => hy h.2.symm
      simp [strike, this]
    rw [e]
    exact congrArg (a :: ·) (strike_bar hx hy [] t)
  | a :: b :: r, t => by
    by_cases h : a = x ∧ b = y
    · obtain ⟨rfl, rfl⟩ := h
      have := strike_bar hx hy r t
      simpa [strike] using this
    · have := strike_bar hx hy (b :: r) t
      simp only [List.cons_append] at this
      simp only [List.cons_append, strike, h, if_false, this]
end Mine

end
section
open PySem
namespace Mine
open PySem.StrLaws PySem.Builtin PySem.Builtin.Str
/-- texts with bars between -/
def bars' : List (List Nat) → List Nat
  | [] => []
  | [x] => x
  | x :: r => x ++ 124 :: bars' r
theorem bars_sub1 {c : Nat} (hc : c ≠ 124) (z : List Nat) : ∀ (ls : List (List Nat)), sub1 c z (bars' ls) = bars' (ls.map (sub1 c z))
  | [] => rfl
  | [x] => rfl
  | x :: y :: r => by
    show sub1 c z (x ++ 124 :: bars' (y :: r)) = sub1 c z x ++ 124 :: bars' ((y :: r).map (sub1 c z))
    rw [← bars_sub1 hc z (y :: r), sub1_app]
    have : ¬ 124 = c := fun e => hc e.symm
    simp [sub1, this]
theorem bars_strike {x y : Nat} (hx : x ≠ 124) (hy : y ≠ 124) : ∀ (ls : List (List Nat)), strike x y (bars' ls) = bars' (ls.map (strike x y))
  | [] => rfl
  | [_] => rfl
  | a :: b :: r => by
    show strike x y (a ++ 124 :: bars' (b :: r)) = strike x y a ++ 124 :: bars' ((b :: r).map (strike x y))
    rw [← bars_strike hx hy (b :: r), strike_bar hx hy]
theorem sub1_len {c a b : Nat} : ∀ (l : List Nat), (sub1 c [a, b] l).length ≤ 2 * l.length
  | [] => Nat.zero_le _
  | d :: r => by
    have ih := sub1_len (c := c) (a := a) (b := b) r
    have e : sub1 c [a, b] (d :: r) = (if d = c then [a, b] else [d]) ++ sub1 c [a, b] r := rfl
    rw [e, List.length_append, List.length_cons]
    split
    · simp only [List.length_cons, List.length_nil]; omega
    · simp only [List.length_cons, List.length_nil]; omega
theorem strike_le (x y : Nat) : ∀ (l : List Nat), (strike x y l).length ≤ l.length
  | [] => Nat.le_refl _
  | [_] => Nat.le_refl _
  | a :: b :: r => by
    have h1 := strike_le x y r
    have h2 := strike_le x y (b :: r)
    simp only [strike]
    split
    · simp only [List.length_cons]; omega
    · simp only [List.length_cons] at h2 ⊢; omega
theorem step_ok {L p z : List Nat} (hp : p ≠ []) (hz : z.length ≤ 2) (hL : L.length ≤ 4000) : StepOk (txt L) (txt p) (txt z) := by
  refine ⟨?_, ?_, ?_⟩
  · rw [txt_len]
    simpa using hp
  · rw [txt_len, sizeLine_eq]; omega
  · refine PyProof.Rows.joinOk_of ?_
    have h1 := sumLen_le (Txt.split (txt L) (txt p)) (fun y hy => PyProof.Rows.part_short hy)
    have h2 : (Txt.split (txt L) (txt p)).length ≤ 4002 := by
      unfold Txt.split
      split
      · simp
      · split
        · simp
        · rw [length_partsBetween]
          have := occ_length_le (txt L) (txt p) 0 (txt L).length ((txt L).length + 1)
          rw [txt_len] at this ⊢
          omega
    rw [txt_len] at h1 ⊢
    have h3 : (Txt.split (txt L) (txt p)).length * L.length ≤ 4002 * 4000 := Nat.mul_le_mul h2 hL
    have h4 : (Txt.split (txt L) (txt p)).length * z.length ≤ 4002 * 2 := Nat.mul_le_mul h2 hz
    omega
/-- a step of replace -/
theorem repl_step {L p z : List Nat} {R : List Nat → List Nat} {r : List Str} (I : IsRep p z R) (hp : p ≠ []) (h256 : ∀ c ∈ p, c < 256) : repl (txt L) (txt p :: txt z :: r) = repl (txt (R L)) r := by
  show repl (Txt.join _ _) r = _
  rw [rep_txt I hp h256]
theorem rok_step {L p z : List Nat} {R : List Nat → List Nat} {r : List Str} (I : IsRep p z R) (hp : p ≠ []) (h256 : ∀ c ∈ p, c < 256) (hz : z.length ≤ 2) (hL : L.length ≤ 4000) (h : ROk (txt (R L)) r) : ROk (txt L) (txt p :: txt z :: r) := by
  refine ⟨step_ok hp hz hL, ?_⟩
  rw [rep_txt I hp h256]
  exact h
theorem Lw.lt {c : Nat} (h : Lw c) : c < 256 := by rcases h with rfl | rfl | rfl | rfl <;> decide
theorem Lw.ne {c : Nat} (h : Lw c) : c ≠ 124 := by rcases h with rfl | rfl | rfl | rfl <;> decide
/-- both: what a step yields, and that it is in order -/
structure Both (x : Str) (l : List Str) (y : Str) : Prop where
  ok : ROk x l
  eq : repl x l = y
theorem both_nil (x : Str) : Both x [] x := ⟨trivial, rfl⟩
theorem both_sub {ls : List (List Nat)} {c a b : Nat} {r : List Str} {y : Str} (hc : Lw c) (hL : (bars' ls).length ≤ 4000) (h : Both (txt (bars' (ls.map (sub1 c [a, b])))) r y) : Both (txt (bars' ls)) (txt [c] :: txt [a, b] :: r) y := by
  have e := bars_sub1 (Lw.ne hc) [a, b] ls
  have h256 : ∀ d ∈ [c], d < 256 := fun d hd => by rw [List.mem_singleton.mp hd]; exact Lw.lt hc
  refine ⟨rok_step (sub1_rep c [a, b]) (List.cons_ne_nil _ _) h256 (by simp) hL (by rw [e]; exact h.ok), ?_⟩
  rw [repl_step (sub1_rep c [a, b]) (List.cons_ne_nil _ _) h256, e]
  exact h.eq
theorem both_strike {ls : List (List Nat)} {a b : Nat} {r : List Str} {y : Str} (ha : Lw a) (hb : Lw b) (hL : (bars' ls).length ≤ 4000) (h : Both (txt (bars' (ls.map (strike a b)))) r y) : Both (txt (bars' ls)) (txt [a, b] :: txt [] :: r) y := by
  have e := bars_strike (Lw.ne ha) (Lw.ne hb) ls
  have h256 : ∀ d ∈ [a, b], d < 256 := fun d hd => by
    rcases List.mem_cons.mp hd with rfl | hd
    · exact Lw.lt ha
    · rw [List.mem_singleton.mp hd]; exact Lw.lt hb
  refine ⟨rok_step (strike_rep a b) (List.cons_ne_nil _ _) h256 (by simp) hL (by rw [e]; exact h.ok), ?_⟩
  rw [repl_step (strike_rep a b) (List.cons_ne_nil _ _) h256, e]
  exact h.eq
/-! rounds -/
def strikeAll (ps : List Nat) (l : List Nat) : List Nat := ps.foldl (fun l p => strike p (inv p) l) l
def rounds : Nat → List Nat → List Nat → List Nat
  | 0, _, l => l
  | n + 1, ps, l => rounds n ps (strikeAll ps l)
def pairTexts (ps : List Nat) : List Str := ps.flatMap fun p => [txt [p, inv p], txt []]
theorem inv_lw {c : Nat} (h : Lw c) : Lw (inv c) := by rcases h with rfl | rfl | rfl | rfl <;> simp [inv, Lw]
theorem both_all : ∀ (ps : List Nat) (ls : List (List Nat)) (r : List Str) (y : Str), (∀ p ∈ ps, Lw p) → (bars' ls).length ≤ 4000 → Both (txt (bars' (ls.map (strikeAll ps)))) r y → Both (txt (bars' ls)) (pairTexts ps ++ r) y
  | [], ls, r, y, _, _, h => by
    have e : ls.map (strikeAll []) = ls := List.map_id' ls
    rw [e] at h
    exact h
  | p :: ps, ls, r, y, hp, hL, h => by
    refine both_strike (hp p (.head _)) (inv_lw (hp p (.head _))) hL ?_
    refine both_all ps _ r y (fun q hq => hp q (.tail _ hq)) ?_ ?_
    · rw [← bars_strike (Lw.ne (hp p (.head _))) (Lw.ne (inv_lw (hp p (.head _))))]
      exact Nat.le_trans (strike_le _ _ _) hL
    · rw [List.map_map]
      exact h
theorem bars_all : ∀ (ps : List Nat) (ls : List (List Nat)), (∀ p ∈ ps, Lw p) → (bars' (ls.map (strikeAll ps))).length ≤ (bars' ls).length
  | [], ls, _ => by
    have e : ls.map (strikeAll []) = ls := List.map_id' ls
    rw [e]
    exact Nat.le_refl _
  | p :: ps, ls, hp => by
    have h1 := bars_all ps (ls.map (strike p (inv p))) (fun q hq => hp q (.tail _ hq))
    have h2 := strike_le p (inv p) (bars' ls)
    rw [bars_strike (Lw.ne (hp p (.head _))) (Lw.ne (inv_lw (hp p (.head _))))] at h2
    rw [List.map_map] at h1
    exact Nat.le_trans h1 h2
theorem both_rounds {ps : List Nat} (hp : ∀ p ∈ ps, Lw p) : ∀ (n : Nat) (ls : List (List Nat)), (bars' ls).length ≤ 4000 → Both (txt (bars' ls)) (List.replicate n (pairTexts ps)).flatten (txt (bars' (ls.map (rounds n ps))))
  | 0, ls, _ => by
    have e : ls.map (rounds 0 ps) = ls := List.map_id' ls
    rw [e]
    exact both_nil _
  | n + 1, ls, hL => by
    rw [List.replicate_succ, List.flatten_cons]
    refine both_all ps ls _ _ hp hL ?_
    have ih := both_rounds hp n (ls.map (strikeAll ps)) (Nat.le_trans (bars_all ps ls hp) hL)
    rw [List.map_map] at ih
    exact ih
def moveS (m : Mv) (l : List Nat) : List Nat := sub1 m.back [m.u1, m.u2] (sub1 m.one [m.p1, m.p2] l)
def mvT (m : Mv) : List Str := [txt [m.one], txt [m.p1, m.p2], txt [m.back], txt [m.u1, m.u2]]
/-- the letter of each side is a letter -/
structure MvOk (m : Mv) : Prop where
  a : Lw m.one
  b : Lw m.p1
  c : Lw m.p2
  d : Lw m.back
  e : Lw m.u1
  f : Lw m.u2
theorem mv_ok (k : Nat) : MvOk (mvOf k) := by
  have : ∀ k, mvOf k = mvOf 0 ∨ mvOf k = mvOf 1 ∨ mvOf k = mvOf 2 ∨ mvOf k = mvOf 3 ∨ mvOf k = mvOf 4 ∨ mvOf k = mvOf 5 ∨ mvOf k = mvOf 6 ∨ mvOf k = mvOf 7 := by
    intro k
    match k with
    | 0 | 1 | 2 | 3 | 4 | 5 | 6 => simp
    | n + 7 => exact .inr (.inr (.inr (.inr (.inr (.inr (.inr rfl))))))
  rcases this k with h | h | h | h | h | h | h | h <;> rw [h] <;> constructor <;> simp [mvOf, Lw]
/-- what the long call yields -/
theorem both_full {ps : List Nat} (hp : ∀ p ∈ ps, Lw p) {m1 m2 : Mv} (h1 : MvOk m1) (h2 : MvOk m2) (n : Nat) (ls : List (List Nat)) (hL : (bars' ls).length ≤ 240) :
    Both (txt (bars' ls)) (mvT m1 ++ (mvT m2 ++ (List.replicate n (pairTexts ps)).flatten)) (txt (bars' (ls.map fun l => rounds n ps (moveS m2 (moveS m1 l))))) := by
  have g1 := sub1_len (c := m1.one) (a := m1.p1) (b := m1.p2) (bars' ls)
  rw [bars_sub1 (Lw.ne h1.a)] at g1
  have g2 := sub1_len (c := m1.back) (a := m1.u1) (b := m1.u2) (bars' (ls.map (sub1 m1.one [m1.p1, m1.p2])))
  rw [bars_sub1 (Lw.ne h1.d)] at g2
  have g3 := sub1_len (c := m2.one) (a := m2.p1) (b := m2.p2) (bars' ((ls.map (sub1 m1.one [m1.p1, m1.p2])).map (sub1 m1.back [m1.u1, m1.u2])))
  rw [bars_sub1 (Lw.ne h2.a)] at g3
  have g4 := sub1_len (c := m2.back) (a := m2.u1) (b := m2.u2) (bars' (((ls.map (sub1 m1.one [m1.p1, m1.p2])).map (sub1 m1.back [m1.u1, m1.u2])).map (sub1 m2.one [m2.p1, m2.p2])))
  rw [bars_sub1 (Lw.ne h2.d)] at g4
  refine both_sub h1.a (by omega) (both_sub h1.d (by omega) (both_sub h2.a (by omega) (both_sub h2.d (by omega) ?_)))
  have := both_rounds hp n ((((ls.map (sub1 m1.one [m1.p1, m1.p2])).map (sub1 m1.back [m1.u1, m1.u2])).map (sub1 m2.one [m2.p1, m2.p2])).map (sub1 m2.back [m2.u1, m2.u2])) (by omega)
  simp only [List.map_map] at this ⊢
  exact this
end Mine

end
section
open PySem
namespace Mine
theorem mmul_assoc (x y z : M4) : mmul (mmul x y) z = mmul x (mmul y z) := by
  obtain ⟨a, b, c, d⟩ := x
  obtain ⟨e, f, g, h⟩ := y
  obtain ⟨i, j, k, l⟩ := z
  simp only [mmul]
  refine Prod.ext ?_ (Prod.ext ?_ (Prod.ext ?_ ?_)) <;> dsimp only <;> grind
theorem mmul_one_l (x : M4) : mmul m1 x = x := by
  obtain ⟨a, b, c, d⟩ := x
  simp [mmul, m1]
theorem mmul_one_r (x : M4) : mmul x m1 = x := by
  obtain ⟨a, b, c, d⟩ := x
  simp [mmul, m1]
theorem mu_app : ∀ (u v : List Nat), mu (u ++ v) = mmul (mu u) (mu v)
  | [], v => (mmul_one_l _).symm
  | c :: r, v => by
    show mmul (letM c) (mu (r ++ v)) = mmul (mmul (letM c) (mu r)) (mu v)
    rw [mu_app r v, mmul_assoc]
theorem letM_inv {a : Nat} (h : Lw a) : mmul (letM a) (letM (inv a)) = m1 := by rcases h with rfl | rfl | rfl | rfl <;> decide
theorem mu_pair {a : Nat} (h : Lw a) (r : List Nat) : mu (a :: inv a :: r) = mu r := by
  show mmul (letM a) (mmul (letM (inv a)) (mu r)) = mu r
  rw [← mmul_assoc, letM_inv h, mmul_one_l]
theorem strike_mu {a : Nat} (h : Lw a) : ∀ (l : List Nat), mu (strike a (inv a) l) = mu l
  | [] => rfl
  | [_] => rfl
  | x :: y :: r => by
    by_cases e : x = a ∧ y = inv a
    · obtain ⟨rfl, rfl⟩ := e
      have ih := strike_mu h r
      simp only [strike, and_self, if_true, ih, mu_pair h]
    · have ih := strike_mu h (y :: r)
      simp only [strike, e, if_false]
      show mmul (letM x) (mu (strike a (inv a) (y :: r))) = mmul (letM x) (mu (y :: r))
      rw [ih]
theorem strike_mem (x y : Nat) : ∀ (l : List Nat) (c : Nat), c ∈ strike x y l → c ∈ l
  | [], _, h => h
  | [_], _, h => h
  | a :: b :: r, c, h => by
    simp only [strike] at h
    split at h
    · exact .tail _ (.tail _ (strike_mem x y r c h))
    · rcases List.mem_cons.mp h with rfl | h
      · exact .head _
      · exact .tail _ (strike_mem x y (b :: r) c h)
theorem all_mu : ∀ (ps l : List Nat), (∀ p ∈ ps, Lw p) → mu (strikeAll ps l) = mu l
  | [], _, _ => rfl
  | p :: ps, l, h => by
    show mu (strikeAll ps (strike p (inv p) l)) = mu l
    rw [all_mu ps _ (fun q hq => h q (.tail _ hq)), strike_mu (h p (.head _))]
theorem all_wd : ∀ (ps l : List Nat), Wd l → Wd (strikeAll ps l)
  | [], _, h => h
  | p :: ps, l, h => all_wd ps _ fun c hc => h c (strike_mem _ _ l c hc)
theorem all_len : ∀ (ps l : List Nat), (strikeAll ps l).length ≤ l.length
  | [], _ => Nat.le_refl _
  | p :: ps, l => Nat.le_trans (all_len ps (strike p (inv p) l)) (strike_le _ _ l)
theorem rounds_mu {ps : List Nat} (h : ∀ p ∈ ps, Lw p) : ∀ (n : Nat) (l : List Nat), mu (rounds n ps l) = mu l
  | 0, _ => rfl
  | n + 1, l => by
    show mu (rounds n ps (strikeAll ps l)) = mu l
    rw [rounds_mu h n, all_mu ps l h]
theorem rounds_wd {ps : List Nat} : ∀ (n : Nat) (l : List Nat), Wd l → Wd (rounds n ps l)
  | 0, _, h => h
  | n + 1, l, h => rounds_wd n _ (all_wd ps l h)
theorem rounds_len {ps : List Nat} : ∀ (n : Nat) (l : List Nat), (rounds n ps l).length ≤ l.length
  | 0, _ => Nat.le_refl _
  | n + 1, l => Nat.le_trans (rounds_len n (strikeAll ps l)) (all_len ps l)
theorem strike_id {x y : Nat} : ∀ (l : List Nat), cnt x y l = 0 → strike x y l = l
  | [], _ => rfl
  | [_], _ => rfl
  | a :: b :: r, h => by
    simp only [cnt] at h
    by_cases e : a = x ∧ b = y
    · rw [if_pos e] at h; omega
    · rw [if_neg e, Nat.zero_add] at h
      simp only [strike, e, if_false]
      rw [strike_id (b :: r) h]
theorem all_either : ∀ (ps l : List Nat), (∀ p ∈ ps, Lw p) → (strikeAll ps l = l ∧ ∀ p ∈ ps, cnt p (inv p) l = 0) ∨ (strikeAll ps l).length + 2 ≤ l.length
  | [], l, _ => .inl ⟨rfl, fun _ h => nomatch h⟩
  | p :: ps, l, h => by
    have hl := strike_len (inv_ne' (h p (.head _))) l
    by_cases hc : cnt p (inv p) l = 0
    · have e := strike_id l hc
      have e2 : strikeAll (p :: ps) l = strikeAll ps l := by show strikeAll ps (strike p (inv p) l) = _; rw [e]
      rw [e2]
      rcases all_either ps l (fun q hq => h q (.tail _ hq)) with ⟨h1, h2⟩ | h1
      · exact .inl ⟨h1, List.forall_mem_cons.mpr ⟨hc, h2⟩⟩
      · exact .inr h1
    · have h2 := all_len ps (strike p (inv p) l)
      refine .inr ?_
      show (strikeAll ps (strike p (inv p) l)).length + 2 ≤ _
      omega
where inv_ne' {a : Nat} (h : Lw a) : a ≠ inv a := by rcases h with rfl | rfl | rfl | rfl <;> decide
theorem red_of : ∀ (l : List Nat), Wd l → (∀ a, Lw a → cnt a (inv a) l = 0) → Red l
  | [], _, _ => trivial
  | [_], _, _ => trivial
  | a :: b :: r, hw, h => by
    refine ⟨fun e => ?_, red_of (b :: r) (fun c hc => hw c (.tail _ hc)) fun c hc => ?_⟩
    · have := h a (hw a (.head _))
      simp only [cnt, e, and_self, if_true] at this
      omega
    · have := h c hc
      simp only [cnt] at this
      omega
theorem red_cnt {x : Nat} : ∀ (l : List Nat), Red l → cnt x (inv x) l = 0
  | [], _ => rfl
  | [_], _ => rfl
  | a :: b :: r, h => by
    have e : ¬ (a = x ∧ b = inv x) := fun ⟨e1, e2⟩ => h.1 (by rw [e2, e1])
    simp only [cnt, e, if_false, Nat.zero_add]
    exact red_cnt (b :: r) h.2
theorem all_red : ∀ (ps l : List Nat), Red l → strikeAll ps l = l
  | [], _, _ => rfl
  | p :: ps, l, h => by
    show strikeAll ps (strike p (inv p) l) = l
    rw [strike_id l (red_cnt l h), all_red ps l h]
theorem rounds_id {ps : List Nat} : ∀ (n : Nat) (l : List Nat), Red l → rounds n ps l = l
  | 0, _, _ => rfl
  | n + 1, l, h => by
    show rounds n ps (strikeAll ps l) = l
    rw [all_red ps l h, rounds_id n l h]
theorem rounds_red {ps : List Nat} (hp : ∀ p ∈ ps, Lw p) (ha : ∀ a, Lw a → a ∈ ps) : ∀ (n : Nat) (l : List Nat), l.length ≤ 2 * n + 1 → Wd l → Red (rounds n ps l)
  | 0, l, h, _ => by
    match l, h with
    | [], _ => exact trivial
    | [_], _ => exact trivial
    | _ :: _ :: _, h => simp at h
  | n + 1, l, h, hw => by
    show Red (rounds n ps (strikeAll ps l))
    rcases all_either ps l hp with ⟨h1, h2⟩ | h1
    · have hr := red_of l hw fun a h => h2 a (ha a h)
      rw [h1, rounds_id n l hr]
      exact hr
    · exact rounds_red hp ha n _ (by omega) (all_wd ps l hw)
/-! the two moves, one upon the other -/
def img (m1 m2 : Mv) (l : List Nat) : List Nat := moveS m2 (moveS m1 l)
theorem sub1_nil (c : Nat) (z : List Nat) : sub1 c z [] = [] := rfl
theorem moveS_app (m : Mv) (u v : List Nat) : moveS m (u ++ v) = moveS m u ++ moveS m v := by unfold moveS; rw [sub1_app, sub1_app]
theorem img_app (m1 m2 : Mv) (u v : List Nat) : img m1 m2 (u ++ v) = img m1 m2 u ++ img m1 m2 v := by unfold img; rw [moveS_app, moveS_app]
def tabF (m1 m2 : Mv) : Nat → M4 := tstep (tstep letM m2.one m2.p1 m2.p2 m2.back m2.u1 m2.u2) m1.one m1.p1 m1.p2 m1.back m1.u1 m1.u2
def okLetter (m1 m2 : Mv) (c : Nat) : Bool := decide (tabF m1 m2 c = mu (img m1 m2 [c])) && decide ((img m1 m2 [c]).length ≤ 3) && (img m1 m2 [c]).all (fun d => d == 97 || d == 65 || d == 98 || d == 66)
def okBits (m : Mv) (c : Nat) : Bool := let x := tstep letM m.one m.p1 m.p2 m.back m.u1 m.u2 c; decide (x.1.natAbs ≤ 100) && decide (x.2.1.natAbs ≤ 100) && decide (x.2.2.1.natAbs ≤ 100) && decide (x.2.2.2.natAbs ≤ 100)
theorem all_ok : ((List.range 8).all fun i => (List.range 8).all fun j => [97, 65, 98, 66].all fun c => okLetter (mvOf i) (mvOf j) c) = true := by decide +kernel
theorem all_bits : ((List.range 8).all fun i => [97, 65, 98, 66].all fun c => okBits (mvOf i) c) = true := by decide +kernel
theorem mv_low (k : Nat) : ∃ i, i < 8 ∧ mvOf k = mvOf i := by
  match k with
  | 0 => exact ⟨0, by decide, rfl⟩
  | 1 => exact ⟨1, by decide, rfl⟩
  | 2 => exact ⟨2, by decide, rfl⟩
  | 3 => exact ⟨3, by decide, rfl⟩
  | 4 => exact ⟨4, by decide, rfl⟩
  | 5 => exact ⟨5, by decide, rfl⟩
  | 6 => exact ⟨6, by decide, rfl⟩
  | n + 7 => exact ⟨7, by decide, rfl⟩
theorem lw_mem {c : Nat} (h : Lw c) : c ∈ [97, 65, 98, 66] := by rcases h with rfl | rfl | rfl | rfl <;> simp
theorem letter_ok (k j : Nat) {c : Nat} (h : Lw c) : okLetter (mvOf k) (mvOf j) c = true := by
  obtain ⟨a, ha, e1⟩ := mv_low k
  obtain ⟨b, hb, e2⟩ := mv_low j
  rw [e1, e2]
  have := List.all_eq_true.mp all_ok a (List.mem_range.mpr ha)
  have := List.all_eq_true.mp this b (List.mem_range.mpr hb)
  exact List.all_eq_true.mp this c (lw_mem h)
theorem small_of {x : Int} (h : x.natAbs ≤ 100) : Small x := by
  have h1 : x.natAbs < 2 ^ 7 := Nat.lt_of_le_of_lt h (by decide)
  have h2 : Builtin.Int.intBits x ≤ 7 := intBits_le_iff.mpr h1
  exact Nat.le_trans h2 (by decide)
theorem small_step (k : Nat) : SmallF (tstep letM (mvOf k).one (mvOf k).p1 (mvOf k).p2 (mvOf k).back (mvOf k).u1 (mvOf k).u2) := by
  refine ⟨fun {c} h => ?_⟩
  obtain ⟨a, ha, e1⟩ := mv_low k
  rw [e1]
  have := List.all_eq_true.mp all_bits a (List.mem_range.mpr ha)
  have := List.all_eq_true.mp this c (lw_mem h)
  simp only [okBits, Bool.and_eq_true, decide_eq_true_eq] at this
  exact ⟨small_of this.1.1.1, small_of this.1.1.2, small_of this.1.2, small_of this.2⟩
section
variable (k j : Nat)
theorem img_letter {c : Nat} (h : Lw c) : tabF (mvOf k) (mvOf j) c = mu (img (mvOf k) (mvOf j) [c]) ∧ (img (mvOf k) (mvOf j) [c]).length ≤ 3 ∧ Wd (img (mvOf k) (mvOf j) [c]) := by
  have := letter_ok k j h
  simp only [okLetter, Bool.and_eq_true, decide_eq_true_eq] at this
  refine ⟨this.1.1, this.1.2, fun d hd => ?_⟩
  have := List.all_eq_true.mp this.2 d hd
  simp only [Bool.or_eq_true, beq_iff_eq] at this
  rcases this with ((h | h) | h) | h
  · exact .inl h
  · exact .inr (.inl h)
  · exact .inr (.inr (.inl h))
  · exact .inr (.inr (.inr h))
theorem img_nil : img (mvOf k) (mvOf j) [] = [] := rfl
theorem img_facts : ∀ (u : List Nat), Wd u → (img (mvOf k) (mvOf j) u).length ≤ 3 * u.length ∧ Wd (img (mvOf k) (mvOf j) u)
  | [], _ => ⟨Nat.zero_le _, fun _ h => nomatch h⟩
  | c :: r, h => by
    have ih := img_facts r fun d hd => h d (.tail _ hd)
    have hl := img_letter k j (h c (.head _))
    have e : img (mvOf k) (mvOf j) (c :: r) = img (mvOf k) (mvOf j) [c] ++ img (mvOf k) (mvOf j) r := img_app _ _ [c] r
    rw [e, List.length_append, List.length_cons]
    refine ⟨by omega, fun d hd => ?_⟩
    rcases List.mem_append.mp hd with hd | hd
    · exact hl.2.2 d hd
    · exact ih.2 d hd
/-- a letter more -/
theorem img_snoc (u : List Nat) {c : Nat} (h : Lw c) : mu (img (mvOf k) (mvOf j) (u ++ [c])) = mmul (mu (img (mvOf k) (mvOf j) u)) (tabF (mvOf k) (mvOf j) c) := by
  rw [img_app, mu_app, (img_letter k j h).1]
end
/-- what is left of a beginning -/
def left (n : Nat) (ps : List Nat) (k j : Nat) (u : List Nat) : List Nat := rounds n ps (img (mvOf k) (mvOf j) u)
theorem left_at {n : Nat} {ps : List Nat} (hp : ∀ p ∈ ps, Lw p) (ha : ∀ a, Lw a → a ∈ ps) (k j : Nat) {u : List Nat} (hu : Wd u) (hn : 3 * u.length ≤ 2 * n + 1) {p q r s : Int} (hm : mu (img (mvOf k) (mvOf j) u) = (p, q, r, s)) :
    At p q r s (left n ps k j u) ∧ (left n ps k j u).length ≤ 3 * u.length := by
  have hf := img_facts k j u hu
  refine ⟨⟨rounds_wd n _ hf.2, rounds_red hp ha n _ (by omega) hf.2, by rw [left, rounds_mu hp, hm]⟩, Nat.le_trans (rounds_len n _) hf.1⟩
end Mine

end
section
open PySem PySem.W PySem.Calls PyProof.Rows
namespace Mine
def codeOf (x : Int) : Nat := if x.fmod 4 = 0 then 97 else if x.fmod 4 = 1 then 65 else if x.fmod 4 = 2 then 98 else 66
/-- the word's letters -/
def wl (ns : List Int) : List Nat := (ns.take 6 ++ [0, 2, 2, 3, 3, 1, 2, 1]).map codeOf
theorem wl_len (ns : List Int) : (wl ns).length ≤ 14 ∧ 8 ≤ (wl ns).length := by
  unfold wl
  simp only [List.length_map, List.length_append, List.length_take, List.length_cons, List.length_nil]
  omega
theorem code_lw (x : Int) : Lw (codeOf x) := by
  unfold codeOf Lw
  split
  · simp
  · split
    · simp
    · split <;> simp
theorem wl_wd (ns : List Int) : Wd (wl ns) := by
  intro c hc
  obtain ⟨x, -, rfl⟩ := List.mem_map.mp hc
  exact code_lw x
theorem item_code (x : Int) : Txt.item (Str.ofString "aAbB") (x.fmod 4) = txt [codeOf x] := by
  have h0 : 0 ≤ x.fmod 4 := Int.fmod_nonneg_of_pos x (by decide)
  have h4 : x.fmod 4 < 4 := Int.fmod_lt_of_pos x (by decide)
  unfold codeOf
  generalize x.fmod 4 = y at h0 h4
  obtain rfl | rfl | rfl | rfl : y = 0 ∨ y = 1 ∨ y = 2 ∨ y = 3 := by omega
  all_goals decide +kernel
theorem join_nil_one (l : List Nat) : Txt.join (Str.ofString "") (l.map fun c => txt [c]) = txt l := by
  show Builtin.Str.glued _ _ = _
  rw [StrLaws.glued_eq_join]
  have e : Str.ofString "" = txt [] := by decide +kernel
  rw [e]
  induction l with
  | nil => rfl
  | cons a r ih =>
    cases r with
    | nil => rfl
    | cons b t =>
      show txt [a] ++ txt [] ++ Str.join (txt []) ((b :: t).map fun c => txt [c]) = _
      rw [ih, txt_app, txt_app]
      rfl
section
variable {prog : Program} {w : World} {A : Around} {E : Value → Shared → Prop} {s : Shared} {h₀ : Heap} {L l : Addr} {m : Str → Option Value} {news : Led} {value slice : Expr} {v0 v1 v2 v3 v4 v5 v6 v7 : Value} {n : Nat} {u : Tok} {ops : List Value} {Q : Value → Shared → Prop}
theorem sl_by2 (F : Fr h₀ L s.heap m) (N : News h₀ L s.heap news) (hm : (l, W.listOf #[v0, v1, v2, v3, v4, v5, v6, v7] n) ∈ news)
    (h : ∀ D h', Fr h₀ L h' m → News h₀ L h' ((D, W.listOf #[v0, v2, v4, v6] 0) :: news) → (∀ p ∈ news, p.1 < D) → Q (.ref D) { s with heap := h' })
    (hs : subscripted slice false (.ref l) (.ref s.heap.objs.size) = operate ops (getItem (.ref l) (.ref s.heap.objs.size))) (ht : ∀ r, letTemporaryGo value (.ref l) r = pure ()) :
    wpAny (model prog w) A (subscriptTail value slice (.ref l) (.ref s.heap.objs.size)) Q E { s with heap := s.heap.push { cls := .type "slice", data := .fields #[.none, .none, .int 2 u] } } := by
  refine slice_list3 F N (News.isList N hm) .none .none (IsPart.int 2 u) (by decide) (fun h' F' N' => h _ h' F' ?_ fun p hp => Nat.lt_succ_of_lt (Heap.lt_size (N p hp).1)) hs ht (Nat.le_of_ble_eq_true rfl)
  have e2 : slicePick #[v0, v1, v2, v3, v4, v5, v6, v7] none none (some 2) = #[v0, v2, v4, v6] := by
    unfold slicePick
    have e : sliceBounds none none (some 2) (#[v0, v1, v2, v3, v4, v5, v6, v7] : Array Value).size = (0, 8, 2) := by rfl
    rw [e]
    have e3 : sliceRange 0 8 2 = [0, 2, 4, 6] := by decide +kernel
    simp only [e3]
    rfl
  rw [e2] at N'
  exact N'
end
theorem news_headDrop {h₀ h : Heap} {L : Addr} {p : Addr × Obj} {l : Led} (n : Nat) (N : News h₀ L h (p :: l)) : News h₀ L h (p :: l.drop n) := fun q hq => N q (by
  rcases List.mem_cons.mp hq with rfl | hq
  · exact .head _
  · exact .tail _ (List.mem_of_mem_drop hq))
/-- the four pairs, in some order -/
structure Four (x1 x2 x3 x4 : Str) : Prop where
  all : ∀ y, y ∈ [Str.ofString "aA", Str.ofString "Aa", Str.ofString "bB", Str.ofString "Bb"] ↔ y ∈ [x1, x2, x3, x4]
theorem four_of {a b c d x1 x2 x3 x4 : Str} {ta tb tc td t1 t2 t3 t4 : Tok} {r1 r2 r3 r4 : List (Str × Tok)} (p1 : [(a, ta), (b, tb), (c, tc), (d, td)].Perm ((x1, t1) :: r1)) (p2 : r1.Perm ((x2, t2) :: r2)) (p3 : r2.Perm ((x3, t3) :: r3)) (p4 : r3.Perm ((x4, t4) :: r4)) :
    ∀ y, y ∈ [a, b, c, d] ↔ y ∈ [x1, x2, x3, x4] := by
  have h := p1.trans ((p2.trans ((p3.trans (p4.cons (x3, t3))).cons (x2, t2))).cons (x1, t1))
  have hl := h.length_eq
  have hr : r4 = [] := List.length_eq_zero_iff.mp (by simpa using hl)
  subst hr
  have hm := h.map (·.1)
  intro y
  exact hm.mem_iff
structure IsTxt (x : Str) (l : List Nat) : Prop where
  h : x = txt l
theorem IsTxt.len {x : Str} {ns : List Int} (h : IsTxt x (wl ns)) : 8 ≤ x.length ∧ x.length ≤ 14 := by
  obtain ⟨rfl⟩ := h
  rw [txt_len]
  exact (wl_len ns).symm
theorem cut_at : ∀ (l : List (Str × Tok)) (k : Nat) (hk : k < l.length), kl_cut (strValues l) k = some (strValues (l.take k), .str (l[k]).1 (l[k]).2, strValues (l.drop (k + 1)))
  | [], _, hk => absurd hk (Nat.not_lt_zero _)
  | (x, t) :: r, 0, _ => rfl
  | (x, t) :: r, k + 1, hk => by
    have ih := cut_at r k (Nat.lt_of_succ_lt_succ hk)
    show (match kl_cut (strValues r) k with | some (p, y, q) => some (Value.str x t :: p, y, q) | none => none) = _
    rw [ih]
    rfl
theorem strValues_app (a b : List (Str × Tok)) : strValues (a ++ b) = strValues a ++ strValues b := by
  induction a with
  | nil => rfl
  | cons p r ih => obtain ⟨x, t⟩ := p; exact congrArg (Value.str x t :: ·) ih
theorem strValues_len (a : List (Str × Tok)) : (strValues a).length = a.length := by
  induction a with
  | nil => rfl
  | cons p r ih => obtain ⟨x, t⟩ := p; exact congrArg (· + 1) ih
theorem news_ne {h₀ h : Heap} {L a b : Addr} {o o' : Obj} {news : Led} (N : News h₀ L h news) (hp : (a, o) ∈ news) (hq : (b, o') ∈ news) (hne : o.cls ≠ o'.cls) : a ≠ b := by
  intro e
  subst e
  have h1 := (N _ hp).1
  have h2 := (N _ hq).1
  dsimp only at h1 h2
  rw [h1] at h2
  exact hne (congrArg Obj.cls (Option.some.inj h2))
theorem updF_upd {d : Addr} {o o' : Obj} : ∀ {l : Led} {g : Obj → Led}, UpdF d o l g → Upd d o o' l (g o')
  | _, _, .head h => .head h
  | _, _, .tail h r => .tail h (updF_upd r)
theorem perm_at : ∀ (l : List (Str × Tok)) (k : Nat) (hk : k < l.length), l.Perm (l[k] :: (l.take k ++ l.drop (k + 1)))
  | [], _, hk => absurd hk (Nat.not_lt_zero _)
  | a :: r, 0, _ => List.Perm.refl _
  | a :: r, k + 1, hk => by
    have ih := perm_at r k (Nat.lt_of_succ_lt_succ hk)
    exact (ih.cons a).trans (List.Perm.swap _ _ _)
section
variable {prog : Program} {w : World} {A : Around} {E : Value → Shared → Prop} {s : Shared} {P L : Addr} {h₀ : Heap} {m : Str → Option Value} {news : Led} {g : Obj → Led} {n : Nat} {i : Int} {u : Tok} {Q : Value → Shared → Prop}
/-- a text taken out of a list of texts, wherever it stands -/
theorem pop_any (l : List (Str × Tok)) (F : Fr h₀ L s.heap m) (N : News h₀ L s.heap news) (U : UpdF P (W.listOf (strValues l).toArray n) news g)
    (h0 : 0 ≤ i) (h1 : i < (l.length : Int)) (hz : l.length ≤ 100)
    (h : ∀ x t r h', l.Perm ((x, t) :: r) → r.length + 1 = l.length → Fr h₀ L h' m → News h₀ L h' (g (W.listOf (strValues r).toArray (n + 1))) → Q (.str x t) { s with heap := h' }) :
    wpAny (model prog w) A (call (.builtin "list.pop") [.ref P, .int i u]) Q E s := by
  have hk : i.toNat < l.length := by omega
  have hc := cut_at l i.toNat hk
  have hp := perm_at l i.toNat hk
  have hsz : (strValues l).toArray.size = l.length := by rw [List.size_toArray, strValues_len]
  refine kl_popAt (k := i.toNat) (p := strValues (l.take i.toNat)) (q := strValues (l.drop (i.toNat + 1))) F N ?_ ?_ (by simpa using hc) (updF_upd U) ?_ fun h' F' N' => ?_
  · unfold Builtin.List.listFitsIndex
    simp
    omega
  · rw [hsz]
    unfold seqIndex?
    have a1 : ¬ i < 0 := by omega
    simp [a1, h0, h1]
  · simp only [strValues_len, sizeLine_eq]
    omega
  · rw [← strValues_app] at N'
    refine h _ _ (l.take i.toNat ++ l.drop (i.toNat + 1)) h' hp ?_ F' N'
    have := hp.length_eq
    simp only [List.length_cons] at this
    omega
theorem pop_four {a b c d : Str} {ta tb tc td : Tok} (F : Fr h₀ L s.heap m) (N : News h₀ L s.heap news) (U : UpdF P (W.listOf #[.str a ta, .str b tb, .str c tc, .str d td] n) news g)
    (h0 : 0 ≤ i) (h1 : i < 4)
    (h : ∀ x t r h', [(a, ta), (b, tb), (c, tc), (d, td)].Perm ((x, t) :: r) → r.length = 3 → Fr h₀ L h' m → News h₀ L h' (g (W.listOf (strValues r).toArray (n + 1))) → Q (.str x t) { s with heap := h' }) :
    wpAny (model prog w) A (call (.builtin "list.pop") [.ref P, .int i u]) Q E s :=
  pop_any [(a, ta), (b, tb), (c, tc), (d, td)] F N U h0 h1 (by simp) fun x t r h' p e F' N' => h x t r h' p (by simpa using e) F' N'
end
section
variable {prog : Program} {w : World} {A : Around} {E : Value → Shared → Prop} {s : Shared} {D : Addr} {t : Tok} {Q : Value → Shared → Prop} {ys : List Value} {ns : List Int}
theorem join_word (hl : s.heap.IsList D ys.toArray) (hc : CarriedAll ys (List.map (fun a => PyData.str (Txt.item (Str.ofString "aAbB") (a.fmod 4))) (List.filter (fun _ => true) (List.take 6 ns ++ [0, 2, 2, 3, 3, 1, 2, 1]))))
    (h : ∀ x t' k, IsTxt x (wl ns) → Q (.str x t') { s with toks := k }) : wpAny (model prog w) A (call (.builtin "str.join") [.str (Str.ofString "") t, .ref D]) Q E s := by
  have e : List.map (fun a => PyData.str (Txt.item (Str.ofString "aAbB") (a.fmod 4))) (List.filter (fun _ => true) (List.take 6 ns ++ [0, 2, 2, 3, 3, 1, 2, 1])) = ((wl ns).map fun c => txt [c]).map PyData.str := by
    rw [List.filter_eq_self.mpr (fun _ _ => rfl), wl, List.map_map, List.map_map]
    exact List.map_congr_left fun x _ => by show PyData.str _ = PyData.str _; rw [item_code]
  rw [e] at hc
  have hs := StrsAre.of_carried hc
  have hlen := (wl_len ns).1
  refine join_listW hl (by simpa using hs) (by decide +kernel) ?_ fun t' k => ?_
  · rw [sumLen_of_ones _ (fun a ha => by obtain ⟨c, -, rfl⟩ := List.mem_map.mp ha; exact txt_len _), List.length_map]
    omega
  · rw [join_nil_one]
    exact h _ t' k ⟨rfl⟩
/-- the beginnings, with bars between -/
def sliceTo (x : Str) (k : Int) : Str := Txt.slice x none (some k)
def segs (u : List Nat) : List (List Nat) := (List.range (u.length + 1)).map fun i => u.take i
/-- texts with bars between -/
def bars : List (List Nat) → List Nat
  | [] => []
  | [x] => x
  | x :: r => x ++ 124 :: bars r
theorem join_bars : ∀ (ls : List (List Nat)), Txt.join (Str.ofString "|") (ls.map txt) = txt (bars ls) := by
  intro ls
  show Builtin.Str.glued _ _ = _
  rw [StrLaws.glued_eq_join]
  have e : Str.ofString "|" = txt [124] := by decide +kernel
  rw [e]
  induction ls with
  | nil => rfl
  | cons a r ih =>
    cases r with
    | nil => rfl
    | cons b t =>
      show txt a ++ txt [124] ++ Str.join (txt [124]) ((b :: t).map txt) = _
      rw [ih, txt_app, txt_app]
      show txt (a ++ [124] ++ bars (b :: t)) = txt (a ++ 124 :: bars (b :: t))
      rw [List.append_assoc]
      rfl
theorem txt_list (u : List Nat) : (txt u).cps.toList = u := by simp [txt]
theorem slice_txt (u : List Nat) (i : Nat) (hi : i ≤ u.length) : sliceTo (txt u) (i : Int) = txt (u.take i) := by
  have h := slice_closes_to (x := txt u) (j := (i : Int)) (by rw [txt_list]; omega)
  rw [txt_list] at h
  have h' := eq_of_beq h
  unfold sliceTo
  rw [h']
  simp [txt]
theorem bars_len : ∀ (ls : List (List Nat)), (bars ls).length ≤ (ls.map (·.length)).sum + ls.length
  | [] => Nat.zero_le _
  | [x] => by simp [bars]
  | x :: y :: r => by
    have h := bars_len (y :: r)
    simp only [bars, List.length_append, List.length_cons, List.map_cons, List.sum_cons] at h ⊢
    omega
theorem sum_le {B : Nat} : ∀ (ls : List (List Nat)), (∀ x ∈ ls, x.length ≤ B) → (ls.map (·.length)).sum ≤ ls.length * B
  | [], _ => Nat.zero_le _
  | x :: r, h => by
    have h1 := h x (.head _)
    have h2 := sum_le r fun y hy => h y (.tail _ hy)
    simp only [List.map_cons, List.sum_cons, List.length_cons, Nat.succ_mul]
    omega
theorem join_fronts {x : Str} {u : List Nat} {h₀ : Heap} {L : Addr} {news : Led} (N : News h₀ L s.heap news) (hm : (D, LCg.lst ys) ∈ news) (hc : CarriedAll ys (List.map (fun k => PyData.str (sliceTo x k)) (rangeKs 0 ((x.length : Int) + 1 - 0).toNat))) (hx : IsTxt x u) (hu : u.length ≤ 14)
    (h : ∀ y t' k, IsTxt y (bars (segs u)) → Q (.str y t') { s with toks := k }) : wpAny (model prog w) A (call (.builtin "str.join") [.str (Str.ofString "|") t, .ref D]) Q E s := by
  obtain ⟨rfl⟩ := hx
  have e : List.map (fun k => PyData.str (sliceTo (txt u) k)) (rangeKs 0 (((txt u).length : Int) + 1 - 0).toNat) = ((segs u).map txt).map PyData.str := by
    rw [txt_len, show ((u.length : Int) + 1 - 0).toNat = u.length + 1 by omega, rangeKs, segs, List.map_map, List.map_map, List.map_map]
    refine List.map_congr_left fun i hi => ?_
    show PyData.str (sliceTo (txt u) (0 + (i : Int))) = PyData.str (txt (u.take i))
    rw [Int.zero_add, slice_txt _ _ (Nat.le_of_lt_succ (List.mem_range.mp hi))]
  rw [e] at hc
  have hs := StrsAre.of_carried hc
  refine join_listW (News.isList N hm) (by simpa using hs) (by decide +kernel) ?_ fun t' k => ?_
  · have h1 : ((segs u).map txt).map (·.length) = (segs u).map (·.length) := by
      rw [List.map_map]; exact List.map_congr_left fun y _ => txt_len y
    have h2 := sum_le (B := 14) (segs u) fun y hy => by
      obtain ⟨i, -, rfl⟩ := List.mem_map.mp hy
      rw [List.length_take]; omega
    have h3 : (segs u).length = u.length + 1 := by simp [segs]
    rw [h1, List.length_map]
    omega
  · rw [join_bars]
    exact h _ t' k ⟨rfl⟩
end
end Mine

end
section
open PySem PySem.W PySem.Calls PyProof.Rows
namespace Mine
def slt2 (x : Str) (k : Int) : Str := Txt.slice x (some k) (some (k + 2))
theorem sl2_txt (u : List Nat) (i : Nat) (hi : i < u.length) : slt2 (txt u) (i : Int) = txt ((u.drop i).take 2) := by
  show StrLaws.sliceText (txt u) (some (i : Int)) (some ((i : Int) + 2)) = _
  by_cases h : i + 2 ≤ u.length
  · have := StrLaws.sliceText_nat (txt u) (a := i) (b := i + 2) (by omega) (by rw [txt_len]; exact h)
    rw [show ((i : Int) + 2) = ((i + 2 : Nat) : Int) by omega, this, txt_list, show i + 2 - i = 2 by omega]
    rfl
  · have e : StrLaws.sliceText (txt u) (some (i : Int)) (some ((i : Int) + 2)) = StrLaws.sliceText (txt u) (some (i : Int)) (some ((u.length : Nat) : Int)) := by
      have e2 : Builtin.Str.strSliceIndices (some (i : Int)) (some ((i : Int) + 2)) 1 (txt u).length = Builtin.Str.strSliceIndices (some (i : Int)) (some ((u.length : Nat) : Int)) 1 (txt u).length := by
        rw [txt_len]
        have a1 : ¬ ((i : Int) + 2 < 0) := by omega
        have a2 : ¬ (((u.length : Nat) : Int) < 0) := by omega
        have a3 : min ((i : Int) + 2) (u.length : Int) = (u.length : Int) := by omega
        simp [Builtin.Str.strSliceIndices, a1, a2, a3]
      unfold StrLaws.sliceText
      rw [e2]
    rw [e, StrLaws.sliceText_nat (txt u) (by omega) (by rw [txt_len]; exact Nat.le_refl _), txt_list]
    show txt _ = _
    congr 1
    rw [List.take_of_length_le (by simp), List.take_of_length_le (by simp; omega)]
def G9 (xf xp : Str) (l : List Int) (k : Int) : List Int := if slt2 xf k = xp then l ++ [k] else l
theorem g9_grows (xf xp : Str) : KPfGrows (G9 xf xp) := fun l k => by
  unfold G9
  split
  · simp
  · omega
theorem g9_yes {xf xp : Str} {l : List Int} {k : Int} (h : slt2 xf k = xp) : G9 xf xp l k = l ++ [k] := if_pos h
theorem g9_no {xf xp : Str} {l : List Int} {k : Int} (h : ¬ slt2 xf k = xp) : G9 xf xp l k = l := if_neg h
theorem g9_fold {u : List Nat} {xp : Str} : ∀ (is : List Nat) (acc : List Int), (∀ i ∈ is, i < u.length) → ((is.map fun (i : Nat) => (0 : Int) + (i : Int)).foldl (G9 (txt u) xp) acc).length = acc.length + (is.filter fun i => decide (txt ((u.drop i).take 2) = xp)).length
  | [], acc, _ => by simp
  | i :: r, acc, h => by
    have ih := fun acc => g9_fold (u := u) (xp := xp) r acc (fun j hj => h j (.tail _ hj))
    have e := sl2_txt u i (h i (.head _))
    rw [List.map_cons, List.foldl_cons, ih, List.filter_cons]
    unfold G9
    rw [Int.zero_add, e]
    by_cases hx : txt ((u.drop i).take 2) = xp
    · simp [hx]; omega
    · simp [hx]
/-- one of the four -/
structure Pr (x : Str) : Prop where
  ex : ∃ a, Lw a ∧ x = txt [a, inv a]
theorem four_pr {x1 x2 x3 x4 x : Str} (h : Four x1 x2 x3 x4) (hx : x ∈ [x1, x2, x3, x4]) : Pr x := by
  have := (h.all x).mpr hx
  simp only [List.mem_cons, List.not_mem_nil, or_false] at this
  rcases this with rfl | rfl | rfl | rfl
  · exact ⟨97, .inl rfl, by decide +kernel⟩
  · exact ⟨65, .inr (.inl rfl), by decide +kernel⟩
  · exact ⟨98, .inr (.inr (.inl rfl)), by decide +kernel⟩
  · exact ⟨66, .inr (.inr (.inr rfl)), by decide +kernel⟩
theorem inv_ne {a : Nat} (h : Lw a) : a ≠ inv a := by rcases h with rfl | rfl | rfl | rfl <;> decide
theorem txt_inj {u v : List Nat} (h : txt u = txt v) : u = v := by simpa [txt] using h
/-- the beginnings' text: its length -/
theorem fronts_len {x : Str} {u : List Nat} (h : IsTxt x (bars (segs u))) (hu : u.length ≤ 14) : x.length ≤ 225 := by
  obtain ⟨rfl⟩ := h
  rw [txt_len]
  have h1 := bars_len (segs u)
  have h2 := sum_le (B := 14) (segs u) fun y hy => by
    obtain ⟨i, -, rfl⟩ := List.mem_map.mp hy
    rw [List.length_take]; omega
  have h3 : (segs u).length = u.length + 1 := by simp [segs]
  omega
theorem nil_txt : Str.ofString "" = txt [] := by decide +kernel
theorem pr_step {x xp : Str} {L : List Nat} (hx : IsTxt x L) (hl : x.length ≤ 225) (hp : Pr xp) : StepOk x xp (Str.ofString "") := by
  obtain ⟨rfl⟩ := hx
  obtain ⟨a, ha, rfl⟩ := hp.ex
  rw [txt_len] at hl
  rw [nil_txt]
  exact step_ok (List.cons_ne_nil _ _) (by simp) (by omega)
abbrev g9 {x p : Str} {L : List Nat} (_ : IsTxt x L) (_ : Pr p) : List Int → Int → List Int := G9 x p
/-- so many less -/
theorem pr_len {x xp : Str} {L : List Nat} (hx : IsTxt x L) (hp : Pr xp) : (Txt.join (Str.ofString "") (Txt.split x xp)).length + 2 * ((rangeKs 0 ((x.length : Int) - 0).toNat).foldl (g9 hx hp) []).length = x.length := by
  show _ + 2 * ((rangeKs 0 ((x.length : Int) - 0).toNat).foldl (G9 x xp) []).length = x.length
  rw [show ((x.length : Int) - 0).toNat = x.length by omega]
  obtain ⟨rfl⟩ := hx
  obtain ⟨a, ha, rfl⟩ := hp.ex
  have h256 : ∀ d ∈ [a, inv a], d < 256 := fun d hd => by
    rcases List.mem_cons.mp hd with rfl | hd
    · exact Lw.lt ha
    · rw [List.mem_singleton.mp hd]; exact Lw.lt (inv_lw ha)
  rw [nil_txt, rep_txt (strike_rep a (inv a)) (List.cons_ne_nil _ _) h256, txt_len, txt_len]
  have h1 := strike_len (inv_ne ha) L
  have h2 := cnt_places a (inv a) L
  have h3 := g9_fold (u := L) (xp := txt [a, inv a]) (List.range L.length) [] (fun i hi => List.mem_range.mp hi)
  unfold rangeKs
  rw [h3, List.length_nil, Nat.zero_add]
  have e : (List.range L.length).filter (fun i => decide (txt ((L.drop i).take 2) = txt [a, inv a])) = (List.range L.length).filter fun k => (L.drop k).take 2 == [a, inv a] := by
    refine List.filter_congr fun i _ => ?_
    by_cases h : (L.drop i).take 2 = [a, inv a]
    · simp [h]
    · have : ¬ txt ((L.drop i).take 2) = txt [a, inv a] := fun e => h (txt_inj e)
      simp [h, this]
  rw [e, h2]
  exact h1
theorem replace_2 (w : World) (mean : ExcName → Option Value) (mg mb : Str → Option Value) (news : Led) (x : Str) (tkx : Tok) (p z : Str) (tp tz : Tok) (hok : StepOk x p z) :
   Con w mean mg mb 21 [.str x tkx, .str p tp, .str z tz] news 1 (fun h₀ L m Q => ∀ h' tk' t, Fr h₀ L h' m → News h₀ L h' news → Q (.str (Txt.join z (Txt.split x p)) t) h' tk') :=
  replace_c w mean mg mb news x tkx [(p, tp), (z, tz)] ⟨hok, trivial⟩ (Nat.le_of_ble_eq_true rfl)
end Mine
namespace Mine
theorem with_pr {prog : Program} {w : World} {A : Around} {E : Value → Shared → Prop} {s : Shared} {env : Env} {x1 x2 x3 x4 x nm : Str} {t : Tok} {px : Pos} {Q : Unit → Shared → Prop} (hF : Four x1 x2 x3 x4) (hx : x ∈ [x1, x2, x3, x4])
    (h : Pr x → wpAny (model prog w) A (storeName env nm (.str x t)) Q E s) : wpAny (model prog w) A (assign (.Name nm px) env (.str x t)) Q E s := PyProof.Rows.assign_Name (h (four_pr hF hx))
end Mine
namespace Mine
theorem len_lst {prog : Program} {w : World} {A : Around} {E : Value → Shared → Prop} {s : Shared} {D L : Addr} {h₀ : Heap} {m : Str → Option Value} {news : Led} {ys : List Value} {l : List Int} {Q : Value → Shared → Prop} (N : News h₀ L s.heap news) (hm : (D, LCg.lst ys) ∈ news) (hI : IntsAre ys l) (hz : l.length ≤ 1000)
    (h : Q (.int (l.length : Nat) (s.toks + 1)) { s with toks := s.toks + 1 + 1 }) : wpAny (model prog w) A (call (.builtin "len") [.ref D]) Q E s :=
  KM.len_K (its := ys.toArray) (c := ys.length) N hm (by rw [List.size_toArray]; exact hI.length) (by omega) h
end Mine
namespace Mine
theorem news_as {h₀ h : Heap} {L L' : Addr} {m : Str → Option Value} {l : Led} (_ : Fr h₀ L h m) (N : News h₀ L' h l) (e : L' = L) : News h₀ L h l := e ▸ N
end Mine

end
section
open PySem PySem.W PySem.Calls PyProof.Rows
namespace Mine
section
variable {prog : Program} {w : World} {A : Around} {E : Value → Shared → Prop} {s : Shared} {env : Env} {h₀ : Heap} {x : Str} {body : List Stmt} {Q : Flow → Shared → Prop}
theorem text_loop {u : List Nat} {tx : Tok} {m₀ : Str → Option Value} {news : Led} (J : Nat → (Str → Option Value) → Led → Prop)
    (hu : ∀ c ∈ u, c < 128) (hh : A.handled = none) (F : Fr h₀ env.locals s.heap m₀) (N : News h₀ env.locals s.heap news) (hj : J 0 m₀ news)
    (turn : ∀ i c t m₁ nx h tk own, u[i]? = some c → OwnOff own (nx.map (·.1)) → J i m₁ nx → Fr h₀ env.locals h (fun y => if y = x then some (.str (txt [c]) t) else m₁ y) → News h₀ env.locals h (nx ++ own) →
      wpAny (model prog w) A (execs body env) (InvPostG h₀ env.locals (J (i + 1)) own { s with heap := h, toks := tk } Q) E { s with heap := h, toks := tk })
    (done : ∀ m₁ nx h tk, J u.length m₁ nx → Fr h₀ env.locals h m₁ → News h₀ env.locals h nx → Q .next { s with heap := h, toks := tk }) :
    wpAny (model prog w) A (pyIter (.str (txt u) tx)) (fun it s₂ => LoopAtV prog w A h₀ env x body Q E it s₂) E s := by
  have ha : (txt u).cps.all (· < 128) = true := by
    rw [← Array.all_toList]
    exact List.all_eq_true.mpr fun c hc => decide_eq_true (hu c (by simpa [txt] using hc))
  have hsz : (txt u).cps.size = u.length := by simp [txt]
  refine wpAny_pyIter_ascii ha ?_
  have W := Walks.strAscii (prog := prog) (w := w) hh s.heap.objs.size (txt u) tx
  rw [hsz] at W
  refine kdr_loop J W (fun _ h => h) (fun _ h => h) ?_ ?_ ?_ ?_ ⟨_, Heap.get?_push_size _ rfl, rfl, rfl⟩ (F.push _) (fun p hp => ⟨Heap.get?_push_of_some _ (N p hp).1, (N p hp).2⟩) hj ?_ ?_
  · rintro i h ⟨o, ho, -⟩ b hb
    rw [List.mem_singleton.mp hb]
    exact ⟨o, ho⟩
  · intro hm
    exact absurd F.ns.lt ((List.mem_singleton.mp hm) ▸ Nat.lt_irrefl _)
  · intro b hb
    rw [List.mem_singleton.mp hb]
    exact next_is_new F
  · intro p hp hI
    exact absurd (Heap.lt_size (N p hp).1) ((List.mem_singleton.mp hI) ▸ Nat.lt_irrefl _)
  · rintro i v m₁ nx h tk own hi ⟨c, t, hc, rfl⟩ hoff hJ F₁ N₁
    exact turn i c t m₁ nx h tk own (by simpa [txt] using hc) hoff hJ F₁ N₁
  · rintro m₁ nx h tk hJ F₁ N₁
    exact done m₁ nx h tk hJ F₁ N₁
end
end Mine

end
section
open PySem PySem.W PySem.Calls PyProof.Rows
namespace Mine
theorem table_k (w : World) (mean : ExcName → Option Value) (mg mb : Str → Option Value) (news : Led) (M M0 M1 : Addr) (t0 t1 t2 t3 t4 t5 t6 t7 : Tok) (k j : Nat)
   (hM : (M, ({ cls := .type "list", data := .seq #[.ref M0, .ref M1] } : Obj)) ∈ news) (hM0 : (M0, mvO (mvOf k) t0 t1 t2 t3) ∈ news) (hM1 : (M1, mvO (mvOf j) t4 t5 t6 t7) ∈ news) :
   Con w mean mg mb 47 [.ref M] news 2 (fun h₀ L m Q => ∀ D o rest h' tk', Fr h₀ L h' m → News h₀ L h' ((D, o) :: (rest ++ news)) → (∀ p ∈ news, p.1 < D) → (∃ kvs, o.IsDictOf (PySem.strKind Challenge.rw_pm0087_01.row.prog w) kvs ∧ Tab rest kvs (tabF (mvOf k) (mvOf j))) → Q (.ref D) h' tk') :=
  table_c w mean mg mb news M M0 M1 t0 t1 t2 t3 t4 t5 t6 t7 (mvOf k).one (mvOf k).p1 (mvOf k).p2 (mvOf k).back (mvOf k).u1 (mvOf k).u2 (mvOf j).one (mvOf j).p1 (mvOf j).p2 (mvOf j).back (mvOf j).u1 (mvOf j).u2 hM hM0 hM1
    (mv_ok k).a (mv_ok k).b (mv_ok k).c (mv_ok k).d (mv_ok k).e (mv_ok k).f (mv_ok j).a (mv_ok j).b (mv_ok j).c (mv_ok j).d (mv_ok j).e (mv_ok j).f (small_step j)
/-- what a turn over the word's letters leans on -/
structure LF (k j n : Nat) (ps u : List Nat) (i c : Nat) (p q r s : Int) : Prop where
  hk : u[i]? = some c
  hw : Wd u
  hp : ∀ p ∈ ps, Lw p
  ha : ∀ a, Lw a → a ∈ ps
  hn : 3 * u.length ≤ 2 * n + 1
  hl : u.length ≤ 14
  hm : mu (img (mvOf k) (mvOf j) (u.take i)) = (p, q, r, s)
theorem wd_take {u : List Nat} (h : Wd u) (i : Nat) : Wd (u.take i) := fun c hc => h c (List.mem_of_mem_take hc)
theorem bits_img {k j : Nat} {u : List Nat} (hw : Wd u) (hl : u.length ≤ 14) {p q r s : Int} (hm : mu (img (mvOf k) (mvOf j) u) = (p, q, r, s)) : Small p ∧ Small q ∧ Small r ∧ Small s := by
  have hf := img_facts k j u hw
  have := mu_bound _ hf.2 p q r s hm
  have h50 : (img (mvOf k) (mvOf j) u).length ≤ 50 := by omega
  exact ⟨bits_of this.1 h50, bits_of this.2.1 h50, bits_of this.2.2.1 h50, bits_of this.2.2.2 h50⟩
section
variable {k j n : Nat} {ps u : List Nat} {i c : Nat} {p q r s : Int}
theorem LF.lw (F : LF k j n ps u i c p q r s) : Lw c := F.hw c (List.mem_of_getElem? F.hk)
theorem LF.small (F : LF k j n ps u i c p q r s) : Small p ∧ Small q ∧ Small r ∧ Small s := by
  have hl := F.hl
  exact bits_img (wd_take F.hw i) (by rw [List.length_take]; omega) F.hm
theorem LF.smallT (F : LF k j n ps u i c p q r s) : SmallM (tabF (mvOf k) (mvOf j) c) := by
  have h := img_letter k j F.lw
  obtain ⟨p', q', r', s', hm'⟩ : ∃ p' q' r' s', mu (img (mvOf k) (mvOf j) [c]) = (p', q', r', s') := ⟨_, _, _, _, rfl⟩
  have := bits_img (k := k) (j := j) (u := [c]) (fun d hd => by rw [List.mem_singleton.mp hd]; exact F.lw) (by simp) hm'
  rw [h.1, hm']
  exact this
theorem LF.next (F : LF k j n ps u i c p q r s) {p' q' r' s' : Int} (h : ((p', q', r', s') : M4) = mmul (p, q, r, s) (tabF (mvOf k) (mvOf j) c)) : mu (img (mvOf k) (mvOf j) (u.take (i + 1))) = (p', q', r', s') := by
  rw [List.take_add_one, F.hk]
  show mu (img _ _ (u.take i ++ [c])) = _
  rw [img_snoc k j _ F.lw, F.hm, h]
theorem LF.at' (F : LF k j n ps u i c p q r s) {p' q' r' s' : Int} (h : ((p', q', r', s') : M4) = mmul (p, q, r, s) (tabF (mvOf k) (mvOf j) c)) : At p' q' r' s' (left n ps k j (u.take (i + 1))) := by
  have hn := F.hn
  exact (left_at (n := n) F.hp F.ha k j (wd_take F.hw _) (by rw [List.length_take]; omega) (F.next h)).1
theorem LF.len (F : LF k j n ps u i c p q r s) {p' q' r' s' : Int} (h : ((p', q', r', s') : M4) = mmul (p, q, r, s) (tabF (mvOf k) (mvOf j) c)) : (left n ps k j (u.take (i + 1))).length ≤ 3 * u.length := by
  have hn := F.hn
  have := (left_at (n := n) F.hp F.ha k j (wd_take F.hw (i + 1)) (by rw [List.length_take]; omega) (F.next h)).2
  rw [List.length_take] at this
  omega
end
theorem by_z (w : World) (mean : ExcName → Option Value) (mg mb : Str → Option Value) (news : Led) (l r : Addr) (p q x y : Int) (Y : M4) (k0 k1 k2 k3 k4 k5 k6 k7 n n' : Nat)
   (hl : (l, tup4 p q x y k0 k1 k2 k3 n) ∈ news) (hr : (r, tupM Y k4 k5 k6 k7 n') ∈ news) (hx : Small p ∧ Small q ∧ Small x ∧ Small y) (hy : SmallM Y) :
   Con w mean mg mb 33 [.ref l, .ref r] news 1 (fun h₀ L m Q => ∀ D h' tk' t0 t1 t2 t3 p' q' r' s', ((p', q', r', s') : M4) = mmul (p, q, x, y) Y → (∀ p ∈ news, p.1 < D) → Fr h₀ L h' m → News h₀ L h' ((D, tup4 p' q' r' s' t0 t1 t2 t3 0) :: news) → Q (.ref D) h' tk') := by
  intro dp un gd cn cs a ccd cl outer A₀ base h₀ L m s Q E B F X N T hk hdp hun hret
  exact by_cM w mean mg mb news l r (p, q, x, y) Y k0 k1 k2 k3 k4 k5 k6 k7 n n' hl hr hx hy dp un gd cn cs a ccd cl outer A₀ base h₀ L m s Q E B F X N T hk hdp hun
    (fun D h' tk' t0 t1 t2 t3 h1 h2 h3 => hret D h' tk' t0 t1 t2 t3 _ _ _ _ rfl h1 h2 h3)
/-- the texts so far -/
structure Dues (k j n : Nat) (ps u : List Nat) (i : Nat) (l : List (Str × Tok)) : Prop where
  h : l.map (·.1) = (List.range (i + 1)).map fun a => txt (left n ps k j (u.take a))
theorem Dues.zero {k j n : Nat} {ps u : List Nat} (hp : ∀ p ∈ ps, Lw p) (t : Tok) : Dues k j n ps u 0 [(Str.ofString "", t)] := ⟨by
  have e : left n ps k j [] = [] := List.length_eq_zero_iff.mp (Nat.le_zero.mp (rounds_len n ([] : List Nat)))
  show [Str.ofString ""] = [txt (left n ps k j (u.take 0))]
  rw [List.take_zero, e, nil_txt]⟩
theorem Dues.succ {k j n : Nat} {ps u : List Nat} {i : Nat} {l : List (Str × Tok)} (D : Dues k j n ps u i l) (t : Tok) : Dues k j n ps u (i + 1) (l ++ [(txt (left n ps k j (u.take (i + 1))), t)]) := ⟨by
  rw [List.map_append, D.h, List.range_succ (n := i + 1), List.map_append]
  rfl⟩
theorem Dues.len {k j n : Nat} {ps u : List Nat} {i : Nat} {l : List (Str × Tok)} (D : Dues k j n ps u i l) : l.length = i + 1 := by
  have := congrArg List.length D.h
  simpa using this
/-- at the end -/
theorem Dues.all {k j n : Nat} {ps u : List Nat} {l : List (Str × Tok)} (D : Dues k j n ps u u.length l) : Txt.join (Str.ofString "|") (l.map (·.1)) = txt (bars ((segs u).map (left n ps k j))) := by
  rw [D.h, ← join_bars]
  unfold segs
  rw [List.map_map, List.map_map]
  rfl
theorem bars_eq : ∀ (ls : List (List Nat)), bars ls = bars' ls
  | [] => rfl
  | [_] => rfl
  | x :: y :: r => by show x ++ 124 :: bars (y :: r) = x ++ 124 :: bars' (y :: r); rw [bars_eq (y :: r)]
end Mine

end
section
open PySem PySem.W PySem.Calls PyProof.Rows
namespace Mine
theorem four_ps {x1 x2 x3 x4 : Str} (h : Four x1 x2 x3 x4) : ∃ a1 a2 a3 a4, x1 = txt [a1, inv a1] ∧ x2 = txt [a2, inv a2] ∧ x3 = txt [a3, inv a3] ∧ x4 = txt [a4, inv a4] ∧ (∀ p ∈ [a1, a2, a3, a4], Lw p) ∧ ∀ a, Lw a → a ∈ [a1, a2, a3, a4] := by
  obtain ⟨a1, l1, e1⟩ := (four_pr h (x := x1) (by simp)).ex
  obtain ⟨a2, l2, e2⟩ := (four_pr h (x := x2) (by simp)).ex
  obtain ⟨a3, l3, e3⟩ := (four_pr h (x := x3) (by simp)).ex
  obtain ⟨a4, l4, e4⟩ := (four_pr h (x := x4) (by simp)).ex
  refine ⟨a1, a2, a3, a4, e1, e2, e3, e4, ?_, fun a ha => ?_⟩
  · intro p hp
    simp only [List.mem_cons, List.not_mem_nil, or_false] at hp
    rcases hp with rfl | rfl | rfl | rfl <;> assumption
  · have hm : txt [a, inv a] ∈ [Str.ofString "aA", Str.ofString "Aa", Str.ofString "bB", Str.ofString "Bb"] := by
      have e : [Str.ofString "aA", Str.ofString "Aa", Str.ofString "bB", Str.ofString "Bb"] = [txt [97, 65], txt [65, 97], txt [98, 66], txt [66, 98]] := by decide +kernel
      rw [e]
      rcases ha with rfl | rfl | rfl | rfl <;> simp [inv]
    have hx := (h.all _).mp hm
    simp only [List.mem_cons, List.not_mem_nil, or_false] at hx ⊢
    rcases hx with hx | hx | hx | hx
    · rw [e1] at hx; exact .inl (List.cons.inj (txt_inj hx)).1
    · rw [e2] at hx; exact .inr (.inl (List.cons.inj (txt_inj hx)).1)
    · rw [e3] at hx; exact .inr (.inr (.inl (List.cons.inj (txt_inj hx)).1))
    · rw [e4] at hx; exact .inr (.inr (.inr (List.cons.inj (txt_inj hx)).1))
theorem strValues_rep (e : List (Str × Tok)) : ∀ n : Nat, (List.replicate n (strValues e)).flatten = strValues (List.replicate n e).flatten
  | 0 => rfl
  | n + 1 => by
    rw [List.replicate_succ, List.flatten_cons, List.replicate_succ, List.flatten_cons, strValues_app, strValues_rep e n]
theorem vs_eq {x : Str} {t : Tok} {n : Nat} (f1 f2 e : List (Str × Tok)) : Value.str x t :: (strValues f1 ++ (strValues f2 ++ ((List.replicate n (strValues e)).flatten ++ []))) = Value.str x t :: strValues (f1 ++ (f2 ++ (List.replicate n e).flatten)) := by
  rw [strValues_app, strValues_app, strValues_rep, List.append_nil]
theorem flat_map (e : List (Str × Tok)) : ∀ n : Nat, (List.replicate n e).flatten.map (·.1) = (List.replicate n (e.map (·.1))).flatten
  | 0 => rfl
  | n + 1 => by
    rw [List.replicate_succ, List.flatten_cons, List.replicate_succ, List.flatten_cons, List.map_append, flat_map e n]
theorem flat_len (e : List (Str × Tok)) : ∀ n : Nat, (List.replicate n e).flatten.length = n * e.length
  | 0 => by simp
  | n + 1 => by
    rw [List.replicate_succ, List.flatten_cons, List.length_append, flat_len e n, Nat.succ_mul]; omega
/-- the long call -/
structure Long (k j n : Nat) (ps u : List Nat) (x : Str) (f1 f2 e : List (Str × Tok)) : Prop where
  hp : ∀ p ∈ ps, Lw p
  hx : IsTxt x (bars (segs u))
  hl : x.length ≤ 225
  h1 : f1.map (·.1) = mvT (mvOf k)
  h2 : f2.map (·.1) = mvT (mvOf j)
  he : e.map (·.1) = pairTexts ps
  h4 : ps.length = 4
  hn : n ≤ 100
theorem Long.both {k j n : Nat} {ps u : List Nat} {x : Str} {f1 f2 e : List (Str × Tok)} (H : Long k j n ps u x f1 f2 e) : Both x ((f1 ++ (f2 ++ (List.replicate n e).flatten)).map (·.1)) (txt (bars ((segs u).map (left n ps k j)))) := by
  obtain ⟨hp, ⟨rfl⟩, hl, h1, h2, he, h4, hn⟩ := H
  rw [List.map_append, List.map_append, flat_map, h1, h2, he, bars_eq, bars_eq]
  rw [txt_len, bars_eq] at hl
  exact both_full hp (mv_ok k) (mv_ok j) n (segs u) (by omega)
theorem pair_len : ∀ ps : List Nat, (pairTexts ps).length = 2 * ps.length
  | [] => rfl
  | p :: r => by
    show (pairTexts r).length + 1 + 1 = 2 * (r.length + 1)
    rw [pair_len r]; omega
theorem Long.len {k j n : Nat} {ps u : List Nat} {x : Str} {f1 f2 e : List (Str × Tok)} (H : Long k j n ps u x f1 f2 e) : (f1 ++ (f2 ++ (List.replicate n e).flatten)).length ≤ 1000 := by
  have a1 := congrArg List.length H.h1
  have a2 := congrArg List.length H.h2
  have a3 := congrArg List.length H.he
  have hn := H.hn
  have e4 : (pairTexts ps).length = 2 * ps.length := pair_len ps
  rw [List.length_map] at a1 a2 a3
  rw [e4, H.h4] at a3
  rw [List.length_append, List.length_append, flat_len, a1, a2, a3]
  show 4 + (4 + n * 8) ≤ 1000
  omega
theorem replace_l (w : World) (mean : ExcName → Option Value) (mg mb : Str → Option Value) (news : Led) (vs : List Value) (x : Str) (tkx : Tok) (k j n : Nat) (ps u : List Nat) (f1 f2 e : List (Str × Tok))
   (hvs : vs = Value.str x tkx :: strValues (f1 ++ (f2 ++ (List.replicate n e).flatten))) (H : Long k j n ps u x f1 f2 e) :
   Con w mean mg mb 21 vs news 1 (fun h₀ L m Q => ∀ h' tk' t, Fr h₀ L h' m → News h₀ L h' news → Q (.str (txt (bars ((segs u).map (left n ps k j)))) t) h' tk') := by
  subst hvs
  have := replace_c w mean mg mb news x tkx (f1 ++ (f2 ++ (List.replicate n e).flatten)) H.both.ok H.len
  rw [H.both.eq] at this
  exact this
end Mine

end
section
open PySem PySem.W PySem.Calls PyProof.Rows
namespace Mine
/-- between two letters -/
def LoopJ (k j n : Nat) (ps u : List Nat) (DD : Addr) (cst : Led) (stored : List Str) (x : Str) (m₀ : Str → Option Value) (i : Nat) (m : Str → Option Value) (nx : Led) : Prop :=
  ∃ (NA : Addr) (p q r s : Int) (t0 t1 t2 t3 nn : Nat) (l : List (Str × Tok)), nx = (NA, tup4 p q r s t0 t1 t2 t3 0) :: (DD, W.listOf (strValues l).toArray nn) :: cst ∧ Dues k j n ps u i l ∧ mu (img (mvOf k) (mvOf j) (u.take i)) = (p, q, r, s) ∧
    m (Str.ofString "now") = some (.ref NA) ∧ ∀ z, z ≠ x → (∀ p ∈ [(Str.ofString "now", Value.ref NA)], z ≠ p.1) → stored.contains z = false → m z = m₀ z
section
variable {prog : Program} {w : World} {A : Around} {E : Value → Shared → Prop} {s : Shared} {env : Env} {h₀ : Heap} {x : Str} {body : List Stmt} {Q : Flow → Shared → Prop}
theorem letters {u : List Nat} {tx : Tok} {m₀ : Str → Option Value} {k j n : Nat} {ps : List Nat} {NA DD : Addr} {t0 t1 t2 t3 : Nat} {tt : Tok} {nn : Nat} {cst news : Led} (stored : List Str)
    (hw : Wd u) (hp : ∀ p ∈ ps, Lw p) (ha : ∀ a, Lw a → a ∈ ps) (hn : 3 * u.length ≤ 2 * n + 1) (hl : u.length ≤ 14)
    (hh : A.handled = none) (F : Fr h₀ env.locals s.heap m₀) (N : News h₀ env.locals s.heap news)
    (hsub : ∀ p ∈ (NA, tup4 1 0 0 1 t0 t1 t2 t3 0) :: (DD, W.listOf #[.str (Str.ofString "") tt] nn) :: cst, p ∈ news) (hnow : m₀ (Str.ofString "now") = some (.ref NA)) (hcst : ∀ q ∈ cst, q.1 ≠ DD)
    (turn : ∀ i c t NA p q r z t0 t1 t2 t3 nn l (v : Str → Option Value) h tk own, LF k j n ps u i c p q r z → Dues k j n ps u i l → OwnOff own (NA :: DD :: cst.map (·.1)) → (∀ q ∈ cst ++ own, q.1 ≠ DD) →
      Fr h₀ env.locals h (fun y => if y = x then some (.str (txt [c]) t) else kstB (fun z => if stored.contains z then v z else m₀ z) [(Str.ofString "now", .ref NA)] y) →
      News h₀ env.locals h ((NA, tup4 p q r z t0 t1 t2 t3 0) :: (DD, W.listOf (strValues l).toArray nn) :: (cst ++ own)) →
      wpAny (model prog w) A (execs body env) (InvPostG h₀ env.locals (LoopJ k j n ps u DD cst stored x m₀ (i + 1)) own { s with heap := h, toks := tk } Q) E { s with heap := h, toks := tk })
    (done : ∀ NA p q r z t0 t1 t2 t3 nn l (v : Str → Option Value) h tk, Dues k j n ps u u.length l →
      Fr h₀ env.locals h (fun y => if y = x then v y else kstB (fun z => if stored.contains z then v z else m₀ z) [(Str.ofString "now", .ref NA)] y) →
      News h₀ env.locals h ((NA, tup4 p q r z t0 t1 t2 t3 0) :: (DD, W.listOf (strValues l).toArray nn) :: cst) → Q .next { s with heap := h, toks := tk }) :
    wpAny (model prog w) A (pyIter (.str (txt u) tx)) (fun it s₂ => LoopAtV prog w A h₀ env x body Q E it s₂) E s := by
  refine text_loop (LoopJ k j n ps u DD cst stored x m₀) (fun c hc => ?_) hh F (fun p hp => N p (hsub p hp)) ⟨NA, 1, 0, 0, 1, t0, t1, t2, t3, nn, [(Str.ofString "", tt)], rfl, Dues.zero hp tt, rfl, hnow, fun _ _ _ _ => rfl⟩ ?_ ?_
  · rcases hw c hc with rfl | rfl | rfl | rfl <;> decide
  · rintro i c t m₁ nx h tk own hc hoff ⟨NA, p, q, r, z, a0, a1, a2, a3, b, l, rfl, hD, hm, h1, h2⟩ F₁ N₁
    exact turn i c t NA p q r z a0 a1 a2 a3 b l m₁ h tk own ⟨hc, hw, hp, ha, hn, hl, hm⟩ hD hoff (fun q hq => (List.mem_append.mp hq).elim (hcst q) fun ho => hoff q ho DD (.tail _ (.head _))) (kst_fr (fun p hp => by rw [List.mem_singleton.mp hp]; exact h1) h2 F₁) N₁
  · rintro m₁ nx h tk ⟨NA, p, q, r, z, a0, a1, a2, a3, b, l, rfl, hD, hm, h1, h2⟩ F₁ N₁
    exact done NA p q r z a0 a1 a2 a3 b l m₁ h tk hD (kst_frOut (fun p hp => by rw [List.mem_singleton.mp hp]; exact h1) h2 F₁) N₁
theorem letters_end {k j n : Nat} {ps u : List Nat} {DD : Addr} {cst : Led} {stored : List Str} {m₀ : Str → Option Value} {i : Nat} {L NA : Addr} {h' : Heap} {tk : Nat} {m' : Str → Option Value} {news' own : Led} {p q r z : Int} {t0 t1 t2 t3 nn : Nat} {l : List (Str × Tok)} {s₁ : Shared}
    (F : Fr h₀ L h' m') (N : News h₀ L h' news') (hsub : ∀ y ∈ (NA, tup4 p q r z t0 t1 t2 t3 0) :: (DD, W.listOf (strValues l).toArray nn) :: cst, y ∈ news') (hown : ∀ y ∈ own, y ∈ news')
    (hoff : OwnOff own (NA :: DD :: cst.map (·.1))) (hD : Dues k j n ps u (i + 1) l) (hm : mu (img (mvOf k) (mvOf j) (u.take (i + 1))) = (p, q, r, z))
    (hnow : m' (Str.ofString "now") = some (.ref NA)) (hr : ∀ z, z ≠ x → z ≠ Str.ofString "now" → stored.contains z = false → m' z = m₀ z) :
    InvEndG h₀ L (LoopJ k j n ps u DD cst stored x m₀ (i + 1)) own s₁ { s₁ with heap := h', toks := tk } :=
  InvEndG.intro F N ⟨NA, p, q, r, z, t0, t1, t2, t3, nn, l, rfl, hD, hm, hnow, fun z h1 h2 h3 => hr z h1 (h2 _ (.head _)) h3⟩ hoff hsub hown
end
theorem own_off {own cst : Led} {NA NB DD : Addr} (h : OwnOff own (NA :: DD :: cst.map (·.1))) (hlt : ∀ p ∈ own, p.1 < NB) : OwnOff own (NB :: DD :: cst.map (·.1)) := fun p hp b hb => by
  rcases List.mem_cons.mp hb with rfl | hb
  · exact Nat.ne_of_lt (hlt p hp)
  · exact h p hp b (.tail _ hb)
theorem push_due (l : List (Str × Tok)) (x : Str) (t : Tok) : (strValues l).toArray.push (.str x t) = (strValues (l ++ [(x, t)])).toArray := by
  rw [strValues_app]
  simp [strValues]
section
variable {prog : Program} {w : World} {A : Around} {E : Value → Shared → Prop} {s : Shared} {DD L : Addr} {h₀ : Heap} {m : Str → Option Value} {news : Led} {g : Obj → Led} {n : Nat} {x : Str} {t : Tok} {Q : Value → Shared → Prop}
theorem append_due (l : List (Str × Tok)) (F : Fr h₀ L s.heap m) (N : News h₀ L s.heap news) (U : UpdF DD (W.listOf (strValues l).toArray n) news g) (hz : l.length ≤ 1000)
    (h : ∀ h', Fr h₀ L h' m → News h₀ L h' (g (W.listOf (strValues (l ++ [(x, t)])).toArray (n + 1))) → Q .none { s with heap := h' }) : wpAny (model prog w) A (call (.builtin "list.append") [.ref DD, .str x t]) Q E s :=
  append_K F N (updF_upd U) (fun h' F' N' => h h' F' (by rw [push_due] at N'; exact N')) (by rw [List.size_toArray, strValues_len, sizeLine_eq]; omega)
end
end Mine

end
section
open PySem PySem.W PySem.Calls PyProof.Rows
namespace Mine
/-- a frame cut down to what is still read -/
theorem fr_short {h₀ h : Heap} {L : Addr} {m : Str → Option Value} (ps : List (Str × Value)) (F : Fr h₀ L h m) (hp : ∀ p ∈ ps, m p.1 = some p.2) : ∃ v : Str → Option Value, Fr h₀ L h (kstB v ps) := ⟨m, by
  have e : kstB m ps = m := by
    funext z
    exact kstB_eq hp fun _ => rfl
  rw [e]
  exact F⟩
/-- between two of the sought; the sought one stands in a cell -/
def SoughtJ (C l : Addr) (o : Obj) (cst : Led) (stored : List Str) (m₀ : Str → Option Value) (m : Str → Option Value) (nx : Led) : Prop :=
  (∃ co vo, co.data = Data.cell vo ∧ nx = (C, co) :: (l, o) :: cst) ∧ ∀ z, stored.contains z = false → m z = m₀ z
theorem stored_fr {h₀ h : Heap} {L : Addr} {stored : List Str} {m₀ m : Str → Option Value} (hm : ∀ z, stored.contains z = false → m z = m₀ z) (F : Fr h₀ L h m) : Fr h₀ L h (fun z => if stored.contains z then m z else m₀ z) := by
  have e : (fun z => if stored.contains z then m z else m₀ z) = m := by
    funext z
    by_cases h : stored.contains z = true
    · rw [if_pos h]
    · rw [if_neg h]
      exact (hm z (by simpa using h)).symm
  rw [e]
  exact F
section
variable {prog : Program} {w : World} {A : Around} {E : Value → Shared → Prop} {s : Shared} {h₀ : Heap} {L a : Addr} {x cn : Str} {px : Pos} {cs : Scope} {ccd : Value} {cl : List (Str × Addr)} {body : List Stmt} {Q : Flow → Shared → Prop}
theorem soughts {C l : Addr} {co : Obj} {vo : Option Value} {x1 x2 x3 x4 : Str} {t1 t2 t3 t4 : Tok} {nn : Nat} {m₀ : Str → Option Value} {cst news : Led} (stored : List Str)
    (hF : Four x1 x2 x3 x4) (hh : A.handled = none) (F : Fr h₀ L s.heap m₀) (N : News h₀ L s.heap news)
    (hco : co.data = Data.cell vo) (hsub : ∀ p ∈ (C, co) :: (l, W.listOf #[.str x1 t1, .str x2 t2, .str x3 t3, .str x4 t4] nn) :: cst, p ∈ news)
    (hC : ∀ p ∈ (l, W.listOf #[.str x1 t1, .str x2 t2, .str x3 t3, .str x4 t4] nn) :: cst, p.1 ≠ C)
    (hc : cl.lookup x = some C) (hk : cs.kind = .function) (hx : (envX cn cs L a ccd cl).kindOf x = some .cell)
    (turn : ∀ y t (v : Str → Option Value) h tk own co, Pr y → co.data = Data.cell (some (.str y t)) → OwnOff own (C :: l :: cst.map (·.1)) →
      Fr h₀ L h (fun z => if stored.contains z then v z else m₀ z) →
      News h₀ L h ((C, co) :: (l, W.listOf #[.str x1 t1, .str x2 t2, .str x3 t3, .str x4 t4] nn) :: (cst ++ own)) →
      wpAny (model prog w) A (execs body (envX cn cs L a ccd cl)) (InvPostG h₀ L (SoughtJ C l (W.listOf #[.str x1 t1, .str x2 t2, .str x3 t3, .str x4 t4] nn) cst stored m₀) own { s with heap := h, toks := tk } Q) E { s with heap := h, toks := tk })
    (done : ∀ (v : Str → Option Value) h tk co vo, co.data = Data.cell vo →
      Fr h₀ L h (fun z => if stored.contains z then v z else m₀ z) →
      News h₀ L h ((C, co) :: (l, W.listOf #[.str x1 t1, .str x2 t2, .str x3 t3, .str x4 t4] nn) :: cst) → Q .next { s with heap := h, toks := tk }) :
    wpAny (model prog w) A (pyIter (.ref l)) (fun it s₂ => TurnsAt prog w A h₀ (envX cn cs L a ccd cl) (.Name x px) body Q E it s₂) E s := by
  generalize hlo : W.listOf #[.str x1 t1, .str x2 t2, .str x3 t3, .str x4 t4] nn = lo at *
  have hml : (l, lo) ∈ news := hsub _ (.tail _ (.head _))
  have hol : s.heap.get? l = some lo := (N _ hml).1
  have hls : s.heap.IsList l #[.str x1 t1, .str x2 t2, .str x3 t3, .str x4 t4] := ⟨_, hol, by rw [← hlo]; exact ⟨rfl, nn, rfl⟩⟩
  have hne : l ≠ s.heap.objs.size := Nat.ne_of_lt (Heap.lt_size hol)
  refine wpAny_pyIter_list hls ?_
  have W := Walks.list (prog := prog) (w := w) hh s.heap.objs.size l hne #[.str x1 t1, .str x2 t2, .str x3 t3, .str x4 t4]
  have KT := KTurns.ofWalks (target := .Name x px) W (fun i v s' Q' E' st hQ => letGo_listiter st.1 hQ)
  have hup : ∀ p ∈ news, (s.heap.push { cls := .type "list_iterator", data := .fields #[.ref l, .int 0 0] }).get? p.1 = some p.2 := fun p hp => Heap.get?_push_of_some _ (N p hp).1
  refine ⟨s.heap.objs.size, _, _, _, _, _, _, m₀, (C, co) :: (l, lo) :: cst, fun _ => SoughtJ C l lo cst stored m₀, rfl, KT, ?_, ?_, ?_, ⟨⟨_, Heap.get?_push_size _ rfl, rfl, rfl⟩, hls.at fun o e => Heap.get?_push_of_some _ e⟩, F.push _, (fun p hp => ⟨hup p (hsub p hp), (N p (hsub p hp)).2⟩), ⟨⟨co, vo, hco, rfl⟩, fun _ _ => rfl⟩, ?_, ?_⟩
  · intro hm
    rcases List.mem_cons.mp hm with e | hm
    · have := F.ns.lt
      rw [show (envX cn cs L a ccd cl).locals = L from rfl] at e
      rw [e] at this
      exact Nat.lt_irrefl _ this
    · exact (N _ hml).2.1 (List.mem_singleton.mp hm).symm
  · intro b hb
    rw [List.mem_singleton.mp hb]
    exact next_is_new F
  · intro p hp hI
    exact absurd (Heap.lt_size (N p (hsub p hp)).1) ((List.mem_singleton.mp hI) ▸ Nat.lt_irrefl _)
  · rintro i v m₁ nx h₁ tk₁ own hin hP ⟨⟨co₁, vo₁, hd, rfl⟩, hm⟩ hoff hown hget hfp hst F₁ N₁
    have hI0 : h₀.get? s.heap.objs.size = none := next_is_new F
    obtain ⟨⟨oI, hoI, _⟩, _⟩ := id hst
    obtain ⟨y, t, rfl, hy⟩ : ∃ y t, v = .str y t ∧ Pr y := by
      match i, hP with
      | 0, hi => exact ⟨x1, t1, (Option.some.inj hi).symm, four_pr hF (by simp)⟩
      | 1, hi => exact ⟨x2, t2, (Option.some.inj hi).symm, four_pr hF (by simp)⟩
      | 2, hi => exact ⟨x3, t3, (Option.some.inj hi).symm, four_pr hF (by simp)⟩
      | 3, hi => exact ⟨x4, t4, (Option.some.inj hi).symm, four_pr hF (by simp)⟩
      | n + 4, hi => exact nomatch hi
    have hIown : (s.heap.objs.size, oI) ∈ own := hfp _ (List.mem_cons.mpr (.inl rfl)) hI0 _ hoI
    have hmine : ∀ p ∈ own, p.1 = s.heap.objs.size ∨ p = (l, lo) := fun p hp => by
      rcases List.mem_cons.mp (hown p hp) with e | e
      · exact .inl e
      · refine .inr ?_
        have e1 := List.mem_singleton.mp e
        have e2 := hget p hp
        rw [e1, (N₁ (l, lo) (List.mem_append_right _ (.tail _ (.head _)))).1] at e2
        exact Prod.ext e1 (Option.some.inj e2).symm
    have hoff' : OwnOff [(s.heap.objs.size, oI)] (C :: l :: cst.map (·.1)) := by
      intro p hp b hb e
      rw [List.mem_singleton.mp hp] at e
      rcases List.mem_cons.mp hb with e1 | hb
      · exact hoff (C, co₁) (.head _) (List.mem_singleton.mpr (e1 ▸ e.symm))
      · rcases List.mem_cons.mp hb with e1 | hb
        · exact hne (e1 ▸ e.symm)
        · obtain ⟨q, hq, e1⟩ := List.mem_map.mp hb
          exact hoff q (.tail _ (.tail _ hq)) (List.mem_singleton.mpr (e1 ▸ e.symm))
    have hIC : s.heap.objs.size ≠ C := hoff' _ (.head _) _ (.head _)
    have N₂ : News h₀ L h₁ ((C, co₁) :: ((l, lo) :: cst ++ [(s.heap.objs.size, oI)])) := fun p hp => N₁ p (by
      rcases List.mem_cons.mp hp with rfl | hp
      · exact List.mem_append_right _ (.head _)
      · rcases List.mem_append.mp hp with hp | hp
        · exact List.mem_append_right _ (.tail _ hp)
        · exact List.mem_append_left _ ((List.mem_singleton.mp hp) ▸ hIown))
    refine assign_Name (storeX_C (stored_fr hm F₁) N₂ hc (UpdF.head (fun p hp => ?_)) hd (fun h' o' F' N' d' => ?_) hk hx)
    · rcases List.mem_append.mp hp with hp | hp
      · exact hC p hp
      · rw [List.mem_singleton.mp hp]; exact hIC
    · refine wpAny_mono (turn y t m₁ h' tk₁ [(s.heap.objs.size, oI)] o' hy d' hoff' F' N') (fun f s₂ p => ?_) fun _ _ e => e
      have fin : InvEndG h₀ L (SoughtJ C l lo cst stored m₀) [(s.heap.objs.size, oI)] { s with heap := h', toks := tk₁ } s₂ → LoopStepU h₀ L [s.heap.objs.size] own (SoughtJ C l lo cst stored m₀) { s with heap := h₁, toks := tk₁ } .next s₂ := by
        rintro ⟨h2, tk2, m', news', nx', e, F2, N2, hn, ho, ha, hJ⟩
        refine ⟨rfl, h2, tk2, m', nx', e, F2, fun p hp => ?_, fun p hp hq => ?_, hJ⟩
        · rcases List.mem_append.mp hp with hp | hp
          · rcases hmine p hp with e1 | rfl
            · have e2 := hget p hp
              have : p = (s.heap.objs.size, oI) := by
                rw [e1, hoI] at e2
                exact Prod.ext e1 (Option.some.inj e2).symm
              exact N2 p (ho p (this ▸ .head _))
            · obtain ⟨⟨co2, vo2, -, rfl⟩, -⟩ := hJ
              exact N2 _ (hn _ (.tail _ (.head _)))
          · exact N2 p (hn p hp)
        · exact ha _ (.head _) p.1 (List.mem_map.mpr ⟨p, hp, rfl⟩) (List.mem_singleton.mp hq).symm
      cases f with
      | ret v => exact p
      | brk => exact p
      | next => exact fin p
      | cont => exact fin p
  · rintro h' tk m' news' F' N' hoff ⟨⟨co1, vo1, hd, rfl⟩, hm⟩
    exact done m' h' tk co1 vo1 hd (stored_fr hm F') N'
theorem soughts_end {C l : Addr} {co o : Obj} {vo : Option Value} {cst : Led} {stored : List Str} {m₀ : Str → Option Value} {h' : Heap} {tk : Nat} {m' : Str → Option Value} {news' own : Led} {s₁ : Shared}
    (F : Fr h₀ L h' m') (N : News h₀ L h' news') (hd : co.data = Data.cell vo) (hsub : ∀ y ∈ (C, co) :: (l, o) :: cst, y ∈ news') (hown : ∀ y ∈ own, y ∈ news')
    (hoff : OwnOff own (C :: l :: cst.map (·.1))) (hr : ∀ z, stored.contains z = false → m' z = m₀ z) :
    InvEndG h₀ L (SoughtJ C l o cst stored m₀) own s₁ { s₁ with heap := h', toks := tk } :=
  InvEndG.intro F N ⟨⟨co, vo, hd, rfl⟩, hr⟩ hoff hsub hown
end
end Mine
namespace Mine
theorem fr_two {h₀ h : Heap} {L : Addr} {m : Str → Option Value} {k1 k2 : Str} {v1 v2 : Value} (F : Fr h₀ L h m) (h1 : m k1 = some v1) (h2 : m k2 = some v2) : ∃ v : Str → Option Value, Fr h₀ L h (fun z => if z = k1 then some v1 else if z = k2 then some v2 else v z) := ⟨m, by
  have e : (fun z => if z = k1 then some v1 else if z = k2 then some v2 else m z) = m := by
    funext z
    by_cases a : z = k1
    · rw [if_pos a, a, h1]
    · rw [if_neg a]
      by_cases b : z = k2
      · rw [if_pos b, b, h2]
      · rw [if_neg b]
  rw [e]
  exact F⟩
theorem sub9 {p1 p2 p3 p4 p5 p6 p7 c l : Addr × Obj} : ∀ p ∈ c :: l :: [p1, p2, p3, p4, p6, p7], p ∈ [l, p1, p2, p3, p4, p5, c, p6, p7] := fun p hp => by
  simp only [List.mem_cons, List.not_mem_nil, or_false] at hp ⊢
  rcases hp with rfl | rfl | rfl | rfl | rfl | rfl | rfl | rfl <;> simp
end Mine
namespace Mine
theorem sub_a {d a b : Addr × Obj} {cst own : Led} : ∀ y ∈ a :: b :: cst, y ∈ d :: a :: b :: (cst ++ own) := fun y hy => by
  rcases List.mem_cons.mp hy with rfl | hy
  · exact .tail _ (.head _)
  · rcases List.mem_cons.mp hy with rfl | hy
    · exact .tail _ (.tail _ (.head _))
    · exact .tail _ (.tail _ (.tail _ (List.mem_append_left _ hy)))
theorem own_a {d a b : Addr × Obj} {cst own : Led} : ∀ y ∈ own, y ∈ d :: a :: b :: (cst ++ own) := fun _ hy => .tail _ (.tail _ (.tail _ (List.mem_append_right _ hy)))
theorem one_stored {k : Str} {a : Option Value} {v m₀ : Str → Option Value} : ∀ z, [k].contains z = false → (if z = k then a else (fun z => if [k].contains z = true then v z else m₀ z) z) = m₀ z := fun z hz => by
  have h1 : z ≠ k := fun e => by rw [e] at hz; simp at hz
  rw [if_neg h1]
  exact if_neg (by rw [hz]; exact Bool.false_ne_true)
end Mine

end
section
open PySem PySem.W PySem.Calls PyProof.Rows
namespace Mine
theorem sub_l {t d n D c l p1 p2 p3 p4 p5 p6 : Addr × Obj} {rest : Led} : ∀ p ∈ n :: d :: D :: p1 :: p2 :: p3 :: p4 :: p5 :: p6 :: rest, p ∈ t :: d :: n :: D :: (rest ++ [c, l, p1, p2, p3, p4, p5, p6]) := fun p hp => by
  simp only [List.mem_cons, List.mem_append, List.not_mem_nil, or_false] at hp ⊢
  rcases hp with h | h | h | h | h | h | h | h | h | h <;> simp [h]
theorem led_l {h₀ h : Heap} {L : Addr} {t d n D c l p1 p2 p3 p4 p5 p6 : Addr × Obj} {rest : Led} (N : News h₀ L h (t :: d :: n :: D :: (rest ++ [c, l, p1, p2, p3, p4, p5, p6]))) : News h₀ L h (n :: d :: D :: p1 :: p2 :: p3 :: p4 :: p5 :: p6 :: rest) := fun p hp => N p (sub_l p hp)
theorem cst_ne {X D DD : Addr} {o : Obj} {c l p1 p2 p3 p4 p5 p6 : Addr × Obj} {rest : Led} (h : X < DD ∧ D < DD ∧ AllLt DD (rest ++ [c, l, p1, p2, p3, p4, p5, p6])) : ∀ q ∈ (D, o) :: p1 :: p2 :: p3 :: p4 :: p5 :: p6 :: rest, q.1 ≠ DD := fun q hq => by
  rcases List.mem_cons.mp hq with rfl | hq
  · exact Nat.ne_of_lt h.2.1
  · refine Nat.ne_of_lt (allLt_at h.2.2 q ?_)
    simp only [List.mem_cons, List.mem_append, List.not_mem_nil, or_false] at hq ⊢
    rcases hq with h | h | h | h | h | h | h <;> simp [h]
end Mine
namespace Mine
section
variable {prog : Program} {w : World} {A : Around} {E : Value → Shared → Prop} {s : Shared} {env : Env} {h₀ : Heap} {x : Str} {body : List Stmt} {Q : Flow → Shared → Prop}
theorem letters_w {ns : List Int} {xw : Str} {tx : Tok} {m₀ : Str → Option Value} {k j : Nat} {ps : List Nat} {NA DD : Addr} {t0 t1 t2 t3 : Nat} {tt : Tok} {nn : Nat} {cst news rest : Led} {kvs : List (Str × Value)} (stored : List Str)
    (hx : IsTxt xw (wl ns)) (_hT : Tab rest kvs (tabF (mvOf k) (mvOf j))) (hp : ∀ p ∈ ps, Lw p) (ha : ∀ a, Lw a → a ∈ ps)
    (hh : A.handled = none) (F : Fr h₀ env.locals s.heap m₀) (N : News h₀ env.locals s.heap news)
    (hsub : ∀ p ∈ (NA, tup4 1 0 0 1 t0 t1 t2 t3 0) :: (DD, W.listOf #[.str (Str.ofString "") tt] nn) :: cst, p ∈ news) (hnow : m₀ (Str.ofString "now") = some (.ref NA)) (hcst : ∀ q ∈ cst, q.1 ≠ DD)
    (turn : ∀ i c t NA p q r z t0 t1 t2 t3 nn l (v : Str → Option Value) h tk own, LF k j (3 * (wl ns).length / 2) ps (wl ns) i c p q r z → Dues k j (3 * (wl ns).length / 2) ps (wl ns) i l → OwnOff own (NA :: DD :: cst.map (·.1)) → (∀ q ∈ cst ++ own, q.1 ≠ DD) →
      Fr h₀ env.locals h (fun y => if y = x then some (.str (txt [c]) t) else kstB (fun z => if stored.contains z then v z else m₀ z) [(Str.ofString "now", .ref NA)] y) →
      News h₀ env.locals h ((NA, tup4 p q r z t0 t1 t2 t3 0) :: (DD, W.listOf (strValues l).toArray nn) :: (cst ++ own)) →
      wpAny (model prog w) A (execs body env) (InvPostG h₀ env.locals (LoopJ k j (3 * (wl ns).length / 2) ps (wl ns) DD cst stored x m₀ (i + 1)) own { s with heap := h, toks := tk } Q) E { s with heap := h, toks := tk })
    (done : ∀ NA p q r z t0 t1 t2 t3 nn l (v : Str → Option Value) h tk, Dues k j (3 * (wl ns).length / 2) ps (wl ns) (wl ns).length l →
      Fr h₀ env.locals h (fun y => if y = x then v y else kstB (fun z => if stored.contains z then v z else m₀ z) [(Str.ofString "now", .ref NA)] y) →
      News h₀ env.locals h ((NA, tup4 p q r z t0 t1 t2 t3 0) :: (DD, W.listOf (strValues l).toArray nn) :: cst) → Q .next { s with heap := h, toks := tk }) :
    wpAny (model prog w) A (pyIter (.str xw tx)) (fun it s₂ => LoopAtV prog w A h₀ env x body Q E it s₂) E s := by
  obtain ⟨rfl⟩ := hx
  exact letters stored (wl_wd ns) hp ha (by omega) (wl_len ns).1 hh F N hsub hnow hcst turn done
end
theorem IsTxt.lens {x : Str} {u : List Nat} (h : IsTxt x u) : u.length = x.length := by
  obtain ⟨rfl⟩ := h
  exact (txt_len u).symm
end Mine
namespace Mine
theorem sub_e {a n d : Addr × Obj} {cst own : Led} : ∀ y ∈ a :: d :: cst, y ∈ a :: n :: d :: (cst ++ own) := fun y hy => by
  rcases List.mem_cons.mp hy with rfl | hy
  · exact .head _
  · rcases List.mem_cons.mp hy with rfl | hy
    · exact .tail _ (.tail _ (.head _))
    · exact .tail _ (.tail _ (.tail _ (List.mem_append_left _ hy)))
theorem own_e {a n d : Addr × Obj} {cst own : Led} : ∀ y ∈ own, y ∈ a :: n :: d :: (cst ++ own) := fun _ hy => .tail _ (.tail _ (.tail _ (List.mem_append_right _ hy)))
theorem five_stored {p q r s x now : Str} {a1 a2 a3 a4 a5 a6 : Option Value} {b : Value} {v m₀ : Str → Option Value} : ∀ z, z ≠ x → z ≠ now → [p, q, r, s].contains z = false →
    (if z = s then a1 else if z = r then a2 else if z = q then a3 else if z = p then a4 else if z = now then a5 else if z = x then a6 else kstB (fun z => if [p, q, r, s].contains z = true then v z else m₀ z) [(now, b)] z) = m₀ z := fun z hx hn hz => by
  have h := hz
  simp only [List.contains_cons, Bool.or_eq_false_iff, beq_eq_false_iff_ne] at h
  obtain ⟨h1, h2, h3, h4, -⟩ := h
  rw [if_neg h4, if_neg h3, if_neg h2, if_neg h1, if_neg hn, if_neg hx]
  show (if z = now then some b else (if [p, q, r, s].contains z = true then v z else m₀ z)) = m₀ z
  rw [if_neg hn, if_neg (by rw [hz]; exact Bool.false_ne_true)]
end Mine

end
section
open PySem PySem.W PySem.Calls PyProof.Rows
namespace Mine
theorem strsAre_of : ∀ l : List (Str × Tok), StrsAre (strValues l) (l.map (·.1))
  | [] => .nil
  | (x, t) :: r => .cons x t (strsAre_of r)
theorem sum_leS {B : Nat} : ∀ (ls : List Str), (∀ x ∈ ls, x.length ≤ B) → (ls.map (·.length)).sum ≤ ls.length * B
  | [], _ => Nat.zero_le _
  | x :: r, h => by
    have h1 := h x (.head _)
    have h2 := sum_leS r fun y hy => h y (.tail _ hy)
    simp only [List.map_cons, List.sum_cons, List.length_cons, Nat.succ_mul]
    omega
theorem Dues.weight {k j n : Nat} {ps u : List Nat} {i : Nat} {l : List (Str × Tok)} (D : Dues k j n ps u i l) (hw : Wd u) (hp : ∀ p ∈ ps, Lw p) (ha : ∀ a, Lw a → a ∈ ps) (hn : 3 * u.length ≤ 2 * n + 1) (hl : u.length ≤ 14) (hi : i ≤ 14) :
    ((l.map (·.1)).map (·.length)).sum + (l.map (·.1)).length ≤ 1048576 := by
  have h1 : ∀ x ∈ l.map (·.1), x.length ≤ 42 := by
    rw [D.h]
    intro x hx
    obtain ⟨a, -, rfl⟩ := List.mem_map.mp hx
    rw [txt_len]
    obtain ⟨p', q', r', s', hm'⟩ : ∃ p' q' r' s', mu (img (mvOf k) (mvOf j) (u.take a)) = (p', q', r', s') := ⟨_, _, _, _, rfl⟩
    have := (left_at (n := n) hp ha k j (wd_take hw a) (by rw [List.length_take]; omega) hm').2
    rw [List.length_take] at this
    omega
  have h2 := sum_leS _ h1
  have h3 := D.len
  rw [List.length_map] at h2 ⊢
  omega
section
variable {prog : Program} {w : World} {A : Around} {E : Value → Shared → Prop} {s : Shared} {h₀ : Heap} {L a : Addr} {m : Str → Option Value} {news : Led}
theorem join_due {k j : Nat} {ps : List Nat} {ns : List Int} {l : List (Str × Tok)} {nn : Nat} {t : Tok} {Q : Value → Shared → Prop} (D : Dues k j (3 * (wl ns).length / 2) ps (wl ns) (wl ns).length l) (hp : ∀ p ∈ ps, Lw p) (ha : ∀ a, Lw a → a ∈ ps)
    (N : News h₀ L s.heap news) (hm : (a, W.listOf (strValues l).toArray nn) ∈ news)
    (h : ∀ t' k', Q (.str (txt (bars ((segs (wl ns)).map (left (3 * (wl ns).length / 2) ps k j)))) t') { s with toks := k' }) : wpAny (model prog w) A (call (.builtin "str.join") [.str (Str.ofString "|") t, .ref a]) Q E s := by
  have hl := (wl_len ns).1
  refine join_listW (News.isList N hm) (by simpa using strsAre_of l) (by decide +kernel) (D.weight (wl_wd ns) hp ha (by omega) hl hl) fun t' k' => ?_
  rw [D.all]
  exact h t' k'
theorem flat_vlen {vs : List Value} : ∀ n : Nat, (List.replicate n vs).flatten.length = n * vs.length
  | 0 => by simp
  | n + 1 => by rw [List.replicate_succ, List.flatten_cons, List.length_append, flat_vlen n, Nat.succ_mul]; omega
theorem star_flat {vs : List Value} {n c : Nat} {Q : List Value → Shared → Prop} (F : Fr h₀ L s.heap m) (N : News h₀ L s.heap news) (hm : (a, W.listOf (List.replicate n vs).flatten.toArray c) ∈ news) (hn : n ≤ 32) (hv : vs.length = 8)
    (h : ∀ h', Fr h₀ L h' m → News h₀ L h' news → Q (List.replicate n vs).flatten { s with heap := h' }) : StarOf (model prog w) A E (.ref a) Q s :=
  star_seq F N hm rfl rfl (.inl rfl) rfl (by rw [List.size_toArray, flat_vlen, sizeLine_eq, hv]; omega) h
end
theorem fr_three {h₀ h : Heap} {L : Addr} {m : Str → Option Value} {k1 k2 k3 : Str} {v1 v2 v3 : Value} (F : Fr h₀ L h m) (h1 : m k1 = some v1) (h2 : m k2 = some v2) (h3 : m k3 = some v3) : ∃ v : Str → Option Value, Fr h₀ L h (fun z => if z = k1 then some v1 else if z = k2 then some v2 else if z = k3 then some v3 else v z) := ⟨m, by
  have e : (fun z => if z = k1 then some v1 else if z = k2 then some v2 else if z = k3 then some v3 else m z) = m := by
    funext z
    by_cases a : z = k1
    · rw [if_pos a, a, h1]
    · rw [if_neg a]
      by_cases b : z = k2
      · rw [if_pos b, b, h2]
      · rw [if_neg b]
        by_cases c : z = k3
        · rw [if_pos c, c, h3]
        · rw [if_neg c]
  rw [e]
  exact F⟩
end Mine
namespace Mine
section
variable {prog : Program} {w : World} {A : Around} {E : Value → Shared → Prop} {s : Shared} {h₀ : Heap} {L P : Addr} {m : Str → Option Value} {news : Led}
theorem mul_pairs {ns : List Int} {xw : Str} {vs : List Value} {c : Nat} {u : Tok} {Q : Value → Shared → Prop} (hx : IsTxt xw (wl ns)) (F : Fr h₀ L s.heap m) (N : News h₀ L s.heap news) (hm : (P, W.listOf vs.toArray c) ∈ news) (hv : vs.length = 8)
    (h : ∀ D h', Fr h₀ L h' m → News h₀ L h' ((D, W.listOf (List.replicate (3 * (wl ns).length / 2) vs).flatten.toArray 0) :: news) → Q (.ref D) { s with heap := h' }) :
    wpAny (model prog w) A (binaryOp .Mult (.ref P) (.int ((3 * (xw.length : Int)).fdiv 2) u)) Q E s := by
  have h1 := hx.lens
  have h2 := (wl_len ns).1
  have e : (3 * (xw.length : Int)).fdiv 2 = ((3 * (wl ns).length / 2 : Nat) : Int) := by
    rw [h1, Int.fdiv_eq_ediv_of_nonneg _ (by decide)]
    omega
  rw [e]
  exact KMa.mul F N (News.isList N hm) (by omega) (by omega) (by rw [hv]; omega) rfl fun D h' F' N' _ => h D h' F' N'
end
end Mine
namespace Mine
theorem replace_w (w : World) (mean : ExcName → Option Value) (mg mb : Str → Option Value) (news : Led) {x : Str} (tkx : Tok) (k j : Nat) {ns : List Int} {a1 a2 a3 a4 : Nat} {y1 y2 y3 y4 : Str} (s0 s1 s2 s3 s4 s5 s6 s7 u0 u1 u2 u3 u4 u5 u6 u7 : Tok)
   (hx : IsTxt x (bars (segs (wl ns)))) (hp : ∀ p ∈ [a1, a2, a3, a4], Lw p) (e1 : y1 = txt [a1, inv a1]) (e2 : y2 = txt [a2, inv a2]) (e3 : y3 = txt [a3, inv a3]) (e4 : y4 = txt [a4, inv a4]) :
   Con w mean mg mb 21 (Value.str x tkx :: Value.str (txt [(mvOf k).one]) s0 :: Value.str (txt [(mvOf k).p1, (mvOf k).p2]) s1 :: Value.str (txt [(mvOf k).back]) s2 :: Value.str (txt [(mvOf k).u1, (mvOf k).u2]) s3 ::
     Value.str (txt [(mvOf j).one]) s4 :: Value.str (txt [(mvOf j).p1, (mvOf j).p2]) s5 :: Value.str (txt [(mvOf j).back]) s6 :: Value.str (txt [(mvOf j).u1, (mvOf j).u2]) s7 ::
     ((List.replicate (3 * (wl ns).length / 2) [Value.str y1 u0, Value.str (Str.ofString "") u1, Value.str y2 u2, Value.str (Str.ofString "") u3, Value.str y3 u4, Value.str (Str.ofString "") u5, Value.str y4 u6, Value.str (Str.ofString "") u7]).flatten ++ []))
     news 1 (fun h₀ L m Q => ∀ h' tk' t, Fr h₀ L h' m → News h₀ L h' news → Q (.str (txt (bars ((segs (wl ns)).map (left (3 * (wl ns).length / 2) [a1, a2, a3, a4] k j)))) t) h' tk') := by
  have h14 := (wl_len ns).1
  subst e1 e2 e3 e4
  have key : ∀ f1 f2 e : List (Str × Tok), f1 = [(txt [(mvOf k).one], s0), (txt [(mvOf k).p1, (mvOf k).p2], s1), (txt [(mvOf k).back], s2), (txt [(mvOf k).u1, (mvOf k).u2], s3)] →
      f2 = [(txt [(mvOf j).one], s4), (txt [(mvOf j).p1, (mvOf j).p2], s5), (txt [(mvOf j).back], s6), (txt [(mvOf j).u1, (mvOf j).u2], s7)] →
      e = [(txt [a1, inv a1], u0), (Str.ofString "", u1), (txt [a2, inv a2], u2), (Str.ofString "", u3), (txt [a3, inv a3], u4), (Str.ofString "", u5), (txt [a4, inv a4], u6), (Str.ofString "", u7)] →
      Long k j (3 * (wl ns).length / 2) [a1, a2, a3, a4] (wl ns) x f1 f2 e := by
    rintro f1 f2 e rfl rfl rfl
    exact ⟨hp, hx, fronts_len hx h14, rfl, rfl, by simp only [List.map_cons, List.map_nil, nil_txt]; rfl, rfl, by omega⟩
  exact replace_l w mean mg mb news _ x tkx k j (3 * (wl ns).length / 2) [a1, a2, a3, a4] (wl ns) _ _ _
    (vs_eq [(txt [(mvOf k).one], s0), (txt [(mvOf k).p1, (mvOf k).p2], s1), (txt [(mvOf k).back], s2), (txt [(mvOf k).u1, (mvOf k).u2], s3)]
      [(txt [(mvOf j).one], s4), (txt [(mvOf j).p1, (mvOf j).p2], s5), (txt [(mvOf j).back], s6), (txt [(mvOf j).u1, (mvOf j).u2], s7)]
      [(txt [a1, inv a1], u0), (Str.ofString "", u1), (txt [a2, inv a2], u2), (Str.ofString "", u3), (txt [a3, inv a3], u4), (Str.ofString "", u5), (txt [a4, inv a4], u6), (Str.ofString "", u7)])
    (key _ _ _ rfl rfl rfl)
end Mine

end
section
open PySem PySem.W PySem.Calls PyProof.Rows
namespace Mine
/-- the pairs' values: each a text and the empty one -/
def pv : List (Str × Tok × Tok) → List Value
  | [] => []
  | (x, t, u) :: r => .str x t :: .str (Str.ofString "") u :: pv r
theorem pv_app : ∀ (a b : List (Str × Tok × Tok)), pv (a ++ b) = pv a ++ pv b
  | [], _ => rfl
  | (x, t, u) :: r, b => by
    show Value.str x t :: Value.str (Str.ofString "") u :: pv (r ++ b) = _
    rw [pv_app r b]
    rfl
theorem pv_len : ∀ a : List (Str × Tok × Tok), (pv a).length = 2 * a.length
  | [] => rfl
  | (x, t, u) :: r => by
    show (pv r).length + 1 + 1 = 2 * (r.length + 1)
    rw [pv_len r]; omega
structure CF (zs : List (Str × Tok × Tok)) (r : List (Str × Tok)) (i : Nat) : Prop where
  a : zs.length = i
  b : r.length + i = 4
  c : ∀ y, y ∈ [Str.ofString "aA", Str.ofString "Aa", Str.ofString "bB", Str.ofString "Bb"] ↔ y ∈ zs.map (·.1) ++ r.map (·.1)
theorem CF.succ {zs : List (Str × Tok × Tok)} {r r' : List (Str × Tok)} {i : Nat} {x : Str} {t : Tok} (C : CF zs r i) (p : r.Perm ((x, t) :: r')) (u : Tok) : CF (zs ++ [(x, t, u)]) r' (i + 1) := by
  have hl := p.length_eq
  have hb := C.b
  refine ⟨by rw [List.length_append, C.a]; rfl, ?_, fun y => ?_⟩
  · rw [List.length_cons] at hl; omega
  · have hm := (p.map (·.1)).mem_iff (a := y)
    rw [C.c y, List.map_append, List.mem_append, List.mem_append, List.mem_append, hm]
    simp only [List.map_cons, List.map_nil, List.mem_cons, List.not_mem_nil, or_false]
    constructor
    · rintro (h | h | h)
      · exact .inl (.inl h)
      · exact .inl (.inr h)
      · exact .inr h
    · rintro ((h | h) | h)
      · exact .inl h
      · exact .inr (.inl h)
      · exact .inr (.inr h)
theorem CF.four {zs : List (Str × Tok × Tok)} {r : List (Str × Tok)} (C : CF zs r 4) : ∃ x1 t1 u1 x2 t2 u2 x3 t3 u3 x4 t4 u4, zs = [(x1, t1, u1), (x2, t2, u2), (x3, t3, u3), (x4, t4, u4)] ∧ Four x1 x2 x3 x4 := by
  obtain ⟨a, b, c⟩ := C
  have hr : r = [] := List.length_eq_zero_iff.mp (by omega)
  subst hr
  match zs, a, c with
  | [(x1, t1, u1), (x2, t2, u2), (x3, t3, u3), (x4, t4, u4)], _, c => exact ⟨x1, t1, u1, x2, t2, u2, x3, t3, u3, x4, t4, u4, rfl, ⟨fun y => by simpa using c y⟩⟩
/-- between two counts -/
def CntJ (P T : Addr) (o : Obj) (cst : Led) (x : Str) (m₀ : Str → Option Value) (i : Nat) (m : Str → Option Value) (nx : Led) : Prop :=
  ∃ (PA : Addr) (zs : List (Str × Tok × Tok)) (r : List (Str × Tok)) (k : Nat) (lf : Int) (lt : Tok), nx = (PA, W.listOf (pv zs).toArray 0) :: (P, W.listOf (strValues r).toArray k) :: (T, o) :: cst ∧ CF zs r i ∧ (PA ≠ P ∧ ∀ p ∈ cst, p.1 < PA) ∧
    (∀ p ∈ [(Str.ofString "pairs", Value.ref PA), (Str.ofString "left", Value.int lf lt)], m p.1 = some p.2) ∧
    ∀ z, z ≠ x → (∀ p ∈ [(Str.ofString "pairs", Value.ref PA), (Str.ofString "left", Value.int lf lt)], z ≠ p.1) → ([] : List Str).contains z = false → m z = m₀ z
section
variable {prog : Program} {w : World} {A : Around} {E : Value → Shared → Prop} {s : Shared} {env : Env} {h₀ : Heap} {x : Str} {body : List Stmt} {Q : Flow → Shared → Prop}
theorem counts {P T PA : Addr} {ta tb tc td k0 k1 k2 k3 lt : Tok} {lf : Int} {m₀ : Str → Option Value} {cst news : Led} (hh : A.handled = none) (F : Fr h₀ env.locals s.heap m₀) (N : News h₀ env.locals s.heap news)
    (hsub : ∀ p ∈ (PA, W.listOf #[] 0) :: (P, W.listOf #[.str (Str.ofString "aA") ta, .str (Str.ofString "Aa") tb, .str (Str.ofString "bB") tc, .str (Str.ofString "Bb") td] 0) :: (T, ({ cls := .type "tuple", data := .seq #[.int 4 k0, .int 3 k1, .int 2 k2, .int 1 k3] } : Obj)) :: cst, p ∈ news)
    (hPA : PA ≠ P) (hPl : ∀ p ∈ cst, p.1 < PA) (hP : ∀ p ∈ (T, ({ cls := .type "tuple", data := .seq #[.int 4 k0, .int 3 k1, .int 2 k2, .int 1 k3] } : Obj)) :: cst, p.1 ≠ P)
    (hm1 : m₀ (Str.ofString "pairs") = some (.ref PA)) (hm2 : m₀ (Str.ofString "left") = some (.int lf lt))
    (turn : ∀ i t PA zs r k lf lt (v : Str → Option Value) h tk own, i < 4 → CF zs r i → PA ≠ P → (∀ p ∈ (T, ({ cls := .type "tuple", data := .seq #[.int 4 k0, .int 3 k1, .int 2 k2, .int 1 k3] } : Obj)) :: (cst ++ own), p.1 ≠ P) → OwnOff own (P :: T :: cst.map (·.1)) →
      Fr h₀ env.locals h (fun y => if y = x then some (.int (4 - (i : Int)) t) else kstB (fun z => if ([] : List Str).contains z then v z else m₀ z) [(Str.ofString "pairs", Value.ref PA), (Str.ofString "left", Value.int lf lt)] y) →
      News h₀ env.locals h ((PA, W.listOf (pv zs).toArray 0) :: (P, W.listOf (strValues r).toArray k) :: (T, { cls := .type "tuple", data := .seq #[.int 4 k0, .int 3 k1, .int 2 k2, .int 1 k3] }) :: (cst ++ own)) →
      wpAny (model prog w) A (execs body env) (InvPostG h₀ env.locals (CntJ P T { cls := .type "tuple", data := .seq #[.int 4 k0, .int 3 k1, .int 2 k2, .int 1 k3] } cst x m₀ (i + 1)) own { s with heap := h, toks := tk } Q) E { s with heap := h, toks := tk })
    (done : ∀ PA x1 t1 u1 x2 t2 u2 x3 t3 u3 x4 t4 u4 r k lf lt (v : Str → Option Value) h tk, Four x1 x2 x3 x4 → (∀ p ∈ cst, p.1 < PA) →
      Fr h₀ env.locals h (fun y => if y = x then v y else kstB (fun z => if ([] : List Str).contains z then v z else m₀ z) [(Str.ofString "pairs", Value.ref PA), (Str.ofString "left", Value.int lf lt)] y) →
      News h₀ env.locals h ((PA, W.listOf #[.str x1 t1, .str (Str.ofString "") u1, .str x2 t2, .str (Str.ofString "") u2, .str x3 t3, .str (Str.ofString "") u3, .str x4 t4, .str (Str.ofString "") u4] 0) :: (P, W.listOf (strValues r).toArray k) :: (T, { cls := .type "tuple", data := .seq #[.int 4 k0, .int 3 k1, .int 2 k2, .int 1 k3] }) :: cst) →
      Q .next { s with heap := h, toks := tk }) :
    wpAny (model prog w) A (pyIter (.ref T)) (fun it s₂ => LoopAtV prog w A h₀ env x body Q E it s₂) E s := by
  generalize hto : ({ cls := .type "tuple", data := .seq #[.int 4 k0, .int 3 k1, .int 2 k2, .int 1 k3] } : Obj) = to at *
  have hml : (T, to) ∈ news := hsub _ (.tail _ (.tail _ (.head _)))
  have hol : s.heap.get? T = some to := (N _ hml).1
  have hls : s.heap.IsTuple T #[.int 4 k0, .int 3 k1, .int 2 k2, .int 1 k3] := ⟨_, hol, by rw [← hto], 0, by rw [← hto]⟩
  have hne : T ≠ s.heap.objs.size := Nat.ne_of_lt (Heap.lt_size hol)
  refine wpAny_pyIter_tuple hls ?_
  have Wk := Walks.tuple (prog := prog) (w := w) hh s.heap.objs.size T hne #[.int 4 k0, .int 3 k1, .int 2 k2, .int 1 k3]
  have hup : ∀ p ∈ news, (s.heap.push { cls := .type "tuple_iterator", data := .fields #[.ref T, .int 0 0] }).get? p.1 = some p.2 := fun p hp => Heap.get?_push_of_some _ (N p hp).1
  refine ⟨s.heap.objs.size, _, _, _, _, _, m₀, _, CntJ P T to cst x m₀, rfl, Wk, ?_, ?_, ?_, ⟨⟨_, Heap.get?_push_size _ rfl, rfl, rfl⟩, hls.at fun o e => Heap.get?_push_of_some _ e⟩, F.push _, (fun p hp => ⟨hup p (hsub p hp), (N p (hsub p hp)).2⟩),
    ⟨PA, [], [(Str.ofString "aA", ta), (Str.ofString "Aa", tb), (Str.ofString "bB", tc), (Str.ofString "Bb", td)], 0, lf, lt, rfl, ⟨rfl, rfl, fun y => Iff.rfl⟩, ⟨hPA, hPl⟩, ?_, fun _ _ _ _ => rfl⟩, ?_, ?_⟩
  · intro hm
    rcases List.mem_cons.mp hm with e | hm
    · exact absurd F.ns.lt (e ▸ Nat.lt_irrefl _)
    · exact (N _ hml).2.1 (List.mem_singleton.mp hm).symm
  · intro b hb
    rw [List.mem_singleton.mp hb]
    exact next_is_new F
  · intro p hp hI
    exact absurd (Heap.lt_size (N p (hsub p hp)).1) ((List.mem_singleton.mp hI) ▸ Nat.lt_irrefl _)
  · intro p hp
    rcases List.mem_cons.mp hp with rfl | hp
    · exact hm1
    · rw [List.mem_singleton.mp hp]; exact hm2
  · rintro i v m₁ nx s₁ own ⟨h₁, tk₁, rfl⟩ hin hPv ⟨PA', zs, r, k, lf', lt', rfl, hC, ⟨hPA', -⟩, h1, h2⟩ hoff hown hget hfp hst F₁ N₁
    have hI0 : h₀.get? s.heap.objs.size = none := next_is_new F
    obtain ⟨⟨oI, hoI, _⟩, _⟩ := id hst
    have hi4 : i < 4 := hin
    obtain ⟨t, rfl⟩ : ∃ t, v = .int (4 - (i : Int)) t := by
      match i, hi4, hPv with
      | 0, _, h => exact ⟨k0, (Option.some.inj h).symm⟩
      | 1, _, h => exact ⟨k1, (Option.some.inj h).symm⟩
      | 2, _, h => exact ⟨k2, (Option.some.inj h).symm⟩
      | 3, _, h => exact ⟨k3, (Option.some.inj h).symm⟩
    have hIown : (s.heap.objs.size, oI) ∈ own := hfp _ (List.mem_cons.mpr (.inl rfl)) hI0 _ hoI
    have hTn : (T, to) ∈ (PA', W.listOf (pv zs).toArray 0) :: (P, W.listOf (strValues r).toArray k) :: (T, to) :: cst := .tail _ (.tail _ (.head _))
    have hmine : ∀ p ∈ own, p.1 = s.heap.objs.size ∨ p = (T, to) := fun p hp => by
      rcases List.mem_cons.mp (hown p hp) with e | e
      · exact .inl e
      · refine .inr ?_
        have e1 := List.mem_singleton.mp e
        have e2 := hget p hp
        rw [e1] at e2
        have e3 : h₁.get? T = some to := (N₁ (T, to) (List.mem_append_right _ hTn)).1
        exact Prod.ext e1 (Option.some.inj (e2.symm.trans e3))
    have hoffI : ∀ q ∈ (PA', W.listOf (pv zs).toArray 0) :: (P, W.listOf (strValues r).toArray k) :: (T, to) :: cst, s.heap.objs.size ≠ q.1 := fun q hq e => hoff q hq (List.mem_singleton.mpr e.symm)
    have hoff' : OwnOff [(s.heap.objs.size, oI)] (P :: T :: cst.map (·.1)) := by
      intro p hp b hb
      rw [List.mem_singleton.mp hp]
      rcases List.mem_cons.mp hb with rfl | hb
      · exact hoffI _ (.tail _ (.head _))
      · rcases List.mem_cons.mp hb with rfl | hb
        · exact hoffI _ (.tail _ (.tail _ (.head _)))
        · obtain ⟨q, hq, rfl⟩ := List.mem_map.mp hb
          exact hoffI _ (.tail _ (.tail _ (.tail _ hq)))
    have N₂ : News h₀ env.locals h₁ ((PA', W.listOf (pv zs).toArray 0) :: (P, W.listOf (strValues r).toArray k) :: (T, to) :: (cst ++ [(s.heap.objs.size, oI)])) := fun p hp => N₁ p (by
      rcases List.mem_cons.mp hp with rfl | hp
      · exact List.mem_append_right _ (.head _)
      · rcases List.mem_cons.mp hp with rfl | hp
        · exact List.mem_append_right _ (.tail _ (.head _))
        · rcases List.mem_cons.mp hp with rfl | hp
          · exact List.mem_append_right _ hTn
          · rcases List.mem_append.mp hp with hp | hp
            · exact List.mem_append_right _ (.tail _ (.tail _ (.tail _ hp)))
            · exact List.mem_append_left _ ((List.mem_singleton.mp hp) ▸ hIown))
    have hP' : ∀ p ∈ (T, to) :: (cst ++ [(s.heap.objs.size, oI)]), p.1 ≠ P := fun p hp => by
      rcases List.mem_cons.mp hp with rfl | hp
      · exact hP _ (.head _)
      · rcases List.mem_append.mp hp with hp | hp
        · exact hP p (.tail _ hp)
        · rw [List.mem_singleton.mp hp]
          exact hoff' _ (.head _) _ (.head _)
    refine wpAny_mono (turn i t PA' zs r k lf' lt' m₁ h₁ tk₁ [(s.heap.objs.size, oI)] hi4 hC hPA' hP' hoff' (kst_fr h1 h2 F₁) N₂) (fun f s₂ p => ?_) fun _ _ e => e
    have fin : InvEndG h₀ env.locals (CntJ P T to cst x m₀ (i + 1)) [(s.heap.objs.size, oI)] { s with heap := h₁, toks := tk₁ } s₂ → LoopStepU h₀ env.locals [s.heap.objs.size] own (CntJ P T to cst x m₀ (i + 1)) { s with heap := h₁, toks := tk₁ } .next s₂ := by
      rintro ⟨h2, tk2, m', news', nx', e, F2, N2, hn, ho, ha, hJ⟩
      refine ⟨rfl, h2, tk2, m', nx', e, F2, fun p hp => ?_, fun p hp hq => ?_, hJ⟩
      · rcases List.mem_append.mp hp with hp | hp
        · rcases hmine p hp with e1 | rfl
          · have e2 := hget p hp
            have : p = (s.heap.objs.size, oI) := by
              rw [e1] at e2
              exact Prod.ext e1 (Option.some.inj (e2.symm.trans hoI))
            exact N2 p (ho p (this ▸ .head _))
          · obtain ⟨_, _, _, _, _, _, rfl, -⟩ := hJ
            exact N2 _ (hn _ (.tail _ (.tail _ (.head _))))
        · exact N2 p (hn p hp)
      · exact ha _ (.head _) p.1 (List.mem_map.mpr ⟨p, hp, rfl⟩) (List.mem_singleton.mp hq).symm
    cases f with
    | ret v => exact p
    | brk => exact p
    | next => exact fin p
    | cont => exact fin p
  · rintro h' tk m' news' F' N' hoff ⟨PA', zs, r, k, lf', lt', rfl, hC, ⟨-, hPl'⟩, h1, h2⟩
    obtain ⟨x1, t1, u1, x2, t2, u2, x3, t3, u3, x4, t4, u4, rfl, h4⟩ := hC.four
    exact done PA' x1 t1 u1 x2 t2 u2 x3 t3 u3 x4 t4 u4 r k lf' lt' m' h' tk h4 hPl' (kst_frOut h1 h2 F') N'
theorem counts_end {P T PA : Addr} {o : Obj} {cst : Led} {m₀ : Str → Option Value} {i k : Nat} {L : Addr} {h' : Heap} {tk : Nat} {m' : Str → Option Value} {news' own : Led} {zs : List (Str × Tok × Tok)} {r : List (Str × Tok)} {lf : Int} {lt : Tok} {s₁ : Shared}
    (F : Fr h₀ L h' m') (N : News h₀ L h' news') (C : CF zs r (i + 1)) (hsub : ∀ y ∈ (PA, W.listOf (pv zs).toArray 0) :: (P, W.listOf (strValues r).toArray k) :: (T, o) :: cst, y ∈ news') (hown : ∀ y ∈ own, y ∈ news')
    (hPA : PA ≠ P) (hPl : ∀ p ∈ cst, p.1 < PA) (hoff : OwnOff own (P :: T :: cst.map (·.1))) (hlt : ∀ p ∈ own, p.1 ≠ PA) (h1 : m' (Str.ofString "pairs") = some (.ref PA)) (h2 : m' (Str.ofString "left") = some (.int lf lt))
    (hr : ∀ z, z ≠ x → z ≠ Str.ofString "pairs" → z ≠ Str.ofString "left" → m' z = m₀ z) :
    InvEndG h₀ L (CntJ P T o cst x m₀ (i + 1)) own s₁ { s₁ with heap := h', toks := tk } :=
  InvEndG.intro F N ⟨PA, zs, r, k, lf, lt, rfl, C, ⟨hPA, hPl⟩, (fun p hp => by
      rcases List.mem_cons.mp hp with rfl | hp
      · exact h1
      · rw [List.mem_singleton.mp hp]; exact h2), fun z a b _ => hr z a (b _ (.head _)) (b _ (.tail _ (.head _)))⟩
    (fun p hp b hb => by
      rcases List.mem_cons.mp hb with rfl | hb
      · exact hlt p hp
      · exact hoff p hp b hb) hsub hown
end
end Mine
namespace Mine
theorem sub_c {t q a p : Addr × Obj} {cst : Led} : ∀ y ∈ a :: p :: t :: cst, y ∈ t :: q :: a :: p :: cst := fun y hy => by
  simp only [List.mem_cons] at hy ⊢
  rcases hy with h | h | h | h <;> simp [h]
theorem sub_d {d q a p t : Addr × Obj} {cst own : Led} : ∀ y ∈ d :: p :: t :: cst, y ∈ d :: q :: a :: p :: t :: (cst ++ own) := fun y hy => by
  simp only [List.mem_cons, List.mem_append] at hy ⊢
  rcases hy with h | h | h | h <;> simp [h]
theorem own_d {d q a p t : Addr × Obj} {cst own : Led} : ∀ y ∈ own, y ∈ d :: q :: a :: p :: t :: (cst ++ own) := fun y hy => .tail _ (.tail _ (.tail _ (.tail _ (.tail _ (List.mem_append_right _ hy)))))
theorem three_stored {c pa le : Str} {a1 a2 a3 : Option Value} {b1 b2 : Value} {v m₀ : Str → Option Value} : ∀ z, z ≠ c → z ≠ pa → z ≠ le →
    (if z = le then a1 else if z = pa then a2 else if z = c then a3 else kstB (fun z => if ([] : List Str).contains z = true then v z else m₀ z) [(pa, b1), (le, b2)] z) = m₀ z := fun z h1 h2 h3 => by
  rw [if_neg h3, if_neg h2, if_neg h1]
  show (if z = pa then some b1 else if z = le then some b2 else if ([] : List Str).contains z = true then v z else m₀ z) = m₀ z
  rw [if_neg h2, if_neg h3]
  rfl
theorem pv_room {zs : List (Str × Tok × Tok)} {r : List (Str × Tok)} {i : Nat} (C : CF zs r i) (hi : i < 4) {a b : Value} : (pv zs).toArray.toList.length + #[a, b].toList.length ≤ sizeLine := by
  have h1 := pv_len zs
  have h2 := C.a
  rw [sizeLine_eq]
  show (pv zs).length + 2 ≤ _
  omega
end Mine

end
section
open PySem PySem.W PySem.Calls PyProof.Rows
namespace Mine
local macro_rules | `(tactic| walk_at "eval ListComp") => `(tactic| (k_here; (with_reducible show wpAny _ _ (eval (Expr.ListComp (Expr.Subscript _ (Expr.Slice _ _ _ _) _) _ _ _) _) _ _ _); k_dflt (refine LCg.ListComp_U (F₀ := by k_asm) (by with_unfolding_all rfl) (by decide) (by rfl) (by decide) (by rfl) ?_)))
local macro_rules | `(tactic| walk_at "CompSrc") => `(tactic| (k_here; k_dflt (refine LCg.CompSrc.range (by rfl) (by k_asm) (by k_asm) (by assumption) (by exact small_one (by omega) (by omega) (by omega) (by omega)) (by exact rangeSize_nat _ _) (by (rw [PySem.sizeLine_eq]; omega)) ?_; intro g'; (refine' kct_range (fun k => sliceTo ‹Str› k) (fun k' t' I' oI' C' oC' D' m' ys' h' tk' E' hlo' hhi' hC' hx' F' N' off' ne' => ?_) ?_); (all_goals (try (simp only [LCg.Off3, and_true] at off'))); (all_goals (try ((show KPfMark → _); intro hMark'))); kcf_last)))
local macro_rules | `(tactic| walk_at "call builtin:str.join") => `(tactic| ((with_reducible rename Brk 4 => bk9); clear bk9; apply Stopped.out))
local macro_rules | `(tactic| walk_at "call ref") => `(tactic| ((with_reducible rename Brk 3 => bk9); clear bk9; apply Stopped.out))
local macro_rules | `(tactic| walk_at "KCtEl") => `(tactic| (with_unfolding_all exact kct_el rfl rfl rfl))
local macro_rules | `(tactic| walk_at "subscriptTail Name Slice ref ref") => `(tactic| ((with_reducible rename Brk 7 => bk9); clear bk9; apply Stopped.out))
local macro_rules | `(tactic| walk_at "exec For Name Subscript cons nil") => `(tactic| ((with_reducible rename Brk 2 => bk9); clear bk9; apply Stopped.out))
local macro_rules | `(tactic| walk_at "pyIter ref") => `(tactic| ((with_reducible rename Brk 6 => bk9); clear bk9; apply Stopped.out))
local macro_rules | `(tactic| walk_at "call builtin:len") => `(tactic| (k_here; (with_reducible show wpAny _ _ (call (Value.builtin "len") [Value.str _ _]) _ _ _); k_dflt (refine SBL.len (by omega) ?_)))
local macro_rules | `(tactic| walk_at "exec Assign cons ListComp") => `(tactic| (k_here; (with_reducible rename Pr _ => hPr8); k_dflt (refine LCt.Assign_ListComp_T (F₀ := by k_asm) (by rfl) (by with_unfolding_all rfl) (by with_unfolding_all rfl) (by decide) (by rfl) (by decide) (by rfl) (by rfl) (by rfl) ?_)))
local macro_rules | `(tactic| walk_at "CompSrcT") => `(tactic| ((with_reducible rename Pr _ => hPr8); (with_reducible rename IsTxt _ (bars _) => hIt8); k_here; k_dflt (refine LCt.CompSrcT.range (by rfl) (by k_asm) (by k_asm) (by assumption) (by exact small_one (by omega) (by omega) (by omega) (by omega)) (by exact rangeSize_nat _ _) (by (rw [PySem.sizeLine_eq]; omega)) ?_; intro g'; (refine' kci_range (g9 hIt8 hPr8) (fun k' t' I' oI' C' oC' D' m' ys' l' h' tk' E' hlo' hhi' hI' hC' hx' F' N' off' ne' => ?_) ?_ (g9_grows _ _)); (all_goals (try ((show KPfMark → _); intro hMark'))); kcf_last)))
local macro_rules | `(tactic| walk_at "CompEnd") => `(tactic| ((with_reducible rename Pr _ => hPr8); (with_reducible rename LCg.Off3 _ _ _ _ => hOff8); (with_reducible rename News _ _ _ _ => hN8); (with_reducible refine LCg.CompEnd.intro (by assumption) hN8 _ (fun _ h => h) hOff8 (by exact trivial) ?_)))
local macro_rules | `(tactic| walk_at "call builtin:len") => `(tactic| (k_here; (with_reducible show wpAny _ _ (call (Value.builtin "len") [Value.ref _]) _ _ _); (with_reducible rename Pr _ => hPr8); (with_reducible rename IntsAre _ _ => hI8); k_dflt (refine len_lst (by k_asm) (by k_mem) hI8 (by omega) ?_)))
local macro_rules | `(tactic| walk_at "exec For Name Name cons nil") => `(tactic| ((with_reducible rename Brk 8 => bk9); clear bk9; apply Stopped.out))
local macro_rules | `(tactic| walk_at "pyIter str") => `(tactic| ((with_reducible rename Brk 8 => bk9); clear bk9; apply Stopped.out))
local macro_rules | `(tactic| walk_at "subscriptTail Name Name ref str") => `(tactic| ((with_reducible rename Brk 5 => bk9); clear bk9; apply Stopped.out))
local macro_rules | `(tactic| walk_at "call builtin:list.append") => `(tactic| ((with_reducible rename Brk 11 => bk9); clear bk9; apply Stopped.out))
local macro_rules | `(tactic| walk_at "InvEndG") => `(tactic| ((with_reducible rename LF _ _ _ _ _ _ _ _ _ _ _ => hLF8); clear hLF8; apply Stopped.out))
local macro_rules | `(tactic| k_mem) => `(tactic| ((with_reducible rename LF _ _ _ _ _ _ _ _ _ _ _ => hLF8); first | with_reducible assumption | (with_reducible exact List.mem_cons_self) | (with_reducible exact List.mem_append_left _ (by with_reducible assumption)) | ((with_reducible refine List.mem_cons_of_mem _ ?_); k_mem)))
local macro_rules | `(tactic| walk_at "binaryOp Mult ref int") => `(tactic| ((with_reducible rename Brk 12 => bk9); clear bk9; apply Stopped.out))
local macro_rules | `(tactic| walk_at "StarOf ref") => `(tactic| ((with_reducible rename Brk 13 => bk9); clear bk9; apply Stopped.out))
local macro_rules | `(tactic| walk_at "exec For Name Tuple cons nil") => `(tactic| ((with_reducible rename Brk 16 => bk9); clear bk9; apply Stopped.out))
local macro_rules | `(tactic| walk_at "call builtin:list.pop") => `(tactic| ((with_reducible rename Brk 14 => bk9); clear bk9; apply Stopped.out))
local macro_rules | `(tactic| walk_at "binaryOp Add ref ref") => `(tactic| ((with_reducible rename Brk 15 => bk9); clear bk9; apply Stopped.out))
set_option maxRecDepth 100000 in
set_option maxHeartbeats 20000000 in
theorem main : PySem.Challenge.rw_pm0087_01.Holds := hd (by
  k_go0
  (all_goals try k_fold)
  k_with_none
  have b4 : Brk 4 := ⟨⟩
  k_steps
  refine Stopped.mk ?_
  refine' join_word ?qal ?qac ?_
  case qal => assumption
  case qac => assumption
  intro xw _ _ hw
  have hwl := IsTxt.len hw
  with_reducible rename News _ _ _ _ => NN
  have N1 := news_drop 3 NN
  clear NN
  dsimp only [List.drop] at N1
  with_reducible rename Fr _ _ _ _ => FF
  have N0 := news_as FF N1 rfl
  clear N1
  have b4 : Brk 4 := ⟨⟩
  k_steps
  refine Stopped.mk ?_
  refine' join_fronts ?qaN ?qaL ?qaC ?qaX ?qaU ?_
  case qaN => k_asm
  case qaL => k_mem
  case qaC => with_reducible assumption
  case qaX => with_reducible assumption
  case qaU => exact (wl_len _).1
  intro xf _ _ hf
  have hfl := fronts_len hf (wl_len _).1
  with_reducible rename News _ _ _ _ => NN
  have N1 := news_drop 1 NN
  clear NN
  dsimp only [List.drop] at N1
  with_reducible rename Fr _ _ _ _ => FF
  have N0 := news_as FF N1 rfl
  clear N1
  have b3 : Brk 3 := ⟨⟩
  k_steps
  refine Stopped.mk ?_
  refine' move_c _ _ _ _ _ _ _ ?qmah0 ?qmah8 _ _ _ _ _ _ _ _ _ _ _ _ _ _ _ _ _ ?qmak1 ?qmak2 ?qmak3 ?qmak4 ?qmak5 ?qmakK ?qmakd ?qmaku ?_
  case qmak2 => k_asm
  case qmak1 => k_asm
  case qmak3 => k_asm
  case qmak4 => k_asm
  case qmak5 => k_asm
  case qmakK => exact rfl
  case qmah0 => exact fmod_lo _ (by decide)
  case qmah8 => exact fmod_hi _ (by decide)
  case qmakd => ktr_room
  case qmaku => ktr_units
  intro D9 h9 tk9 a9 b9 c9 d9 l9 F9 N9
  (try k_lt l9)
  (try dsimp only)
  have b3 : Brk 3 := ⟨⟩
  k_steps
  refine Stopped.mk ?_
  refine' move_c _ _ _ _ _ _ _ ?qmbh0 ?qmbh8 _ _ _ _ _ _ _ _ _ _ _ _ _ _ _ _ _ ?qmbk1 ?qmbk2 ?qmbk3 ?qmbk4 ?qmbk5 ?qmbkK ?qmbkd ?qmbku ?_
  case qmbk2 => k_asm
  case qmbk1 => k_asm
  case qmbk3 => k_asm
  case qmbk4 => k_asm
  case qmbk5 => k_asm
  case qmbkK => exact rfl
  case qmbh0 => exact fmod_lo _ (by decide)
  case qmbh8 => exact fmod_hi _ (by decide)
  case qmbkd => ktr_room
  case qmbku => ktr_units
  intro D9 h9 tk9 a9 b9 c9 d9 l9 F9 N9
  (try k_lt l9)
  (try dsimp only)
  have b16 : Brk 16 := ⟨⟩
  k_steps
  refine Stopped.mk ?_
  with_reducible rename News _ _ _ _ => NN
  with_reducible rename Fr _ _ _ _ => FF
  have KN := Keep.mk NN
  have KF := Keep.mk FF
  (repeat (with_reducible rename News _ _ _ _ => X; clear X))
  (repeat (with_reducible rename Fr _ _ _ _ => X; clear X))
  (repeat (with_reducible rename IsRange _ _ _ _ _ _ _ _ => X; clear X))
  (repeat (with_reducible rename NewPlain _ _ _ _ => X; clear X))
  (repeat (with_reducible rename CarriedAll _ _ => X; clear X))
  (repeat (with_reducible rename NestMark => X; clear X))
  have NN := KN.out
  have FF := KF.out
  clear KN KF
  refine For_invVF FF ?qwk1 ?qwk2 ?qwm ?qwhs ?qwhE
  case qwk1 => rfl
  case qwk2 => rfl
  case qwhs => intro _; rfl
  case qwhE => passes_own
  have b6 : Brk 6 := ⟨⟩
  k_steps
  refine Stopped.mk ?_
  with_reducible rename News _ _ _ _ => NN
  with_reducible rename Fr _ _ _ _ => FF
  refine' counts rfl FF NN sub_c ?qwhPA ?qwhPl ?qwhP rfl rfl ?qwturn ?qwdone
  case qwhPA => first | exact Nat.ne_of_gt (by omega) | exact Nat.ne_of_lt (by omega)
  case qwhPl =>
    simp only [List.forall_mem_cons]
    refine ⟨?_, ?_, ?_, ?_, ?_, ?_, ?_, fun _ h => nomatch h⟩ <;> exact Nat.lt_of_not_le (by omega)
  case qwhP =>
    simp only [List.forall_mem_cons]
    refine ⟨?_, ?_, ?_, ?_, ?_, ?_, ?_, ?_, fun _ h => nomatch h⟩ <;> first | exact Nat.ne_of_gt (by omega) | exact Nat.ne_of_lt (by omega)
  case qwturn =>
    intro i t PA zs r k lf lt v h tk own hi hC hPA hPn hoff F N
    have hCb := hC.b
    have b14 : Brk 14 := ⟨⟩
    k_steps
    refine Stopped.mk ?_
    with_reducible rename News _ _ _ _ => NN
    with_reducible rename Fr _ _ _ _ => FF
    refine' pop_any r FF NN (UpdF.tail (by first | exact hPA | exact hPA.symm) (UpdF.head hPn)) ?qwh0 ?qwh1 ?qwz ?_
    case qwh0 => exact Int.fmod_nonneg_of_pos _ (by omega)
    case qwh1 =>
      have := Int.fmod_lt_of_pos lf (show (0 : Int) < 4 - (i : Int) by omega)
      omega
    case qwz => omega
    intro xp tp rp h' hp hl9 F' N'
    (try dsimp only at N')
    have b15 : Brk 15 := ⟨⟩
    k_steps
    refine Stopped.mk ?_
    with_reducible rename News _ _ _ _ => NN
    with_reducible rename Fr _ _ _ _ => FF
    refine' kmk_add_lit (its := (pv zs).toArray) (its2 := #[.str xp tp, .str (Str.ofString "") _]) FF NN ?qwa ?qwb ?qwe ?_ ?qwr
    case qwa => exact News.isList NN (by k_mem)
    case qwb => exact News.isList NN (by k_mem)
    case qwe => exact (pv_app zs [(xp, tp, _)]).symm
    case qwr => exact pv_room hC hi
    intro D' h2 F2 N2 l2
    k_steps
    with_reducible rename News _ _ _ _ => NN
    with_reducible rename Fr _ _ _ _ => FF
    exact counts_end FF NN (CF.succ hC hp _) sub_d (own_d (cst := [_, _, _, _, _, _, _])) (Nat.ne_of_gt (l2 _ (.tail _ (.tail _ (.head _))))) (fun p hp => l2 p (.tail _ (.tail _ (.tail _ (.tail _ (List.mem_append_left _ hp)))))) hoff (fun p hp => Nat.ne_of_lt (l2 p (.tail _ (.tail _ (.tail _ (.tail _ (List.mem_append_right _ hp))))))) rfl rfl three_stored
  intro PA x1 t1 u1 x2 t2 u2 x3 t3 u3 x4 t4 u4 r k lf lt v h tk hFour hPl F N
  k_lt hPl
  have b2 : Brk 2 := ⟨⟩
  k_steps
  refine Stopped.mk ?_
  with_reducible rename News _ _ _ _ => NN
  have N2 := news_headDrop 2 NN
  clear NN
  dsimp only [List.drop] at N2
  with_reducible rename Fr _ _ _ _ => FF
  have N3 := news_as FF N2 rfl
  clear N2
  with_reducible rename News _ _ _ _ => NN
  with_reducible rename Fr _ _ _ _ => FF
  have KN := Keep.mk NN
  have KF := Keep.mk FF
  (repeat (with_reducible rename News _ _ _ _ => X; clear X))
  (repeat (with_reducible rename Fr _ _ _ _ => X; clear X))
  (repeat (with_reducible rename IsRange _ _ _ _ _ _ _ _ => X; clear X))
  (repeat (with_reducible rename NewPlain _ _ _ _ => X; clear X))
  (repeat (with_reducible rename CarriedAll _ _ => X; clear X))
  (repeat (with_reducible rename NestMark => X; clear X))
  have NN := KN.out
  have FF := KF.out
  clear KN KF
  obtain ⟨v, FF⟩ := fr_two (k1 := Str.ofString "pairs") (k2 := Str.ofString "moves") FF rfl rfl
  refine For_turns FF ?qbm ?qbhs ?qbhE
  case qbhs => intro _; rfl
  case qbhE => passes_own
  have b6 : Brk 6 := ⟨⟩
  have b7 : Brk 7 := ⟨⟩
  k_steps
  refine Stopped.mk ?_
  refine' sl_by2 ?qbF ?qbN ?qbl ?_ ?qbs ?qbt
  case qbF => k_asm
  case qbN => k_asm
  case qbl => k_mem
  case qbs => with_unfolding_all rfl
  case qbt => kmk_pure
  intro D' h' F' N' l1
  (try k_lt l1)
  k_steps
  refine Stopped.mk ?_
  with_reducible rename News _ _ _ _ => NN
  with_reducible rename Fr _ _ _ _ => FF
  refine' soughts [Str.ofString "places"] hFour rfl FF NN ?qbhd sub9 ?qbhC ?qbhc ?qbhk ?qbhx ?qbturn ?qbdone
  case qbhd => assumption
  case qbhk => rfl
  case qbhx => rfl
  case qbhc => rfl
  case qbhC =>
    simp only [List.forall_mem_cons]
    refine ⟨?_, ?_, ?_, ?_, ?_, ?_, ?_, fun _ h => nomatch h⟩ <;> first | exact Nat.ne_of_gt (by omega) | exact Nat.ne_of_lt (by omega)
  case qbturn =>
    intro y t v h tk own co hPr hd hoff F N
    have b3 : Brk 3 := ⟨⟩
    k_steps
    refine Stopped.mk ?_
    with_reducible rename Pr _ => hPr
    with_reducible rename IsTxt _ (bars _) => hf
    refine' replace_2 _ _ _ _ _ _ _ _ _ _ _ ?qrok _ _ _ _ _ _ _ _ _ _ _ _ _ _ _ _ _ ?qrk1 ?qrk2 ?qrk3 ?qrk4 ?qrk5 ?qrkK ?qrkd ?qrku ?_
    case qrk2 => k_asm
    case qrk1 => k_asm
    case qrk3 => k_asm
    case qrk4 => k_asm
    case qrk5 => k_asm
    case qrkK => exact rfl
    case qrok => exact pr_step hf (by with_reducible assumption) hPr
    case qrkd => ktr_room
    case qrku => ktr_units
    intro h9 tk9 t9 F9 N9
    have hpl9 := pr_len hf hPr
    (try dsimp only)
    k_steps
    with_reducible rename News _ _ _ _ => NN
    with_reducible rename Fr _ _ _ _ => FF
    exact soughts_end FF NN hd sub_a (own_a (cst := [_, _, _, _, _, _])) hoff one_stored
  intro v h tk co vo hd F N
  with_reducible rename News _ _ _ _ => NN
  with_reducible rename Fr _ _ _ _ => FF
  have KN := Keep.mk NN
  have KF := Keep.mk FF
  (repeat (with_reducible rename News _ _ _ _ => X; clear X))
  (repeat (with_reducible rename Fr _ _ _ _ => X; clear X))
  (repeat (with_reducible rename IsRange _ _ _ _ _ _ _ _ => X; clear X))
  (repeat (with_reducible rename NewPlain _ _ _ _ => X; clear X))
  (repeat (with_reducible rename CarriedAll _ _ => X; clear X))
  (repeat (with_reducible rename NestMark => X; clear X))
  have NN := KN.out
  have FF := KF.out
  clear KN KF
  obtain ⟨v, FF⟩ := fr_two (k1 := Str.ofString "pairs") (k2 := Str.ofString "moves") FF rfl rfl
  have b3 : Brk 3 := ⟨⟩
  k_steps
  refine Stopped.mk ?_
  have b8 : Brk 8 := ⟨⟩
  refine' table_k _ _ _ _ _ _ _ _ _ _ _ _ _ _ _ _ _ _ ?qcm ?qcm0 ?qcm1 _ _ _ _ _ _ _ _ _ _ _ _ _ _ _ _ _ ?qck1 ?qck2 ?qck3 ?qck4 ?qck5 ?qckK ?qckd ?qcku ?_
  case qck2 => k_asm
  case qck1 => k_asm
  case qck3 => k_asm
  case qck4 => k_asm
  case qck5 => k_asm
  case qckK => exact rfl
  case qcm => k_mem
  case qcm0 => k_mem
  case qcm1 => k_mem
  case qckd => ktr_room
  case qcku => ktr_units
  intro D9 o9 rest9 h9 tk9 F9 N9 l9 hT9
  (try k_lt l9)
  (try dsimp only)
  k_steps
  refine Stopped.mk ?_
  with_reducible rename News _ _ _ _ => NN
  with_reducible rename Fr _ _ _ _ => FF
  have KN := Keep.mk NN
  have KF := Keep.mk FF
  (repeat (with_reducible rename News _ _ _ _ => X; clear X))
  (repeat (with_reducible rename Fr _ _ _ _ => X; clear X))
  (repeat (with_reducible rename IsRange _ _ _ _ _ _ _ _ => X; clear X))
  (repeat (with_reducible rename NewPlain _ _ _ _ => X; clear X))
  (repeat (with_reducible rename CarriedAll _ _ => X; clear X))
  (repeat (with_reducible rename NestMark => X; clear X))
  have NN := KN.out
  have FF := KF.out
  clear KN KF
  have NN := led_l NN
  refine For_invVF FF ?qdk1 ?qdk2 ?qdm ?qdhs ?qdhE
  case qdk1 => rfl
  case qdk2 => rfl
  case qdhs => intro _; rfl
  case qdhE => passes_own
  have b8 : Brk 8 := ⟨⟩
  k_steps
  refine Stopped.mk ?_
  obtain ⟨kvs9, hd9, hT9⟩ := hT9
  obtain ⟨a1, a2, a3, a4, e1, e2, e3, e4, hp, ha⟩ := four_ps hFour
  have hwl9 := IsTxt.len hw
  have hu9 := IsTxt.lens hw
  refine letters_w [Str.ofString "p", Str.ofString "q", Str.ofString "r", Str.ofString "s"] hw hT9 hp ha rfl FF NN (fun _ h => h) rfl (cst_ne (by assumption)) ?qdturn ?qddone
  case qddone =>
    intro NA p q r z t0 t1 t2 t3 nn l v h tk hD F N
    with_reducible rename News _ _ _ _ => NN
    with_reducible rename Fr _ _ _ _ => FF
    have KN := Keep.mk NN
    have KF := Keep.mk FF
    (repeat (with_reducible rename News _ _ _ _ => X; clear X))
    (repeat (with_reducible rename Fr _ _ _ _ => X; clear X))
    (repeat (with_reducible rename IsRange _ _ _ _ _ _ _ _ => X; clear X))
    (repeat (with_reducible rename NewPlain _ _ _ _ => X; clear X))
    (repeat (with_reducible rename CarriedAll _ _ => X; clear X))
    (repeat (with_reducible rename NestMark => X; clear X))
    have NN := KN.out
    have FF := KF.out
    clear KN KF
    obtain ⟨v, FF⟩ := fr_three (k1 := Str.ofString "pairs") (k2 := Str.ofString "moves") (k3 := Str.ofString "due") FF rfl rfl rfl
    have b12 : Brk 12 := ⟨⟩
    k_steps
    refine Stopped.mk ?_
    refine mul_pairs hw FF NN (by k_mem) rfl ?_
    intro DS hS FF NN
    have b13 : Brk 13 := ⟨⟩
    k_steps
    refine Stopped.mk ?_
    refine' star_seq ?qsak1 ?qsak2 ?qsam ?qsac ?qsad ?qsaT ?qsae ?qsaz ?_
    case qsak1 => k_asm
    case qsak2 => k_asm
    case qsam => k_mem
    case qsac => exact rfl
    case qsad => exact rfl
    case qsaT => exact .inl rfl
    case qsae => kl_lit
    case qsaz => exact Nat.le_of_ble_eq_true rfl
    intro h' F' N'
    (try dsimp only [List.nil_append, List.cons_append])
    have b13 : Brk 13 := ⟨⟩
    k_steps
    refine Stopped.mk ?_
    refine' star_seq ?qsbk1 ?qsbk2 ?qsbm ?qsbc ?qsbd ?qsbT ?qsbe ?qsbz ?_
    case qsbk1 => k_asm
    case qsbk2 => k_asm
    case qsbm => k_mem
    case qsbc => exact rfl
    case qsbd => exact rfl
    case qsbT => exact .inl rfl
    case qsbe => kl_lit
    case qsbz => exact Nat.le_of_ble_eq_true rfl
    intro h' F' N'
    (try dsimp only [List.nil_append, List.cons_append])
    have b13 : Brk 13 := ⟨⟩
    k_steps
    refine Stopped.mk ?_
    refine' star_flat ?qsF ?qsN ?qsm ?qsz ?qsy ?_
    case qsF => k_asm
    case qsN => k_asm
    case qsm => k_mem
    case qsz => omega
    case qsy => exact rfl
    intro h' F' N'
    (try dsimp only [List.nil_append, List.cons_append])
    have b3 : Brk 3 := ⟨⟩
    have b4 : Brk 4 := ⟨⟩
    k_steps
    refine Stopped.mk ?_
    refine' replace_w _ _ _ _ _ _ _ _ _ _ _ _ _ _ _ _ _ _ _ _ _ _ _ _ ?qlhx ?qlhp ?qle1 ?qle2 ?qle3 ?qle4 _ _ _ _ _ _ _ _ _ _ _ _ _ _ _ _ _ ?qlk1 ?qlk2 ?qlk3 ?qlk4 ?qlk5 ?qlkK ?qlkd ?qlku ?_
    case qlk2 => k_asm
    case qlk1 => k_asm
    case qlk3 => k_asm
    case qlk4 => k_asm
    case qlk5 => k_asm
    case qlkK => exact rfl
    case qlhx => exact hf
    case qle1 => with_reducible assumption
    case qle2 => with_reducible assumption
    case qle3 => with_reducible assumption
    case qle4 => with_reducible assumption
    case qlhp => with_reducible assumption
    case qlkd => ktr_room
    case qlku => ktr_units
    intro h9 tk9 t9 F9 N9
    (try dsimp only)
    k_steps
    refine Stopped.mk ?_
    refine' join_due hD hp ha ?qjN ?qjm ?_
    case qjN => k_asm
    case qjm => k_mem
    intro t' k'
    k_steps
  intro i c t NA p q r z t0 t1 t2 t3 nn l v h tk own hLF hD hoff hTL F N
  have b11 : Brk 11 := ⟨⟩
  have b5 : Brk 5 := ⟨⟩
  have b3 : Brk 3 := ⟨⟩
  k_steps
  refine Stopped.mk ?_
  refine' tab_get ?qtN ?qtm ?qtd ?qtT ?qtc ?_ ?qts
  case qtN => k_asm
  case qtT => exact hT9
  case qtd => exact hd9
  case qtm => k_mem
  case qtc => exact LF.lw hLF
  case qts => with_unfolding_all rfl
  intro B9 a9 b9 c9 d9 hm9
  k_steps
  refine Stopped.mk ?_
  refine' by_z _ _ _ _ _ _ _ _ _ _ _ _ _ _ _ _ _ _ _ _ _ _ ?qym1 ?qym2 ?qys1 ?qys2 _ _ _ _ _ _ _ _ _ _ _ _ _ _ _ _ _ ?qyk1 ?qyk2 ?qyk3 ?qyk4 ?qyk5 ?qykK ?qykd ?qyku ?_
  case qyk2 => k_asm
  case qyk1 => k_asm
  case qyk3 => k_asm
  case qyk4 => k_asm
  case qyk5 => k_asm
  case qykK => exact rfl
  case qym1 => k_mem
  case qym2 => k_mem
  case qys1 => exact LF.small hLF
  case qys2 => exact LF.smallT hLF
  case qykd => ktr_room
  case qyku => ktr_units
  intro D9 h9 tk9 a9 b9 c9 d9 p9 q9 r9 s9 hz9 l9 F9 N9
  have hAt9 := LF.at' hLF hz9
  have hLen9 := LF.len hLF hz9
  have hNext9 := LF.next hLF hz9
  (try dsimp only)
  have b3 : Brk 3 := ⟨⟩
  k_steps
  refine Stopped.mk ?_
  refine' euclid_c _ _ _ _ _ _ _ _ _ _ _ _ _ _ _ _ ?qea ?qev ?qem _ _ _ _ _ _ _ _ _ _ _ _ _ _ _ _ _ ?qek1 ?qek2 ?qek3 ?qek4 ?qek5 ?qekK ?qekd ?qeku ?_
  case qek2 => k_asm
  case qek1 => k_asm
  case qek3 => k_asm
  case qek4 => k_asm
  case qek5 => k_asm
  case qekK => exact rfl
  case qea => exact hAt9
  case qev => omega
  case qem => omega
  case qekd => ktr_room
  case qeku => ktr_units
  intro h9 tk9 t9 F9 N9
  (try dsimp only)
  k_steps
  refine Stopped.mk ?_
  with_reducible rename News _ _ _ _ => NN
  with_reducible rename Fr _ _ _ _ => FF
  refine' append_due _ FF NN (UpdF.tail ?qdu1 (UpdF.tail ?qdu2 (UpdF.head ?qdu3))) ?qdz ?_
  case qdu3 => with_reducible assumption
  case qdu1 => exact (news_ne NN (by k_mem) (by k_mem) (by first | k_cls | simp | decide))
  case qdu2 => exact (news_ne NN (by k_mem) (by k_mem) (by first | k_cls | simp | decide))
  case qdz =>
    have h1 := Dues.len hD
    have h2 := (List.getElem?_eq_some_iff.mp (LF.hk hLF)).1
    have h3 := LF.hl hLF
    omega
  intro h9 F9 N9
  (try dsimp only at N9)
  k_steps
  refine Stopped.mk ?_
  with_reducible rename News _ _ _ _ => NN
  with_reducible rename Fr _ _ _ _ => FF
  exact letters_end FF NN sub_e (own_e (cst := _ :: _ :: _ :: _ :: _ :: _ :: _ :: _)) (own_off hoff fun p hp => l9 p (.tail _ (.tail _ (List.mem_append_right _ hp)))) (Dues.succ hD _) hNext9 rfl five_stored)
end Mine

end
section
set_option maxRecDepth 100000 in
theorem PySem.Challenge.cw_pm0087_01_holds : PySem.Challenge.rw_pm0087_01.Holds :=
  Mine.main

end
