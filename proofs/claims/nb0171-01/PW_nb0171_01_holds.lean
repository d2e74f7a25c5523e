import PyProof.Rows.All
import Wide.All
import OpenK.AllK
import Wide.FinOn
import PySem.Challenge.RW_nb0171_01
set_option Elab.async false
section
open PySem PySem.W PyProof.Rows
namespace Mine
set_option maxRecDepth 100000 in
set_option maxHeartbeats 8000000 in
open_top hd for PySem.Challenge.rw_nb0171_01
end Mine
end
section
open PySem PySem.W PyProof.Rows
namespace Mine
noncomputable abbrev Pg := PySem.Challenge.rw_nb0171_01.row.prog
noncomputable abbrev Lo : List Str := looseW hd.view_39 [Str.ofString "IPV4_RE"]

/-- the contract of a def: called with vs at any place below, it hands back r with Post, having made tl -/
abbrev Ctr (lv : Nat) (w : World) (mean : ExcName → Option Value) (mg mb : Str → Option Value) (f : Addr) (news : List (Addr × Obj)) (vs : List Value) (Post : Value → List (Addr × Obj) → Prop) : Prop :=
  ∀ (dp un : Nat) (gd : Option (List Code)) (cn : Str) (cs : Scope) (a : Addr) (ccd : Value) (cl : List (Str × Addr)) (outer : List Env) (A₀ : Around) (base h₀ : Heap) (L : Addr) (m : Str → Option Value) (s : Shared) (Q E : Value → Shared → Prop),
    Below A₀ base outer h₀ → Fr h₀ L s.heap m → (hd.heap_39 w.params).In h₀ → News h₀ L s.heap news → Top hd.view_39 Lo mean mg mb h₀ → cs.kind = .function →
    dp + lv < recursionLimit → un + 16 * lv < cLine →
    (∀ (r : Value) (tl : List (Addr × Obj)) (h' : Heap) (tk' : Nat), Post r tl → Fr h₀ L h' m → News h₀ L h' (tl ++ news) → (∀ q ∈ news, ∀ p ∈ tl, q.1 < p.1) → Q r { s with heap := h', toks := tk' }) →
      wpAny (model Pg w) (ktrTop dp un gd cn cs L a ccd cl outer) (call (.ref f) vs) Q E s
end Mine
end
section
namespace Mine
/-! the edit distance over plain lists -/
def cst (x y : Nat) : Nat := if x = y then 0 else 1

/-- an edit script of n changes -/
inductive Ed : List Nat → List Nat → Nat → Prop where
  | nil : Ed [] [] 0
  | del {a b n} (x : Nat) : Ed a b n → Ed (x :: a) b (n + 1)
  | ins {a b n} (y : Nat) : Ed a b n → Ed a (y :: b) (n + 1)
  | sub {a b n} (x y : Nat) : Ed a b n → Ed (x :: a) (y :: b) (n + cst x y)

noncomputable def lev : List Nat → List Nat → Nat
  | [], b => b.length
  | _ :: a, [] => a.length + 1
  | x :: a, y :: b => min (min (lev a (y :: b)) (lev (x :: a) b) + 1) (lev a b + cst x y)
termination_by a b => a.length + b.length

theorem lev_nil (b : List Nat) : lev [] b = b.length := by rw [lev]
theorem lev_nil' (a : List Nat) : lev a [] = a.length := by cases a <;> rw [lev] <;> rfl
theorem lev_cons (x y : Nat) (a b : List Nat) : lev (x :: a) (y :: b) = min (min (lev a (y :: b)) (lev (x :: a) b) + 1) (lev a b + cst x y) := by rw [lev]

theorem ed_dels : ∀ a : List Nat, Ed a [] a.length
  | [] => .nil
  | x :: a => .del x (ed_dels a)
theorem ed_inss : ∀ b : List Nat, Ed [] b b.length
  | [] => .nil
  | y :: b => .ins y (ed_inss b)

theorem lev_ed : ∀ (k : Nat) (a b : List Nat), a.length + b.length ≤ k → Ed a b (lev a b) := by
  intro k
  induction k with
  | zero =>
    intro a b h
    cases a with
    | nil => rw [lev_nil]; exact ed_inss b
    | cons x a => simp at h
  | succ k ih =>
    intro a b h
    cases a with
    | nil => rw [lev_nil]; exact ed_inss b
    | cons x a =>
      cases b with
      | nil => rw [lev_nil']; exact ed_dels _
      | cons y b =>
        rw [lev_cons]
        simp only [List.length_cons] at h
        have h1 := ih a (y :: b) (by simp only [List.length_cons]; omega)
        have h2 := ih (x :: a) b (by simp only [List.length_cons]; omega)
        have h3 := ih a b (by omega)
        have e1 : Ed (x :: a) (y :: b) (lev a (y :: b) + 1) := .del x h1
        have e2 : Ed (x :: a) (y :: b) (lev (x :: a) b + 1) := .ins y h2
        have e3 : Ed (x :: a) (y :: b) (lev a b + cst x y) := .sub x y h3
        have hc : min (min (lev a (y :: b)) (lev (x :: a) b) + 1) (lev a b + cst x y) = lev a (y :: b) + 1 ∨ min (min (lev a (y :: b)) (lev (x :: a) b) + 1) (lev a b + cst x y) = lev (x :: a) b + 1 ∨ min (min (lev a (y :: b)) (lev (x :: a) b) + 1) (lev a b + cst x y) = lev a b + cst x y := by omega
        rcases hc with h | h | h <;> rw [h] <;> assumption
theorem ed_lev (a b : List Nat) : Ed a b (lev a b) := lev_ed _ a b (Nat.le_refl _)

theorem lev_len (a : List Nat) : ∀ b, lev a b ≤ a.length + b.length ∧ a.length ≤ b.length + lev a b ∧ b.length ≤ a.length + lev a b := by
  induction a with
  | nil => intro b; rw [lev_nil]; simp
  | cons x a iha =>
    intro b
    induction b with
    | nil => rw [lev_nil']; simp
    | cons y b ihb =>
      rw [lev_cons]
      have h1 := iha (y :: b)
      have h3 := iha b
      have hc : cst x y ≤ 1 := by unfold cst; split <;> omega
      simp only [List.length_cons] at *
      omega

/-- the steps of the distance: one sign more or less -/
theorem lev_step (a : List Nat) : ∀ b x, lev (x :: a) b ≤ lev a b + 1 ∧ lev a b ≤ lev (x :: a) b + 1 := by
  induction a with
  | nil =>
    intro b
    induction b with
    | nil => intro x; simp [lev_nil']
    | cons y b ihb =>
      intro x
      have h := ihb x
      rw [lev_cons]
      simp only [lev_nil, List.length_cons] at *
      have hc : cst x y ≤ 1 := by unfold cst; split <;> omega
      omega
  | cons z a iha =>
    intro b
    induction b with
    | nil => intro x; simp only [lev_nil', List.length_cons]; omega
    | cons y b ihb =>
      intro x
      have h := ihb x
      have h2 := iha (y :: b) z
      have h3 := iha b z
      have hc : cst x y ≤ 1 := by unfold cst; split <;> omega
      have hd : cst z y ≤ 1 := by unfold cst; split <;> omega
      rw [lev_cons x y (z :: a) b]
      have h4 := lev_cons z y a b
      constructor <;> omega

theorem cst_comm (x y : Nat) : cst x y = cst y x := by unfold cst; by_cases h : x = y <;> simp [h, eq_comm]
theorem cst_self (x : Nat) : cst x x = 0 := by simp [cst]
theorem cst_le (x y : Nat) : cst x y ≤ 1 := by unfold cst; split <;> omega
theorem cst_ne {x y : Nat} (h : x ≠ y) : cst x y = 1 := by simp [cst, h]

theorem lev_comm (a : List Nat) : ∀ b, lev a b = lev b a := by
  induction a with
  | nil => intro b; rw [lev_nil, lev_nil']
  | cons x a iha =>
    intro b
    induction b with
    | nil => rw [lev_nil, lev_nil']
    | cons y b ihb => rw [lev_cons, lev_cons, iha (y :: b), iha b, ihb, cst_comm]; omega
theorem lev_step' (a b : List Nat) (y : Nat) : lev a (y :: b) ≤ lev a b + 1 ∧ lev a b ≤ lev a (y :: b) + 1 := by
  have h := lev_step b a y
  rw [lev_comm a, lev_comm a]
  exact h
theorem lev_le {a b : List Nat} {n : Nat} (h : Ed a b n) : lev a b ≤ n := by
  induction h with
  | nil => simp [lev_nil]
  | del x _ ih => exact Nat.le_trans (lev_step _ _ x).1 (by omega)
  | ins y _ ih => exact Nat.le_trans (lev_step' _ _ y).1 (by omega)
  | sub x y _ ih => rw [lev_cons]; omega
theorem ed_append {a b c d : List Nat} {n m : Nat} (h : Ed a b n) (h' : Ed c d m) : Ed (a ++ c) (b ++ d) (n + m) := by
  induction h with
  | nil => simpa using h'
  | del x _ ih => have := Ed.del x ih; rw [show ∀ k : Nat, k + 1 + m = k + m + 1 from fun k => by omega]; exact this
  | ins y _ ih => have := Ed.ins y ih; rw [show ∀ k : Nat, k + 1 + m = k + m + 1 from fun k => by omega]; exact this
  | sub x y _ ih => have := Ed.sub x y ih; rw [show ∀ k j : Nat, k + j + m = k + m + j from fun k j => by omega]; exact this
theorem ed_reverse {a b : List Nat} {n : Nat} (h : Ed a b n) : Ed a.reverse b.reverse n := by
  induction h with
  | nil => exact .nil
  | del x _ ih => rw [List.reverse_cons]; have := ed_append ih (Ed.del x .nil); simpa using this
  | ins y _ ih => rw [List.reverse_cons]; have := ed_append ih (Ed.ins y .nil); simpa using this
  | sub x y _ ih => rw [List.reverse_cons, List.reverse_cons]; have := ed_append ih (Ed.sub x y .nil); simpa using this
theorem lev_reverse (a b : List Nat) : lev a.reverse b.reverse = lev a b := by
  have h1 := lev_le (ed_reverse (ed_lev a b))
  have h2 := lev_le (ed_reverse (ed_lev a.reverse b.reverse))
  rw [List.reverse_reverse, List.reverse_reverse] at h2
  omega
theorem lev_snoc (a b : List Nat) (x y : Nat) : lev (a ++ [x]) (b ++ [y]) = min (min (lev a (b ++ [y])) (lev (a ++ [x]) b) + 1) (lev a b + cst x y) := by
  rw [← lev_reverse (a ++ [x]) (b ++ [y]), ← lev_reverse a (b ++ [y]), ← lev_reverse (a ++ [x]) b, ← lev_reverse a b]
  simp only [List.reverse_append, List.reverse_cons, List.reverse_nil, List.nil_append, List.singleton_append]
  rw [lev_cons]
theorem lev_snoc_step (a b : List Nat) (x : Nat) : lev (a ++ [x]) b ≤ lev a b + 1 ∧ lev a b ≤ lev (a ++ [x]) b + 1 := by
  rw [← lev_reverse (a ++ [x]) b, ← lev_reverse a b]
  simp only [List.reverse_append, List.reverse_cons, List.reverse_nil, List.nil_append, List.singleton_append]
  exact lev_step _ _ _
theorem lev_snoc_step' (a b : List Nat) (y : Nat) : lev a (b ++ [y]) ≤ lev a b + 1 ∧ lev a b ≤ lev a (b ++ [y]) + 1 := by
  rw [lev_comm a, lev_comm a]
  exact lev_snoc_step _ _ _
/-- a common last or first sign counts nothing -/
theorem lev_snoc_same (a b : List Nat) (x : Nat) : lev (a ++ [x]) (b ++ [x]) = lev a b := by
  rw [lev_snoc, cst_self]
  have h1 := lev_snoc_step' a b x
  have h2 := lev_snoc_step a b x
  omega
theorem lev_cons_same (a b : List Nat) (x : Nat) : lev (x :: a) (x :: b) = lev a b := by
  rw [lev_cons, cst_self]
  have h1 := lev_step' a b x
  have h2 := lev_step a b x
  omega
/-- along a diagonal it does not fall -/
theorem lev_diag (a b : List Nat) (x y : Nat) : lev a b ≤ lev (a ++ [x]) (b ++ [y]) := by
  rw [lev_snoc]
  have h1 := lev_snoc_step' a b y
  have h2 := lev_snoc_step a b x
  omega
theorem lev_self (a : List Nat) : lev a a = 0 := by
  induction a with
  | nil => simp [lev_nil]
  | cons x a ih => rw [lev_cons_same, ih]
theorem lev_zero {a b : List Nat} (h : lev a b = 0) : a = b := by
  have e := ed_lev a b
  rw [h] at e
  generalize hn : (0 : Nat) = n at e
  induction e with
  | nil => rfl
  | del x _ _ => omega
  | ins y _ _ => omega
  | @sub a b n x y e ih =>
    have h1 : n = 0 := by omega
    have h2 : cst x y = 0 := by omega
    subst h1
    have h3 : x = y := by
      rcases Nat.decEq x y with hne | heq
      · rw [cst_ne hne] at h2; omega
      · exact heq
    have h4 : lev a b = 0 := Nat.le_zero.mp (lev_le e)
    rw [h3, ih h4 rfl]
theorem lev_eq_zero (a b : List Nat) : lev a b = 0 ↔ a = b := ⟨lev_zero, fun h => h ▸ lev_self a⟩

/-! the table of prefixes -/
noncomputable def dd (a b : List Nat) (i j : Nat) : Nat := lev (a.take i) (b.take j)
theorem dd_zero (a b : List Nat) {j : Nat} (h : j ≤ b.length) : dd a b 0 j = j := by
  unfold dd; rw [List.take_zero, lev_nil, List.length_take]; omega
theorem dd_zero' (a b : List Nat) {i : Nat} (h : i ≤ a.length) : dd a b i 0 = i := by
  unfold dd; rw [List.take_zero, lev_nil', List.length_take]; omega
theorem take_succ_snoc {a : List Nat} {i : Nat} (h : i < a.length) : a.take (i + 1) = a.take i ++ [a[i]] := by
  rw [List.take_add_one, List.getElem?_eq_getElem h]; rfl
theorem dd_step {a b : List Nat} {i j : Nat} (hi : i < a.length) (hj : j < b.length) :
    dd a b (i + 1) (j + 1) = min (min (dd a b i (j + 1)) (dd a b (i + 1) j) + 1) (dd a b i j + cst a[i] b[j]) := by
  unfold dd; rw [take_succ_snoc hi, take_succ_snoc hj, lev_snoc]
theorem dd_same {a b : List Nat} {i j : Nat} (hi : i < a.length) (hj : j < b.length) (e : a[i] = b[j]) : dd a b (i + 1) (j + 1) = dd a b i j := by
  unfold dd; rw [take_succ_snoc hi, take_succ_snoc hj, e, lev_snoc_same]
theorem dd_diag {a b : List Nat} {i j : Nat} (hi : i < a.length) (hj : j < b.length) : dd a b i j ≤ dd a b (i + 1) (j + 1) := by
  unfold dd; rw [take_succ_snoc hi, take_succ_snoc hj]; exact lev_diag _ _ _ _
theorem dd_i {a b : List Nat} {i j : Nat} (hi : i < a.length) : dd a b (i + 1) j ≤ dd a b i j + 1 ∧ dd a b i j ≤ dd a b (i + 1) j + 1 := by
  unfold dd; rw [take_succ_snoc hi]; exact lev_snoc_step _ _ _
theorem dd_j {a b : List Nat} {i j : Nat} (hj : j < b.length) : dd a b i (j + 1) ≤ dd a b i j + 1 ∧ dd a b i j ≤ dd a b i (j + 1) + 1 := by
  unfold dd; rw [take_succ_snoc hj]; exact lev_snoc_step' _ _ _
theorem dd_len (a b : List Nat) {i j : Nat} (hi : i ≤ a.length) (hj : j ≤ b.length) : dd a b i j ≤ i + j ∧ i ≤ j + dd a b i j ∧ j ≤ i + dd a b i j := by
  have := lev_len (a.take i) (b.take j)
  unfold dd
  rw [List.length_take, List.length_take] at this
  omega
theorem dd_full (a b : List Nat) : dd a b a.length b.length = lev a b := by unfold dd; rw [List.take_length, List.take_length]
end Mine
end
section
namespace Mine
/-! how far one comes on each diagonal with so many changes -/
section
variable (a b : List Nat)
def InR (k i : Int) : Prop := 0 ≤ i ∧ i ≤ a.length ∧ 0 ≤ i + k ∧ i + k ≤ b.length
def Rch (c k i : Int) : Prop := InR a b k i ∧ (dd a b i.toNat (i + k).toNat : Int) ≤ c
def Mis (k i : Int) : Prop := a[i.toNat]? ≠ b[(i + k).toNat]?
def Stt (c k s : Int) : Prop := Rch a b c k s ∧ ∀ i, s ≤ i → InR a b k (i + 1) → Mis a b k i → ¬ Rch a b c k (i + 1)
def Edd (c k e : Int) : Prop := Rch a b c k e ∧ ∀ i, Rch a b c k i → i ≤ e
def Key (c k : Int) : Prop := -c ≤ k ∧ -(a.length : Int) ≤ k ∧ k ≤ c ∧ k ≤ b.length
end
section
variable {a b : List Nat} {c k : Int}

theorem rch_key {i : Int} (h : Rch a b c k i) : Key a b c k := by
  obtain ⟨⟨h1, h2, h3, h4⟩, h5⟩ := h
  have := dd_len a b (i := i.toNat) (j := (i + k).toNat) (by omega) (by omega)
  unfold Key
  omega

theorem rch_match {i : Int} (h : Rch a b c k i) (hr : InR a b k (i + 1)) (e : ¬ Mis a b k i) : Rch a b c k (i + 1) := by
  obtain ⟨⟨h1, h2, h3, h4⟩, h5⟩ := h
  obtain ⟨r1, r2, r3, r4⟩ := id hr
  have e' : a[i.toNat]? = b[(i + k).toNat]? := Classical.not_not.mp e
  have hi : i.toNat < a.length := by omega
  have hj : (i + k).toNat < b.length := by omega
  rw [List.getElem?_eq_getElem hi, List.getElem?_eq_getElem hj] at e'
  have := dd_same hi hj (Option.some.inj e')
  refine ⟨hr, ?_⟩
  rw [show (i + 1).toNat = i.toNat + 1 from by omega, show (i + 1 + k).toNat = (i + k).toNat + 1 from by omega, this]
  exact h5

theorem dd_diag_far {i j : Nat} : ∀ d : Nat, i + d ≤ a.length → j + d ≤ b.length → dd a b i j ≤ dd a b (i + d) (j + d)
  | 0, _, _ => Nat.le_refl _
  | d + 1, h1, h2 => Nat.le_trans (dd_diag_far d (by omega) (by omega)) (dd_diag (i := i + d) (j := j + d) (by omega) (by omega))

theorem slide {s i : Int} (hs : Stt a b c k s) (hi : s ≤ i) (h : Rch a b c k i) (stop : InR a b k (i + 1) → Mis a b k i) : Edd a b c k i := by
  refine ⟨h, fun i' h' => ?_⟩
  rcases Int.lt_or_le i i' with hlt | hle
  · exfalso
    obtain ⟨⟨h1, h2, h3, h4⟩, h5⟩ := h
    obtain ⟨⟨g1, g2, g3, g4⟩, g5⟩ := h'
    have hr : InR a b k (i + 1) := ⟨by omega, by omega, by omega, by omega⟩
    have hn := hs.2 i hi hr (stop hr)
    have hd := dd_diag_far (a := a) (b := b) (i := (i + 1).toNat) (j := (i + 1 + k).toNat) (i' - (i + 1)).toNat (by omega) (by omega)
    rw [show (i + 1).toNat + (i' - (i + 1)).toNat = i'.toNat from by omega, show (i + 1 + k).toNat + (i' - (i + 1)).toNat = (i' + k).toNat from by omega] at hd
    exact hn ⟨hr, by omega⟩
  · exact hle

theorem key_next (h : Key a b (c + 1) k) (hc : 0 ≤ c) : Key a b c k ∨ Key a b c (k - 1) ∨ Key a b c (k + 1) := by
  unfold Key at *
  omega

theorem start_next {E : Int → Int} {M s : Int} (hE : ∀ k, Key a b c k → Edd a b c k (E k)) (hk : Key a b (c + 1) k)
    (m1 : (Key a b c k ∧ M = E k + 1) ∨ (Key a b c (k - 1) ∧ M = E (k - 1)) ∨ (Key a b c (k + 1) ∧ M = E (k + 1) + 1))
    (m2 : Key a b c k → E k + 1 ≤ M) (m3 : Key a b c (k - 1) → E (k - 1) ≤ M) (m4 : Key a b c (k + 1) → E (k + 1) + 1 ≤ M)
    (hs : s = min (min M a.length) (b.length - k)) : Stt a b (c + 1) k s := by
  obtain ⟨q1, q2, q3, q4⟩ := id hk
  have reach : Rch a b (c + 1) k s := by
    rcases m1 with ⟨kk, e⟩ | ⟨kk, e⟩ | ⟨kk, e⟩
    · obtain ⟨⟨⟨h1, h2, h3, h4⟩, h5⟩, _⟩ := hE _ kk
      generalize E k = x at *
      by_cases hin : x + 1 ≤ a.length ∧ x + 1 + k ≤ b.length
      · have es : s = x + 1 := by omega
        subst es
        refine ⟨⟨by omega, by omega, by omega, by omega⟩, ?_⟩
        have := dd_step (a := a) (b := b) (i := x.toNat) (j := (x + k).toNat) (by omega) (by omega)
        have hc := cst_le a[x.toNat] b[(x + k).toNat]
        rw [show (x + 1).toNat = x.toNat + 1 from by omega, show (x + 1 + k).toNat = (x + k).toNat + 1 from by omega]
        omega
      · have es : s = x := by omega
        subst es
        exact ⟨⟨h1, h2, h3, h4⟩, by omega⟩
    · obtain ⟨⟨⟨h1, h2, h3, h4⟩, h5⟩, _⟩ := hE _ kk
      generalize E (k - 1) = x at *
      by_cases hin : x + k ≤ b.length
      · have es : s = x := by omega
        subst es
        refine ⟨⟨by omega, by omega, by omega, by omega⟩, ?_⟩
        have := dd_j (a := a) (b := b) (i := s.toNat) (j := (s + (k - 1)).toNat) (by omega)
        rw [show (s + k).toNat = (s + (k - 1)).toNat + 1 from by omega]
        omega
      · have es : s = x - 1 := by omega
        subst es
        refine ⟨⟨by omega, by omega, by omega, by omega⟩, ?_⟩
        have := dd_i (a := a) (b := b) (i := (x - 1).toNat) (j := (x + (k - 1)).toNat) (by omega)
        rw [show (x - 1).toNat + 1 = x.toNat from by omega] at this
        rw [show (x - 1 + k).toNat = (x + (k - 1)).toNat from by omega]
        omega
    · obtain ⟨⟨⟨h1, h2, h3, h4⟩, h5⟩, _⟩ := hE _ kk
      generalize E (k + 1) = x at *
      by_cases hin : x + 1 ≤ a.length
      · have es : s = x + 1 := by omega
        subst es
        refine ⟨⟨by omega, by omega, by omega, by omega⟩, ?_⟩
        have := dd_i (a := a) (b := b) (i := x.toNat) (j := (x + (k + 1)).toNat) (by omega)
        rw [show (x + 1).toNat = x.toNat + 1 from by omega, show (x + 1 + k).toNat = (x + (k + 1)).toNat from by omega]
        omega
      · have es : s = x := by omega
        subst es
        refine ⟨⟨by omega, by omega, by omega, by omega⟩, ?_⟩
        have := dd_j (a := a) (b := b) (i := s.toNat) (j := (s + k).toNat) (by omega)
        rw [show (s + k).toNat + 1 = (s + (k + 1)).toNat from by omega] at this
        omega
  refine ⟨reach, fun i hi hr mis hcon => ?_⟩
  obtain ⟨⟨s1, s2, s3, s4⟩, _⟩ := reach
  obtain ⟨r1, r2, r3, r4⟩ := id hr
  have hi' : i.toNat < a.length := by omega
  have hj' : (i + k).toNat < b.length := by omega
  unfold Mis at mis
  rw [List.getElem?_eq_getElem hi', List.getElem?_eq_getElem hj'] at mis
  have hne : a[i.toNat] ≠ b[(i + k).toNat] := fun e => mis (congrArg some e)
  have st := dd_step hi' hj'
  rw [cst_ne hne] at st
  have h5 := hcon.2
  rw [show (i + 1).toNat = i.toNat + 1 from by omega, show (i + 1 + k).toNat = (i + k).toNat + 1 from by omega] at h5
  have three : (dd a b i.toNat (i + k).toNat : Int) ≤ c ∨ (dd a b i.toNat ((i + k).toNat + 1) : Int) ≤ c ∨ (dd a b (i.toNat + 1) (i + k).toNat : Int) ≤ c := by omega
  rcases three with h | h | h
  · have hR : Rch a b c k i := ⟨⟨by omega, by omega, by omega, by omega⟩, h⟩
    have := (hE _ (rch_key hR)).2 _ hR
    have := m2 (rch_key hR)
    omega
  · have hR : Rch a b c (k + 1) i := ⟨⟨by omega, by omega, by omega, by omega⟩, by rw [show (i + (k + 1)).toNat = (i + k).toNat + 1 from by omega]; exact h⟩
    have := (hE _ (rch_key hR)).2 _ hR
    have := m4 (rch_key hR)
    omega
  · have hR : Rch a b c (k - 1) (i + 1) := ⟨⟨by omega, by omega, by omega, by omega⟩, by rw [show (i + 1 + (k - 1)).toNat = (i + k).toNat from by omega, show (i + 1).toNat = i.toNat + 1 from by omega]; exact h⟩
    have := (hE _ (rch_key hR)).2 _ hR
    have := m3 (rch_key hR)
    omega

theorem start_zero : Stt a b 0 0 0 := by
  refine ⟨⟨⟨by omega, by omega, by omega, by omega⟩, ?_⟩, fun i hi hr mis hcon => ?_⟩
  · have := dd_zero a b (j := 0) (by omega)
    simp [this]
  · obtain ⟨r1, r2, r3, r4⟩ := id hr
    have hi' : i.toNat < a.length := by omega
    have hj' : (i + 0).toNat < b.length := by omega
    unfold Mis at mis
    rw [List.getElem?_eq_getElem hi', List.getElem?_eq_getElem hj'] at mis
    have hne : a[i.toNat] ≠ b[(i + 0).toNat] := fun e => mis (congrArg some e)
    have st := dd_step hi' hj'
    rw [cst_ne hne] at st
    have h5 := hcon.2
    rw [show (i + 1).toNat = i.toNat + 1 from by omega, show (i + 1 + 0).toNat = (i + 0).toNat + 1 from by omega] at h5
    omega

theorem there {E : Int → Int} (hE : ∀ k, Key a b c k → Edd a b c k (E k)) :
    (Key a b c (b.length - a.length) ∧ E (b.length - a.length) = a.length) ↔ (lev a b : Int) ≤ c := by
  have hl : (dd a b (a.length : Int).toNat ((a.length : Int) + ((b.length : Int) - a.length)).toNat : Int) = lev a b := by
    rw [← dd_full a b, show (a.length : Int).toNat = a.length from by omega, show ((a.length : Int) + ((b.length : Int) - a.length)).toNat = b.length from by omega]
  constructor
  · rintro ⟨hk, e⟩
    obtain ⟨⟨_, h⟩, _⟩ := hE _ hk
    rw [e, hl] at h
    exact h
  · intro h
    have hR : Rch a b c (b.length - a.length) a.length := ⟨⟨by omega, by omega, by omega, by omega⟩, by rw [hl]; exact h⟩
    have hk := rch_key hR
    obtain ⟨⟨⟨_, h2, _, _⟩, _⟩, h3⟩ := hE _ hk
    exact ⟨hk, by have := h3 _ hR; omega⟩
end
end Mine
end
section
open PySem PySem.W PyProof.Rows
namespace Mine
/-! texts as lists of numbers -/
abbrev tx (x : Str) : List Nat := x.cps.toList
theorem tx_len (x : Str) : (tx x).length = x.length := by simp [Str.length]
theorem tx_inj {x y : Str} (h : tx x = tx y) : x = y := Str.ext' (Array.toList_inj.mp h)
theorem tx_eq (x y : Str) : tx x = tx y ↔ x = y := ⟨tx_inj, fun h => h ▸ rfl⟩
theorem tx_from {x : Str} {p : Int} (h0 : 0 ≤ p) (h1 : p ≤ x.length) : tx (Txt.slice x (some p) none) = (tx x).drop p.toNat := by
  rw [slice_from_eq h0 h1 rfl]
  show ((x.cps.toList.drop p.toNat).take ((x.length : Int) - p).toNat).toArray.toList = _
  rw [List.take_of_length_le (by rw [List.length_drop, tx_len]; omega)]
theorem tx_to {x : Str} {p : Int} (h0 : 0 ≤ p) (h1 : p ≤ x.length) : tx (Txt.slice x none (some p)) = (tx x).take p.toNat := by
  rw [beq_iff_eq.mp (slice_closes_toL h0 h1)]
  simp
theorem tx_to_neg {x : Str} {p : Int} (h0 : p < 0) (h1 : -(x.length : Int) ≤ p) : tx (Txt.slice x none (some p)) = (tx x).take (p + x.length).toNat := by
  rw [beq_iff_eq.mp (slice_closes_to_neg h0 h1 rfl)]
  simp
theorem tx_all (x : Str) : Txt.slice x none none = x := by
  apply tx_inj
  have e : StrLaws.sliceText x none none = StrLaws.sliceText x (some 0) none := by unfold StrLaws.sliceText; rw [StrLaws.sliceIdx_none_lo]
  show tx (StrLaws.sliceText x none none) = _
  rw [e]
  have h : tx (StrLaws.sliceText x (some 0) none) = _ := tx_from (x := x) (p := 0) (by omega) (by omega)
  rw [h]
  rfl
theorem tx_item {x : Str} {i : Int} (h0 : 0 ≤ i) (h1 : i < x.length) : Txt.item x i = ⟨#[(tx x)[i.toNat]'(by rw [tx_len]; omega)]⟩ := by
  refine item_meets h0 ?_
  have h : i.toNat < x.cps.size := by have := tx_len x; simp at this; omega
  rw [Array.getElem?_eq_getElem h]
  simp
theorem tx_item_neg {x : Str} {i : Int} (h0 : i < 0) (h1 : -(x.length : Int) ≤ i) : Txt.item x i = ⟨#[(tx x)[(i + x.length).toNat]'(by rw [tx_len]; omega)]⟩ := by
  rw [beq_iff_eq.mp (item_closes_neg h0 h1 rfl)]
  have h : (i + x.length).toNat < x.cps.size := by have := tx_len x; simp at this; omega
  congr
  simp [Array.getD, h]
theorem one_inj {a b : Nat} (h : (⟨#[a]⟩ : Str) = ⟨#[b]⟩) : a = b := by
  have := congrArg (fun s => tx s) h
  simpa using this
end Mine
end
section
open PySem PySem.W PyProof.Rows
namespace Mine
/-- what a loop leaves: some of its names, all else as it was -/
def CutPost {σ : Type} (h₀ : Heap) (L : Addr) (s : Shared) (m₀ : Str → Option Value) (Led : σ → List (Addr × Obj)) (ps : σ → List (Str × Value)) (Ex : σ → Prop) (f : Flow) (s' : Shared) : Prop :=
  f = .next ∧ ∃ c h' tk', s' = { s with heap := h', toks := tk' } ∧ Ex c ∧ Fr h₀ L h' (kstB m₀ (ps c)) ∧ News h₀ L h' (Led c)
section
variable {M : Model} {A : Around} {E : Value → Shared → Prop} {s : Shared} {h₀ : Heap} {L : Addr} {m₀ : Str → Option Value} {Q : Flow → Shared → Prop} {t : Sem Flow}
theorem cutN {σ : Type} (F : Fr h₀ L s.heap m₀) (Led : σ → List (Addr × Obj)) (ps : σ → List (Str × Value)) (Ex : σ → Prop)
    (h : wpAny M A t (CutPost h₀ L s m₀ Led ps Ex) E s) (k : ∀ c h' tk', Ex c → Fr h₀ L h' (kstB m₀ (ps c)) → News h₀ L h' (Led c) → Q .next { s with heap := h', toks := tk' }) : wpAny M A t Q E s :=
  wpAny_mono h (fun f s' ⟨e, c, h', tk', e', hx, F', N'⟩ => by subst e; subst e'; exact k c h' tk' hx F' N') fun _ _ x => x
end
end Mine
end
section
open PySem PySem.W PyProof.Rows
namespace Mine
set_option pp.deepTerms false
set_option pp.deepTerms.threshold 4
set_option maxRecDepth 100000 in
set_option maxHeartbeats 8000000 in
theorem subst_c (w : World) (mean : ExcName → Option Value) (mg mb : Str → Option Value) (news : List (Addr × Obj)) (x y : Str) (tx ty : Tok)
    (hx : KXs.Still x) (hy : KXs.Still y) (lx : x.length ≤ 40) (ly : y.length ≤ 40) :
    Ctr 4 w mean mg mb 71 news [.str x tx, .str y ty] (fun r tl => tl = [] ∧ ∃ t, r = .int (if x = y then 0 else 2) t) := by
  unfold Ctr Pg Lo
  w_top off
  k_fill
  intro dp un gd cn cs a ccd cl outer A₀ base h₀ L m s Q E B F X N T hk hd hu hret
  refine wpAny_call ?_
  k_dflt cell_enter
  k_steps
  all_goals (rename (_ == _) = _ => e)
  · have e' : x = y := by simpa using e
    exact hret _ [] _ _ ⟨rfl, _, by rw [if_pos e']⟩ (by k_asm) (by k_asm) (fun _ _ _ h9 => nomatch h9)
  · have e' : ¬ x = y := by simpa using e
    exact hret _ [] _ _ ⟨rfl, _, by rw [if_neg e']⟩ (by k_asm) (by k_asm) (fun _ _ _ h9 => nomatch h9)
end Mine
end
section
open PySem PySem.W PyProof.Rows
namespace Mine
/-! loops by an invariant; of the frame only the named locals are kept -/
def Has (m : Str → Option Value) (ps : List (Str × Value)) : Prop := ∀ p ∈ ps, m p.1 = some p.2
theorem Has.nil {m : Str → Option Value} : Has m [] := fun _ h => nomatch h
theorem Has.cons {m : Str → Option Value} {n : Str} {v : Value} {r : List (Str × Value)} (h : m n = some v) (hr : Has m r) : Has m ((n, v) :: r) := fun p hp => by
  rcases List.mem_cons.mp hp with rfl | hp
  · exact h
  · exact hr p hp
theorem kstB_has {m : Str → Option Value} {ps : List (Str × Value)} (h : Has m ps) : kstB m ps = m := funext fun _ => kstB_eq h fun _ => rfl
theorem fr_open {h₀ h : Heap} {L : Addr} {m : Str → Option Value} (F : Fr h₀ L h m) (ps : List (Str × Value)) (hs : Has m ps) : ∃ m₁, Fr h₀ L h (kstB m₁ ps) := ⟨m, by rw [kstB_has hs]; exact F⟩

/-- a state in which the named locals and the ledger are as c says -/
def Lfp {σ : Type} (h₀ : Heap) (L : Addr) (s : Shared) (ps : σ → List (Str × Value)) (Led : σ → List (Addr × Obj)) (R : σ → Prop) (s₂ : Shared) : Prop :=
  ∃ (c : σ) (h : Heap) (tk : Nat) (m : Str → Option Value) (news : List (Addr × Obj)), s₂ = { s with heap := h, toks := tk } ∧ Fr h₀ L h m ∧ Has m (ps c) ∧ News h₀ L h news ∧ (∀ p ∈ Led c, p ∈ news) ∧ R c
theorem lfp {σ : Type} {h₀ h : Heap} {L : Addr} {s : Shared} {ps : σ → List (Str × Value)} {Led : σ → List (Addr × Obj)} {R : σ → Prop} {m : Str → Option Value} {news : List (Addr × Obj)} {tk : Nat} (c : σ)
    (F : Fr h₀ L h m) (N : News h₀ L h news) (hs : Has m (ps c)) (hn : ∀ p ∈ Led c, p ∈ news) (r : R c) : Lfp h₀ L s ps Led R { s with heap := h, toks := tk } := ⟨c, h, tk, m, news, rfl, F, hs, N, hn, r⟩
theorem Lfp.open {σ : Type} {h₀ : Heap} {L : Addr} {s s₂ : Shared} {ps : σ → List (Str × Value)} {Led : σ → List (Addr × Obj)} {R : σ → Prop} (x : Lfp h₀ L s ps Led R s₂) :
    ∃ c h tk m, s₂ = { s with heap := h, toks := tk } ∧ R c ∧ Fr h₀ L h (kstB m (ps c)) ∧ News h₀ L h (Led c) := by
  obtain ⟨c, h, tk, m, news, e, F, hs, N, hn, r⟩ := x
  exact ⟨c, h, tk, m, e, r, by rw [kstB_has hs]; exact F, fun p hp => N p (hn p hp)⟩

section
variable {prog : Program} {w : World} {A : Around} {E : Value → Shared → Prop} {Q : Flow → Shared → Prop} {s : Shared} {env : Env} {h₀ : Heap} {L : Addr}
def CutF {σ : Type} (h₀ : Heap) (L : Addr) (s : Shared) (ps : σ → List (Str × Value)) (Led : σ → List (Addr × Obj)) (Ex : σ → Prop) (Q : Flow → Shared → Prop) (f : Flow) (s₂ : Shared) : Prop :=
  match f with
  | .next => Lfp h₀ L s ps Led Ex s₂
  | .ret v => Q (.ret v) s₂
  | _ => False
/-- the ways through a statement meet -/
theorem cutS {M : Model} {σ : Type} {t : Sem Flow} {m₁ : Str → Option Value} (_F : Fr h₀ L s.heap m₁) (ps : σ → List (Str × Value)) (Led : σ → List (Addr × Obj)) (Ex : σ → Prop) (h : wpAny M A t (CutF h₀ L s ps Led Ex Q) E s)
    (k : ∀ c m h tk, Ex c → Fr h₀ L h (kstB m (ps c)) → News h₀ L h (Led c) → Q .next { s with heap := h, toks := tk }) : wpAny M A t Q E s := by
  refine wpAny_mono h (fun f s' x => ?_) fun _ _ x => x
  cases f with
  | next => obtain ⟨c, h, tk, m, rfl, r, F, N⟩ := Lfp.open x; exact k c m h tk r F N
  | ret v => exact x
  | brk => exact x.elim
  | cont => exact x.elim

def TurnW {σ : Type} (h₀ : Heap) (L : Addr) (s : Shared) (ps : σ → List (Str × Value)) (Led : σ → List (Addr × Obj)) (R Ex : σ → Prop) (Q : Flow → Shared → Prop) (f : Flow) (s₂ : Shared) : Prop :=
  match f with
  | .ret v => Q (.ret v) s₂
  | .brk => Lfp h₀ L s ps Led Ex s₂
  | _ => Lfp h₀ L s ps Led R s₂

theorem whl {σ : Type} {test : Expr} {body : List Stmt} {pos : Pos} {m₁ : Str → Option Value} (ps : σ → List (Str × Value)) (Led : σ → List (Addr × Obj)) (P Ex : σ → Prop) (μ : σ → Nat) (c₀ : σ)
    (F : Fr h₀ L s.heap m₁) (N : News h₀ L s.heap (Led c₀)) (hs : Has m₁ (ps c₀)) (hp : P c₀)
    (turn : ∀ (c : σ) (m : Str → Option Value) (h : Heap) (tk : Nat), P c → Fr h₀ L h (kstB m (ps c)) → News h₀ L h (Led c) →
      wpAny (model prog w) A (isTrue test env (eval test env)) (fun b s₂ =>
        if b = true then wpAny (model prog w) A (execs body env) (TurnW h₀ L s ps Led (fun c' => P c' ∧ μ c' < μ c) Ex Q) E s₂ else Lfp h₀ L s ps Led Ex s₂) E { s with heap := h, toks := tk })
    (rest : ∀ (c : σ) (m : Str → Option Value) (h : Heap) (tk : Nat), Ex c → Fr h₀ L h (kstB m (ps c)) → News h₀ L h (Led c) → Q .next { s with heap := h, toks := tk })
    (hE : PassesOwn (model prog w) A env E := by passes_own) :
    wpAny (model prog w) A (exec (.While test body [] pos) env) Q E s := by
  refine cutS F ps Led Ex ?_ rest
  refine While_inv2 (fun n m nx => ∃ c : σ, nx = Led c ∧ μ c = n ∧ Has m (ps c) ∧ P c) F N ⟨c₀, rfl, rfl, hs, hp⟩ ?_ hE
  rintro n m nx h tk F₁ N₁ ⟨c, rfl, rfl, hs', hp'⟩
  refine wpAny_mono (turn c m h tk hp' (by rw [kstB_has hs']; exact F₁) N₁) (fun b s₂ p => ?_) fun _ _ x => x
  cases b with
  | false => simp only [Bool.false_eq_true, if_false] at p ⊢; exact p
  | true =>
    simp only [if_true] at p ⊢
    refine wpAny_mono p (fun f s₃ q => ?_) fun _ _ x => x
    cases f with
    | ret v => exact q
    | brk => exact q
    | next =>
      obtain ⟨c', h', tk', m', news', rfl, F', hs', N', hn, hp', hm'⟩ := q
      exact ⟨h', tk', m', Led c', μ c', rfl, F', fun p hp => N' p (hn p hp), hm', c', rfl, rfl, hs', hp'⟩
    | cont =>
      obtain ⟨c', h', tk', m', news', rfl, F', hs', N', hn, hp', hm'⟩ := q
      exact ⟨h', tk', m', Led c', μ c', rfl, F', fun p hp => N' p (hn p hp), hm', c', rfl, rfl, hs', hp'⟩
end

section
variable {prog : Program} {w : World} {A : Around} {E : Value → Shared → Prop} {Q : Flow → Shared → Prop} {s : Shared} {env : Env} {h₀ : Heap} {x : Str} {body : List Stmt}
def TurnF {σ : Type} (h₀ : Heap) (L : Addr) (s : Shared) (ps : σ → List (Str × Value)) (Led : σ → List (Addr × Obj)) (R : σ → Prop) (Q : Flow → Shared → Prop) (f : Flow) (s₂ : Shared) : Prop :=
  match f with
  | .ret v => Q (.ret v) s₂
  | .brk => Q .next s₂
  | _ => Lfp h₀ L s ps Led R s₂

/-- a for loop over any iterator that reads the ledger's objects fs -/
theorem itW {σ : Type} {fs : List Addr} {io : Obj} {n : Nat} {Pv : Nat → Value → Prop} {St : Nat → Heap → Prop} {m₁ : Str → Option Value} (ps : σ → List (Str × Value)) (Led : σ → List (Addr × Obj)) (P : Nat → σ → Prop) (c₀ : σ)
    (W : Walks prog w A s.heap.objs.size (s.heap.objs.size :: fs) [s.heap.objs.size] n Pv St) (hst : St 0 (s.heap.push io)) (hSt : ∀ i h, St i h → ∃ oi, h.get? s.heap.objs.size = some oi)
    (hfs : ∀ b ∈ fs, ∃ ob, ∀ c : σ, (b, ob) ∈ Led c) (hadr : ∀ c : σ, (Led c).map (·.1) = (Led c₀).map (·.1))
    (F : Fr h₀ env.locals s.heap m₁) (N : News h₀ env.locals s.heap (Led c₀)) (hs : Has m₁ (ps c₀)) (hp : P 0 c₀)
    (turn : ∀ (i : Nat) (v : Value) (c : σ) (m : Str → Option Value) (h : Heap) (tk : Nat) (I : Addr) (oi : Obj), i < n → Pv i v → P i c → (∀ p ∈ Led c, p.1 < I) →
      Fr h₀ env.locals h (fun y => if y = x then some v else kstB m (ps c) y) → News h₀ env.locals h ((I, oi) :: Led c) →
      wpAny (model prog w) A (execs body env) (TurnF h₀ env.locals s ps (fun c' => (I, oi) :: Led c') (fun c' => P (i + 1) c') Q) E { s with heap := h, toks := tk })
    (done : ∀ (c : σ) (m : Str → Option Value) (h : Heap) (tk : Nat), P n c → Fr h₀ env.locals h (kstB m (ps c)) → News h₀ env.locals h (Led c) → Q .next { s with heap := h, toks := tk }) :
    LoopAtV prog w A h₀ env x body Q E (.ref s.heap.objs.size) { s with heap := s.heap.push io } := by
  have hlt : ∀ p ∈ Led c₀, p.1 < s.heap.objs.size := fun p hp => Heap.lt_size (N p hp).1
  have hltc : ∀ c : σ, ∀ p ∈ Led c, p.1 < s.heap.objs.size := fun c p hp => by
    have h1 : p.1 ∈ (Led c).map (·.1) := List.mem_map.mpr ⟨p, hp, rfl⟩
    rw [hadr c] at h1
    obtain ⟨q, hq, e⟩ := List.mem_map.mp h1
    exact e ▸ hlt q hq
  refine ⟨s.heap.objs.size, s.heap.objs.size :: fs, [s.heap.objs.size], n, Pv, St, m₁, Led c₀, (fun i m nx => ∃ c : σ, nx = Led c ∧ Has m (ps c) ∧ P i c), rfl, W, ?_, ?_, ?_, hst, F.push _, (fun p hp => ⟨Heap.get?_push_of_some _ (N p hp).1, (N p hp).2⟩), ⟨c₀, rfl, hs, hp⟩, ?_, ?_⟩
  · intro hm
    rcases List.mem_cons.mp hm with e | hm
    · exact absurd F.ns.lt (e ▸ Nat.lt_irrefl _)
    · obtain ⟨ob, hob⟩ := hfs _ hm
      exact (N _ (hob c₀)).2.1 rfl
  · intro b hb
    rw [List.mem_singleton.mp hb]
    exact next_is_new F
  · intro p hp hI
    exact absurd (hlt p hp) ((List.mem_singleton.mp hI) ▸ Nat.lt_irrefl _)
  · rintro i v m news₁ s₁ own ⟨hh, tk, rfl⟩ hin hP ⟨c, rfl, hs', hp'⟩ hoff hown hget hfp st' F₁ N₁
    obtain ⟨oi, hoi⟩ := hSt _ _ st'
    have hmem : (s.heap.objs.size, oi) ∈ own := hfp _ (List.mem_cons_self ..) (next_is_new F) _ hoi
    have N₂ : News h₀ env.locals hh ((s.heap.objs.size, oi) :: Led c) := fun p hp => N₁ p (by
      rcases List.mem_cons.mp hp with rfl | hp
      · exact List.mem_append_left _ hmem
      · exact List.mem_append_right _ hp)
    refine wpAny_mono (turn i v c m hh tk s.heap.objs.size oi hin hP hp' (hltc c) (by rw [kstB_has hs']; exact F₁) N₂) (fun f s₃ q => ?_) fun _ _ e => e
    have fin : Lfp h₀ env.locals s ps (fun c' => (s.heap.objs.size, oi) :: Led c') (fun c' => P (i + 1) c') s₃ →
        LoopStepU h₀ env.locals [s.heap.objs.size] own (fun m nx => ∃ c : σ, nx = Led c ∧ Has m (ps c) ∧ P (i + 1) c) { s with heap := hh, toks := tk } .next s₃ := by
      rintro ⟨c', h', tk', m', news', rfl, F', hs', N', hn, hp'⟩
      refine ⟨rfl, h', tk', m', Led c', rfl, F', fun p hp => ?_, fun p hp hq => ?_, c', rfl, hs', hp'⟩
      · rcases List.mem_append.mp hp with h1 | h1
        · rcases List.mem_cons.mp (hown p h1) with e | hb
          · have e2 : p = (s.heap.objs.size, oi) := by
              obtain ⟨pa, po⟩ := p
              have e3 : pa = s.heap.objs.size := e
              subst e3
              have := hget _ h1
              rw [hoi] at this
              exact congrArg _ (Option.some.inj this).symm
            rw [e2]
            exact N' _ (hn _ (List.mem_cons_self ..))
          · obtain ⟨ob, hob⟩ := hfs _ hb
            have e2 : p = (p.1, ob) := by
              obtain ⟨pa, po⟩ := p
              have h3 := hget _ h1
              have h4 := (N₁ _ (List.mem_append_right _ (hob c))).1
              rw [h4] at h3
              exact congrArg _ (Option.some.inj h3).symm
            rw [e2]
            exact N' _ (hn _ (List.mem_cons_of_mem _ (hob c')))
        · exact N' _ (hn _ (List.mem_cons_of_mem _ h1))
      · exact absurd (hltc c' p hp) ((List.mem_singleton.mp hq) ▸ Nat.lt_irrefl _)
    cases f with
    | ret v => exact .ret q
    | brk => exact .brk q
    | next => exact .next (fin q)
    | cont => exact .cont (fin q)
  · rintro h' tk m' news' F' N' _ ⟨c, rfl, hs', hp'⟩
    exact done c m' h' tk hp' (by rw [kstB_has hs']; exact F') N'

theorem itRange {σ : Type} {r : Addr} {a₀ b₀ : Int} {t₀ u₀ v₀ : Tok} {n : Nat} {m₁ : Str → Option Value} (ps : σ → List (Str × Value)) (Led : σ → List (Addr × Obj)) (P : Nat → σ → Prop) (c₀ : σ)
    (hh : A.handled = none) (hr : IsRange s.heap r a₀ b₀ 1 t₀ u₀ v₀) (hsmall : Builtin.Range.small a₀ b₀ 1 = true) (hn : Builtin.Range.rangeSize a₀ b₀ 1 = (n : Int))
    (hadr : ∀ c : σ, (Led c).map (·.1) = (Led c₀).map (·.1)) (F : Fr h₀ env.locals s.heap m₁) (N : News h₀ env.locals s.heap (Led c₀)) (hs : Has m₁ (ps c₀)) (hp : P 0 c₀)
    (turn : ∀ (i : Nat) (k : Int) (t : Tok) (c : σ) (m : Str → Option Value) (h : Heap) (tk : Nat) (I : Addr) (oi : Obj), i < n → k = a₀ + i → P i c → (∀ p ∈ Led c, p.1 < I) →
      Fr h₀ env.locals h (fun y => if y = x then some (.int k t) else kstB m (ps c) y) → News h₀ env.locals h ((I, oi) :: Led c) →
      wpAny (model prog w) A (execs body env) (TurnF h₀ env.locals s ps (fun c' => (I, oi) :: Led c') (fun c' => P (i + 1) c') Q) E { s with heap := h, toks := tk })
    (done : ∀ (c : σ) (m : Str → Option Value) (h : Heap) (tk : Nat), P n c → Fr h₀ env.locals h (kstB m (ps c)) → News h₀ env.locals h (Led c) → Q .next { s with heap := h, toks := tk }) :
    wpAny (model prog w) A (pyIter (.ref r)) (fun it s₂ => LoopAtV prog w A h₀ env x body Q E it s₂) E s := by
  refine wpAny_pyIter_range hr hsmall ?_
  have W : Walks prog w A s.heap.objs.size [s.heap.objs.size] [s.heap.objs.size] n (fun i v => i < n ∧ ∃ t, v = .int (a₀ + i * 1) t)
      (fun i h => IsRangeIter h s.heap.objs.size (a₀ + (i : Nat) * 1) ((n : Int) - (i : Nat)) 1) := (Walks.range hh _ a₀ 1 n).bound
  refine itW ps Led P c₀ W (by show IsRangeIter _ _ _ _ _; rw [hn]; simpa using Heap.get?_push_size _ rfl) (fun i h st => ⟨_, st⟩) (fun b hb => nomatch hb) hadr F N hs hp ?_ done
  rintro i v c m h tk I oi hi ⟨_, t, rfl⟩ hP hl F' N'
  exact turn i _ t c m h tk I oi hi (by omega) hP hl F' N'

theorem itList {σ : Type} {l : Addr} {vs : List Value} {nn : Nat} {m₁ : Str → Option Value} (ps : σ → List (Str × Value)) (Led : σ → List (Addr × Obj)) (P : Nat → σ → Prop) (c₀ : σ)
    (hh : A.handled = none) (hl : ∀ c : σ, (l, listOf vs.toArray nn) ∈ Led c)
    (hadr : ∀ c : σ, (Led c).map (·.1) = (Led c₀).map (·.1)) (F : Fr h₀ env.locals s.heap m₁) (N : News h₀ env.locals s.heap (Led c₀)) (hs : Has m₁ (ps c₀)) (hp : P 0 c₀)
    (turn : ∀ (i : Nat) (v : Value) (c : σ) (m : Str → Option Value) (h : Heap) (tk : Nat) (I : Addr) (oi : Obj), i < vs.length → vs[i]? = some v → P i c → (∀ p ∈ Led c, p.1 < I) →
      Fr h₀ env.locals h (fun y => if y = x then some v else kstB m (ps c) y) → News h₀ env.locals h ((I, oi) :: Led c) →
      wpAny (model prog w) A (execs body env) (TurnF h₀ env.locals s ps (fun c' => (I, oi) :: Led c') (fun c' => P (i + 1) c') Q) E { s with heap := h, toks := tk })
    (done : ∀ (c : σ) (m : Str → Option Value) (h : Heap) (tk : Nat), P vs.length c → Fr h₀ env.locals h (kstB m (ps c)) → News h₀ env.locals h (Led c) → Q .next { s with heap := h, toks := tk }) :
    wpAny (model prog w) A (pyIter (.ref l)) (fun it s₂ => LoopAtV prog w A h₀ env x body Q E it s₂) E s := by
  have hol : s.heap.get? l = some (listOf vs.toArray nn) := (N _ (hl c₀)).1
  have hls : s.heap.IsList l vs.toArray := ⟨_, hol, rfl, nn, rfl⟩
  have hne : l ≠ s.heap.objs.size := Nat.ne_of_lt (Heap.lt_size hol)
  refine wpAny_pyIter_list hls ?_
  have W := Walks.list (prog := prog) (w := w) hh s.heap.objs.size l hne vs.toArray
  rw [List.size_toArray] at W
  refine itW ps Led P c₀ W ⟨⟨_, Heap.get?_push_size _ rfl, rfl, rfl⟩, hls.at fun o e => Heap.get?_push_of_some _ e⟩ (fun i h st => ⟨_, st.1.choose_spec.1⟩) (fun b hb => ⟨_, fun c => (List.mem_singleton.mp hb) ▸ hl c⟩) hadr F N hs hp ?_ done
  intro i v c m h tk I oi hi hv hP hlt F' N'
  exact turn i v c m h tk I oi hi (by simpa using hv) hP hlt F' N'

theorem itDict {σ : Type} {d : Addr} {od : Obj} {kvs : List (Int × Value)} {m₁ : Str → Option Value} (ps : σ → List (Str × Value)) (Led : σ → List (Addr × Obj)) (P : Nat → σ → Prop) (c₀ : σ)
    (hh : A.handled = none) (lo : (d == sysModules) = false) (hl : ∀ c : σ, (d, od) ∈ Led c) (hd : od.IsDictOf (PySem.intKind prog w) kvs)
    (hadr : ∀ c : σ, (Led c).map (·.1) = (Led c₀).map (·.1)) (F : Fr h₀ env.locals s.heap m₁) (N : News h₀ env.locals s.heap (Led c₀)) (hs : Has m₁ (ps c₀)) (hp : P 0 c₀)
    (turn : ∀ (i : Nat) (k : Int) (t : Tok) (v : Value) (c : σ) (m : Str → Option Value) (h : Heap) (tk : Nat) (I : Addr) (oi : Obj), i < kvs.length → kvs[i]? = some (k, v) → P i c → (∀ p ∈ Led c, p.1 < I) →
      Fr h₀ env.locals h (fun y => if y = x then some (.int k t) else kstB m (ps c) y) → News h₀ env.locals h ((I, oi) :: Led c) →
      wpAny (model prog w) A (execs body env) (TurnF h₀ env.locals s ps (fun c' => (I, oi) :: Led c') (fun c' => P (i + 1) c') Q) E { s with heap := h, toks := tk })
    (done : ∀ (c : σ) (m : Str → Option Value) (h : Heap) (tk : Nat), P kvs.length c → Fr h₀ env.locals h (kstB m (ps c)) → News h₀ env.locals h (Led c) → Q .next { s with heap := h, toks := tk }) :
    wpAny (model prog w) A (pyIter (.ref d)) (fun it s₂ => LoopAtV prog w A h₀ env x body Q E it s₂) E s := by
  obtain ⟨ep, ha⟩ := KdkAt.of hd
  have hat := ha.dictAt (N _ (hl c₀)).1
  refine wpAny_pyIter_dict lo hat ?_
  have hne : d ≠ s.heap.objs.size := Nat.ne_of_lt hat.lt_size
  have W := Walks.dictKeys (knd := PySem.intKind prog w) hh s.heap.objs.size d hne kvs ep
  refine itW ps Led P c₀ W ⟨⟨_, Heap.get?_push_size _ rfl, rfl, rfl⟩, hat.push _⟩ (fun i h st => ⟨_, st.1.choose_spec.1⟩) (fun b hb => ⟨_, fun c => (List.mem_singleton.mp hb) ▸ hl c⟩) hadr F N hs hp ?_ done
  rintro i v c m h tk I oi hi ⟨k, v', hk, hv⟩ hP hlt F' N'
  obtain ⟨t, rfl⟩ := PySem.Value.isInt_shape hv
  exact turn i k t v' c m h tk I oi hi hk hP hlt F' N'
end
end Mine
end
section
open PySem PySem.W PyProof.Rows
namespace Mine
/-! the steps of _levenshtein_distance's two trimming loops -/
def Pre (x y : Str) (p : Int) : Prop := 0 ≤ p ∧ p ≤ (x.length : Int) ∧ p ≤ (y.length : Int) ∧ lev ((tx x).drop p.toNat) ((tx y).drop p.toNat) = lev (tx x) (tx y)
theorem pre_zero (x y : Str) : Pre x y 0 := ⟨by omega, by omega, by omega, by simp⟩
theorem pre_step {x y : Str} {p : Int} (h : Pre x y p) (hx : p < x.length) (hy : p < y.length) (e : (Txt.item x p == Txt.item y p) = true) : Pre x y (p + 1) := by
  obtain ⟨h0, h1, h2, h3⟩ := h
  refine ⟨by omega, by omega, by omega, ?_⟩
  have e' := beq_iff_eq.mp e
  rw [tx_item h0 hx, tx_item h0 hy] at e'
  have e'' := one_inj e'
  have l1 : p.toNat < (tx x).length := by rw [tx_len]; omega
  have l2 : p.toNat < (tx y).length := by rw [tx_len]; omega
  rw [List.drop_eq_getElem_cons l1, List.drop_eq_getElem_cons l2, e'', lev_cons_same] at h3
  rw [show (p + 1).toNat = p.toNat + 1 from by omega]
  exact h3
def Pst (x y : Str) (q : Int) : Prop := q ≤ 0 ∧ -q ≤ (x.length : Int) ∧ -q ≤ (y.length : Int) ∧ lev ((tx x).take (x.length + q).toNat) ((tx y).take (y.length + q).toNat) = lev (tx x) (tx y)
theorem pst_zero (x y : Str) : Pst x y 0 := by
  refine ⟨by omega, by omega, by omega, ?_⟩
  rw [List.take_of_length_le (by rw [tx_len]; omega), List.take_of_length_le (by rw [tx_len]; omega)]
theorem pst_step {x y : Str} {q : Int} (h : Pst x y q) (hx : -q < x.length) (hy : -q < y.length) (e : (Txt.item x (q - 1) == Txt.item y (q - 1)) = true) : Pst x y (q - 1) := by
  obtain ⟨h0, h1, h2, h3⟩ := h
  refine ⟨by omega, by omega, by omega, ?_⟩
  have e' := beq_iff_eq.mp e
  rw [tx_item_neg (by omega) (by omega), tx_item_neg (by omega) (by omega)] at e'
  have e'' := one_inj e'
  have l1 : (q - 1 + x.length).toNat < (tx x).length := by rw [tx_len]; omega
  have l2 : (q - 1 + y.length).toNat < (tx y).length := by rw [tx_len]; omega
  rw [show (x.length + q).toNat = (q - 1 + x.length).toNat + 1 from by omega, show (y.length + q).toNat = (q - 1 + y.length).toNat + 1 from by omega, take_succ_snoc l1, take_succ_snoc l2, e'', lev_snoc_same] at h3
  rw [show (x.length + (q - 1)).toNat = (q - 1 + x.length).toNat from by omega, show (y.length + (q - 1)).toNat = (q - 1 + y.length).toNat from by omega]
  exact h3
theorem still_sub {x y : Str} (h : KXs.Still x) (hs : ∀ c ∈ tx y, c ∈ tx x) : KXs.Still y := fun c hc => h c (hs c hc)
end Mine
namespace Mine
section
variable {prog : Program} {w : World} {A : Around} {E : Value → Shared → Prop} {s : Shared} {value slice : Expr} {x : Str} {t : Tok} {h₀ : Heap} {L : Addr} {m : Str → Option Value} {news : List (Addr × Obj)} {Q : Value → Shared → Prop}
theorem slice_allN (hF : Fr h₀ L s.heap m) (hN : News h₀ L s.heap news) (hsz : x.length ≤ sizeLine) (h : ∀ h' t' k, Fr h₀ L h' m → News h₀ L h' news → Q (.str x t') { s with heap := h', toks := k })
    (hs : subscripted slice false (.str x t) (.ref s.heap.objs.size) = operate [.ref s.heap.objs.size, .str x t] (getItem (.str x t) (.ref s.heap.objs.size)) := by with_unfolding_all rfl)
    (ht : ∀ r, letTemporaryGo value (.str x t) r = pure () := by intro _; with_unfolding_all rfl) :
    wpAny (model prog w) A (subscriptTail value slice (.str x t) (.ref s.heap.objs.size)) Q E { s with heap := s.heap.push { cls := .type "slice", data := .fields #[.none, .none, .none] } } :=
  slice_strN_nn hF hN (fun h' t' k a b => by rw [tx_all]; exact h h' t' k a b) hs ht hsz
end
theorem len_to_neg {x : Str} {q : Int} (h0 : q < 0) (h1 : -(x.length : Int) ≤ q) : ((Txt.slice x none (some q)).length : Int) = x.length + q := by
  rw [← tx_len, tx_to_neg h0 h1, List.length_take, tx_len]; omega
theorem lev_empty {x y : Str} (h : x.length = 0 ∨ y.length = 0) : ((x.length : Int) + y.length) = (lev (tx x) (tx y) : Nat) := by
  have h1 := lev_len (tx x) (tx y)
  rw [tx_len, tx_len] at h1
  omega
theorem ints_of {vs : List Value} (f : Nat → Int) : ∀ (n k : Nat), vs.length = n → (∀ (j : Nat) (v : Value), vs[j]? = some v → ∃ t, v = Value.int (f (k + j)) t) → IntsAre vs ((List.range n).map fun i => f (k + i)) := by
  induction vs with
  | nil => intro n k hn _; subst hn; exact .nil
  | cons v r ih =>
    intro n k hn h
    obtain ⟨t, rfl⟩ := h 0 v (by simp)
    subst hn
    rw [List.length_cons, List.range_succ_eq_map, List.map_cons, List.map_map]
    refine .cons _ _ ?_
    have := ih r.length (k + 1) rfl fun j v hj => by
      obtain ⟨t', ht'⟩ := h (j + 1) v hj
      exact ⟨t', by rw [ht']; congr 2; omega⟩
    refine Eq.mp ?_ this
    congr 1
    refine List.map_congr_left fun i _ => ?_
    show f (k + 1 + i) = f (k + (i + 1))
    congr 1
    omega
theorem small_two {b : Int} (hb : 2 ≤ b) (hb' : b < 2 ^ 62) : Builtin.Range.small 2 b 2 = true := by
  unfold Builtin.Range.small
  simp only [Builtin.Range.rangeSize, Builtin.Range.rangeFitsLong, Bool.and_eq_true, Bool.or_eq_true, decide_eq_true_eq, beq_iff_eq, show (2 : Int) > 0 by decide, if_true]
  split <;> omega
section
variable {prog : Program} {w : World} {A : Around} {E : Value → Shared → Prop} {s : Shared} {h₀ : Heap} {L r : Addr} {m : Str → Option Value} {news : List (Addr × Obj)} {a b st : Int} {t₀ u₀ v₀ : Tok} {Q : Value → Shared → Prop}
theorem list_rangeBy (n : Nat) (hh : A.handled = none) (F : Fr h₀ L s.heap m) (N : News h₀ L s.heap news) (hr : IsRange s.heap r a b st t₀ u₀ v₀) (hsmall : Builtin.Range.small a b st = true) (hn : Builtin.Range.rangeSize a b st = (n : Int)) (hz : n ≤ 2 ^ 24)
    (h : ∀ D us c h' tk, Fr h₀ L h' m → News h₀ L h' ((D, listOf (List.toArray us) c) :: news) → (∀ p ∈ news, p.1 < D) → IntsAre us ((List.range n).map fun i : Nat => a + (i : Int) * st) → Q (.ref D) { s with heap := h', toks := tk }) :
    wpAny (model prog w) A (call (.type "list") [.ref r]) Q E s := by
  refine PySem.call_list_range hh hr hsmall hn hz fun h' tk acc c hk hD hI => ?_
  have hD' : h'.get? s.heap.objs.size = some (listOf (List.toArray acc.toList) c) := by
    rw [Array.toArray_toList]
    exact hD
  refine h _ acc.toList c h' tk (F.keeps hk) (news_pushed F N hk hD' rfl) (fun p hp => Heap.lt_size (N p hp).1) ?_
  have := ints_of (vs := acc.toList) (fun i : Nat => a + (i : Int) * st) n 0 (by rw [Array.length_toList]; exact hI.1) fun j v hj => by
    obtain ⟨t, ht⟩ := hI.2 j v (by rw [← hj, Array.getElem?_toList])
    exact ⟨t, by rw [ht]; simp⟩
  simpa using this
end
theorem still_item {x : Str} {i : Int} (h : KXs.Still x) (h0 : 0 ≤ i) (h1 : i < x.length) : KXs.Still (Txt.item x i) := by
  rw [tx_item h0 h1]
  intro c hc
  have e : c = (tx x)[i.toNat]'(by rw [tx_len]; omega) := by simpa using hc
  rw [e]
  exact h _ (List.getElem_mem _)
theorem item_cst {x y : Str} {i j : Nat} {k l : Int} (hi : i < (tx x).length) (hj : j < (tx y).length) (hk : k = i) (hl : l = j) : (if Txt.item y l = Txt.item x k then (0 : Int) else 2) = 2 * (cst (tx x)[i] (tx y)[j] : Int) := by
  subst hk; subst hl
  have h1 := tx_len x
  have h2 := tx_len y
  rw [tx_item (by omega) (by omega), tx_item (by omega) (by omega)]
  unfold cst
  simp only [Int.toNat_natCast]
  by_cases e : (tx x)[i] = (tx y)[j]
  · rw [if_pos (by rw [e]), if_pos e]; rfl
  · rw [if_neg (fun h => e (one_inj h).symm), if_neg e]; rfl
end Mine
end
section
namespace Mine
/-! the rows of the table as _levenshtein_distance keeps them -/
section
variable (a b : List Nat)
noncomputable def rowAt (j : Nat) : List Int := (List.range a.length).map fun i => 2 * (dd a b (i + 1) j : Int)
noncomputable def mixAt (j i : Nat) : List Int := (List.range a.length).map fun k => if k < i then 2 * (dd a b (k + 1) (j + 1) : Int) else 2 * (dd a b (k + 1) j : Int)
end
section
variable {a b : List Nat}
theorem row_zero : ((List.range a.length).map fun i : Nat => (2 : Int) + (i : Int) * 2) = rowAt a b 0 := by
  unfold rowAt
  refine List.map_congr_left fun i hi => ?_
  rw [dd_zero' a b (by have := List.mem_range.mp hi; omega)]
  omega
theorem mix_zero (j : Nat) : rowAt a b j = mixAt a b j 0 := by
  unfold rowAt mixAt
  refine List.map_congr_left fun i _ => ?_
  rw [if_neg (by omega)]
theorem mix_full (j : Nat) : mixAt a b j a.length = rowAt a b (j + 1) := by
  unfold rowAt mixAt
  refine List.map_congr_left fun i hi => ?_
  rw [if_pos (List.mem_range.mp hi)]
theorem mix_len (j i : Nat) : (mixAt a b j i).length = a.length := by simp [mixAt]
theorem mix_get {j i : Nat} (h : i < a.length) : (mixAt a b j i)[i]? = some (2 * (dd a b (i + 1) j : Int)) := by
  unfold mixAt
  rw [List.getElem?_map, List.getElem?_range h]
  simp
theorem mix_set {j i : Nat} (h : i < a.length) {v : Int} (hv : v = 2 * (dd a b (i + 1) (j + 1) : Int)) : (mixAt a b j i).set i v = mixAt a b j (i + 1) := by
  refine List.ext_getElem? fun k => ?_
  rw [List.getElem?_set]
  unfold mixAt
  simp only [List.length_map, List.length_range, List.getElem?_map]
  by_cases hk : k < a.length
  · rw [List.getElem?_range hk]
    simp only [Option.map_some]
    by_cases e : i = k
    · subst e
      rw [if_pos rfl, if_pos h, if_pos (Nat.lt_succ_self _), hv]
    · rw [if_neg e]
      by_cases hlt : k < i
      · rw [if_pos hlt, if_pos (by omega)]
      · rw [if_neg hlt, if_neg (by omega)]
  · rw [List.getElem?_eq_none (l := List.range a.length) (by simp; omega)]
    by_cases e : i = k
    · omega
    · rw [if_neg e]; rfl
/-- one cell of the table: the elder result of the row's start is one change too small, and it does no harm -/
theorem dp_cell {i j : Nat} (hi : i < a.length) (hj : j < b.length) {res s v : Int} (hres : (i = 0 ∧ res = 2 * (j : Int)) ∨ res = 2 * (dd a b i (j + 1) : Int)) (hs : s = 2 * (cst a[i] b[j] : Int))
    (hv : v = min (min res (2 * (dd a b (i + 1) j : Int)) + 2) (2 * (dd a b i j : Int) + s)) : v = 2 * (dd a b (i + 1) (j + 1) : Int) := by
  have st := dd_step hi hj
  have hc := cst_le a[i] b[j]
  rcases hres with ⟨e, hr⟩ | hr
  · subst e
    have z1 := dd_zero a b (j := j) (by omega)
    have z2 := dd_zero a b (j := j + 1) (by omega)
    omega
  · omega
end
end Mine
end
section
open PySem PySem.W PyProof.Rows
namespace Mine
set_option pp.deepTerms false
set_option pp.deepTerms.threshold 6
local macro_rules | `(tactic| walk_at "subscriptTail Name Slice str ref") => `(tactic| ((with_reducible show wpAny _ _ (subscriptTail _ (Expr.Slice none (some (Expr.BoolOp _ _ _)) none _) _ _) _ _ ({ heap := Heap.push _ { cls := _, data := Data.fields #[Value.none, Value.none, Value.none] }, gens := _, drawn := _, toks := _, os := _ } : Shared)); (with_reducible rename Fr _ _ _ _ => F'); (with_reducible rename News _ _ _ _ => N'); (refine slice_allN F' N' (by rw [sizeLine_eq]; omega) ?_); intro h' t' k F' N'; (try dsimp only)))
set_option maxRecDepth 100000 in
set_option maxHeartbeats 8000000 in
theorem lev_c (w : World) (mean : ExcName → Option Value) (mg mb : Str → Option Value) (news : List (Addr × Obj)) (x y : Str) (tkx tky tkm : Tok)
    (hx : KXs.Still x) (hy : KXs.Still y) (lx : x.length ≤ 20) (ly : y.length ≤ 20) :
    Ctr 8 w mean mg mb 78 news [.str x tkx, .str y tky, .int 99 tkm] (fun r tl => tl = [] ∧ ∃ t, r = .int (2 * (lev (tx x) (tx y) : Int)) t) := by
  unfold Ctr Pg Lo
  w_top off
  k_fill
  intro dp un gd cn cs a ccd cl outer A₀ base h₀ L m s Q E B F X N T hk hd hu hret
  refine wpAny_call ?_
  k_dflt cell_enter
  (rename Fr _ _ _ _ => F0)
  obtain ⟨m1, F1⟩ := fr_open F0 [(Str.ofString "a", .str x tkx), (Str.ofString "b", .str y tky), (Str.ofString "max_cost", .int 99 tkm)] (.cons rfl (.cons rfl (.cons rfl .nil)))
  clear F0
  dsimp only [kstB] at F1
  repeat' ((fail_if_success (with_reducible show Lfp _ _ _ _ _ _ _)); (fail_if_success (with_reducible show TurnW _ _ _ _ _ _ _ _ _ _)); (fail_if_success (with_reducible show TurnF _ _ _ _ _ _ _ _ _)); (fail_if_success (with_reducible show CutF _ _ _ _ _ _ _ _ _)); (fail_if_success (with_reducible show Q _ _)); (fail_if_success (with_reducible show wpAny _ _ (exec (Stmt.While _ _ _ _) _) _ _ _)); (fail_if_success (with_reducible show wpAny _ _ (exec (Stmt.For _ _ _ _ _) _) _ _ _)); (first | ((first | (with_reducible show wpAny _ _ (execs _ _) _ _ _) | (with_reducible show wpAny _ _ (PySem.isTrue _ _ _) _ _ _)); (dsimp only); walk1) | (k_unfold; (try dsimp only)) | (k_end; wrow_close) | walk1 | (dsimp only; walk1) | (leave1; walk_say "STEP leave1"; try dsimp only) | fail "no step"))
  · (rename (_ == _) = _ => e)
    have e' : x = y := by simpa using e
    exact hret _ [] _ _ ⟨rfl, _, by rw [e', lev_self]; rfl⟩ (by k_asm) (by k_asm) (fun _ _ _ h9 => nomatch h9)
  · (rename Fr _ _ _ _ => F1)
    refine whl (σ := Int × Tok) (fun c => [(Str.ofString "a", .str x tkx), (Str.ofString "b", .str y tky), (Str.ofString "max_cost", .int 99 tkm), (Str.ofString "pre", Value.int c.1 c.2)]) (fun _ => news) (fun c => Pre x y c.1) (fun c => Pre x y c.1) (fun c => x.length - c.1.toNat) (0, _)
      F1 (by assumption) (.cons rfl (.cons rfl (.cons rfl (.cons rfl .nil)))) (pre_zero x y) ?_ ?_
    · clear F1
      rintro ⟨p, tp⟩ m1 h1 tk1 hP F1 N1
      --[
      obtain ⟨p0, p1, p2, p3⟩ := id hP
      dsimp only [kstB] at F1
      dsimp only at p0 p1 p2 p3
      repeat' ((fail_if_success (with_reducible show Lfp _ _ _ _ _ _ _)); (fail_if_success (with_reducible show TurnW _ _ _ _ _ _ _ _ _ _)); (fail_if_success (with_reducible show TurnF _ _ _ _ _ _ _ _ _)); (fail_if_success (with_reducible show CutF _ _ _ _ _ _ _ _ _)); (fail_if_success (with_reducible show Q _ _)); (fail_if_success (with_reducible show wpAny _ _ (exec (Stmt.While _ _ _ _) _) _ _ _)); (fail_if_success (with_reducible show wpAny _ _ (exec (Stmt.For _ _ _ _ _) _) _ _ _)); (first | ((first | (with_reducible show wpAny _ _ (execs _ _) _ _ _) | (with_reducible show wpAny _ _ (PySem.isTrue _ _ _) _ _ _)); (dsimp only); walk1) | (k_unfold; (try dsimp only)) | (k_end; wrow_close) | walk1 | (dsimp only; walk1) | (leave1; walk_say "STEP leave1"; try dsimp only) | fail "no step"))
      · (rename (Txt.item _ _ == Txt.item _ _) = true => e9)
        have P8 := pre_step hP (by omega) (by omega) e9
        (rename Fr _ _ _ _ => F9); (rename News _ _ _ _ => N9)
        exact lfp (_, _) F9 N9 (.cons rfl (.cons rfl (.cons rfl (.cons rfl .nil)))) (fun _ h => h) ⟨P8, by first | omega | (dsimp only; omega)⟩
      all_goals ((rename Fr _ _ _ _ => F9); (rename News _ _ _ _ => N9); exact lfp (_, _) F9 N9 (.cons rfl (.cons rfl (.cons rfl (.cons rfl .nil)))) (fun _ h => h) hP)
      --]
    · clear F1
      rintro ⟨p, tp⟩ m1 h1 tk1 hP F1 N1
      obtain ⟨p0, p1, p2, p3⟩ := id hP
      dsimp only [kstB] at F1
      dsimp only at p0 p1 p2 p3
      repeat' ((fail_if_success (with_reducible show Lfp _ _ _ _ _ _ _)); (fail_if_success (with_reducible show TurnW _ _ _ _ _ _ _ _ _ _)); (fail_if_success (with_reducible show TurnF _ _ _ _ _ _ _ _ _)); (fail_if_success (with_reducible show CutF _ _ _ _ _ _ _ _ _)); (fail_if_success (with_reducible show Q _ _)); (fail_if_success (with_reducible show wpAny _ _ (exec (Stmt.While _ _ _ _) _) _ _ _)); (fail_if_success (with_reducible show wpAny _ _ (exec (Stmt.For _ _ _ _ _) _) _ _ _)); (first | ((first | (with_reducible show wpAny _ _ (execs _ _) _ _ _) | (with_reducible show wpAny _ _ (PySem.isTrue _ _ _) _ _ _)); (dsimp only); walk1) | (k_unfold; (try dsimp only)) | (k_end; wrow_close) | walk1 | (dsimp only; walk1) | (leave1; walk_say "STEP leave1"; try dsimp only) | fail "no step"))
      have exa : tx (Txt.slice x (some p) none) = (tx x).drop p.toNat := tx_from p0 p1
      have eya : tx (Txt.slice y (some p) none) = (tx y).drop p.toNat := tx_from p0 p2
      rw [← exa, ← eya] at p3
      have hxa : KXs.Still (Txt.slice x (some p) none) := still_sub hx (by rw [exa]; exact fun c hc => List.mem_of_mem_drop hc)
      have hya : KXs.Still (Txt.slice y (some p) none) := still_sub hy (by rw [eya]; exact fun c hc => List.mem_of_mem_drop hc)
      clear exa eya
      generalize Txt.slice x (some p) none = xa at *
      generalize Txt.slice y (some p) none = ya at *
      (rename Fr _ _ _ _ => F1)
      (rename Fr _ _ _ _ => F1)
      rw [← p3] at hret
      refine whl (σ := Int × Tok) (fun c => [(Str.ofString "a", .str xa _), (Str.ofString "b", .str ya _), (Str.ofString "max_cost", .int 99 tkm), (Str.ofString "post", Value.int c.1 c.2)]) (fun _ => news) (fun c => Pst xa ya c.1) (fun c => Pst xa ya c.1) (fun c => xa.length - (-c.1).toNat) (0, _)
        F1 (by assumption) (.cons rfl (.cons rfl (.cons rfl (.cons rfl .nil)))) (pst_zero xa ya) ?_ ?_
      · clear F1
        rintro ⟨q, tq⟩ m1 h1 tk1 hP F1 N1
        --[
        obtain ⟨q0, q1, q2, q3⟩ := id hP
        dsimp only [kstB] at F1
        dsimp only at q0 q1 q2 q3
        rcases Int.lt_or_eq_of_le q0 with hq | hq
        · have l1 : ((Txt.slice xa none (some q)).length : Int) = xa.length + q := len_to_neg hq (by omega)
          have l2 : ((Txt.slice ya none (some q)).length : Int) = ya.length + q := len_to_neg hq (by omega)
          repeat' ((fail_if_success (with_reducible show Lfp _ _ _ _ _ _ _)); (fail_if_success (with_reducible show TurnW _ _ _ _ _ _ _ _ _ _)); (fail_if_success (with_reducible show TurnF _ _ _ _ _ _ _ _ _)); (fail_if_success (with_reducible show CutF _ _ _ _ _ _ _ _ _)); (fail_if_success (with_reducible show Q _ _)); (fail_if_success (with_reducible show wpAny _ _ (exec (Stmt.While _ _ _ _) _) _ _ _)); (fail_if_success (with_reducible show wpAny _ _ (exec (Stmt.For _ _ _ _ _) _) _ _ _)); (first | ((first | (with_reducible show wpAny _ _ (execs _ _) _ _ _) | (with_reducible show wpAny _ _ (PySem.isTrue _ _ _) _ _ _)); (dsimp only); walk1) | (k_unfold; (try dsimp only)) | (k_end; wrow_close) | walk1 | (dsimp only; walk1) | (leave1; walk_say "STEP leave1"; try dsimp only) | fail "no step"))
          all_goals first
            | (exfalso; omega)
            | ((rename (Txt.item _ _ == Txt.item _ _) = true => e9)
               have P8 := pst_step hP (by first | omega | (dsimp only; omega)) (by first | omega | (dsimp only; omega)) e9
               (rename Fr _ _ _ _ => F9); (rename News _ _ _ _ => N9)
               exact lfp (_, _) F9 N9 (.cons rfl (.cons rfl (.cons rfl (.cons rfl .nil)))) (fun _ h => h) ⟨P8, by first | omega | (dsimp only; omega)⟩)
            | ((rename Fr _ _ _ _ => F9); (rename News _ _ _ _ => N9); exact lfp (_, _) F9 N9 (.cons rfl (.cons rfl (.cons rfl (.cons rfl .nil)))) (fun _ h => h) hP)
        · subst hq
          repeat' ((fail_if_success (with_reducible show Lfp _ _ _ _ _ _ _)); (fail_if_success (with_reducible show TurnW _ _ _ _ _ _ _ _ _ _)); (fail_if_success (with_reducible show TurnF _ _ _ _ _ _ _ _ _)); (fail_if_success (with_reducible show CutF _ _ _ _ _ _ _ _ _)); (fail_if_success (with_reducible show Q _ _)); (fail_if_success (with_reducible show wpAny _ _ (exec (Stmt.While _ _ _ _) _) _ _ _)); (fail_if_success (with_reducible show wpAny _ _ (exec (Stmt.For _ _ _ _ _) _) _ _ _)); (first | ((first | (with_reducible show wpAny _ _ (execs _ _) _ _ _) | (with_reducible show wpAny _ _ (PySem.isTrue _ _ _) _ _ _)); (dsimp only); walk1) | (k_unfold; (try dsimp only)) | (k_end; wrow_close) | walk1 | (dsimp only; walk1) | (leave1; walk_say "STEP leave1"; try dsimp only) | fail "no step"))
          all_goals first
            | (exfalso; omega)
            | ((rename (Txt.item _ _ == Txt.item _ _) = true => e9)
               have P8 := pst_step hP (by first | omega | (dsimp only; omega)) (by first | omega | (dsimp only; omega)) e9
               (rename Fr _ _ _ _ => F9); (rename News _ _ _ _ => N9)
               exact lfp (_, _) F9 N9 (.cons rfl (.cons rfl (.cons rfl (.cons rfl .nil)))) (fun _ h => h) ⟨P8, by first | omega | (dsimp only; omega)⟩)
            | ((rename Fr _ _ _ _ => F9); (rename News _ _ _ _ => N9); exact lfp (_, _) F9 N9 (.cons rfl (.cons rfl (.cons rfl (.cons rfl .nil)))) (fun _ h => h) hP)
        --]
      · clear F1
        rintro ⟨q, tq⟩ m1 h1 tk1 hP F1 N1
        obtain ⟨q0, q1, q2, q3⟩ := id hP
        dsimp only [kstB] at F1
        dsimp only at q0 q1 q2 q3
        repeat' ((fail_if_success (with_reducible show Lfp _ _ _ _ _ _ _)); (fail_if_success (with_reducible show TurnW _ _ _ _ _ _ _ _ _ _)); (fail_if_success (with_reducible show TurnF _ _ _ _ _ _ _ _ _)); (fail_if_success (with_reducible show CutF _ _ _ _ _ _ _ _ _)); (fail_if_success (with_reducible show Q _ _)); (fail_if_success (with_reducible show wpAny _ _ (exec (Stmt.While _ _ _ _) _) _ _ _)); (fail_if_success (with_reducible show wpAny _ _ (exec (Stmt.For _ _ _ _ _) _) _ _ _)); (fail_if_success (with_reducible show wpAny _ _ (exec (Stmt.Assign _ _ _) _) _ _ _)); (first | ((first | (with_reducible show wpAny _ _ (execs _ _) _ _ _) | (with_reducible show wpAny _ _ (PySem.isTrue _ _ _) _ _ _)); (dsimp only); walk1) | (k_unfold; (try dsimp only)) | (k_end; wrow_close) | walk1 | (dsimp only; walk1) | (leave1; walk_say "STEP leave1"; try dsimp only) | fail "no step"))
        refine cutS F1 (σ := Str × Tok × Tok) (fun c => [(Str.ofString "a", .str c.1 c.2.1), (Str.ofString "b", .str ya c.2.2), (Str.ofString "max_cost", .int 99 tkm), (Str.ofString "post", Value.int q tq)]) (fun _ => news) (fun c => tx c.1 = (tx xa).take (xa.length + q).toNat) ?_ ?_
        · --[
          rcases Int.lt_or_eq_of_le q0 with hq | hq
          · have e1 := tx_to_neg (x := xa) hq (by omega)
            rw [show q + (xa.length : Int) = xa.length + q from by omega] at e1
            repeat' ((fail_if_success (with_reducible show Lfp _ _ _ _ _ _ _)); (fail_if_success (with_reducible show TurnW _ _ _ _ _ _ _ _ _ _)); (fail_if_success (with_reducible show TurnF _ _ _ _ _ _ _ _ _)); (fail_if_success (with_reducible show CutF _ _ _ _ _ _ _ _ _)); (fail_if_success (with_reducible show Q _ _)); (fail_if_success (with_reducible show wpAny _ _ (exec (Stmt.While _ _ _ _) _) _ _ _)); (fail_if_success (with_reducible show wpAny _ _ (exec (Stmt.For _ _ _ _ _) _) _ _ _)); (first | ((first | (with_reducible show wpAny _ _ (execs _ _) _ _ _) | (with_reducible show wpAny _ _ (PySem.isTrue _ _ _) _ _ _)); (dsimp only); walk1) | (k_unfold; (try dsimp only)) | (k_end; wrow_close) | walk1 | (dsimp only; walk1) | (leave1; walk_say "STEP leave1"; try dsimp only) | fail "no step"))
            all_goals first
              | (exfalso; omega)
              | ((rename Fr _ _ _ _ => F9); (rename News _ _ _ _ => N9); exact lfp (_, _, _) F9 N9 (.cons rfl (.cons rfl (.cons rfl (.cons rfl .nil)))) (fun _ h => h) e1)
          · subst hq
            have e1 : tx xa = (tx xa).take ((xa.length : Int) + 0).toNat := (List.take_of_length_le (by rw [tx_len]; omega)).symm
            repeat' ((fail_if_success (with_reducible show Lfp _ _ _ _ _ _ _)); (fail_if_success (with_reducible show TurnW _ _ _ _ _ _ _ _ _ _)); (fail_if_success (with_reducible show TurnF _ _ _ _ _ _ _ _ _)); (fail_if_success (with_reducible show CutF _ _ _ _ _ _ _ _ _)); (fail_if_success (with_reducible show Q _ _)); (fail_if_success (with_reducible show wpAny _ _ (exec (Stmt.While _ _ _ _) _) _ _ _)); (fail_if_success (with_reducible show wpAny _ _ (exec (Stmt.For _ _ _ _ _) _) _ _ _)); (first | ((first | (with_reducible show wpAny _ _ (execs _ _) _ _ _) | (with_reducible show wpAny _ _ (PySem.isTrue _ _ _) _ _ _)); (dsimp only); walk1) | (k_unfold; (try dsimp only)) | (k_end; wrow_close) | walk1 | (dsimp only; walk1) | (leave1; walk_say "STEP leave1"; try dsimp only) | fail "no step"))
            all_goals first
              | (exfalso; omega)
              | ((rename Fr _ _ _ _ => F9); (rename News _ _ _ _ => N9); exact lfp (_, _, _) F9 N9 (.cons rfl (.cons rfl (.cons rfl (.cons rfl .nil)))) (fun _ h => h) e1)
          --]
        · clear F1 N1
          rintro ⟨xb, txb, tya⟩ m1 h1 tk1 hxb F1 N1
          dsimp only [kstB] at F1
          dsimp only at hxb
          repeat' ((fail_if_success (with_reducible show Lfp _ _ _ _ _ _ _)); (fail_if_success (with_reducible show TurnW _ _ _ _ _ _ _ _ _ _)); (fail_if_success (with_reducible show TurnF _ _ _ _ _ _ _ _ _)); (fail_if_success (with_reducible show CutF _ _ _ _ _ _ _ _ _)); (fail_if_success (with_reducible show Q _ _)); (fail_if_success (with_reducible show wpAny _ _ (exec (Stmt.While _ _ _ _) _) _ _ _)); (fail_if_success (with_reducible show wpAny _ _ (exec (Stmt.For _ _ _ _ _) _) _ _ _)); (fail_if_success (with_reducible show wpAny _ _ (exec (Stmt.Assign _ _ _) _) _ _ _)); (first | ((first | (with_reducible show wpAny _ _ (execs _ _) _ _ _) | (with_reducible show wpAny _ _ (PySem.isTrue _ _ _) _ _ _)); (dsimp only); walk1) | (k_unfold; (try dsimp only)) | (k_end; wrow_close) | walk1 | (dsimp only; walk1) | (leave1; walk_say "STEP leave1"; try dsimp only) | fail "no step"))
          refine cutS F1 (σ := Str × Tok × Tok) (fun c => [(Str.ofString "a", .str xb c.2.1), (Str.ofString "b", .str c.1 c.2.2), (Str.ofString "max_cost", .int 99 tkm)]) (fun _ => news) (fun c => tx c.1 = (tx ya).take (ya.length + q).toNat) ?_ ?_
          · --[
            rcases Int.lt_or_eq_of_le q0 with hq | hq
            · have e1 := tx_to_neg (x := ya) hq (by omega)
              rw [show q + (ya.length : Int) = ya.length + q from by omega] at e1
              repeat' ((fail_if_success (with_reducible show Lfp _ _ _ _ _ _ _)); (fail_if_success (with_reducible show TurnW _ _ _ _ _ _ _ _ _ _)); (fail_if_success (with_reducible show TurnF _ _ _ _ _ _ _ _ _)); (fail_if_success (with_reducible show CutF _ _ _ _ _ _ _ _ _)); (fail_if_success (with_reducible show Q _ _)); (fail_if_success (with_reducible show wpAny _ _ (exec (Stmt.While _ _ _ _) _) _ _ _)); (fail_if_success (with_reducible show wpAny _ _ (exec (Stmt.For _ _ _ _ _) _) _ _ _)); (first | ((first | (with_reducible show wpAny _ _ (execs _ _) _ _ _) | (with_reducible show wpAny _ _ (PySem.isTrue _ _ _) _ _ _)); (dsimp only); walk1) | (k_unfold; (try dsimp only)) | (k_end; wrow_close) | walk1 | (dsimp only; walk1) | (leave1; walk_say "STEP leave1"; try dsimp only) | fail "no step"))
              all_goals first
                | (exfalso; omega)
                | ((rename Fr _ _ _ _ => F9); (rename News _ _ _ _ => N9); exact lfp (_, _, _) F9 N9 (.cons rfl (.cons rfl (.cons rfl .nil))) (fun _ h => h) e1)
            · subst hq
              have e1 : tx ya = (tx ya).take ((ya.length : Int) + 0).toNat := (List.take_of_length_le (by rw [tx_len]; omega)).symm
              repeat' ((fail_if_success (with_reducible show Lfp _ _ _ _ _ _ _)); (fail_if_success (with_reducible show TurnW _ _ _ _ _ _ _ _ _ _)); (fail_if_success (with_reducible show TurnF _ _ _ _ _ _ _ _ _)); (fail_if_success (with_reducible show CutF _ _ _ _ _ _ _ _ _)); (fail_if_success (with_reducible show Q _ _)); (fail_if_success (with_reducible show wpAny _ _ (exec (Stmt.While _ _ _ _) _) _ _ _)); (fail_if_success (with_reducible show wpAny _ _ (exec (Stmt.For _ _ _ _ _) _) _ _ _)); (first | ((first | (with_reducible show wpAny _ _ (execs _ _) _ _ _) | (with_reducible show wpAny _ _ (PySem.isTrue _ _ _) _ _ _)); (dsimp only); walk1) | (k_unfold; (try dsimp only)) | (k_end; wrow_close) | walk1 | (dsimp only; walk1) | (leave1; walk_say "STEP leave1"; try dsimp only) | fail "no step"))
              all_goals first
                | (exfalso; omega)
                | ((rename Fr _ _ _ _ => F9); (rename News _ _ _ _ => N9); exact lfp (_, _, _) F9 N9 (.cons rfl (.cons rfl (.cons rfl .nil))) (fun _ h => h) e1)
            --]
          · clear F1 N1
            rintro ⟨yb, txb, tyb⟩ m1 h1 tk1 hyb F1 N1
            dsimp only [kstB] at F1
            dsimp only at hyb
            have lxb : xb.length ≤ 20 := by have := tx_len xb; rw [hxb, List.length_take, tx_len] at this; omega
            have lyb : yb.length ≤ 20 := by have := tx_len yb; rw [hyb, List.length_take, tx_len] at this; omega
            have sxb : KXs.Still xb := still_sub hxa (by rw [hxb]; exact fun c hc => List.mem_of_mem_take hc)
            have syb : KXs.Still yb := still_sub hya (by rw [hyb]; exact fun c hc => List.mem_of_mem_take hc)
            rw [← hxb, ← hyb] at q3
            rw [← q3] at hret
            clear hxb hyb q3 p3 hxa hya hx hy
            repeat' ((fail_if_success (with_reducible show Lfp _ _ _ _ _ _ _)); (fail_if_success (with_reducible show TurnW _ _ _ _ _ _ _ _ _ _)); (fail_if_success (with_reducible show TurnF _ _ _ _ _ _ _ _ _)); (fail_if_success (with_reducible show CutF _ _ _ _ _ _ _ _ _)); (fail_if_success (with_reducible show Q _ _)); (fail_if_success (with_reducible show wpAny _ _ (exec (Stmt.While _ _ _ _) _) _ _ _)); (fail_if_success (with_reducible show wpAny _ _ (exec (Stmt.For _ _ _ _ _) _) _ _ _)); (fail_if_success (with_reducible show wpAny _ _ (exec (Stmt.If (Expr.Compare _ [CmpOp.Lt] _ _) _ _ _) _) _ _ _)); (first | ((first | (with_reducible show wpAny _ _ (execs _ _) _ _ _) | (with_reducible show wpAny _ _ (PySem.isTrue _ _ _) _ _ _)); (dsimp only); walk1) | (k_unfold; (try dsimp only)) | (k_end; wrow_close) | walk1 | (dsimp only; walk1) | (leave1; walk_say "STEP leave1"; try dsimp only) | fail "no step"))
            · (rename Fr _ _ _ _ => F1)
              refine cutS F1 (σ := Str × Tok × Str × Tok) (fun c => [(Str.ofString "a", .str c.1 c.2.1), (Str.ofString "b", .str c.2.2.1 c.2.2.2), (Str.ofString "max_cost", .int 99 tkm)]) (fun _ => news)
                (fun c => c.1.length ≤ c.2.2.1.length ∧ 1 ≤ c.1.length ∧ c.2.2.1.length ≤ 20 ∧ KXs.Still c.1 ∧ KXs.Still c.2.2.1 ∧ lev (tx c.1) (tx c.2.2.1) = lev (tx xb) (tx yb)) ?_ ?_
              · --[
                repeat' ((fail_if_success (with_reducible show Lfp _ _ _ _ _ _ _)); (fail_if_success (with_reducible show TurnW _ _ _ _ _ _ _ _ _ _)); (fail_if_success (with_reducible show TurnF _ _ _ _ _ _ _ _ _)); (fail_if_success (with_reducible show CutF _ _ _ _ _ _ _ _ _)); (fail_if_success (with_reducible show Q _ _)); (fail_if_success (with_reducible show wpAny _ _ (exec (Stmt.While _ _ _ _) _) _ _ _)); (fail_if_success (with_reducible show wpAny _ _ (exec (Stmt.For _ _ _ _ _) _) _ _ _)); (first | ((first | (with_reducible show wpAny _ _ (execs _ _) _ _ _) | (with_reducible show wpAny _ _ (PySem.isTrue _ _ _) _ _ _)); (dsimp only); walk1) | (k_unfold; (try dsimp only)) | (k_end; wrow_close) | walk1 | (dsimp only; walk1) | (leave1; walk_say "STEP leave1"; try dsimp only) | fail "no step"))
                · (rename Fr _ _ _ _ => F9); (rename News _ _ _ _ => N9)
                  exact lfp (_, _, _, _) F9 N9 (.cons rfl (.cons rfl (.cons rfl .nil))) (fun _ h => by first | exact h | exact List.mem_cons_of_mem _ h) ⟨by dsimp only; omega, by dsimp only; omega, by dsimp only; omega, by assumption, by assumption, by first | rfl | exact lev_comm _ _⟩
                · (rename Fr _ _ _ _ => F9); (rename News _ _ _ _ => N9)
                  exact lfp (_, _, _, _) F9 N9 (.cons rfl (.cons rfl (.cons rfl .nil))) (fun _ h => by first | exact h | exact List.mem_cons_of_mem _ h) ⟨by dsimp only; omega, by dsimp only; omega, by dsimp only; omega, by assumption, by assumption, by first | rfl | exact lev_comm _ _⟩
                --]
              · clear F1
                rintro ⟨xc, txc, yc, tyc⟩ m1 h1 tk1 ⟨c1, c2, c3, sxc, syc, c4⟩ F1 N1
                dsimp only [kstB] at F1
                dsimp only at c1 c2 c3 sxc syc c4
                rw [← c4] at hret
                clear c4 sxb syb lxb lyb
                repeat' ((fail_if_success (with_reducible show Lfp _ _ _ _ _ _ _)); (fail_if_success (with_reducible show TurnW _ _ _ _ _ _ _ _ _ _)); (fail_if_success (with_reducible show TurnF _ _ _ _ _ _ _ _ _)); (fail_if_success (with_reducible show CutF _ _ _ _ _ _ _ _ _)); (fail_if_success (with_reducible show Q _ _)); (fail_if_success (with_reducible show wpAny _ _ (exec (Stmt.While _ _ _ _) _) _ _ _)); (fail_if_success (with_reducible show wpAny _ _ (exec (Stmt.For _ _ _ _ _) _) _ _ _)); (first | ((first | (with_reducible show wpAny _ _ (execs _ _) _ _ _) | (with_reducible show wpAny _ _ (PySem.isTrue _ _ _) _ _ _)); (dsimp only); walk1) | (k_unfold; (try dsimp only)) | (k_end; wrow_close) | walk1 | (dsimp only; walk1) | (leave1; walk_say "STEP leave1"; try dsimp only) | fail "no step"))
                (rename IsRange _ _ _ _ _ _ _ _ => hR); (rename Fr _ _ _ _ => F1); (rename News _ _ _ _ => N1)
                refine list_rangeBy xc.length rfl F1 N1 hR (small_two (by omega) (by omega)) (by simp only [Builtin.Range.rangeSize]; omega) (by omega) ?_
                rintro D us c0 h2 tk2 F2 N2 lD hus
                repeat' ((fail_if_success (with_reducible show Lfp _ _ _ _ _ _ _)); (fail_if_success (with_reducible show TurnW _ _ _ _ _ _ _ _ _ _)); (fail_if_success (with_reducible show TurnF _ _ _ _ _ _ _ _ _)); (fail_if_success (with_reducible show CutF _ _ _ _ _ _ _ _ _)); (fail_if_success (with_reducible show Q _ _)); (fail_if_success (with_reducible show wpAny _ _ (exec (Stmt.While _ _ _ _) _) _ _ _)); (fail_if_success (with_reducible show wpAny _ _ (exec (Stmt.For _ _ _ _ _) _) _ _ _)); (first | ((first | (with_reducible show wpAny _ _ (execs _ _) _ _ _) | (with_reducible show wpAny _ _ (PySem.isTrue _ _ _) _ _ _)); (dsimp only); walk1) | (k_unfold; (try dsimp only)) | (k_end; wrow_close) | walk1 | (dsimp only; walk1) | (leave1; walk_say "STEP leave1"; try dsimp only) | fail "no step"))
                have eA := tx_len xc
                have eB := tx_len yc
                rw [← eA, row_zero (b := tx yc)] at hus
                (rename Fr _ _ _ _ => F3)
                with_unfolding_all refine' For_invVF F3 ?k1 ?k2 ?_
                case k1 => exact rfl
                case k2 => exact rfl
                repeat' ((fail_if_success (with_reducible show Lfp _ _ _ _ _ _ _)); (fail_if_success (with_reducible show TurnW _ _ _ _ _ _ _ _ _ _)); (fail_if_success (with_reducible show TurnF _ _ _ _ _ _ _ _ _)); (fail_if_success (with_reducible show CutF _ _ _ _ _ _ _ _ _)); (fail_if_success (with_reducible show Q _ _)); (fail_if_success (with_reducible show wpAny _ _ (exec (Stmt.While _ _ _ _) _) _ _ _)); (fail_if_success (with_reducible show wpAny _ _ (exec (Stmt.For _ _ _ _ _) _) _ _ _)); (fail_if_success (with_reducible show wpAny _ _ (pyIter _) _ _ _)); (first | ((first | (with_reducible show wpAny _ _ (execs _ _) _ _ _) | (with_reducible show wpAny _ _ (PySem.isTrue _ _ _) _ _ _)); (dsimp only); walk1) | (k_unfold; (try dsimp only)) | (k_end; wrow_close) | walk1 | (dsimp only; walk1) | (leave1; walk_say "STEP leave1"; try dsimp only) | fail "no step"))
                (rename IsRange _ _ _ _ _ _ _ _ => hR2); (rename Fr _ _ _ _ => F4); (rename News _ _ _ _ => N4)

                refine itRange (n := yc.length) (σ := List Value × Nat × Int × Tok × Tok × Tok)
                  (fun c => [(Str.ofString "a", .str xc c.2.2.2.2.1), (Str.ofString "b", .str yc c.2.2.2.2.2), (Str.ofString "max_cost", .int 99 tkm), (Str.ofString "row", .ref D), (Str.ofString "result", .int c.2.2.1 c.2.2.2.1)])
                  (fun c => (D, listOf c.1.toArray c.2.1) :: news)
                  (fun j c => IntsAre c.1 (rowAt (tx xc) (tx yc) j) ∧ (j = 0 ∨ c.2.2.1 = 2 * (dd (tx xc) (tx yc) (tx xc).length j : Int))) (us, c0, 0, _, _, _)
                  rfl hR2 (small_one (by omega) (by omega) (by omega) (by omega)) (by simp only [Builtin.Range.rangeSize]; omega) (fun _ => rfl) F4 N4 (.cons rfl (.cons rfl (.cons rfl (.cons rfl (.cons rfl .nil))))) ⟨hus, .inl rfl⟩ ?_ ?_
                · clear F4 N4
                  rintro j k tk9 ⟨vs, c1', res, tres, txa9, tya9⟩ m2 h3 tk3 I oi hj hk ⟨hvs, hres⟩ lI F5 N5
                  dsimp only [kstB] at F5
                  dsimp only at hvs hres N5
                  repeat' ((fail_if_success (with_reducible show Lfp _ _ _ _ _ _ _)); (fail_if_success (with_reducible show TurnW _ _ _ _ _ _ _ _ _ _)); (fail_if_success (with_reducible show TurnF _ _ _ _ _ _ _ _ _)); (fail_if_success (with_reducible show CutF _ _ _ _ _ _ _ _ _)); (fail_if_success (with_reducible show Q _ _)); (fail_if_success (with_reducible show wpAny _ _ (exec (Stmt.While _ _ _ _) _) _ _ _)); (fail_if_success (with_reducible show wpAny _ _ (exec (Stmt.For _ _ _ _ _) _) _ _ _)); (first | ((first | (with_reducible show wpAny _ _ (execs _ _) _ _ _) | (with_reducible show wpAny _ _ (PySem.isTrue _ _ _) _ _ _)); (dsimp only); walk1) | (k_unfold; (try dsimp only)) | (k_end; wrow_close) | walk1 | (dsimp only; walk1) | (leave1; walk_say "STEP leave1"; try dsimp only) | fail "no step"))
                  rw [mix_zero] at hvs
                  have hk0 : k = (j : Int) := by omega
                  have zj := dd_zero (tx xc) (tx yc) (j := j) (by omega)
                  (rename Fr _ _ _ _ => F6)
                  with_unfolding_all refine' For_invVF F6 ?k1 ?k2 ?_
                  case k1 => exact rfl
                  case k2 => exact rfl
                  repeat' ((fail_if_success (with_reducible show Lfp _ _ _ _ _ _ _)); (fail_if_success (with_reducible show TurnW _ _ _ _ _ _ _ _ _ _)); (fail_if_success (with_reducible show TurnF _ _ _ _ _ _ _ _ _)); (fail_if_success (with_reducible show CutF _ _ _ _ _ _ _ _ _)); (fail_if_success (with_reducible show Q _ _)); (fail_if_success (with_reducible show wpAny _ _ (exec (Stmt.While _ _ _ _) _) _ _ _)); (fail_if_success (with_reducible show wpAny _ _ (exec (Stmt.For _ _ _ _ _) _) _ _ _)); (fail_if_success (with_reducible show wpAny _ _ (pyIter _) _ _ _)); (first | ((first | (with_reducible show wpAny _ _ (execs _ _) _ _ _) | (with_reducible show wpAny _ _ (PySem.isTrue _ _ _) _ _ _)); (dsimp only); walk1) | (k_unfold; (try dsimp only)) | (k_end; wrow_close) | walk1 | (dsimp only; walk1) | (leave1; walk_say "STEP leave1"; try dsimp only) | fail "no step"))
                  (rename IsRange _ _ _ _ _ _ _ _ => hR3); (rename Fr _ _ _ _ => F7); (rename News _ _ _ _ => N7)
                  refine itRange (n := xc.length) (σ := List Value × Nat × Int × Tok × Int × Tok × Int × Tok × Tok × Tok × Tok)
                    (fun c => [(Str.ofString "a", .str xc c.2.2.2.2.2.2.2.2.1), (Str.ofString "b", .str yc c.2.2.2.2.2.2.2.2.2.1), (Str.ofString "max_cost", .int 99 tkm), (Str.ofString "row", .ref D), (Str.ofString "bchar", .str (Txt.item yc k) c.2.2.2.2.2.2.2.2.2.2),
                      (Str.ofString "distance", .int c.2.2.1 c.2.2.2.1), (Str.ofString "result", .int c.2.2.2.2.1 c.2.2.2.2.2.1), (Str.ofString "minimum", .int c.2.2.2.2.2.2.1 c.2.2.2.2.2.2.2.1)])
                    (fun c => (I, oi) :: (D, listOf c.1.toArray c.2.1) :: news)
                    (fun i c => IntsAre c.1 (mixAt (tx xc) (tx yc) j i) ∧ c.2.2.1 = 2 * (dd (tx xc) (tx yc) i j : Int) ∧ ((i = 0 ∧ c.2.2.2.2.1 = 2 * (j : Int)) ∨ c.2.2.2.2.1 = 2 * (dd (tx xc) (tx yc) i (j + 1) : Int)) ∧ (0 < i → c.2.2.2.2.1 = 2 * (dd (tx xc) (tx yc) i (j + 1) : Int) ∧ c.2.2.2.2.2.2.1 ≤ 80))
                    (vs, c1', _, _, _, _, _, _, _, _, _)
                    rfl hR3 (small_one (by omega) (by omega) (by omega) (by omega)) (by simp only [Builtin.Range.rangeSize]; omega) (fun _ => rfl) F7 N7 (.cons rfl (.cons rfl (.cons rfl (.cons rfl (.cons rfl (.cons rfl (.cons rfl (.cons rfl .nil)))))))) ⟨hvs, by dsimp only; omega, .inl ⟨rfl, by dsimp only; omega⟩, fun h => absurd h (Nat.lt_irrefl _)⟩ ?_ ?_
                  · clear F7 N7
                    rintro i k2 tk8 ⟨ws, cc, d, td, r, tr, mn, tmn, ta, tb, tc⟩ m3 h4 tk4 I2 oi2 hi hk2 ⟨hws, hdi, hr, hmn⟩ lI2 F8 N8
                    dsimp only [kstB] at F8
                    dsimp only at hws hdi hr hmn N8
                    repeat' ((fail_if_success (with_reducible show Lfp _ _ _ _ _ _ _)); (fail_if_success (with_reducible show TurnW _ _ _ _ _ _ _ _ _ _)); (fail_if_success (with_reducible show TurnF _ _ _ _ _ _ _ _ _)); (fail_if_success (with_reducible show CutF _ _ _ _ _ _ _ _ _)); (fail_if_success (with_reducible show Q _ _)); (fail_if_success (with_reducible show wpAny _ _ (exec (Stmt.While _ _ _ _) _) _ _ _)); (fail_if_success (with_reducible show wpAny _ _ (exec (Stmt.For _ _ _ _ _) _) _ _ _)); (fail_if_success (with_reducible show wpAny _ _ (call (Value.ref _) _) _ _ _)); (first | ((first | (with_reducible show wpAny _ _ (execs _ _) _ _ _) | (with_reducible show wpAny _ _ (PySem.isTrue _ _ _) _ _ _)); (dsimp only); walk1) | (k_unfold; (try dsimp only)) | (k_end; wrow_close) | walk1 | (dsimp only; walk1) | (leave1; walk_say "STEP leave1"; try dsimp only) | fail "no step"))
                    refine (subst_c w mean mg mb _ (Txt.item yc k) (Txt.item xc k2) _ _ (still_item syc (by omega) (by omega)) (still_item sxc (by omega) (by omega)) (by rw [len_item]; omega) (by rw [len_item]; omega))
                      _ _ _ _ _ _ _ _ _ _ _ _ _ _ _ _ _ (by k_asm) F8 (by k_asm) N8 (by k_asm) rfl (by show dp + 1 + 4 < recursionLimit; omega) (by show un + 3 + 16 * 4 < cLine; omega) ?_
                    rintro rv tl h5 tk5 ⟨etl, tv, erv⟩ F9 N9 _
                    subst etl; subst erv
                    dsimp only [List.nil_append] at N9
                    have hDI : D < I := lI (D, _) (List.mem_cons_self ..)
                    have hII : I < I2 := lI2 (I, _) (List.mem_cons_self ..)
                    have hi' : i < (tx xc).length := by omega
                    have hj' : j < (tx yc).length := by omega
                    repeat' ((fail_if_success (with_reducible show Lfp _ _ _ _ _ _ _)); (fail_if_success (with_reducible show TurnW _ _ _ _ _ _ _ _ _ _)); (fail_if_success (with_reducible show TurnF _ _ _ _ _ _ _ _ _)); (fail_if_success (with_reducible show CutF _ _ _ _ _ _ _ _ _)); (fail_if_success (with_reducible show Q _ _)); (fail_if_success (with_reducible show wpAny _ _ (exec (Stmt.While _ _ _ _) _) _ _ _)); (fail_if_success (with_reducible show wpAny _ _ (exec (Stmt.For _ _ _ _ _) _) _ _ _)); (fail_if_success (with_reducible show wpAny _ _ (subscriptTail _ _ (Value.ref _) (Value.int _ _)) _ _ _)); (first | ((first | (with_reducible show wpAny _ _ (execs _ _) _ _ _) | (with_reducible show wpAny _ _ (PySem.isTrue _ _ _) _ _ _)); (dsimp only); walk1) | (k_unfold; (try dsimp only)) | (k_end; wrow_close) | walk1 | (dsimp only; walk1) | (leave1; walk_say "STEP leave1"; try dsimp only) | fail "no step"))
                    (rename Fr _ _ _ _ => F9); (rename News _ _ _ _ => N9)
                    refine ksa_sub N9 (List.mem_cons_of_mem _ (List.mem_cons_of_mem _ (List.mem_cons_self ..))) hws (by omega) (by rw [mix_len]; omega) (by omega) ?_
                    intro t6
                    rw [show (mixAt (tx xc) (tx yc) j i).getD k2.toNat 0 = 2 * (dd (tx xc) (tx yc) (i + 1) j : Int) from by rw [show k2.toNat = i from by omega, List.getD_eq_getElem?_getD, mix_get hi']; rfl]
                    rw [item_cst hi' hj' (by omega) (by omega)] at *
                    repeat' ((fail_if_success (with_reducible show Lfp _ _ _ _ _ _ _)); (fail_if_success (with_reducible show TurnW _ _ _ _ _ _ _ _ _ _)); (fail_if_success (with_reducible show TurnF _ _ _ _ _ _ _ _ _)); (fail_if_success (with_reducible show CutF _ _ _ _ _ _ _ _ _)); (fail_if_success (with_reducible show Q _ _)); (fail_if_success (with_reducible show wpAny _ _ (exec (Stmt.While _ _ _ _) _) _ _ _)); (fail_if_success (with_reducible show wpAny _ _ (exec (Stmt.For _ _ _ _ _) _) _ _ _)); (fail_if_success (with_reducible show wpAny _ _ (setItem (Value.ref _) (Value.int _ _) _) _ _ _)); (first | ((first | (with_reducible show wpAny _ _ (execs _ _) _ _ _) | (with_reducible show wpAny _ _ (PySem.isTrue _ _ _) _ _ _)); (dsimp only); walk1) | (k_unfold; (try dsimp only)) | (k_end; wrow_close) | walk1 | (dsimp only; walk1) | (leave1; walk_say "STEP leave1"; try dsimp only) | fail "no step"))
                    have ev : (if d + 2 * (cst (tx xc)[i] (tx yc)[j] : Int) < (if 2 * (dd (tx xc) (tx yc) (i + 1) j : Int) < r then 2 * (dd (tx xc) (tx yc) (i + 1) j : Int) else r) + 2 then d + 2 * (cst (tx xc)[i] (tx yc)[j] : Int) else (if 2 * (dd (tx xc) (tx yc) (i + 1) j : Int) < r then 2 * (dd (tx xc) (tx yc) (i + 1) j : Int) else r) + 2) = 2 * (dd (tx xc) (tx yc) (i + 1) (j + 1) : Int) := by
                      refine dp_cell hi' hj' hr (s := 2 * (cst (tx xc)[i] (tx yc)[j] : Int)) rfl ?_
                      subst hdi
                      split <;> split <;> omega
                    (rename Fr _ _ _ _ => F9); (rename News _ _ _ _ => N9)
                    rw [ev] at F9 ⊢
                    refine ksa_set F9 N9 (.tail (Nat.ne_of_gt (Nat.lt_trans hDI hII)) (.tail (Nat.ne_of_gt hDI) (.head (fun p hp => Nat.ne_of_lt (lD p hp))))) hws (by omega) (by rw [mix_len]; omega) (by omega) ?_
                    rintro h6 F10 N10 hws2 - -
                    rw [show k2.toNat = i from by omega] at hws2 N10
                    rw [mix_set hi' rfl] at hws2
                    have hb := (dd_len (tx xc) (tx yc) (i := i + 1) (j := j + 1) (by omega) (by omega)).1
                    dsimp only
                    repeat' ((fail_if_success (with_reducible show Lfp _ _ _ _ _ _ _)); (fail_if_success (with_reducible show TurnW _ _ _ _ _ _ _ _ _ _)); (fail_if_success (with_reducible show TurnF _ _ _ _ _ _ _ _ _)); (fail_if_success (with_reducible show CutF _ _ _ _ _ _ _ _ _)); (fail_if_success (with_reducible show Q _ _)); (fail_if_success (with_reducible show wpAny _ _ (exec (Stmt.While _ _ _ _) _) _ _ _)); (fail_if_success (with_reducible show wpAny _ _ (exec (Stmt.For _ _ _ _ _) _) _ _ _)); (first | ((first | (with_reducible show wpAny _ _ (execs _ _) _ _ _) | (with_reducible show wpAny _ _ (PySem.isTrue _ _ _) _ _ _)); (dsimp only); walk1) | (k_unfold; (try dsimp only)) | (k_end; wrow_close) | walk1 | (dsimp only; walk1) | (leave1; walk_say "STEP leave1"; try dsimp only) | fail "no step"))
                    all_goals ((rename Fr _ _ _ _ => F9); (rename News _ _ _ _ => N9))
                    all_goals refine lfp (_, _, _, _, _, _, _, _, _, _, _) F9 N9 (.cons rfl (.cons rfl (.cons rfl (.cons rfl (.cons rfl (.cons rfl (.cons rfl (.cons rfl .nil)))))))) (fun _ h => h) ?_
                    all_goals dsimp only
                    all_goals exact ⟨hws2, rfl, .inr rfl, fun _ => ⟨rfl, by omega⟩⟩
                  · clear F7 N7
                    rintro ⟨ws, cc, d, td, r, tr, mn, tmn, ta, tb, tc⟩ m3 h4 tk4 ⟨hws, hdi, hr, hmn⟩ F8 N8
                    dsimp only [kstB] at F8
                    dsimp only at hws hdi hr hmn N8
                    obtain ⟨hr2, hmn2⟩ := hmn (by omega)
                    rw [← eA, mix_full] at hws
                    rw [← eA] at hr2
                    repeat' ((fail_if_success (with_reducible show Lfp _ _ _ _ _ _ _)); (fail_if_success (with_reducible show TurnW _ _ _ _ _ _ _ _ _ _)); (fail_if_success (with_reducible show TurnF _ _ _ _ _ _ _ _ _)); (fail_if_success (with_reducible show CutF _ _ _ _ _ _ _ _ _)); (fail_if_success (with_reducible show Q _ _)); (fail_if_success (with_reducible show wpAny _ _ (exec (Stmt.While _ _ _ _) _) _ _ _)); (fail_if_success (with_reducible show wpAny _ _ (exec (Stmt.For _ _ _ _ _) _) _ _ _)); (first | ((first | (with_reducible show wpAny _ _ (execs _ _) _ _ _) | (with_reducible show wpAny _ _ (PySem.isTrue _ _ _) _ _ _)); (dsimp only); walk1) | (k_unfold; (try dsimp only)) | (k_end; wrow_close) | walk1 | (dsimp only; walk1) | (leave1; walk_say "STEP leave1"; try dsimp only) | fail "no step"))
                    (rename Fr _ _ _ _ => F9); (rename News _ _ _ _ => N9)
                    exact lfp (_, _, _, _, _, _) F9 N9 (.cons rfl (.cons rfl (.cons rfl (.cons rfl (.cons rfl .nil))))) (fun _ h => h) ⟨hws, .inr hr2⟩
                · clear F4 N4
                  rintro ⟨ws, cc, r, tr, ta, tb⟩ m3 h4 tk4 ⟨hws, hr⟩ F8 N8
                  dsimp only [kstB] at F8
                  dsimp only at hws hr N8
                  have hr2 : r = 2 * (lev (tx xc) (tx yc) : Int) := by
                    rcases hr with h | h
                    · omega
                    · rw [h, ← eB, dd_full]
                  subst hr2
                  repeat' ((fail_if_success (with_reducible show Lfp _ _ _ _ _ _ _)); (fail_if_success (with_reducible show TurnW _ _ _ _ _ _ _ _ _ _)); (fail_if_success (with_reducible show TurnF _ _ _ _ _ _ _ _ _)); (fail_if_success (with_reducible show CutF _ _ _ _ _ _ _ _ _)); (fail_if_success (with_reducible show Q _ _)); (fail_if_success (with_reducible show wpAny _ _ (exec (Stmt.While _ _ _ _) _) _ _ _)); (fail_if_success (with_reducible show wpAny _ _ (exec (Stmt.For _ _ _ _ _) _) _ _ _)); (first | ((first | (with_reducible show wpAny _ _ (execs _ _) _ _ _) | (with_reducible show wpAny _ _ (PySem.isTrue _ _ _) _ _ _)); (dsimp only); walk1) | (k_unfold; (try dsimp only)) | (k_end; wrow_close) | walk1 | (dsimp only; walk1) | (leave1; walk_say "STEP leave1"; try dsimp only) | fail "no step"))
                  exact hret _ [] _ _ ⟨rfl, _, rfl⟩ (by k_asm) (cb_drop (by assumption) (fun p hp => List.mem_cons_of_mem _ hp)) (fun _ _ _ h9 => nomatch h9)
            · exact hret _ [] _ _ ⟨rfl, _, by rw [lev_empty (by first | exact .inl (by omega) | exact .inr (by omega))]⟩ (by k_asm) (by k_asm) (fun _ _ _ h9 => nomatch h9)
            · exact hret _ [] _ _ ⟨rfl, _, by rw [lev_empty (by first | exact .inl (by omega) | exact .inr (by omega))]⟩ (by k_asm) (by k_asm) (fun _ _ _ h9 => nomatch h9)
end Mine
end
section
open PySem PySem.W PyProof.Rows
namespace Mine
/-! dicts of ints by their entries -/
theorem look_put (c : List (Int × Int)) (k v j d : Int) : kdfLook (kdfPut c k v) j d = if j = k then v else kdfLook c j d := by
  unfold kdfLook kdfPut
  by_cases h : (c.any fun p => decide (p.1 = k)) = true
  · rw [if_pos h]
    induction c with
    | nil => simp at h
    | cons p r ih =>
      obtain ⟨a, b⟩ := p
      rw [List.map_cons, List.find?_cons, List.find?_cons]
      by_cases ha : a = k
      · subst ha
        by_cases hj : j = a
        · subst hj; simp
        · simp only [decide_true, if_true]
          have hd : decide (a = j) = false := by simp; omega
          simp only [hd]
          rw [if_neg hj]
          by_cases hr : (r.any fun p => decide (p.1 = a)) = true
          · have := ih hr; rw [if_neg hj] at this; exact this
          · have e : (r.map fun p => if decide (p.1 = a) = true then (p.1, v) else p) = r := by
              conv => rhs; rw [← List.map_id r]
              refine List.map_congr_left fun p hp => ?_
              rw [if_neg]
              · rfl
              · intro hc
                exact hr (List.any_eq_true.mpr ⟨p, hp, hc⟩)
            rw [e]
      · have hk : (r.any fun p => decide (p.1 = k)) = true := by
          rw [List.any_cons] at h
          simpa [ha] using h
        have hd : decide (a = k) = false := by simp [ha]
        simp only [hd, Bool.false_eq_true, if_false]
        by_cases hj : a = j
        · subst hj
          simp [ha]
        · have hd2 : decide (a = j) = false := by simp [hj]
          simp only [hd2]
          exact ih hk
  · rw [if_neg h, List.find?_append]
    by_cases hj : j = k
    · subst hj
      have : c.find? (fun p => decide (p.1 = j)) = none := by
        rw [List.find?_eq_none]
        intro p hp hc
        exact h (List.any_eq_true.mpr ⟨p, hp, hc⟩)
      rw [this, if_pos rfl]
      simp
    · rw [if_neg hj]
      have : List.find? (fun p : Int × Int => decide (p.1 = j)) [(k, v)] = none := by
        simp; omega
      rw [this]
      simp
theorem has_put (c : List (Int × Int)) (k v j : Int) : kdfHas (kdfPut c k v) j = true ↔ j = k ∨ kdfHas c j = true := by
  rw [kdyHas_put]; simp
theorem has_iff (c : List (Int × Int)) (k : Int) : kdfHas c k = true ↔ ∃ v, (k, v) ∈ c := by
  unfold kdfHas
  rw [List.any_eq_true]
  constructor
  · rintro ⟨⟨a, v⟩, h, e⟩
    have : a = k := by simpa using e
    exact ⟨v, this ▸ h⟩
  · rintro ⟨v, h⟩
    exact ⟨_, h, by simp⟩
theorem look_dflt {c : List (Int × Int)} {k : Int} (d : Int) (h : kdfHas c k = true) : kdfLook c k d = kdfLook c k 0 := by
  unfold kdfLook
  unfold kdfHas at h
  have : (c.find? fun p => decide (p.1 = k)).isSome = true := by rw [List.find?_isSome]; simpa using h
  obtain ⟨x, hx⟩ := Option.isSome_iff_exists.mp this
  rw [hx]; rfl
theorem look_no {c : List (Int × Int)} {k d : Int} (h : ¬ kdfHas c k = true) : kdfLook c k d = d := by
  unfold kdfLook
  unfold kdfHas at h
  have : c.find? (fun p => decide (p.1 = k)) = none := by
    rw [List.find?_eq_none]
    intro p hp hc
    exact h (List.any_eq_true.mpr ⟨p, hp, hc⟩)
  rw [this]; rfl

def DictI (prog : Program) (w : World) (o : Obj) (c : List (Int × Int)) : Prop := ∃ kvs, o.IsDictOf (PySem.intKind prog w) kvs ∧ PyProof.V.FlatPairs PyData.int kvs (kdfD c)
theorem flat_keys : ∀ {kvs : List (Int × Value)} {c : List (Int × Int)}, PyProof.V.FlatPairs PyData.int kvs (kdfD c) → kvs.length = c.length ∧ ∀ (i : Nat) (k : Int) (v : Value), kvs[i]? = some (k, v) → ∃ x, c[i]? = some (k, x)
  | kvs, [], h => by cases h; exact ⟨rfl, fun _ _ _ h => by simp at h⟩
  | kvs, (k, x) :: c, h => by
    cases h with
    | cons hv hr =>
      obtain ⟨h1, h2⟩ := flat_keys hr
      refine ⟨by simp [h1], fun i k v hi => ?_⟩
      cases i with
      | zero => simp at hi; exact ⟨x, by simp [hi.1]⟩
      | succ i => simpa using h2 i k v (by simpa using hi)
section
variable {prog : Program} {w : World} {A : Around} {E : Value → Shared → Prop} {s : Shared} {h₀ : Heap} {L d : Addr} {m : Str → Option Value} {news : List (Addr × Obj)} {u : Obj → List (Addr × Obj)} {o : Obj} {c : List (Int × Int)} {k e : Int} {tk te : Tok}
theorem DictI.tab (x : DictI prog w o c) (lo : (d == sysModules) = false) (N : News h₀ L s.heap news) (hm : (d, o) ∈ news) : IntTab prog w s.heap d (kdfD c) :=
  let ⟨_, a, b⟩ := x; TabAt.ofObj lo (N _ hm).1 a b
theorem dict_set {Q : Unit → Shared → Prop} (F : Fr h₀ L s.heap m) (N : News h₀ L s.heap news) (U : UpdF d o news u) (x : DictI prog w o c) (hc : c.length ≤ 16777216)
    (h : ∀ h' o', Fr h₀ L h' m → News h₀ L h' (u o') → DictI prog w o' (kdfPut c k e) → Q () { s with heap := h', toks := s.toks + 1 }) :
    wpAny (model prog w) A (setItem (.ref d) (.int k tk) (.int e te)) Q E s :=
  let ⟨_, a, b⟩ := x; kdf_setItem F N U a b hc fun h' o' kvs' F' N' a' b' => h h' o' F' N' ⟨kvs', a', b'⟩
end
section
variable {prog : Program} {w : World} {A : Around} {E : Value → Shared → Prop} {Q : Flow → Shared → Prop} {s : Shared} {env : Env} {h₀ : Heap} {x : Str} {body : List Stmt}
theorem itDictI {σ : Type} {d : Addr} {od : Obj} {cs : List (Int × Int)} {m₁ : Str → Option Value} (ps : σ → List (Str × Value)) (Led : σ → List (Addr × Obj)) (P : Nat → σ → Prop) (c₀ : σ)
    (hh : A.handled = none) (lo : (d == sysModules) = false) (hl : ∀ c : σ, (d, od) ∈ Led c) (hd : DictI prog w od cs)
    (hadr : ∀ c : σ, (Led c).map (·.1) = (Led c₀).map (·.1)) (F : Fr h₀ env.locals s.heap m₁) (N : News h₀ env.locals s.heap (Led c₀)) (hs : Has m₁ (ps c₀)) (hp : P 0 c₀)
    (turn : ∀ (i : Nat) (k : Int) (t : Tok) (v : Int) (c : σ) (m : Str → Option Value) (h : Heap) (tk : Nat) (I : Addr) (oi : Obj), i < cs.length → cs[i]? = some (k, v) → P i c → (∀ p ∈ Led c, p.1 < I) →
      Fr h₀ env.locals h (fun y => if y = x then some (.int k t) else kstB m (ps c) y) → News h₀ env.locals h ((I, oi) :: Led c) →
      wpAny (model prog w) A (execs body env) (TurnF h₀ env.locals s ps (fun c' => (I, oi) :: Led c') (fun c' => P (i + 1) c') Q) E { s with heap := h, toks := tk })
    (done : ∀ (c : σ) (m : Str → Option Value) (h : Heap) (tk : Nat), P cs.length c → Fr h₀ env.locals h (kstB m (ps c)) → News h₀ env.locals h (Led c) → Q .next { s with heap := h, toks := tk }) :
    wpAny (model prog w) A (pyIter (.ref d)) (fun it s₂ => LoopAtV prog w A h₀ env x body Q E it s₂) E s := by
  obtain ⟨kvs, h1, h2⟩ := hd
  obtain ⟨h3, h4⟩ := flat_keys h2
  refine itDict ps Led P c₀ hh lo hl h1 hadr F N hs hp ?_ (fun c m h tk hP => done c m h tk (h3 ▸ hP))
  intro i k t v c m h tk I oi hi hk hP hl' F' N'
  obtain ⟨x, hx⟩ := h4 i k v hk
  exact turn i k t x c m h tk I oi (h3 ▸ hi) hx hP hl' F' N'
end

/-! what the two dicts of _law_changes hold -/
section
variable (a b : List Nat)
def StOk (ch : Int) (c : List (Int × Int)) : Prop := (∀ k, kdfHas c k = true ↔ Key a b ch k) ∧ ∀ k, Key a b ch k → Stt a b ch k (kdfLook c k 0)
def EdOk (ch : Int) (c : List (Int × Int)) : Prop := (∀ k, kdfHas c k = true ↔ Key a b ch k) ∧ ∀ k, Key a b ch k → Edd a b ch k (kdfLook c k 0)
def EdAt (ch : Int) (cs : List (Int × Int)) (i : Nat) (c : List (Int × Int)) : Prop := (∀ k, kdfHas c k = true ↔ ∃ v, (k, v) ∈ cs.take i) ∧ (∀ k, kdfHas c k = true → Edd a b ch k (kdfLook c k 0)) ∧ c.length ≤ i
def StAt (ch lo : Int) (i : Nat) (c : List (Int × Int)) : Prop := (∀ k, kdfHas c k = true ↔ lo ≤ k ∧ k < lo + i) ∧ (∀ k, kdfHas c k = true → Stt a b ch k (kdfLook c k 0)) ∧ c.length ≤ i
end
section
variable {a b : List Nat} {ch lo : Int} {cs c : List (Int × Int)} {i : Nat} {k v e : Int}
theorem edAt_zero : EdAt a b ch cs 0 [] := ⟨fun k => by simp [kdfHas], fun k h => by simp [kdfHas] at h, Nat.le_refl _⟩
theorem edAt_step (h : EdAt a b ch cs i c) (hi : cs[i]? = some (k, v)) (he : Edd a b ch k e) : EdAt a b ch cs (i + 1) (kdfPut c k e) := by
  obtain ⟨h1, h2, h3⟩ := h
  refine ⟨fun j => ?_, fun j hj => ?_, Nat.le_trans (kdfPut_len c k e) (by omega)⟩
  · rw [has_put, h1, List.take_add_one, hi]
    simp only [Option.toList_some, List.mem_append, List.mem_singleton, Prod.mk.injEq]
    constructor
    · rintro (rfl | ⟨x, hx⟩)
      · exact ⟨v, .inr ⟨rfl, rfl⟩⟩
      · exact ⟨x, .inl hx⟩
    · rintro ⟨x, hx | ⟨rfl, _⟩⟩
      · exact .inr ⟨x, hx⟩
      · exact .inl rfl
  · rw [look_put]
    by_cases e' : j = k
    · rw [if_pos e', e']; exact he
    · rw [if_neg e']
      exact h2 j (((has_put c k e j).mp hj).resolve_left e')
theorem edAt_done (h : EdAt a b ch cs cs.length c) (hs : StOk a b ch cs) : EdOk a b ch c := by
  obtain ⟨h1, h2, _⟩ := h
  have hk : ∀ k, kdfHas c k = true ↔ Key a b ch k := fun k => by rw [h1, List.take_length, ← has_iff, hs.1]
  exact ⟨hk, fun k hK => h2 k ((hk k).mpr hK)⟩
theorem stAt_zero : StAt a b ch lo 0 [] := ⟨fun k => by simp [kdfHas] <;> omega, fun k h => by simp [kdfHas] at h, Nat.le_refl _⟩
theorem stAt_step (h : StAt a b ch lo i c) (hk : k = lo + i) (hs : Stt a b ch k e) : StAt a b ch lo (i + 1) (kdfPut c k e) := by
  obtain ⟨h1, h2, h3⟩ := h
  refine ⟨fun j => ?_, fun j hj => ?_, Nat.le_trans (kdfPut_len c k e) (by omega)⟩
  · rw [has_put, h1]; omega
  · rw [look_put]
    by_cases e' : j = k
    · rw [if_pos e', e']; exact hs
    · rw [if_neg e']
      exact h2 j (((has_put c k e j).mp hj).resolve_left e')
theorem stAt_done (h : StAt a b ch lo i c) (hk : ∀ k, (lo ≤ k ∧ k < lo + i) ↔ Key a b ch k) : StOk a b ch c := by
  obtain ⟨h1, h2, _⟩ := h
  have hk' : ∀ k, kdfHas c k = true ↔ Key a b ch k := fun k => by rw [h1, hk]
  exact ⟨hk', fun k hK => h2 k ((hk' k).mpr hK)⟩
theorem stOk_zero : StOk a b 0 [(0, 0)] := by
  refine ⟨fun k => ?_, fun k hk => ?_⟩
  · unfold kdfHas Key; simp; omega
  · have e : k = 0 := by unfold Key at hk; omega
    subst e
    exact start_zero
theorem ed_there (h : EdOk a b ch c) : kdfLook c (b.length - a.length) (-1) = a.length ↔ (lev a b : Int) ≤ ch := by
  rw [← there (E := fun k => kdfLook c k 0) h.2]
  constructor
  · intro e
    by_cases hk : kdfHas c (b.length - a.length) = true
    · exact ⟨(h.1 _).mp hk, by rw [← look_dflt (-1) hk]; exact e⟩
    · rw [look_no hk] at e; omega
  · rintro ⟨hk, e⟩
    rw [look_dflt (-1) ((h.1 _).mpr hk)]; exact e
end
theorem item_mis {x y : Str} {i k j : Int} (hj : j = i + k) (h0 : 0 ≤ i) (h1 : i < x.length) (h2 : 0 ≤ j) (h3 : j < y.length) : (Txt.item x i == Txt.item y j) = true ↔ ¬ Mis (tx x) (tx y) k i := by
  subst hj
  have e1 := tx_len x
  have e2 := tx_len y
  rw [tx_item h0 h1, tx_item h2 h3, beq_iff_eq]
  unfold Mis
  rw [List.getElem?_eq_getElem (by omega), List.getElem?_eq_getElem (by omega)]
  constructor
  · intro h hn
    exact hn (congrArg some (one_inj h))
  · intro h
    have := Option.some.inj (Classical.not_not.mp h)
    rw [this]
section
variable {prog : Program} {w : World} {A : Around} {E : Value → Shared → Prop} {s : Shared} {h₀ : Heap} {L d : Addr} {news : List (Addr × Obj)} {o : Obj} {c : List (Int × Int)} {k : Int} {tk : Tok} {Q : Value → Shared → Prop}
theorem dict_in (N : News h₀ L s.heap news) (hm : (d, o) ∈ news) (lo : (d == sysModules) = false) (x : DictI prog w o c) (h : Q (.bool (kdfHas c k)) { s with toks := s.toks + 1 }) : wpAny (model prog w) A (compareOp .In (.int k tk) (.ref d)) Q E s :=
  kdf_in (x.tab lo N hm) h
theorem dict_item {value slice : PySem.Expr} (N : News h₀ L s.heap news) (hm : (d, o) ∈ news) (lo : (d == sysModules) = false) (x : DictI prog w o c) (hk : kdfHas c k = true) (h : ∀ t, Q (.int (kdfLook c k 0) t) { s with toks := s.toks + 1 })
    (hs : subscripted slice false (.ref d) (.int k tk) = operate [.ref d, .int k tk] (getItem (.ref d) (.int k tk)) := by with_unfolding_all rfl) (hg : ∀ r, letTemporaryGo value (.ref d) r = pure () := by intro _; with_unfolding_all rfl) :
    wpAny (model prog w) A (subscriptTail value slice (.ref d) (.int k tk)) Q E s := kdf_item (x.tab lo N hm) hk h hs hg
end
section
variable {prog : Program} {w : World} {A : Around} {E : Value → Shared → Prop} {s : Shared} {h₀ : Heap} {L : Addr} {m : Str → Option Value} {news : List (Addr × Obj)} {a b c : Int} {t u x : Tok} {Q : Value → Shared → Prop}
theorem min_three_N (hh : A.handled = none) (F : Fr h₀ L s.heap m) (N : News h₀ L s.heap news) (h : ∀ h' tk t', Fr h₀ L h' m → News h₀ L h' news → Q (.int (min (min a b) c) t') { s with heap := h', toks := tk }) :
    wpAny (model prog w) A (call (.builtin "min") [.int a t, .int b u, .int c x]) Q E s :=
  min_three_ints hh fun h' tk hk => by
    have hh := fun t' => h h' tk t' (F.grownK hk) (N.grown hk)
    by_cases h1 : b < a
    · by_cases h2 : c < b
      · have e : min (min a b) c = c := by omega
        rw [e] at hh
        simpa [h1, h2] using hh x
      · have e : min (min a b) c = b := by omega
        rw [e] at hh
        simpa [h1, h2] using hh u
    · by_cases h2 : c < a
      · have e : min (min a b) c = c := by omega
        rw [e] at hh
        simpa [h1, h2] using hh x
      · have e : min (min a b) c = a := by omega
        rw [e] at hh
        simpa [h1, h2] using hh t
end
end Mine
end
section
open PySem PySem.W PyProof.Rows
namespace Mine
set_option pp.deepTerms false
set_option pp.deepTerms.threshold 6
local macro_rules | `(tactic| walk_at "compareOp In int ref") => `(tactic| ((with_reducible show wpAny _ _ (compareOp CmpOp.In (Value.int _ _) (Value.ref _)) _ _ _); (rename News _ _ _ _ => N'); (refine' dict_in N' ?m ?l ?x ?_; (case m => k_mem); (case l => assumption); (case x => assumption))))
local macro_rules | `(tactic| walk_at "subscriptTail") => `(tactic| ((with_reducible show wpAny _ _ (subscriptTail _ _ (Value.ref _) (Value.int _ _)) _ _ _); (rename News _ _ _ _ => N'); (refine' dict_item N' ?m ?l ?x ?y ?_ ?u ?v; (case m => k_mem); (case l => assumption); (case x => assumption); (case y => assumption); (case u => with_unfolding_all rfl); (case v => (intro _; with_unfolding_all rfl))); intro t'))
local macro_rules | `(tactic| walk_at "call builtin:min") => `(tactic| ((with_reducible show wpAny _ _ (call (Value.builtin "min") [Value.int _ _, Value.int _ _, Value.int _ _]) _ _ _); (rename News _ _ _ _ => N'); (rename Fr _ _ _ _ => F'); (refine min_three_N rfl F' N' ?_); intro h' tk' t' F' N'))
set_option maxRecDepth 100000 in
set_option maxHeartbeats 8000000 in
theorem chg_c (w : World) (mean : ExcName → Option Value) (mg mb : Str → Option Value) (news : List (Addr × Obj)) (x y : Str) (tkx tky : Tok)
    (lx : x.length ≤ 20) (ly : y.length ≤ 20) :
    Ctr 8 w mean mg mb 104 news [.str x tkx, .str y tky] (fun r tl => tl = [] ∧ ∃ t, r = .int (lev (tx x) (tx y) : Int) t) := by
  unfold Ctr Pg Lo
  w_top off
  k_fill
  intro dp un gd cn cs a ccd cl outer A₀ base h₀ L m s Q E B F X N T hk hd hu hret
  refine wpAny_call ?_
  k_dflt cell_enter
  (rename Fr _ _ _ _ => F0)
  obtain ⟨m1, F1⟩ := fr_open F0 [(Str.ofString "one", .str x tkx), (Str.ofString "other", .str y tky)] (.cons rfl (.cons rfl .nil))
  clear F0
  dsimp only [kstB] at F1
  have eX := tx_len x
  have eY := tx_len y
  repeat' ((fail_if_success (with_reducible show Lfp _ _ _ _ _ _ _)); (fail_if_success (with_reducible show TurnW _ _ _ _ _ _ _ _ _ _)); (fail_if_success (with_reducible show TurnF _ _ _ _ _ _ _ _ _)); (fail_if_success (with_reducible show CutF _ _ _ _ _ _ _ _ _)); (fail_if_success (with_reducible show Q _ _)); (fail_if_success (with_reducible show wpAny _ _ (exec (Stmt.While _ _ _ _) _) _ _ _)); (fail_if_success (with_reducible show wpAny _ _ (exec (Stmt.For _ _ _ _ _) _) _ _ _)); (first | ((first | (with_reducible show wpAny _ _ (execs _ _) _ _ _) | (with_reducible show wpAny _ _ (PySem.isTrue _ _ _) _ _ _)); (dsimp only); walk1) | (k_unfold; (try dsimp only)) | (k_end; wrow_close) | walk1 | (dsimp only; walk1) | (leave1; walk_say "STEP leave1"; try dsimp only) | fail "no step"))
  (rename Fr _ _ _ _ => F2); (rename News _ _ _ _ => N2); (rename Obj.IsDictOf _ _ _ => hd0); (rename PyProof.V.FlatPairs _ _ _ => hf0); (rename (_ == sysModules) = false => lo0); (rename ∀ p ∈ news, p.1 < _ => ln0)
  have hD0 : DictI Challenge.rw_nb0171_01.row.prog w _ [(0, 0)] := ⟨_, hd0, hf0⟩
  refine whl (σ := Addr × Obj × List (Int × Int) × Int × Tok) (fun c => [(Str.ofString "one", .str x tkx), (Str.ofString "other", .str y tky), (Str.ofString "starts", .ref c.1), (Str.ofString "changes", .int c.2.2.2.1 c.2.2.2.2)])
    (fun c => (c.1, c.2.1) :: news)
    (fun c => (c.1 == sysModules) = false ∧ (∀ p ∈ news, p.1 < c.1) ∧ DictI Challenge.rw_nb0171_01.row.prog w c.2.1 c.2.2.1 ∧ c.2.2.1.length ≤ 100 ∧ StOk (tx x) (tx y) c.2.2.2.1 c.2.2.1 ∧ 0 ≤ c.2.2.2.1 ∧ c.2.2.2.1 ≤ (lev (tx x) (tx y) : Int))
    (fun _ => False) (fun c => ((lev (tx x) (tx y) : Int) - c.2.2.2.1).toNat) (_, _, [(0, 0)], 0, _)
    F2 N2 (.cons rfl (.cons rfl (.cons rfl (.cons rfl .nil)))) ⟨lo0, ln0, hD0, by show ([(0, 0)] : List (Int × Int)).length ≤ 100; decide, stOk_zero, by dsimp only; omega, by dsimp only; omega⟩ ?_ (fun _ _ _ _ h => h.elim)
  clear F2 N2 hd0 hf0 lo0 ln0 hD0
  rintro ⟨ds, os, ss, ch, tch⟩ m1 h1 tk1 ⟨lo0, ln0, hD0, hl0, hS, hc0, hc1⟩ F1 N1
  dsimp only [kstB] at F1
  dsimp only at lo0 ln0 hD0 hl0 hS hc0 hc1 N1
  repeat' ((fail_if_success (with_reducible show Lfp _ _ _ _ _ _ _)); (fail_if_success (with_reducible show TurnW _ _ _ _ _ _ _ _ _ _)); (fail_if_success (with_reducible show TurnF _ _ _ _ _ _ _ _ _)); (fail_if_success (with_reducible show CutF _ _ _ _ _ _ _ _ _)); (fail_if_success (with_reducible show Q _ _)); (fail_if_success (with_reducible show wpAny _ _ (exec (Stmt.While _ _ _ _) _) _ _ _)); (fail_if_success (with_reducible show wpAny _ _ (exec (Stmt.For _ _ _ _ _) _) _ _ _)); (first | ((first | (with_reducible show wpAny _ _ (execs _ _) _ _ _) | (with_reducible show wpAny _ _ (PySem.isTrue _ _ _) _ _ _)); (dsimp only); walk1) | (k_unfold; (try dsimp only)) | (k_end; wrow_close) | walk1 | (dsimp only; walk1) | (leave1; walk_say "STEP leave1"; try dsimp only) | fail "no step"))
  (rename Fr _ _ _ _ => F2); (rename News _ _ _ _ => N2); (rename Obj.IsDictOf (intKind _ _) _ _ => hde); (rename PyProof.V.FlatPairs PyData.int _ _ => hfe); (rename (_ == sysModules) = false => loe); (rename _ ∧ AllLt _ _ => lne)
  have hDe : DictI Challenge.rw_nb0171_01.row.prog w _ [] := ⟨_, hde, hfe⟩
  with_unfolding_all refine' For_invVF F2 ?k1 ?k2 ?_
  case k1 => exact rfl
  case k2 => exact rfl
  repeat' ((fail_if_success (with_reducible show Lfp _ _ _ _ _ _ _)); (fail_if_success (with_reducible show TurnW _ _ _ _ _ _ _ _ _ _)); (fail_if_success (with_reducible show TurnF _ _ _ _ _ _ _ _ _)); (fail_if_success (with_reducible show CutF _ _ _ _ _ _ _ _ _)); (fail_if_success (with_reducible show Q _ _)); (fail_if_success (with_reducible show wpAny _ _ (exec (Stmt.While _ _ _ _) _) _ _ _)); (fail_if_success (with_reducible show wpAny _ _ (exec (Stmt.For _ _ _ _ _) _) _ _ _)); (fail_if_success (with_reducible show wpAny _ _ (pyIter _) _ _ _)); (first | ((first | (with_reducible show wpAny _ _ (execs _ _) _ _ _) | (with_reducible show wpAny _ _ (PySem.isTrue _ _ _) _ _ _)); (dsimp only); walk1) | (k_unfold; (try dsimp only)) | (k_end; wrow_close) | walk1 | (dsimp only; walk1) | (leave1; walk_say "STEP leave1"; try dsimp only) | fail "no step"))
  (rename_i de hx1 oe hx2 hx3 hx4)
  clear hx2 hx3 hde hfe
  obtain ⟨hde1, hde2⟩ := lne
  have hde3 : ∀ p ∈ news, p.1 < de := fun p hp => Nat.lt_trans (ln0 p hp) hde1
  refine itDictI (σ := Obj × List (Int × Int)) (fun c => [(Str.ofString "one", .str x tkx), (Str.ofString "other", .str y tky), (Str.ofString "starts", .ref ds), (Str.ofString "changes", .int ch tch), (Str.ofString "ends", .ref de)])
    (fun c => (de, c.1) :: (ds, os) :: news) (fun i c => DictI Challenge.rw_nb0171_01.row.prog w c.1 c.2 ∧ EdAt (tx x) (tx y) ch ss i c.2) (oe, [])
    rfl lo0 (fun _ => List.mem_cons_of_mem _ (List.mem_cons_self ..)) hD0 (fun _ => rfl) F2 N2 (.cons rfl (.cons rfl (.cons rfl (.cons rfl (.cons rfl .nil))))) ⟨hDe, edAt_zero⟩ ?_ ?_
  · clear F2 N2 hDe oe
    rintro i k tk9 v ⟨oe, es⟩ m2 h2 tk2 I oi hi hk ⟨hDe, hE⟩ lI F3 N3
    dsimp only [kstB] at F3
    dsimp only at hDe hE N3
    have hle : de < I := lI (de, _) (List.mem_cons_self ..)
    have hhas : kdfHas ss k = true := (has_iff ss k).mpr ⟨v, List.mem_of_getElem? hk⟩
    have hst := hS.2 k ((hS.1 k).mp hhas)
    repeat' ((fail_if_success (with_reducible show Lfp _ _ _ _ _ _ _)); (fail_if_success (with_reducible show TurnW _ _ _ _ _ _ _ _ _ _)); (fail_if_success (with_reducible show TurnF _ _ _ _ _ _ _ _ _)); (fail_if_success (with_reducible show CutF _ _ _ _ _ _ _ _ _)); (fail_if_success (with_reducible show Q _ _)); (fail_if_success (with_reducible show wpAny _ _ (exec (Stmt.While _ _ _ _) _) _ _ _)); (fail_if_success (with_reducible show wpAny _ _ (exec (Stmt.For _ _ _ _ _) _) _ _ _)); (fail_if_success (with_reducible show wpAny _ _ (subscriptTail _ _ (Value.ref _) (Value.int _ _)) _ _ _)); (first | ((first | (with_reducible show wpAny _ _ (execs _ _) _ _ _) | (with_reducible show wpAny _ _ (PySem.isTrue _ _ _) _ _ _)); (dsimp only); walk1) | (k_unfold; (try dsimp only)) | (k_end; wrow_close) | walk1 | (dsimp only; walk1) | (leave1; walk_say "STEP leave1"; try dsimp only) | fail "no step"))
    (rename Fr _ _ _ _ => F4); (rename News _ _ _ _ => N4)
    refine kdf_item (hD0.tab lo0 N4 (by k_mem)) hhas ?_
    intro t6
    generalize kdfLook ss k 0 = s0 at *
    repeat' ((fail_if_success (with_reducible show Lfp _ _ _ _ _ _ _)); (fail_if_success (with_reducible show TurnW _ _ _ _ _ _ _ _ _ _)); (fail_if_success (with_reducible show TurnF _ _ _ _ _ _ _ _ _)); (fail_if_success (with_reducible show CutF _ _ _ _ _ _ _ _ _)); (fail_if_success (with_reducible show Q _ _)); (fail_if_success (with_reducible show wpAny _ _ (exec (Stmt.While _ _ _ _) _) _ _ _)); (fail_if_success (with_reducible show wpAny _ _ (exec (Stmt.For _ _ _ _ _) _) _ _ _)); (first | ((first | (with_reducible show wpAny _ _ (execs _ _) _ _ _) | (with_reducible show wpAny _ _ (PySem.isTrue _ _ _) _ _ _)); (dsimp only); walk1) | (k_unfold; (try dsimp only)) | (k_end; wrow_close) | walk1 | (dsimp only; walk1) | (leave1; walk_say "STEP leave1"; try dsimp only) | fail "no step"))
    (rename Fr _ _ _ _ => F5); (rename News _ _ _ _ => N5)
    refine whl (σ := Int × Tok) (fun c => [(Str.ofString "one", .str x tkx), (Str.ofString "other", .str y tky), (Str.ofString "starts", .ref ds), (Str.ofString "changes", .int ch tch), (Str.ofString "ends", .ref de), (Str.ofString "k", .int k tk9), (Str.ofString "i", .int c.1 c.2)])
      (fun _ => (I, oi) :: (de, oe) :: (ds, os) :: news) (fun c => s0 ≤ c.1 ∧ Rch (tx x) (tx y) ch k c.1) (fun c => Edd (tx x) (tx y) ch k c.1) (fun c => ((x.length : Int) - c.1).toNat) (s0, _)
      F5 N5 (.cons rfl (.cons rfl (.cons rfl (.cons rfl (.cons rfl (.cons rfl (.cons rfl .nil))))))) ⟨Int.le_refl _, hst.1⟩ ?_ ?_
    · clear F5 N5
      rintro ⟨j, tj⟩ m3 h3 tk3 ⟨hj, hR⟩ F6 N6
      obtain ⟨⟨r1, r2, r3, r4⟩, r5⟩ := id hR
      dsimp only [kstB] at F6
      dsimp only at hj hR r1 r2 r3 r4 r5
      rw [eX] at r2
      rw [eY] at r4
      repeat' ((fail_if_success (with_reducible show Lfp _ _ _ _ _ _ _)); (fail_if_success (with_reducible show TurnW _ _ _ _ _ _ _ _ _ _)); (fail_if_success (with_reducible show TurnF _ _ _ _ _ _ _ _ _)); (fail_if_success (with_reducible show CutF _ _ _ _ _ _ _ _ _)); (fail_if_success (with_reducible show Q _ _)); (fail_if_success (with_reducible show wpAny _ _ (exec (Stmt.While _ _ _ _) _) _ _ _)); (fail_if_success (with_reducible show wpAny _ _ (exec (Stmt.For _ _ _ _ _) _) _ _ _)); (first | ((first | (with_reducible show wpAny _ _ (execs _ _) _ _ _) | (with_reducible show wpAny _ _ (PySem.isTrue _ _ _) _ _ _)); (dsimp only); walk1) | (k_unfold; (try dsimp only)) | (k_end; wrow_close) | walk1 | (dsimp only; walk1) | (leave1; walk_say "STEP leave1"; try dsimp only) | fail "no step"))
      · --[
        (rename (Txt.item _ _ == Txt.item _ _) = true => e9)
        have hR' := rch_match hR ⟨by omega, by omega, by omega, by omega⟩ ((item_mis rfl r1 (by omega) r3 (by omega)).mp e9)
        (rename Fr _ _ _ _ => F9); (rename News _ _ _ _ => N9)
        exact lfp (_, _) F9 N9 (.cons rfl (.cons rfl (.cons rfl (.cons rfl (.cons rfl (.cons rfl (.cons rfl .nil))))))) (fun _ h => h) ⟨⟨by dsimp only; omega, hR'⟩, by dsimp only; omega⟩
        --]
      · --[
        (rename (Txt.item _ _ == Txt.item _ _) = false => e9)
        (rename Fr _ _ _ _ => F9); (rename News _ _ _ _ => N9)
        refine lfp (_, _) F9 N9 (.cons rfl (.cons rfl (.cons rfl (.cons rfl (.cons rfl (.cons rfl (.cons rfl .nil))))))) (fun _ h => h) (slide hst hj hR fun _ => Classical.byContradiction fun hn => ?_)
        rw [(item_mis rfl r1 (by omega) r3 (by omega)).mpr hn] at e9
        cases e9
        --]
      · --[
        (rename Fr _ _ _ _ => F9); (rename News _ _ _ _ => N9)
        exact lfp (_, _) F9 N9 (.cons rfl (.cons rfl (.cons rfl (.cons rfl (.cons rfl (.cons rfl (.cons rfl .nil))))))) (fun _ h => h) (slide hst hj hR fun ⟨_, a2, _, a4⟩ => by exfalso; omega)
        --]
      · --[
        (rename Fr _ _ _ _ => F9); (rename News _ _ _ _ => N9)
        exact lfp (_, _) F9 N9 (.cons rfl (.cons rfl (.cons rfl (.cons rfl (.cons rfl (.cons rfl (.cons rfl .nil))))))) (fun _ h => h) (slide hst hj hR fun ⟨_, a2, _, a4⟩ => by exfalso; omega)
        --]
    · clear F5 N5
      rintro ⟨j, tj⟩ m3 h3 tk3 hJ F6 N6
      dsimp only [kstB] at F6
      dsimp only at hJ
      repeat' ((fail_if_success (with_reducible show Lfp _ _ _ _ _ _ _)); (fail_if_success (with_reducible show TurnW _ _ _ _ _ _ _ _ _ _)); (fail_if_success (with_reducible show TurnF _ _ _ _ _ _ _ _ _)); (fail_if_success (with_reducible show CutF _ _ _ _ _ _ _ _ _)); (fail_if_success (with_reducible show Q _ _)); (fail_if_success (with_reducible show wpAny _ _ (exec (Stmt.While _ _ _ _) _) _ _ _)); (fail_if_success (with_reducible show wpAny _ _ (exec (Stmt.For _ _ _ _ _) _) _ _ _)); (fail_if_success (with_reducible show wpAny _ _ (setItem (Value.ref _) (Value.int _ _) _) _ _ _)); (first | ((first | (with_reducible show wpAny _ _ (execs _ _) _ _ _) | (with_reducible show wpAny _ _ (PySem.isTrue _ _ _) _ _ _)); (dsimp only); walk1) | (k_unfold; (try dsimp only)) | (k_end; wrow_close) | walk1 | (dsimp only; walk1) | (leave1; walk_say "STEP leave1"; try dsimp only) | fail "no step"))
      (rename Fr _ _ _ _ => F7); (rename News _ _ _ _ => N7)
      refine dict_set F7 N7 (.tail (Nat.ne_of_gt hle) (.head (List.forall_mem_cons.mpr ⟨Nat.ne_of_lt hde1, fun p hp => Nat.ne_of_lt (hde3 p hp)⟩))) hDe (by have := hE.2.2; omega) ?_
      rintro h7 o7 F8 N8 hD7
      dsimp only
      repeat' ((fail_if_success (with_reducible show Lfp _ _ _ _ _ _ _)); (fail_if_success (with_reducible show TurnW _ _ _ _ _ _ _ _ _ _)); (fail_if_success (with_reducible show TurnF _ _ _ _ _ _ _ _ _)); (fail_if_success (with_reducible show CutF _ _ _ _ _ _ _ _ _)); (fail_if_success (with_reducible show Q _ _)); (fail_if_success (with_reducible show wpAny _ _ (exec (Stmt.While _ _ _ _) _) _ _ _)); (fail_if_success (with_reducible show wpAny _ _ (exec (Stmt.For _ _ _ _ _) _) _ _ _)); (first | ((first | (with_reducible show wpAny _ _ (execs _ _) _ _ _) | (with_reducible show wpAny _ _ (PySem.isTrue _ _ _) _ _ _)); (dsimp only); walk1) | (k_unfold; (try dsimp only)) | (k_end; wrow_close) | walk1 | (dsimp only; walk1) | (leave1; walk_say "STEP leave1"; try dsimp only) | fail "no step"))
      (rename Fr _ _ _ _ => F9); (rename News _ _ _ _ => N9)
      exact lfp (_, _) F9 N9 (.cons rfl (.cons rfl (.cons rfl (.cons rfl (.cons rfl .nil))))) (fun _ h => h) ⟨hD7, edAt_step hE hk hJ⟩
  · clear F2 N2 hDe oe
    rintro ⟨oe, es⟩ m2 h2 tk2 ⟨hDe, hE⟩ F3 N3
    dsimp only [kstB] at F3
    dsimp only at hDe hE N3
    have hEl : es.length ≤ 100 := Nat.le_trans hE.2.2 hl0
    have hE' := edAt_done hE hS
    repeat' ((fail_if_success (with_reducible show Lfp _ _ _ _ _ _ _)); (fail_if_success (with_reducible show TurnW _ _ _ _ _ _ _ _ _ _)); (fail_if_success (with_reducible show TurnF _ _ _ _ _ _ _ _ _)); (fail_if_success (with_reducible show CutF _ _ _ _ _ _ _ _ _)); (fail_if_success (with_reducible show Q _ _)); (fail_if_success (with_reducible show wpAny _ _ (exec (Stmt.While _ _ _ _) _) _ _ _)); (fail_if_success (with_reducible show wpAny _ _ (exec (Stmt.For _ _ _ _ _) _) _ _ _)); (fail_if_success (with_reducible show wpAny _ _ (getMethod (Value.ref _) _ _) _ _ _)); (first | ((first | (with_reducible show wpAny _ _ (execs _ _) _ _ _) | (with_reducible show wpAny _ _ (PySem.isTrue _ _ _) _ _ _)); (dsimp only); walk1) | (k_unfold; (try dsimp only)) | (k_end; wrow_close) | walk1 | (dsimp only; walk1) | (leave1; walk_say "STEP leave1"; try dsimp only) | fail "no step"))
    (rename Fr _ _ _ _ => F4); (rename News _ _ _ _ => N4)
    refine getMethod_intTab_get (hDe.tab loe N4 (List.mem_cons_self ..)) ?_
    repeat' ((fail_if_success (with_reducible show Lfp _ _ _ _ _ _ _)); (fail_if_success (with_reducible show TurnW _ _ _ _ _ _ _ _ _ _)); (fail_if_success (with_reducible show TurnF _ _ _ _ _ _ _ _ _)); (fail_if_success (with_reducible show CutF _ _ _ _ _ _ _ _ _)); (fail_if_success (with_reducible show Q _ _)); (fail_if_success (with_reducible show wpAny _ _ (exec (Stmt.While _ _ _ _) _) _ _ _)); (fail_if_success (with_reducible show wpAny _ _ (exec (Stmt.For _ _ _ _ _) _) _ _ _)); (fail_if_success (with_reducible show wpAny _ _ (call (Value.builtin "dict.get") _) _ _ _)); (first | ((first | (with_reducible show wpAny _ _ (execs _ _) _ _ _) | (with_reducible show wpAny _ _ (PySem.isTrue _ _ _) _ _ _)); (dsimp only); walk1) | (k_unfold; (try dsimp only)) | (k_end; wrow_close) | walk1 | (dsimp only; walk1) | (leave1; walk_say "STEP leave1"; try dsimp only) | fail "no step"))
    (rename Fr _ _ _ _ => F4); (rename News _ _ _ _ => N4)
    refine kdf_get2 (hDe.tab loe N4 (List.mem_cons_self ..)) ?_
    intro t6
    have hth := ed_there hE'
    rw [eX, eY] at hth
    repeat' ((fail_if_success (with_reducible show Lfp _ _ _ _ _ _ _)); (fail_if_success (with_reducible show TurnW _ _ _ _ _ _ _ _ _ _)); (fail_if_success (with_reducible show TurnF _ _ _ _ _ _ _ _ _)); (fail_if_success (with_reducible show CutF _ _ _ _ _ _ _ _ _)); (fail_if_success (with_reducible show Q _ _)); (fail_if_success (with_reducible show wpAny _ _ (exec (Stmt.While _ _ _ _) _) _ _ _)); (fail_if_success (with_reducible show wpAny _ _ (exec (Stmt.For _ _ _ _ _) _) _ _ _)); (first | ((first | (with_reducible show wpAny _ _ (execs _ _) _ _ _) | (with_reducible show wpAny _ _ (PySem.isTrue _ _ _) _ _ _)); (dsimp only); walk1) | (k_unfold; (try dsimp only)) | (k_end; wrow_close) | walk1 | (dsimp only; walk1) | (leave1; walk_say "STEP leave1"; try dsimp only) | fail "no step"))
    · --[
      (rename kdfLook _ _ _ = _ => hq)
      have hle := hth.mp hq
      dsimp only [TurnW]
      repeat' ((fail_if_success (with_reducible show Lfp _ _ _ _ _ _ _)); (fail_if_success (with_reducible show TurnW _ _ _ _ _ _ _ _ _ _)); (fail_if_success (with_reducible show TurnF _ _ _ _ _ _ _ _ _)); (fail_if_success (with_reducible show CutF _ _ _ _ _ _ _ _ _)); (fail_if_success (with_reducible show Q _ _)); (fail_if_success (with_reducible show wpAny _ _ (exec (Stmt.While _ _ _ _) _) _ _ _)); (fail_if_success (with_reducible show wpAny _ _ (exec (Stmt.For _ _ _ _ _) _) _ _ _)); (first | ((first | (with_reducible show wpAny _ _ (execs _ _) _ _ _) | (with_reducible show wpAny _ _ (PySem.isTrue _ _ _) _ _ _)); (dsimp only); walk1) | (k_unfold; (try dsimp only)) | (k_end; wrow_close) | walk1 | (dsimp only; walk1) | (leave1; walk_say "STEP leave1"; try dsimp only) | fail "no step"))
      exact hret _ [] _ _ ⟨rfl, _, by rw [Int.le_antisymm hc1 hle]⟩ (by k_asm) (cb_drop (by assumption) (fun p hp => List.mem_cons_of_mem _ (List.mem_cons_of_mem _ hp))) (fun _ _ _ h9 => nomatch h9)
      --]
    · (rename kdfLook _ _ _ ≠ _ => hq)
      have hgt : ch + 1 ≤ (lev (tx x) (tx y) : Int) := by
        rcases Int.lt_or_le ch (lev (tx x) (tx y) : Int) with h | h
        · omega
        · exact absurd (hth.mpr h) hq
      (rename Fr _ _ _ _ => F5); (rename News _ _ _ _ => N5); (rename Obj.IsDictOf (intKind _ _) _ _ => hdn); (rename PyProof.V.FlatPairs PyData.int _ _ => hfn); (rename (_ == sysModules) = false => lon); (rename _ ∧ _ ∧ AllLt _ _ => lnn)
      have hDn : DictI Challenge.rw_nb0171_01.row.prog w _ [] := ⟨_, hdn, hfn⟩
      with_unfolding_all refine' For_invVF F5 ?k1 ?k2 ?_
      case k1 => exact rfl
      case k2 => exact rfl
      (rename_i dn hx1 on hx2 hx3 hx4)
      clear hx2 hx3 hdn hfn
      obtain ⟨hdn1, hdn2, hdn3⟩ := lnn
      have hdn4 : ∀ p ∈ news, p.1 < dn := fun p hp => Nat.lt_trans (hde3 p hp) hdn1
      repeat' ((fail_if_success (with_reducible show Lfp _ _ _ _ _ _ _)); (fail_if_success (with_reducible show TurnW _ _ _ _ _ _ _ _ _ _)); (fail_if_success (with_reducible show TurnF _ _ _ _ _ _ _ _ _)); (fail_if_success (with_reducible show CutF _ _ _ _ _ _ _ _ _)); (fail_if_success (with_reducible show Q _ _)); (fail_if_success (with_reducible show wpAny _ _ (exec (Stmt.While _ _ _ _) _) _ _ _)); (fail_if_success (with_reducible show wpAny _ _ (exec (Stmt.For _ _ _ _ _) _) _ _ _)); (fail_if_success (with_reducible show wpAny _ _ (pyIter _) _ _ _)); (first | ((first | (with_reducible show wpAny _ _ (execs _ _) _ _ _) | (with_reducible show wpAny _ _ (PySem.isTrue _ _ _) _ _ _)); (dsimp only); walk1) | (k_unfold; (try dsimp only)) | (k_end; wrow_close) | walk1 | (dsimp only; walk1) | (leave1; walk_say "STEP leave1"; try dsimp only) | fail "no step"))
      generalize hlo : (if -(x.length : Int) > -(ch + 1) then -(x.length : Int) else -(ch + 1)) = lo at *
      generalize hhi : (if (y.length : Int) < ch + 1 then (y.length : Int) else ch + 1) + 1 = hi at *
      have blo : lo ≤ 0 ∧ -30 ≤ lo ∧ 1 ≤ hi ∧ hi ≤ 30 := by subst hlo; subst hhi; split <;> split <;> omega
      have hkey : ∀ k, (lo ≤ k ∧ k < lo + (hi - lo).toNat) ↔ Key (tx x) (tx y) (ch + 1) k := by
        intro k
        unfold Key
        rw [eX, eY]
        rw [show lo + (hi - lo).toNat = hi from by omega]
        subst hlo; subst hhi
        split <;> split <;> omega
      (rename IsRange _ _ _ _ _ _ _ _ => hR); (rename Fr _ _ _ _ => F6); (rename News _ _ _ _ => N6)
      refine itRange (n := (hi - lo).toNat) (σ := Obj × List (Int × Int) × Tok) (fun c => [(Str.ofString "one", .str x tkx), (Str.ofString "other", .str y tky), (Str.ofString "starts", .ref dn), (Str.ofString "changes", .int (ch + 1) c.2.2), (Str.ofString "ends", .ref de)])
        (fun c => (dn, c.1) :: (de, oe) :: news) (fun i c => DictI Challenge.rw_nb0171_01.row.prog w c.1 c.2.1 ∧ StAt (tx x) (tx y) (ch + 1) lo i c.2.1) (on, [], _)
        rfl hR (small_one (by omega) (by omega) (by omega) (by omega)) (by simp only [Builtin.Range.rangeSize]; rw [if_pos (by decide), if_pos (by omega)]; omega) (fun _ => rfl) F6 (cb_drop N6 (by intro p hp; rcases List.mem_cons.mp hp with rfl | hp; exact List.mem_cons_self ..; rcases List.mem_cons.mp hp with rfl | hp; exact List.mem_cons_of_mem _ (List.mem_cons_self ..); exact List.mem_cons_of_mem _ (List.mem_cons_of_mem _ (List.mem_cons_of_mem _ hp)))) (.cons rfl (.cons rfl (.cons rfl (.cons rfl (.cons rfl .nil))))) ⟨hDn, stAt_zero⟩ ?_ ?_
      · clear F6 N6 hDn
        rintro i k tk9 ⟨on, ns, tc9⟩ m3 h3 tk3 I oi hi9 hk9 ⟨hDn, hN⟩ lI F7 N7
        dsimp only [kstB] at F7
        dsimp only at hDn hN N7
        have hln : dn < I := lI (dn, _) (List.mem_cons_self ..)
        have hK := (hkey k).mp (by omega)
        have h3 := key_next hK hc0
        repeat' ((fail_if_success (with_reducible show Lfp _ _ _ _ _ _ _)); (fail_if_success (with_reducible show TurnW _ _ _ _ _ _ _ _ _ _)); (fail_if_success (with_reducible show TurnF _ _ _ _ _ _ _ _ _)); (fail_if_success (with_reducible show CutF _ _ _ _ _ _ _ _ _)); (fail_if_success (with_reducible show Q _ _)); (fail_if_success (with_reducible show wpAny _ _ (exec (Stmt.While _ _ _ _) _) _ _ _)); (fail_if_success (with_reducible show wpAny _ _ (exec (Stmt.For _ _ _ _ _) _) _ _ _)); (fail_if_success (with_reducible show wpAny _ _ (setItem (Value.ref _) (Value.int _ _) _) _ _ _)); (first | ((first | (with_reducible show wpAny _ _ (execs _ _) _ _ _) | (with_reducible show wpAny _ _ (PySem.isTrue _ _ _) _ _ _)); (dsimp only); walk1) | (k_unfold; (try dsimp only)) | (k_end; wrow_close) | walk1 | (dsimp only; walk1) | (leave1; walk_say "STEP leave1"; try dsimp only) | fail "no step"))
        all_goals ((rename kdfHas es k = _ => q1); (rename kdfHas es (k - 1) = _ => q2); (rename kdfHas es (k + 1) = _ => q3))
        all_goals try (exfalso; rw [← hE'.1, ← hE'.1, ← hE'.1, q1, q2, q3] at h3; simp at h3; done)
        all_goals ((rename Fr _ _ _ _ => F8); (rename News _ _ _ _ => N8); (rename _ ∧ _ ∧ _ ∧ AllLt _ _ => l9))
        all_goals (refine dict_set F8 N8 (.tail (Nat.ne_of_gt l9.2.1) (.tail (Nat.ne_of_gt hln) (.head (List.forall_mem_cons.mpr ⟨Nat.ne_of_lt hdn1, fun p hp => Nat.ne_of_lt (hdn4 p hp)⟩)))) hDn (by have := hN.2.2; omega) ?_)
        all_goals (rintro h7 o7 F9 N9 hD7)
        all_goals dsimp only
        all_goals repeat' ((fail_if_success (with_reducible show Lfp _ _ _ _ _ _ _)); (fail_if_success (with_reducible show TurnW _ _ _ _ _ _ _ _ _ _)); (fail_if_success (with_reducible show TurnF _ _ _ _ _ _ _ _ _)); (fail_if_success (with_reducible show CutF _ _ _ _ _ _ _ _ _)); (fail_if_success (with_reducible show Q _ _)); (fail_if_success (with_reducible show wpAny _ _ (exec (Stmt.While _ _ _ _) _) _ _ _)); (fail_if_success (with_reducible show wpAny _ _ (exec (Stmt.For _ _ _ _ _) _) _ _ _)); (first | ((first | (with_reducible show wpAny _ _ (execs _ _) _ _ _) | (with_reducible show wpAny _ _ (PySem.isTrue _ _ _) _ _ _)); (dsimp only); walk1) | (k_unfold; (try dsimp only)) | (k_end; wrow_close) | walk1 | (dsimp only; walk1) | (leave1; walk_say "STEP leave1"; try dsimp only) | fail "no step"))
        all_goals ((rename Fr _ _ _ _ => F10); (rename News _ _ _ _ => N10))
        all_goals refine lfp (_, _, _) F10 N10 (.cons rfl (.cons rfl (.cons rfl (.cons rfl (.cons rfl .nil))))) (fun _ h => List.mem_cons_of_mem _ h) ⟨hD7, stAt_step hN (by omega) (start_next (E := fun k => kdfLook es k 0) hE'.2 hK ?_ ?_ ?_ ?_ (by rw [eX, eY]))⟩
        all_goals first
          | (intro hh9; rw [← hE'.1] at hh9; first | (exfalso; rw [q1] at hh9; cases hh9; done) | (exfalso; rw [q2] at hh9; cases hh9; done) | (exfalso; rw [q3] at hh9; cases hh9; done) | omega | (dsimp only; omega))
          | (rw [← hE'.1, ← hE'.1, ← hE'.1, q1, q2, q3]; simp only [Bool.false_eq_true, false_and, true_and, false_or, or_false]; first | assumption | omega)
      · clear F6 N6 hDn
        rintro ⟨on, ns, tc9⟩ m3 h3 tk3 ⟨hDn, hN⟩ F7 N7
        dsimp only [kstB] at F7
        dsimp only at hDn hN N7
        repeat' ((fail_if_success (with_reducible show Lfp _ _ _ _ _ _ _)); (fail_if_success (with_reducible show TurnW _ _ _ _ _ _ _ _ _ _)); (fail_if_success (with_reducible show TurnF _ _ _ _ _ _ _ _ _)); (fail_if_success (with_reducible show CutF _ _ _ _ _ _ _ _ _)); (fail_if_success (with_reducible show Q _ _)); (fail_if_success (with_reducible show wpAny _ _ (exec (Stmt.While _ _ _ _) _) _ _ _)); (fail_if_success (with_reducible show wpAny _ _ (exec (Stmt.For _ _ _ _ _) _) _ _ _)); (first | ((first | (with_reducible show wpAny _ _ (execs _ _) _ _ _) | (with_reducible show wpAny _ _ (PySem.isTrue _ _ _) _ _ _)); (dsimp only); walk1) | (k_unfold; (try dsimp only)) | (k_end; wrow_close) | walk1 | (dsimp only; walk1) | (leave1; walk_say "STEP leave1"; try dsimp only) | fail "no step"))
        (rename Fr _ _ _ _ => F10); (rename News _ _ _ _ => N10)
        refine lfp (_, _, ns, _, _) F10 N10 (.cons rfl (.cons rfl (.cons rfl (.cons rfl .nil)))) (fun p hp => ?_) ⟨⟨lon, hdn4, hDn, ?_, stAt_done hN hkey, ?_, hgt⟩, ?_⟩
        · rcases List.mem_cons.mp hp with rfl | hp
          · exact List.mem_cons_self ..
          · exact List.mem_cons_of_mem _ (List.mem_cons_of_mem _ hp)
        · have := hN.2.2; dsimp only; omega
        · dsimp only; omega
        · dsimp only; omega
end Mine
end
section
open PySem PySem.Sre
set_option maxRecDepth 100000
namespace Mine
/-! the pattern \.\d+$ upon a text, by the machine of the model -/
def cde : Array Nat := #[14, 8, 1, 2, 4294967295, 1, 1, 46, 0, 16, 46, 24, 9, 1, 4294967295, 13, 4, 8, 0, 0, 1, 6, 5, 1]
def Goes (k : Nat) (m m' : M) : Prop := ∃ n, n ≤ k ∧ M.runFor n m = m'
theorem runFor_add (m : M) : ∀ a b, M.runFor (a + b) m = M.runFor b (M.runFor a m) := by
  intro a
  induction a generalizing m with
  | zero => intro b; rw [Nat.zero_add]; rfl
  | succ a ih =>
    intro b
    rw [Nat.succ_add]
    show (if m.outcome.isSome = true then m else M.runFor (a + b) m.step) = M.runFor b (if m.outcome.isSome = true then m else M.runFor a m.step)
    by_cases h : m.outcome.isSome = true
    · rw [if_pos h, if_pos h]
      cases b with
      | zero => rfl
      | succ b => show m = if m.outcome.isSome = true then m else _; rw [if_pos h]
    · rw [if_neg h, if_neg h]; exact ih m.step b
theorem Goes.refl {k : Nat} (m : M) : Goes k m m := ⟨0, Nat.zero_le _, rfl⟩
theorem Goes.mono {j k : Nat} {a b : M} (x : Goes j a b) (h : j ≤ k) : Goes k a b := let ⟨n, h', e⟩ := x; ⟨n, Nat.le_trans h' h, e⟩
theorem Goes.trans {i j : Nat} {a b c : M} (x : Goes i a b) (y : Goes j b c) : Goes (i + j) a c := let ⟨n, h, e⟩ := x; let ⟨k, h', e'⟩ := y; ⟨n + k, Nat.add_le_add h h', by rw [runFor_add, e, e']⟩
theorem Goes.step {k : Nat} {a b c : M} (h : a.outcome = none) (e : a.step = b) (y : Goes k b c) : Goes (1 + k) a c := Goes.trans (i := 1) ⟨1, Nat.le_refl _, by show (if a.outcome.isSome = true then a else M.runFor 0 a.step) = b; rw [h]; exact e⟩ y
def stA (T : Array Nat) (s : Nat) (first : Bool) (sn : Seen) : M :=
  { code := cde, text := T, lim := T.size, start := s, lastStart := T.size, pc := 9, pos := s, handed := s, outermost := first, marks := #[], frames := [{ wait := .nextStart, pc := 9, pos := s, outermost := first }], weight := 1, seen := sn }
theorem start_is (T : Array Nat) (h : 2 ≤ T.size) : forSearch cde T 0 0 T.size false = stA T 0 true (({} : Seen).add 14) := by
  show (if decide (0 > T.size) || decide (T.size - 0 < 2) then _ else _) = _
  rw [if_neg (by simp; omega)]
  rfl
/-- the text's first sign is no dot -/
def stB (T : Array Nat) (s : Nat) (first : Bool) (sn : Seen) : M :=
  { code := cde, text := T, lim := T.size, start := s, lastStart := T.size, pc := 11, pos := s + 1, handed := s, outermost := first, marks := #[], frames := [{ wait := .nextStart, pc := 9, pos := s, outermost := first }], weight := 1, seen := sn }
theorem step_lit {T : Array Nat} {s : Nat} {f : Bool} {sn : Seen} (h : s < T.size) (e : T.getD s 0 = 46) : (stA T s f sn).step = stB T s f (sn.add 16) := by
  show (if s ≥ T.size then _ else _) = _
  rw [if_neg (by omega)]
  show (match (Except.ok (T.getD s 0 == 46, sn.add 16) : Except String (Bool × Seen)) with | .error why => _ | .ok (false, seen) => _ | .ok (true, seen) => _) = _
  rw [e]
  rfl
/-- this start has failed -/
def stF (T : Array Nat) (s : Nat) (first : Bool) (p q hd : Nat) (o : Bool) (sn : Seen) : M :=
  { code := cde, text := T, lim := T.size, start := s, lastStart := T.size, pc := p, pos := q, handed := hd, outermost := o, marks := #[], frames := [{ wait := .nextStart, pc := 9, pos := s, outermost := first }], weight := 1, answer := some false, seen := sn }
theorem step_next {T : Array Nat} {s p q hd : Nat} {f o : Bool} {sn : Seen} (h : s < T.size) : (stF T s f p q hd o sn).step = stA T (s + 1) false sn := by
  show (if s < T.size then _ else _) = _
  rw [if_pos h]
  rfl
theorem end_failed {T : Array Nat} {s p q hd : Nat} {f o : Bool} {sn : Seen} (h : ¬ s < T.size) : ∃ m', Goes 2 (stF T s f p q hd o sn) m' ∧ m'.outcome = some .failed := by
  refine ⟨_, Goes.step (k := 1) rfl rfl (Goes.step (k := 0) ?_ rfl (Goes.refl _)), ?_⟩
  · show (if s < T.size then _ else _ : M).outcome = none
    rw [if_neg h]; rfl
  · show (M.step (if s < T.size then _ else _ : M)).outcome = _
    rw [if_neg h]; rfl
theorem step_lit_no {T : Array Nat} {s : Nat} {f : Bool} {sn : Seen} (h : s < T.size) (e : (T.getD s 0 == 46) = false) : (stA T s f sn).step = stF T s f 9 s s f (sn.add 16) := by
  show (if s ≥ T.size then _ else _) = _
  rw [if_neg (by omega)]
  show (match (Except.ok (T.getD s 0 == 46, sn.add 16) : Except String (Bool × Seen)) with | .error why => _ | .ok (false, seen) => _ | .ok (true, seen) => _) = _
  rw [e]
  rfl
theorem step_lit_end {T : Array Nat} {s : Nat} {f : Bool} {sn : Seen} (h : ¬ s < T.size) : (stA T s f sn).step = stF T s f 9 s s f (sn.add 16) := by
  show (if s ≥ T.size then _ else _) = _
  rw [if_pos (by omega)]
  rfl
/-- behind the dot: no sign, or no digit -/
theorem step_rep_end {T : Array Nat} {s : Nat} {f : Bool} {sn : Seen} (h : s + 1 = T.size) : ∃ sn', (stB T s f sn).step = stF T s f 11 (s + 1) s f sn' := by
  refine ⟨sn.add 24, ?_⟩
  show (if ((1 : Nat) : Int) > (T.size : Int) - ((s + 1 : Nat) : Int) then _ else _) = _
  rw [if_pos (by omega)]
  rfl
theorem digit_yes {c : Nat} {sn : Seen} (h : isDigit c = true) : ∃ sn', accepts cde 15 c sn = .ok (true, sn') := by
  refine ⟨(sn.add 8).add 55, ?_⟩
  show (do if ← category 0 c then pure (true, (sn.add 8).add 55) else _ : Except String (Bool × Seen)) = _
  have e : category 0 c = .ok true := by
    show (Except.ok (isDigit c) : Except String Bool).map (· != (0 % 2 == 1)) = _
    rw [h]; rfl
  rw [e]
  rfl
theorem digit_no {c : Nat} {sn : Seen} (h : isDigit c = false) : ∃ sn', accepts cde 15 c sn = .ok (false, sn') := by
  refine ⟨(((sn.add 8).add 55).add 0), ?_⟩
  show (do if ← category 0 c then pure (true, (sn.add 8).add 55) else inSet cde c 23 19 true ((sn.add 8).add 55) : Except String (Bool × Seen)) = _
  have e : category 0 c = .ok false := by
    show (Except.ok (isDigit c) : Except String Bool).map (· != (0 % 2 == 1)) = _
    rw [h]; rfl
  rw [e]
  rfl
theorem run_no {T : Array Nat} {n p : Nat} {sn : Seen} (hn : n = 0 ∨ isDigit (T.getD p 0) = false) : ∀ k, ∃ sn', Sre.run cde T 15 n p k sn = .ok (k, sn') := by
  intro k
  cases n with
  | zero => exact ⟨sn, rfl⟩
  | succ n =>
    obtain ⟨sn', e⟩ := digit_no (sn := sn) (hn.resolve_left (by omega))
    refine ⟨sn', ?_⟩
    show (do let (yes, seen) ← accepts cde 15 (T.getD p 0) sn; if yes then Sre.run cde T 15 n (p + 1) (k + 1) seen else pure (k, seen) : Except String (Nat × Seen)) = _
    rw [e]; rfl
theorem run_one {T : Array Nat} {n p : Nat} {sn : Seen} (h : isDigit (T.getD p 0) = true) (hn : n = 0 ∨ isDigit (T.getD (p + 1) 0) = false) : ∃ sn', Sre.run cde T 15 (n + 1) p 0 sn = .ok (1, sn') := by
  obtain ⟨sn', e⟩ := digit_yes (sn := sn) h
  obtain ⟨sn2, e2⟩ := run_no (sn := sn') hn 1
  refine ⟨sn2, ?_⟩
  show (do let (yes, seen) ← accepts cde 15 (T.getD p 0) sn; if yes then Sre.run cde T 15 n (p + 1) (0 + 1) seen else pure (0, seen) : Except String (Nat × Seen)) = _
  rw [e]; exact e2
theorem step_rep_no {T : Array Nat} {s : Nat} {f : Bool} {sn : Seen} (h : s + 1 < T.size) (e : isDigit (T.getD (s + 1) 0) = false) : ∃ sn', (stB T s f sn).step = stF T s f 11 (s + 1) s f sn' := by
  obtain ⟨sn', hr⟩ := run_no (T := T) (n := min 4294967295 ((T.size : Int) - ((s + 1 : Nat) : Int)).toNat) (p := s + 1) (sn := (sn.add 24).add 13) (.inr e) 0
  refine ⟨sn', ?_⟩
  show (if ((1 : Nat) : Int) > (T.size : Int) - ((s + 1 : Nat) : Int) then _ else _) = _
  rw [if_neg (by omega)]
  show (match Sre.run cde T 15 (min 4294967295 ((T.size : Int) - ((s + 1 : Nat) : Int)).toNat) (s + 1) 0 ((sn.add 24).add 13) with | .error why => _ | .ok (n, seen) => _) = _
  rw [hr]
  rfl
/-- a digit behind the dot: the rest is tried -/
def stC (T : Array Nat) (s : Nat) (first : Bool) (sn : Seen) : M :=
  { code := cde, text := T, lim := T.size, start := s, lastStart := T.size, pc := 21, pos := s + 2, handed := s + 2, outermost := first, marks := #[], frames := [{ wait := .giveBack, pc := 11, pos := s + 2, outermost := first, count := 1, kept := { lastmark := -1, lastindex := -1, whole := false, marks := #[] } }, { wait := .nextStart, pc := 9, pos := s, outermost := first }], weight := 2, seen := sn }
theorem step_rep_yes {T : Array Nat} {s : Nat} {f : Bool} {sn : Seen} (h : s + 1 < T.size) (e : isDigit (T.getD (s + 1) 0) = true) (e2 : s + 2 = T.size ∨ isDigit (T.getD (s + 2) 0) = false) : ∃ sn', (stB T s f sn).step = stC T s f sn' := by
  obtain ⟨n, hn⟩ : ∃ n, min 4294967295 ((T.size : Int) - ((s + 1 : Nat) : Int)).toNat = n + 1 := ⟨min 4294967295 ((T.size : Int) - ((s + 1 : Nat) : Int)).toNat - 1, by omega⟩
  obtain ⟨sn', hr⟩ := run_one (T := T) (n := n) (p := s + 1) (sn := (sn.add 24).add 13) e (e2.imp (fun h => by omega) id)
  refine ⟨sn', ?_⟩
  show (if ((1 : Nat) : Int) > (T.size : Int) - ((s + 1 : Nat) : Int) then _ else _) = _
  rw [if_neg (by omega)]
  show (match Sre.run cde T 15 (min 4294967295 ((T.size : Int) - ((s + 1 : Nat) : Int)).toNat) (s + 1) 0 ((sn.add 24).add 13) with | .error why => _ | .ok (n, seen) => _) = _
  rw [hn, hr]
  rfl
theorem end_matched {T : Array Nat} {s : Nat} {f : Bool} {sn : Seen} (h : s + 2 = T.size) : ∃ m', Goes 5 (stC T s f sn) m' ∧ m'.outcome = some .matched ∧ m'.start = s := by
  have e1 : (stC T s f sn).step = { stC T s f ((sn.add 6).add 48) with pc := 23 } := by
    show (match (Except.ok (s + 2 == T.size || (s + 2 + 1 == T.size && T.getD (s + 2) 0 == 10)) : Except String Bool) with | .error why => (stC T s f (sn.add 6)).stick why | .ok yes => if yes then { stC T s f ((sn.add 6).add 48) with pc := 23 } else (stC T s f ((sn.add 6).add 48)).say false) = _
    have : (s + 2 == T.size) = true := by simp [h]
    rw [this]
    rfl
  have e2 : M.step { stC T s f ((sn.add 6).add 48) with pc := 23 } = { stC T s f (((sn.add 6).add 48).add 1) with pc := 23, answer := some true } := by
    show (if f && ((false && _) || (false && _)) then _ else _) = _
    rw [Bool.false_and, Bool.false_and, Bool.or_false, Bool.and_false]
    rfl
  exact ⟨_, Goes.step (k := 4) rfl e1 (Goes.step (k := 3) rfl e2 (Goes.step (k := 2) rfl rfl (Goes.step (k := 1) rfl rfl (Goes.step (k := 0) rfl rfl (Goes.refl _))))), rfl, rfl⟩
theorem step_back {T : Array Nat} {s : Nat} {f : Bool} {sn : Seen} (h : s + 2 < T.size) (e : (T.getD (s + 2) 0 == 10) = false) : ∃ sn' m', Goes 2 (stC T s f sn) m' ∧ m' = stF T s f 11 (s + 2) (s + 2) f sn' := by
  have e1 : (stC T s f sn).step = { stC T s f ((sn.add 6).add 48) with answer := some false } := by
    show (match (Except.ok (s + 2 == T.size || (s + 2 + 1 == T.size && T.getD (s + 2) 0 == 10)) : Except String Bool) with | .error why => (stC T s f (sn.add 6)).stick why | .ok yes => if yes then { stC T s f ((sn.add 6).add 48) with pc := 23 } else (stC T s f ((sn.add 6).add 48)).say false) = _
    have : (s + 2 == T.size) = false := by simp; omega
    rw [this, e, Bool.and_false, Bool.or_false]
    rfl
  exact ⟨_, _, Goes.step (k := 1) rfl e1 (Goes.step (k := 0) rfl rfl (Goes.refl _)), rfl⟩
/-! the whole search -/
theorem one_start {T : Array Nat} {s : Nat} {f : Bool} {sn : Seen} (h : s < T.size)
    (hd : T.getD s 0 = 46 → s + 1 < T.size → isDigit (T.getD (s + 1) 0) = true → s + 2 < T.size ∧ isDigit (T.getD (s + 2) 0) = false ∧ (T.getD (s + 2) 0 == 10) = false) :
    ∃ sn', Goes 6 (stA T s f sn) (stA T (s + 1) false sn') := by
  cases e : (T.getD s 0 == 46) with
  | false => exact ⟨_, Goes.mono (Goes.step rfl (step_lit_no h e) (Goes.step rfl (step_next h) (Goes.refl (k := 0) _))) (by omega)⟩
  | true =>
    have e' : T.getD s 0 = 46 := by simpa using e
    by_cases h1 : s + 1 < T.size
    · cases e1 : isDigit (T.getD (s + 1) 0) with
      | false =>
        obtain ⟨sn', h2⟩ := step_rep_no (f := f) (sn := sn.add 16) h1 e1
        exact ⟨_, Goes.mono (Goes.step rfl (step_lit h e') (Goes.step rfl h2 (Goes.step rfl (step_next h) (Goes.refl (k := 0) _)))) (by omega)⟩
      | true =>
        obtain ⟨q1, q2, q3⟩ := hd e' h1 e1
        obtain ⟨sn', h2⟩ := step_rep_yes (f := f) (sn := sn.add 16) h1 e1 (.inr q2)
        obtain ⟨sn2, m', h3, h4⟩ := step_back (f := f) (sn := sn') q1 q3
        subst h4
        exact ⟨_, Goes.mono (Goes.step rfl (step_lit h e') (Goes.step rfl h2 (Goes.trans h3 (Goes.step rfl (step_next h) (Goes.refl (k := 0) _))))) (by omega)⟩
    · obtain ⟨sn', h2⟩ := step_rep_end (f := f) (sn := sn.add 16) (show s + 1 = T.size by omega)
      exact ⟨_, Goes.mono (Goes.step rfl (step_lit h e') (Goes.step rfl h2 (Goes.step rfl (step_next h) (Goes.refl (k := 0) _)))) (by omega)⟩
/-- every digit behind a dot has a sign behind it that is none, and no line's end -/
def Calm (T : Array Nat) (s : Nat) : Prop := T.getD s 0 = 46 → s + 1 < T.size → isDigit (T.getD (s + 1) 0) = true → s + 2 < T.size ∧ isDigit (T.getD (s + 2) 0) = false ∧ (T.getD (s + 2) 0 == 10) = false
theorem all_starts {T : Array Nat} (e : Nat) : ∀ (k s : Nat) (f : Bool) (sn : Seen), s + k = e → e ≤ T.size → (∀ i, s ≤ i → i < e → Calm T i) → ∃ f' sn', Goes (6 * k) (stA T s f sn) (stA T e f' sn')
  | 0, s, f, sn, hk, _, _ => ⟨f, sn, by rw [← hk]; exact Goes.refl _⟩
  | k + 1, s, f, sn, hk, he, hc => by
    obtain ⟨sn', h1⟩ := one_start (f := f) (sn := sn) (show s < T.size by omega) (hc s (Nat.le_refl _) (by omega))
    obtain ⟨f2, sn2, h2⟩ := all_starts e k (s + 1) false sn' (by omega) he (fun i hi hi' => hc i (by omega) hi')
    exact ⟨f2, sn2, Goes.mono (Goes.trans h1 h2) (by omega)⟩
theorem search_no {T : Array Nat} (hc : ∀ i, i < T.size → Calm T i) : ∃ m', Goes (6 * T.size + 20) (forSearch cde T 0 0 T.size false) m' ∧ m'.outcome = some .failed := by
  by_cases h : 2 ≤ T.size
  · rw [start_is T h]
    obtain ⟨f, sn, h1⟩ := all_starts T.size T.size 0 true (({} : Seen).add 14) (by omega) (Nat.le_refl _) (fun i _ hi => hc i hi)
    obtain ⟨m', h2, h3⟩ := end_failed (T := T) (s := T.size) (p := 9) (q := T.size) (hd := T.size) (f := f) (o := f) (sn := sn.add 16) (Nat.lt_irrefl _)
    exact ⟨m', Goes.mono (Goes.trans h1 (Goes.step rfl (step_lit_end (Nat.lt_irrefl _)) h2)) (by omega), h3⟩
  · have e : forSearch cde T 0 0 T.size false = ({ code := cde, text := T, lim := T.size, start := 0, pc := 9, pos := 0, handed := 0, marks := #[], seen := ({} : Seen).add 14 } : M).say false := by
      show (if decide (0 > T.size) || decide (T.size - 0 < 2) then _ else _) = _
      rw [if_pos (by simp; omega)]
      rfl
    rw [e]
    exact ⟨_, Goes.mono (Goes.step rfl rfl (Goes.refl (k := 0) _)) (by omega), rfl⟩
theorem search_yes {T : Array Nat} (h : 2 ≤ T.size) (e1 : T.getD (T.size - 2) 0 = 46) (e2 : isDigit (T.getD (T.size - 1) 0) = true) (hc : ∀ i, i < T.size - 2 → Calm T i) : ∃ m', Goes (6 * T.size + 20) (forSearch cde T 0 0 T.size false) m' ∧ m'.outcome = some .matched := by
  rw [start_is T h]
  obtain ⟨f, sn, h1⟩ := all_starts (T.size - 2) (T.size - 2) 0 true (({} : Seen).add 14) (by omega) (by omega) (fun i _ hi => hc i hi)
  have e3 : T.size - 2 + 1 = T.size - 1 := by omega
  obtain ⟨sn', h2⟩ := step_rep_yes (T := T) (s := T.size - 2) (f := f) (sn := sn.add 16) (by omega) (by rw [e3]; exact e2) (.inl (by omega))
  obtain ⟨m', h3, h4, _⟩ := end_matched (T := T) (s := T.size - 2) (f := f) (sn := sn') (by omega)
  exact ⟨m', Goes.mono (Goes.trans h1 (Goes.step rfl (step_lit (by omega) e1) (Goes.step rfl h2 h3))) (by omega), h4⟩
end Mine
end
section
open PySem PySem.W PyProof.Rows PySem.Builtin PySem.Builtin.Re
set_option maxRecDepth 100000
namespace Mine
theorem slot_re_search : Slot "re.Pattern" "search" "re.Pattern.search" :=
  .of (owner := "re.Pattern") (n := "search") (by rw [typeLookup_type, builtinLookup_eq_fast]; kernel_rfl) (by decide +kernel) (by decide +kernel) (by decide +kernel)
    (by first | exact .inl (by decide +kernel) | exact .inr (by decide +kernel)) (by rw [isSubtype_type]; kernel_rfl)
theorem type_re_search : typeOf (.builtin "re.Pattern.search") = pure (.type "method_descriptor") := by show builtinType _ = _; rw [builtinType_eq_fast]; kernel_rfl
theorem entry_re_search : entryFor table "re.Pattern.search" = some Builtin.«re.Pattern.search» := entryFor_of_tree (by kernel_rfl)
theorem args_re_search (a b : Value) : argsOk "re.Pattern.search" ⟨[a, b], []⟩ := by unfold argsOk; kernel_rfl
theorem plainAttrs_re : PlainAttrs "re.Pattern" :=
  ⟨⟨"object.__getattribute__", by rw [typeLookup_type, builtinLookup_eq_fast]; kernel_rfl, by decide +kernel⟩, by rw [typeLookup_type, builtinLookup_eq_fast]; kernel_rfl⟩
theorem match_no_bool : typeLookup (.type "re.Match") "__bool__" = pure none := by rw [typeLookup_type, builtinLookup_eq_fast]; kernel_rfl
theorem match_no_len : typeLookup (.type "re.Match") "__len__" = pure none := by rw [typeLookup_type, builtinLookup_eq_fast]; kernel_rfl

section
variable {M : Model} {A : Around} {E : Value → Shared → Prop} {s : Shared}
theorem runFor_done {m : Sre.M} (h : m.outcome.isSome = true) : ∀ n, Sre.M.runFor n m = m
  | 0 => rfl
  | n + 1 => by show (if m.outcome.isSome = true then m else _) = m; rw [if_pos h]
theorem drive {m' : Sre.M} (hm : m'.outcome.isSome = true) {Q : Sre.M → Shared → Prop} (hQ : Q m' s) : ∀ (turns N : Nat) (m : Sre.M), N ≤ 4 * turns → 1 ≤ turns → Sre.M.runFor N m = m' → wpAny M A (reDrive turns m) Q E s
  | 0, _, _, _, h, _ => absurd h (by omega)
  | turns + 1, N, m, hN, _, e => by
    unfold reDrive
    dsimp only
    by_cases h : (Sre.M.runFor reTurnSteps m).outcome.isSome = true
    · rw [if_pos h]
      have e2 : Sre.M.runFor reTurnSteps m = m' := by
        rcases Nat.le_total N 4 with h4 | h4
        · have h5 := runFor_add m N (4 - N)
          rw [show N + (4 - N) = reTurnSteps from by show _ = 4; omega, e, runFor_done hm] at h5
          exact h5
        · have h5 := runFor_add m 4 (N - 4)
          rw [show 4 + (N - 4) = N from by omega, e] at h5
          rw [h5]
          exact (runFor_done h _).symm
      rw [e2]
      exact wpAny_pure hQ
    · rw [if_neg h]
      have h6 : 4 < N := by
        rcases Nat.lt_or_ge 4 N with h4 | h4
        · exact h4
        · exfalso
          have h5 := runFor_add m N (4 - N)
          rw [show N + (4 - N) = reTurnSteps from by show _ = 4; omega, e, runFor_done hm] at h5
          exact h (by rw [h5]; exact hm)
      refine wpAny_bind (wpAny_rule ?_)
      refine drive hm hQ turns (N - 4) _ (by omega) (by omega) ?_
      have h5 := runFor_add m 4 (N - 4)
      rw [show 4 + (N - 4) = N from by omega, e] at h5
      exact h5.symm

theorem loop_rules {α : Type} {Q : PUnit → Shared → Prop} (f : α → PUnit → Sem (ForInStep PUnit)) (hf : ∀ i (Q' : ForInStep PUnit → Shared → Prop) s, Q' (.yield ⟨⟩) s → wpAny M A (f i ⟨⟩) Q' E s) (hQ : Q ⟨⟩ s) :
    ∀ l : List α, wpAny M A (forIn l PUnit.unit f) Q E s
  | [] => by rw [List.forIn_nil]; exact wpAny_pure hQ
  | i :: l => by
    rw [List.forIn_cons]
    exact wpAny_bind (hf i _ s (loop_rules f hf hQ l))
theorem to_end {m m' : Sre.M} {k : Nat} (hg : Goes k m m') (hk : k ≤ 4294967296) {Q : Option Sre.M → Shared → Prop}
    (h : (m'.outcome = some .matched ∧ Q (some m') s) ∨ (m'.outcome = some .failed ∧ Q none s)) : wpAny M A (reRunToEnd m) Q E s := by
  obtain ⟨n, hn, e⟩ := hg
  unfold reRunToEnd
  have hs : m'.outcome.isSome = true := by rcases h with ⟨h, _⟩ | ⟨h, _⟩ <;> rw [h] <;> rfl
  refine wpAny_bind (drive hs ?_ (2 ^ 64) n m (Nat.le_trans hn (Nat.le_trans hk (by decide))) (by decide) e)
  refine wpAny_bind (loop_rules _ (fun i Q' s h => ?_) ?_ _)
  · split
    · exact wpAny_bind (wpAny_rule (wpAny_pure h))
    · exact wpAny_pure h
  · rcases h with ⟨h, hQ⟩ | ⟨h, hQ⟩
    · rw [h]; exact wpAny_pure hQ
    · rw [h]; exact wpAny_pure hQ
end
def patObj : Obj := { cls := .type "re.Pattern", data := .fields #[.str (Str.ofString "\\.\\d+$") 285, .int 256 312, .int 0 0, .none, .none, .ref 35, .int 0 0] }
def codObj : Obj := { cls := .type "tuple", data := .seq #[.int 14 0, .int 8 0, .int 1 0, .int 2 0, .int 4294967295 0, .int 1 0, .int 1 0, .int 46 0, .int 0 0, .int 16 0, .int 46 0, .int 24 0, .int 9 0, .int 1 0, .int 4294967295 0, .int 13 0, .int 4 0, .int 8 0, .int 0 0, .int 0 0, .int 1 0, .int 6 0, .int 5 0, .int 1 0] }
section
variable {prog : Program} {w : World} {A : Around} {E : Value → Shared → Prop} {s : Shared} {x : Str} {t : Tok} {Q : Value → Shared → Prop}
theorem re_search (hp : s.heap.get? 36 = some patObj) (hc : s.heap.get? 35 = some codObj) {m' : Sre.M} (hx : x.length ≤ 1000) (hg : Goes (6 * x.cps.size + 20) (Sre.forSearch cde x.cps 0 0 x.cps.size false) m')
    (h : (m'.outcome = some .failed ∧ Q .none s) ∨ (m'.outcome = some .matched ∧ ∀ (o₁ o₂ : Obj), o₂.cls = .type "re.Match" → o₂.dict = none → o₂.isFreed = false → Q (.ref (s.heap.objs.size + 1)) { s with heap := (s.heap.push o₁).push o₂ })) :
    wpAny (model prog w) A (call (.builtin "re.Pattern.search") [.ref 36, .str x t]) Q E s := by
  have hT : s.TypeIs (.ref 36) "re.Pattern" := ⟨_, hp, rfl⟩
  refine wpAny_call_entry slot_re_search hT entry_re_search ?_ (args_re_search _ _)
  unfold Builtin.«re.Pattern.search»
  refine wpAny_bind ?_
  unfold reTarget
  dsimp only
  refine wpAny_bind (wpAny_of_eq (a := [some (.str x t), none, none]) (by rfl) ?_)
  dsimp only
  refine wpAny_bind (wpAny_pure ?_)
  refine wpAny_bind (wpAny_pure ?_)
  refine wpAny_bind (wpAny_fieldsOf hp rfl ?_)
  refine wpAny_bind (wpAny_of_eq (a := (x.cps, 0)) (by rfl) ?_)
  dsimp only
  rw [if_neg (by decide), if_neg (by decide)]
  refine wpAny_bind (wpAny_of_eq (a := ()) (by rfl) ?_)
  refine wpAny_bind ?_
  unfold reRawItems
  refine wpAny_bind (wpAny_seqItems hc rfl (wpAny_pure ?_))
  refine wpAny_pure ?_
  have e1 : (Array.map (fun y : Int => y.toNat) (Array.map reRawOf ((some #[Value.int 14 0, .int 8 0, .int 1 0, .int 2 0, .int 4294967295 0, .int 1 0, .int 1 0, .int 46 0, .int 0 0, .int 16 0, .int 46 0, .int 24 0, .int 9 0, .int 1 0, .int 4294967295 0, .int 13 0, .int 4 0, .int 8 0, .int 0 0, .int 0 0, .int 1 0, .int 6 0, .int 5 0, .int 1 0]).getD #[]))) = cde := by decide +kernel
  have e2 : Min.min ((2 : Int) ^ 63 - 1).toNat x.cps.size = x.cps.size := by
    have : x.cps.size = x.length := rfl
    have h63 : ((2 : Int) ^ 63 - 1).toNat = 9223372036854775807 := by decide
    omega
  have e3 : Min.min (Int.toNat 0) x.cps.size = 0 := by simp
  unfold reAnswer
  dsimp only
  rw [e1, e2, e3]
  show wpAny _ _ (reRunToEnd (Sre.forSearch cde x.cps 0 0 x.cps.size false) >>= _) _ _ _
  refine wpAny_bind (to_end hg (by have : x.cps.size = x.length := rfl; omega) ?_)
  rcases h with ⟨h, hQ⟩ | ⟨h, hQ⟩
  · exact .inr ⟨h, wpAny_pure ⟨_, rfl, hQ⟩⟩
  · refine .inl ⟨h, ?_⟩
    dsimp only
    refine wpAny_bind ?_
    unfold reNewMatch
    dsimp only
    rw [show List.range (reRawNat (#[Value.str (Str.ofString "\\.\\d+$") 285, Value.int 256 312, Value.int 0 0, Value.none, Value.none, Value.ref 35, Value.int 0 0].getD 2 Value.none)) = [] from rfl]
    rw [if_neg (by simp)]
    refine wpAny_bind (wpAny_newTuple ?_ (by rw [sizeLine_eq]; simp))
    refine wpAny_newObj_type ?_ (by unfold sizeOk; simp; rw [sizeLine_eq]; decide)
    have hsz : ∀ o, (s.heap.push o).objs.size = s.heap.objs.size + 1 := fun o => Heap.size_push ..
    rw [hsz]
    exact wpAny_pure ⟨_, rfl, hQ _ _ rfl rfl rfl⟩
theorem re_method {pl : Sem Bool} {Q : Value × List Value → Shared → Prop} (hp : s.heap.get? 36 = some patObj) (h : Q (.builtin "re.Pattern.search", [.ref 36]) s) : wpAny (model prog w) A (getMethod (.ref 36) (Str.ofString "search") pl) Q E s :=
  getMethod_builtin (v := .ref 36) ⟨_, hp, rfl⟩ plainAttrs_re slot_re_search type_re_search (fun a e => by injection e with e; subst e; exact ⟨_, hp, rfl⟩) h
theorem truthy_match {a : Addr} {o : Obj} {Q : Bool → Shared → Prop} (ho : s.heap.get? a = some o) (hc : o.cls = .type "re.Match") (h : Q true s) : wpAny (model prog w) A (truthy (.ref a)) Q E s := by
  have hT : s.TypeIs (.ref a) "re.Match" := ⟨_, ho, hc⟩
  unfold truthy
  refine wpAny_bind (wpAny_callSpecial?_none (name := Str.ofString "__bool__") hT match_no_bool ?_)
  refine wpAny_bind (wpAny_specialOf (name := Str.ofString "__len__") hT match_no_len ?_)
  exact wpAny_pure h
end
end Mine
end
section
open PySem PySem.W PyProof.Rows
namespace Mine
set_option pp.deepTerms false
set_option pp.deepTerms.threshold 6
/-- what the pattern says of a text: it is a name (true), or its end is a dot and a number -/
def Says (x : Str) (b : Bool) : Prop := ∃ m', Goes (6 * x.cps.size + 20) (Sre.forSearch cde x.cps 0 0 x.cps.size false) m' ∧ m'.outcome = some (if b then .failed else .matched)
theorem get_pushed {h : Heap} {o₁ o₂ : Obj} (hf : o₂.isFreed = false) : ((h.push o₁).push o₂).get? (h.objs.size + 1) = some o₂ := by
  have e : (h.push o₁).objs.size = h.objs.size + 1 := Heap.size_push ..
  rw [← e]
  exact Heap.get?_push_size _ hf
set_option maxRecDepth 100000 in
set_option maxHeartbeats 4000000 in
theorem lib_c (w : World) (mean : ExcName → Option Value) (mg mb : Str → Option Value) (news : List (Addr × Obj)) (x : Str) (tkx : Tok)
    (lx : x.length ≤ 20) {b : Bool} (hb : Says x b) :
    Ctr 4 w mean mg mb 50 news [.str x tkx] (fun r tl => tl = [] ∧ r = .bool b) := by
  obtain ⟨m', hg, ho⟩ := hb
  unfold Ctr Pg Lo
  w_top off
  k_fill
  intro dp un gd cn cs a ccd cl outer A₀ base h₀ L m s Q E B F X N T hk hd hu hret
  refine wpAny_call ?_
  k_dflt cell_enter
  (rename Fr _ _ _ _ => F0)
  obtain ⟨m1, F1⟩ := fr_open F0 [(Str.ofString "text", .str x tkx)] (.cons rfl .nil)
  clear F0
  dsimp only [kstB] at F1
  (rename Frag.In _ _ => X1)
  repeat' ((fail_if_success (with_reducible show Lfp _ _ _ _ _ _ _)); (fail_if_success (with_reducible show TurnW _ _ _ _ _ _ _ _ _ _)); (fail_if_success (with_reducible show TurnF _ _ _ _ _ _ _ _ _)); (fail_if_success (with_reducible show CutF _ _ _ _ _ _ _ _ _)); (fail_if_success (with_reducible show Q _ _)); (fail_if_success (with_reducible show wpAny _ _ (exec (Stmt.While _ _ _ _) _) _ _ _)); (fail_if_success (with_reducible show wpAny _ _ (exec (Stmt.For _ _ _ _ _) _) _ _ _)); (fail_if_success (with_reducible show wpAny _ _ (getMethod (Value.ref _) _ _) _ _ _)); (first | ((first | (with_reducible show wpAny _ _ (execs _ _) _ _ _) | (with_reducible show wpAny _ _ (PySem.isTrue _ _ _) _ _ _)); (dsimp only); walk1) | (k_unfold; (try dsimp only)) | (k_end; wrow_close) | walk1 | (dsimp only; walk1) | (leave1; walk_say "STEP leave1"; try dsimp only) | fail "no step"))
  refine re_method ((X1.keeps F1.keep) 36 patObj (by rfl)) ?_
  repeat' ((fail_if_success (with_reducible show Lfp _ _ _ _ _ _ _)); (fail_if_success (with_reducible show TurnW _ _ _ _ _ _ _ _ _ _)); (fail_if_success (with_reducible show TurnF _ _ _ _ _ _ _ _ _)); (fail_if_success (with_reducible show CutF _ _ _ _ _ _ _ _ _)); (fail_if_success (with_reducible show Q _ _)); (fail_if_success (with_reducible show wpAny _ _ (exec (Stmt.While _ _ _ _) _) _ _ _)); (fail_if_success (with_reducible show wpAny _ _ (exec (Stmt.For _ _ _ _ _) _) _ _ _)); (fail_if_success (with_reducible show wpAny _ _ (call (Value.builtin "re.Pattern.search") _) _ _ _)); (first | ((first | (with_reducible show wpAny _ _ (execs _ _) _ _ _) | (with_reducible show wpAny _ _ (PySem.isTrue _ _ _) _ _ _)); (dsimp only); walk1) | (k_unfold; (try dsimp only)) | (k_end; wrow_close) | walk1 | (dsimp only; walk1) | (leave1; walk_say "STEP leave1"; try dsimp only) | fail "no step"))
  (rename News _ _ _ _ => N2)
  refine re_search ((X1.keeps F1.keep) 36 patObj (by rfl)) ((X1.keeps F1.keep) 35 codObj (by rfl)) (by omega) hg ?_
  cases b with
  | true =>
    refine .inl ⟨ho, ?_⟩
    repeat' ((fail_if_success (with_reducible show Lfp _ _ _ _ _ _ _)); (fail_if_success (with_reducible show TurnW _ _ _ _ _ _ _ _ _ _)); (fail_if_success (with_reducible show TurnF _ _ _ _ _ _ _ _ _)); (fail_if_success (with_reducible show CutF _ _ _ _ _ _ _ _ _)); (fail_if_success (with_reducible show Q _ _)); (fail_if_success (with_reducible show wpAny _ _ (exec (Stmt.While _ _ _ _) _) _ _ _)); (fail_if_success (with_reducible show wpAny _ _ (exec (Stmt.For _ _ _ _ _) _) _ _ _)); (first | ((first | (with_reducible show wpAny _ _ (execs _ _) _ _ _) | (with_reducible show wpAny _ _ (PySem.isTrue _ _ _) _ _ _)); (dsimp only); walk1) | (k_unfold; (try dsimp only)) | (k_end; wrow_close) | walk1 | (dsimp only; walk1) | (leave1; walk_say "STEP leave1"; try dsimp only) | fail "no step"))
    exact hret _ [] _ _ ⟨rfl, rfl⟩ (by k_asm) (by k_asm) (fun _ _ _ h9 => nomatch h9)
  | false =>
    refine .inr ⟨ho, ?_⟩
    intro o₁ o₂ hc hd' hf
    have F3 := (F1.push o₁).push o₂
    have N3 := (News.pushKeep N2 o₁).pushKeep o₂
    refine truthy_match (get_pushed hf) hc ?_
    clear N2
    repeat' ((fail_if_success (with_reducible show Lfp _ _ _ _ _ _ _)); (fail_if_success (with_reducible show TurnW _ _ _ _ _ _ _ _ _ _)); (fail_if_success (with_reducible show TurnF _ _ _ _ _ _ _ _ _)); (fail_if_success (with_reducible show CutF _ _ _ _ _ _ _ _ _)); (fail_if_success (with_reducible show Q _ _)); (fail_if_success (with_reducible show wpAny _ _ (exec (Stmt.While _ _ _ _) _) _ _ _)); (fail_if_success (with_reducible show wpAny _ _ (exec (Stmt.For _ _ _ _ _) _) _ _ _)); (first | ((first | (with_reducible show wpAny _ _ (execs _ _) _ _ _) | (with_reducible show wpAny _ _ (PySem.isTrue _ _ _) _ _ _)); (dsimp only); walk1) | (k_unfold; (try dsimp only)) | (k_end; wrow_close) | walk1 | (dsimp only; walk1) | (leave1; walk_say "STEP leave1"; try dsimp only) | fail "no step"))
    exact hret _ [] _ _ ⟨rfl, rfl⟩ (by k_asm) (by k_asm) (fun _ _ _ h9 => nomatch h9)
set_option maxRecDepth 100000 in
set_option maxHeartbeats 4000000 in
theorem hdn_c (w : World) (mean : ExcName → Option Value) (mg mb : Str → Option Value) (news : List (Addr × Obj)) (x : Str) (tkx : Tok)
    (lx : x.length ≤ 20) (l1 : 1 ≤ x.length) (h0 : (Txt.item x 0 == Str.ofString ".") = false) (h1 : (Txt.item x (-1) == Str.ofString ".") = false) {b : Bool} (hb : Says x b) :
    Ctr 4 w mean mg mb 43 news [.str x tkx] (fun r tl => tl = [] ∧ r = .bool b) := by
  obtain ⟨m', hg, ho⟩ := hb
  unfold Ctr Pg Lo
  w_top off
  k_fill
  intro dp un gd cn cs a ccd cl outer A₀ base h₀ L m s Q E B F X N T hk hd hu hret
  refine wpAny_call ?_
  k_dflt cell_enter
  (rename Fr _ _ _ _ => F0)
  obtain ⟨m1, F1⟩ := fr_open F0 [(Str.ofString "text", .str x tkx)] (.cons rfl .nil)
  clear F0
  dsimp only [kstB] at F1
  (rename Frag.In _ _ => X1)
  repeat' ((fail_if_success (with_reducible show Lfp _ _ _ _ _ _ _)); (fail_if_success (with_reducible show TurnW _ _ _ _ _ _ _ _ _ _)); (fail_if_success (with_reducible show TurnF _ _ _ _ _ _ _ _ _)); (fail_if_success (with_reducible show CutF _ _ _ _ _ _ _ _ _)); (fail_if_success (with_reducible show Q _ _)); (fail_if_success (with_reducible show wpAny _ _ (exec (Stmt.While _ _ _ _) _) _ _ _)); (fail_if_success (with_reducible show wpAny _ _ (exec (Stmt.For _ _ _ _ _) _) _ _ _)); (fail_if_success (with_reducible show wpAny _ _ (getMethod (Value.ref _) _ _) _ _ _)); (first | ((first | (with_reducible show wpAny _ _ (execs _ _) _ _ _) | (with_reducible show wpAny _ _ (PySem.isTrue _ _ _) _ _ _)); (dsimp only); walk1) | (k_unfold; (try dsimp only)) | (k_end; wrow_close) | walk1 | (dsimp only; walk1) | (leave1; walk_say "STEP leave1"; try dsimp only) | fail "no step"))
  refine re_method ((X1.keeps F1.keep) 36 patObj (by rfl)) ?_
  repeat' ((fail_if_success (with_reducible show Lfp _ _ _ _ _ _ _)); (fail_if_success (with_reducible show TurnW _ _ _ _ _ _ _ _ _ _)); (fail_if_success (with_reducible show TurnF _ _ _ _ _ _ _ _ _)); (fail_if_success (with_reducible show CutF _ _ _ _ _ _ _ _ _)); (fail_if_success (with_reducible show Q _ _)); (fail_if_success (with_reducible show wpAny _ _ (exec (Stmt.While _ _ _ _) _) _ _ _)); (fail_if_success (with_reducible show wpAny _ _ (exec (Stmt.For _ _ _ _ _) _) _ _ _)); (fail_if_success (with_reducible show wpAny _ _ (call (Value.builtin "re.Pattern.search") _) _ _ _)); (first | ((first | (with_reducible show wpAny _ _ (execs _ _) _ _ _) | (with_reducible show wpAny _ _ (PySem.isTrue _ _ _) _ _ _)); (dsimp only); walk1) | (k_unfold; (try dsimp only)) | (k_end; wrow_close) | walk1 | (dsimp only; walk1) | (leave1; walk_say "STEP leave1"; try dsimp only) | fail "no step"))
  (rename News _ _ _ _ => N2)
  refine re_search ((X1.keeps F1.keep) 36 patObj (by rfl)) ((X1.keeps F1.keep) 35 codObj (by rfl)) (by omega) hg ?_
  cases b with
  | true =>
    refine .inl ⟨ho, ?_⟩
    repeat' ((fail_if_success (with_reducible show Lfp _ _ _ _ _ _ _)); (fail_if_success (with_reducible show TurnW _ _ _ _ _ _ _ _ _ _)); (fail_if_success (with_reducible show TurnF _ _ _ _ _ _ _ _ _)); (fail_if_success (with_reducible show CutF _ _ _ _ _ _ _ _ _)); (fail_if_success (with_reducible show Q _ _)); (fail_if_success (with_reducible show wpAny _ _ (exec (Stmt.While _ _ _ _) _) _ _ _)); (fail_if_success (with_reducible show wpAny _ _ (exec (Stmt.For _ _ _ _ _) _) _ _ _)); (first | ((first | (with_reducible show wpAny _ _ (execs _ _) _ _ _) | (with_reducible show wpAny _ _ (PySem.isTrue _ _ _) _ _ _)); (dsimp only); walk1) | (k_unfold; (try dsimp only)) | (k_end; wrow_close) | walk1 | (dsimp only; walk1) | (leave1; walk_say "STEP leave1"; try dsimp only) | fail "no step"))
    · exfalso
      (rename (x == _) = true => e9)
      have e8 : x = Str.ofString "" := by simpa using e9
      rw [e8] at l1
      exact absurd l1 (by decide)
    · exact hret _ [] _ _ ⟨rfl, rfl⟩ (by k_asm) (by k_asm) (fun _ _ _ h9 => nomatch h9)
  | false =>
    refine .inr ⟨ho, ?_⟩
    intro o₁ o₂ hc hd' hf
    have F3 := (F1.push o₁).push o₂
    have N3 := (News.pushKeep N2 o₁).pushKeep o₂
    refine truthy_match (get_pushed hf) hc ?_
    clear N2
    repeat' ((fail_if_success (with_reducible show Lfp _ _ _ _ _ _ _)); (fail_if_success (with_reducible show TurnW _ _ _ _ _ _ _ _ _ _)); (fail_if_success (with_reducible show TurnF _ _ _ _ _ _ _ _ _)); (fail_if_success (with_reducible show CutF _ _ _ _ _ _ _ _ _)); (fail_if_success (with_reducible show Q _ _)); (fail_if_success (with_reducible show wpAny _ _ (exec (Stmt.While _ _ _ _) _) _ _ _)); (fail_if_success (with_reducible show wpAny _ _ (exec (Stmt.For _ _ _ _ _) _) _ _ _)); (first | ((first | (with_reducible show wpAny _ _ (execs _ _) _ _ _) | (with_reducible show wpAny _ _ (PySem.isTrue _ _ _) _ _ _)); (dsimp only); walk1) | (k_unfold; (try dsimp only)) | (k_end; wrow_close) | walk1 | (dsimp only; walk1) | (leave1; walk_say "STEP leave1"; try dsimp only) | fail "no step"))
    exact hret _ [] _ _ ⟨rfl, rfl⟩ (by k_asm) (by k_asm) (fun _ _ _ h9 => nomatch h9)

abbrev dot : Str := Str.ofString "."
def cutAt (x : Str) : Str := Txt.slice x (some (Txt.find x dot + 1)) none
/-- what reach gives back -/
def reachOf (x : Str) (b : Bool) : Str := if 0 ≤ Txt.find x dot ∧ b = true ∧ (0 ≤ Txt.find (cutAt x) dot ∨ cutAt x = Str.ofString "local") then dot ++ cutAt x else x
set_option maxRecDepth 100000 in
set_option maxHeartbeats 4000000 in
theorem reach_c (w : World) (mean : ExcName → Option Value) (mg mb : Str → Option Value) (news : List (Addr × Obj)) (x : Str) (tkx : Tok)
    (lx : x.length ≤ 20) (l1 : 1 ≤ x.length) (h0 : (Txt.item x 0 == Str.ofString ".") = false) (h1 : (Txt.item x (-1) == Str.ofString ".") = false) {b : Bool} (hb : Says x b) :
    Ctr 8 w mean mg mb 64 news [.str x tkx] (fun r tl => tl = [] ∧ ∃ t, r = .str (reachOf x b) t) := by
  unfold Ctr Pg Lo
  w_top off
  k_fill
  intro dp un gd cn cs a ccd cl outer A₀ base h₀ L m s Q E B F X N T hk hd hu hret
  refine wpAny_call ?_
  k_dflt cell_enter
  (rename Fr _ _ _ _ => F0)
  obtain ⟨m1, F1⟩ := fr_open F0 [(Str.ofString "h", .str x tkx)] (.cons rfl .nil)
  clear F0
  dsimp only [kstB] at F1
  repeat' ((fail_if_success (with_reducible show Lfp _ _ _ _ _ _ _)); (fail_if_success (with_reducible show TurnW _ _ _ _ _ _ _ _ _ _)); (fail_if_success (with_reducible show TurnF _ _ _ _ _ _ _ _ _)); (fail_if_success (with_reducible show CutF _ _ _ _ _ _ _ _ _)); (fail_if_success (with_reducible show Q _ _)); (fail_if_success (with_reducible show wpAny _ _ (exec (Stmt.While _ _ _ _) _) _ _ _)); (fail_if_success (with_reducible show wpAny _ _ (exec (Stmt.For _ _ _ _ _) _) _ _ _)); (fail_if_success (with_reducible show wpAny _ _ (call (Value.ref _) _) _ _ _)); (first | ((first | (with_reducible show wpAny _ _ (execs _ _) _ _ _) | (with_reducible show wpAny _ _ (PySem.isTrue _ _ _) _ _ _)); (dsimp only); walk1) | (k_unfold; (try dsimp only)) | (k_end; wrow_close) | walk1 | (dsimp only; walk1) | (leave1; walk_say "STEP leave1"; try dsimp only) | fail "no step"))
  · (rename Fr _ _ _ _ => F2); (rename News _ _ _ _ => N2)
    refine (hdn_c w mean mg mb _ x _ lx l1 h0 h1 hb) _ _ _ _ _ _ _ _ _ _ _ _ _ _ _ _ _ (by k_asm) F2 (by k_asm) N2 (by k_asm) rfl (by show dp + 1 + 4 < recursionLimit; omega) (by show un + 3 + 16 * 4 < cLine; omega) ?_
    rintro rv tl h5 tk5 ⟨etl, erv⟩ F9 N9 -
    subst etl; subst erv
    dsimp only [List.nil_append] at N9
    (rename 0 ≤ Txt.find x _ => hfx)
    cases b with
    | true =>
      repeat' ((fail_if_success (with_reducible show Lfp _ _ _ _ _ _ _)); (fail_if_success (with_reducible show TurnW _ _ _ _ _ _ _ _ _ _)); (fail_if_success (with_reducible show TurnF _ _ _ _ _ _ _ _ _)); (fail_if_success (with_reducible show CutF _ _ _ _ _ _ _ _ _)); (fail_if_success (with_reducible show Q _ _)); (fail_if_success (with_reducible show wpAny _ _ (exec (Stmt.While _ _ _ _) _) _ _ _)); (fail_if_success (with_reducible show wpAny _ _ (exec (Stmt.For _ _ _ _ _) _) _ _ _)); (first | ((first | (with_reducible show wpAny _ _ (execs _ _) _ _ _) | (with_reducible show wpAny _ _ (PySem.isTrue _ _ _) _ _ _)); (dsimp only); walk1) | (k_unfold; (try dsimp only)) | (k_end; wrow_close) | walk1 | (dsimp only; walk1) | (leave1; walk_say "STEP leave1"; try dsimp only) | fail "no step"))
      · exact hret _ [] _ _ ⟨rfl, _, by unfold reachOf cutAt; rw [if_pos ⟨hfx, rfl, .inl (by assumption)⟩]⟩ (by k_asm) (by k_asm) (fun _ _ _ h9 => nomatch h9)
      · exact hret _ [] _ _ ⟨rfl, _, by unfold reachOf cutAt; rw [if_pos ⟨hfx, rfl, .inr (beq_iff_eq.mp (by assumption))⟩]⟩ (by k_asm) (by k_asm) (fun _ _ _ h9 => nomatch h9)
      · exact hret _ [] _ _ ⟨rfl, _, by
          unfold reachOf cutAt
          rw [if_neg]
          rintro ⟨_, _, hq | hq⟩
          · contradiction
          · (rename (_ == _) = false => e9); rw [hq] at e9; revert e9; decide +kernel⟩ (by k_asm) (by k_asm) (fun _ _ _ h9 => nomatch h9)
    | false =>
      repeat' ((fail_if_success (with_reducible show Lfp _ _ _ _ _ _ _)); (fail_if_success (with_reducible show TurnW _ _ _ _ _ _ _ _ _ _)); (fail_if_success (with_reducible show TurnF _ _ _ _ _ _ _ _ _)); (fail_if_success (with_reducible show CutF _ _ _ _ _ _ _ _ _)); (fail_if_success (with_reducible show Q _ _)); (fail_if_success (with_reducible show wpAny _ _ (exec (Stmt.While _ _ _ _) _) _ _ _)); (fail_if_success (with_reducible show wpAny _ _ (exec (Stmt.For _ _ _ _ _) _) _ _ _)); (first | ((first | (with_reducible show wpAny _ _ (execs _ _) _ _ _) | (with_reducible show wpAny _ _ (PySem.isTrue _ _ _) _ _ _)); (dsimp only); walk1) | (k_unfold; (try dsimp only)) | (k_end; wrow_close) | walk1 | (dsimp only; walk1) | (leave1; walk_say "STEP leave1"; try dsimp only) | fail "no step"))
      all_goals exact hret _ [] _ _ ⟨rfl, _, by unfold reachOf; rw [if_neg (fun h => by cases h.2.1)]⟩ (by k_asm) (by k_asm) (fun _ _ _ h9 => nomatch h9)
  · exact hret _ [] _ _ ⟨rfl, _, by unfold reachOf; rw [if_neg (fun h => absurd h.1 (by assumption))]⟩ (by k_asm) (by k_asm) (fun _ _ _ h9 => nomatch h9)
/-- what user_domain_match gives back, of the two texts in small letters -/
def udmOf (x y : Str) (bx bY : Bool) : Bool := if bx && bY then (Txt.startswith y dot && Txt.endswith x y) || (!Txt.startswith y dot && x == y) else x == y
set_option maxRecDepth 100000 in
set_option maxHeartbeats 4000000 in
theorem udm_c (w : World) (mean : ExcName → Option Value) (mg mb : Str → Option Value) (news : List (Addr × Obj)) (x y X Y : Str) (tkx tky : Tok)
    (lX : X.length ≤ 20) (lY : Y.length ≤ 20) (eX : Txt.lower X = x) (eY : Txt.lower Y = y) (lx : x.length ≤ 20) (ly : y.length ≤ 20) {bx bY : Bool} (hx : Says x bx) (hy : Says y bY) :
    Ctr 8 w mean mg mb 57 news [.str X tkx, .str Y tky] (fun r tl => tl = [] ∧ r = .bool (udmOf x y bx bY)) := by
  unfold Ctr Pg Lo
  w_top off
  k_fill
  intro dp un gd cn cs a ccd cl outer A₀ base h₀ L m s Q E B F XI N T hk hd hu hret
  refine wpAny_call ?_
  k_dflt cell_enter
  (rename Fr _ _ _ _ => F0)
  obtain ⟨m1, F1⟩ := fr_open F0 [(Str.ofString "A", .str X tkx), (Str.ofString "B", .str Y tky)] (.cons rfl (.cons rfl .nil))
  clear F0
  dsimp only [kstB] at F1
  subst eX; subst eY
  repeat' ((fail_if_success (with_reducible show Lfp _ _ _ _ _ _ _)); (fail_if_success (with_reducible show TurnW _ _ _ _ _ _ _ _ _ _)); (fail_if_success (with_reducible show TurnF _ _ _ _ _ _ _ _ _)); (fail_if_success (with_reducible show CutF _ _ _ _ _ _ _ _ _)); (fail_if_success (with_reducible show Q _ _)); (fail_if_success (with_reducible show wpAny _ _ (exec (Stmt.While _ _ _ _) _) _ _ _)); (fail_if_success (with_reducible show wpAny _ _ (exec (Stmt.For _ _ _ _ _) _) _ _ _)); (fail_if_success (with_reducible show wpAny _ _ (call (Value.ref _) _) _ _ _)); (first | ((first | (with_reducible show wpAny _ _ (execs _ _) _ _ _) | (with_reducible show wpAny _ _ (PySem.isTrue _ _ _) _ _ _)); (dsimp only); walk1) | (k_unfold; (try dsimp only)) | (k_end; wrow_close) | walk1 | (dsimp only; walk1) | (leave1; walk_say "STEP leave1"; try dsimp only) | fail "no step"))
  (rename Fr _ _ _ _ => F2); (rename News _ _ _ _ => N2)
  refine (lib_c w mean mg mb _ _ _ lx hx) _ _ _ _ _ _ _ _ _ _ _ _ _ _ _ _ _ (by k_asm) F2 (by k_asm) N2 (by k_asm) rfl (by show dp + 1 + 4 < recursionLimit; omega) (by show un + 3 + 16 * 4 < cLine; omega) ?_
  rintro rv tl h5 tk5 ⟨etl, erv⟩ F9 N9 -
  subst etl; subst erv
  dsimp only [List.nil_append] at N9
  cases bx with
  | false =>
    repeat' ((fail_if_success (with_reducible show Lfp _ _ _ _ _ _ _)); (fail_if_success (with_reducible show TurnW _ _ _ _ _ _ _ _ _ _)); (fail_if_success (with_reducible show TurnF _ _ _ _ _ _ _ _ _)); (fail_if_success (with_reducible show CutF _ _ _ _ _ _ _ _ _)); (fail_if_success (with_reducible show Q _ _)); (fail_if_success (with_reducible show wpAny _ _ (exec (Stmt.While _ _ _ _) _) _ _ _)); (fail_if_success (with_reducible show wpAny _ _ (exec (Stmt.For _ _ _ _ _) _) _ _ _)); (first | ((first | (with_reducible show wpAny _ _ (execs _ _) _ _ _) | (with_reducible show wpAny _ _ (PySem.isTrue _ _ _) _ _ _)); (dsimp only); walk1) | (k_unfold; (try dsimp only)) | (k_end; wrow_close) | walk1 | (dsimp only; walk1) | (leave1; walk_say "STEP leave1"; try dsimp only) | fail "no step"))
    all_goals ((rename (Txt.lower X == Txt.lower Y) = _ => e9); exact hret _ [] _ _ ⟨rfl, congrArg Value.bool (by unfold udmOf; simp [e9])⟩ (by k_asm) (by k_asm) (fun _ _ _ h9 => nomatch h9))
  | true =>
    repeat' ((fail_if_success (with_reducible show Lfp _ _ _ _ _ _ _)); (fail_if_success (with_reducible show TurnW _ _ _ _ _ _ _ _ _ _)); (fail_if_success (with_reducible show TurnF _ _ _ _ _ _ _ _ _)); (fail_if_success (with_reducible show CutF _ _ _ _ _ _ _ _ _)); (fail_if_success (with_reducible show Q _ _)); (fail_if_success (with_reducible show wpAny _ _ (exec (Stmt.While _ _ _ _) _) _ _ _)); (fail_if_success (with_reducible show wpAny _ _ (exec (Stmt.For _ _ _ _ _) _) _ _ _)); (fail_if_success (with_reducible show wpAny _ _ (call (Value.ref _) _) _ _ _)); (first | ((first | (with_reducible show wpAny _ _ (execs _ _) _ _ _) | (with_reducible show wpAny _ _ (PySem.isTrue _ _ _) _ _ _)); (dsimp only); walk1) | (k_unfold; (try dsimp only)) | (k_end; wrow_close) | walk1 | (dsimp only; walk1) | (leave1; walk_say "STEP leave1"; try dsimp only) | fail "no step"))
    (rename Fr _ _ _ _ => F2); (rename News _ _ _ _ => N2)
    refine (lib_c w mean mg mb _ _ _ ly hy) _ _ _ _ _ _ _ _ _ _ _ _ _ _ _ _ _ (by k_asm) F2 (by k_asm) N2 (by k_asm) rfl (by show dp + 1 + 4 < recursionLimit; omega) (by show un + 3 + 16 * 4 < cLine; omega) ?_
    rintro rv tl h5 tk5 ⟨etl, erv⟩ F9 N9 -
    subst etl; subst erv
    dsimp only [List.nil_append] at N9
    cases bY with
    | false =>
      repeat' ((fail_if_success (with_reducible show Lfp _ _ _ _ _ _ _)); (fail_if_success (with_reducible show TurnW _ _ _ _ _ _ _ _ _ _)); (fail_if_success (with_reducible show TurnF _ _ _ _ _ _ _ _ _)); (fail_if_success (with_reducible show CutF _ _ _ _ _ _ _ _ _)); (fail_if_success (with_reducible show Q _ _)); (fail_if_success (with_reducible show wpAny _ _ (exec (Stmt.While _ _ _ _) _) _ _ _)); (fail_if_success (with_reducible show wpAny _ _ (exec (Stmt.For _ _ _ _ _) _) _ _ _)); (first | ((first | (with_reducible show wpAny _ _ (execs _ _) _ _ _) | (with_reducible show wpAny _ _ (PySem.isTrue _ _ _) _ _ _)); (dsimp only); walk1) | (k_unfold; (try dsimp only)) | (k_end; wrow_close) | walk1 | (dsimp only; walk1) | (leave1; walk_say "STEP leave1"; try dsimp only) | fail "no step"))
      all_goals ((rename (Txt.lower X == Txt.lower Y) = _ => e9); exact hret _ [] _ _ ⟨rfl, congrArg Value.bool (by unfold udmOf; simp [e9])⟩ (by k_asm) (by k_asm) (fun _ _ _ h9 => nomatch h9))
    | true =>
      repeat' ((fail_if_success (with_reducible show Lfp _ _ _ _ _ _ _)); (fail_if_success (with_reducible show TurnW _ _ _ _ _ _ _ _ _ _)); (fail_if_success (with_reducible show TurnF _ _ _ _ _ _ _ _ _)); (fail_if_success (with_reducible show CutF _ _ _ _ _ _ _ _ _)); (fail_if_success (with_reducible show Q _ _)); (fail_if_success (with_reducible show wpAny _ _ (exec (Stmt.While _ _ _ _) _) _ _ _)); (fail_if_success (with_reducible show wpAny _ _ (exec (Stmt.For _ _ _ _ _) _) _ _ _)); (first | ((first | (with_reducible show wpAny _ _ (execs _ _) _ _ _) | (with_reducible show wpAny _ _ (PySem.isTrue _ _ _) _ _ _)); (dsimp only); walk1) | (k_unfold; (try dsimp only)) | (k_end; wrow_close) | walk1 | (dsimp only; walk1) | (leave1; walk_say "STEP leave1"; try dsimp only) | fail "no step"))
      all_goals (rename Txt.startswith _ _ = _ => e8)
      all_goals first
        | ((rename Txt.endswith _ _ = _ => e9); exact hret _ [] _ _ ⟨rfl, congrArg Value.bool (by unfold udmOf; simp [e8, e9])⟩ (by k_asm) (by k_asm) (fun _ _ _ h9 => nomatch h9))
        | ((rename (Txt.lower X == Txt.lower Y) = _ => e9); exact hret _ [] _ _ ⟨rfl, congrArg Value.bool (by unfold udmOf; simp [e8, e9])⟩ (by k_asm) (by k_asm) (fun _ _ _ h9 => nomatch h9))
end Mine
end
section
open PySem PySem.W PyProof.Rows
namespace Mine
/-! a list comprehension whose i-th item is known by R -/
section
variable {prog : Program} {w : World} {A : Around} {h₀ : Heap} {L : Addr} {m : Str → Option Value} {env : Env} {elt : Expr} {x : Str} {scope : Scope} {cl : List (Str × Addr)} {s : Shared} {S : List (Addr × Obj) → Prop} {P : Nat → Value → Prop} {Fin : List Value → List (Addr × Obj) → Prop} {news : List (Addr × Obj)}
theorem comp_any {n : Nat} (R : Nat → Value → Prop)
    (turn : ∀ (i : Nat) (v : Value) (I : Addr) (oI : Obj) (C : Addr) (oC : Obj) (D : Addr) (m₂ : Str → Option Value) (ys : List Value) (h : Heap) (tk : Nat) (E' : Value → Shared → Prop), i < n → P i v → LCg.NsObj oC m₂ → m₂ x = some v → Fr h₀ L h m → News h₀ L h ((I, oI) :: (C, oC) :: (D, LCg.lst ys) :: news) → LCg.Off3 I C D news → ((@Ne Nat I C) ∧ (@Ne Nat I D) ∧ (@Ne Nat C D)) → S news →
      wpAny (model prog w) A (eval elt (compEnvC scope cl C env)) (LCg.CompEnd h₀ L m { s with heap := h, toks := tk } I oI C oC D (LCg.lst ys) S (fun y news' => news' = news ∧ R i y)) E' { s with heap := h, toks := tk })
    (hS : S news) (fin : ∀ ys : List Value, ys.length = n → (∀ (i : Nat) (y : Value), ys[i]? = some y → R i y) → Fin ys news) : LCg.CompRest prog w A h₀ L m env elt x scope cl s S P Fin n 0 [] news := by
  have key : ∀ (j i : Nat) (ys : List Value), i + j = n → ys.length = i → (∀ (k : Nat) (y : Value), ys[k]? = some y → R k y) → LCg.CompRest prog w A h₀ L m env elt x scope cl s S P Fin j i ys news := by
    intro j
    induction j with
    | zero =>
      intro i ys hi hl hy
      exact LCg.CompRest.zero (fin ys (by omega) hy)
    | succ j ih =>
      intro i ys hi hl hy
      refine LCg.CompRest.succ ?_
      intro v I oI C oC D m₂ h tk E' hv hC hx F N off ne
      refine wpAny_mono (turn i v I oI C oC D m₂ ys h tk E' (by omega) hv hC hx F N off ne hS) (fun y s₂ hq => ?_) fun _ _ e => e
      obtain ⟨h', tk', nw, e, F', N', off', hS', hn, hr⟩ := hq
      rw [hn] at N' off' hS'
      refine ⟨h', tk', news, e, F', N', off', hS', ?_⟩
      refine ih (i + 1) _ (by omega) (by simp [hl]) fun k y hk => ?_
      rw [List.getElem?_append] at hk
      split at hk
      · exact hy k y hk
      · have hk' : k = i := by
          have : k - ys.length = 0 := by
            rcases Nat.eq_zero_or_pos (k - ys.length) with h0 | h0
            · exact h0
            · rw [List.getElem?_eq_none (by simp; omega)] at hk; cases hk
          omega
        subst hk'
        rw [hl, Nat.sub_self] at hk
        have : y = _ := (Option.some.inj hk).symm
        subst this
        exact hr
  exact key n 0 [] (by omega) rfl (fun k y h => by simp at h)
end

/-! labels -/
abbrev sA : Str := Str.ofString "a"
abbrev sB : Str := Str.ofString "b"
abbrev s7 : Str := Str.ofString "7"
abbrev sL : Str := Str.ofString "local"
def Lab (l : Str) : Prop := l = sA ∨ l = sB ∨ l = s7
def Lst (l : Str) : Prop := Lab l ∨ l = sL
def Good (n : Nat) (ls : List Str) : Prop := ∃ init last, ls = init ++ [last] ∧ init.length ≤ n ∧ (∀ l ∈ init, Lab l) ∧ Lst last
theorem lab_item {e : Int} (h0 : 0 ≤ e) (h1 : e < 3) : Lab (Txt.item (Str.ofString "ab7") e) := by
  have h : e = 0 ∨ e = 1 ∨ e = 2 := by omega
  rcases h with rfl | rfl | rfl
  · exact .inl (by decide +kernel)
  · exact .inr (.inl (by decide +kernel))
  · exact .inr (.inr (by decide +kernel))
theorem lab_item2 {e : Int} (h0 : 0 ≤ e) (h1 : e < 3) : Lab (Txt.item (Str.ofString "ba7") e) := by
  have h : e = 0 ∨ e = 1 ∨ e = 2 := by omega
  rcases h with rfl | rfl | rfl
  · exact .inr (.inl (by decide +kernel))
  · exact .inl (by decide +kernel)
  · exact .inr (.inr (by decide +kernel))
theorem strs_of {vs : List Value} (Pl : Str → Prop) : (∀ (i : Nat) (y : Value), vs[i]? = some y → ∃ l t, y = Value.str l t ∧ Pl l) → ∃ ls, StrsAre vs ls ∧ (∀ l ∈ ls, Pl l) := by
  induction vs with
  | nil => exact fun _ => ⟨[], .nil, fun _ h => nomatch h⟩
  | cons v r ih =>
    intro h
    obtain ⟨l, t, rfl, hl⟩ := h 0 v (by simp)
    obtain ⟨ls, h1, h2⟩ := ih fun i y hy => h (i + 1) y (by simpa using hy)
    exact ⟨l :: ls, .cons _ _ h1, fun k hk => by
      rcases List.mem_cons.mp hk with rfl | hk
      · exact hl
      · exact h2 k hk⟩
end Mine
namespace Mine
section
variable {prog : Program} {w : World} {A : Around} {E : Value → Shared → Prop} {s : Shared} {h₀ : Heap} {L l : Addr} {m : Str → Option Value} {news : List (Addr × Obj)} {us ws : List Value} {c : Nat} {value slice : Expr} {vl vu : Value} {lo hi : Option Int} {Q : Value → Shared → Prop}
theorem slice_vals (F : Fr h₀ L s.heap m) (N : News h₀ L s.heap news) (hm : (l, listOf us.toArray c) ∈ news) (pl : IsPart vl lo) (pu : IsPart vu hi) (hp : slicePick us.toArray lo hi none = ws.toArray) (hl : us.length ≤ 1000)
    (h : ∀ D h', Fr h₀ L h' m → News h₀ L h' ((D, listOf ws.toArray 0) :: news) → (∀ p ∈ news, p.1 < D) → Q (.ref D) { s with heap := h' })
    (hs : subscripted slice false (.ref l) (.ref s.heap.objs.size) = operate [.ref s.heap.objs.size, .ref l] (getItem (.ref l) (.ref s.heap.objs.size)) := by with_unfolding_all rfl)
    (ht : ∀ r, letTemporaryGo value (.ref l) r = pure () := by intro _; with_unfolding_all rfl) :
    wpAny (model prog w) A (subscriptTail value slice (.ref l) (.ref s.heap.objs.size)) Q E { s with heap := s.heap.push { cls := .type "slice", data := .fields #[vl, vu, .none] } } :=
  slice_list F N ⟨_, (N _ hm).1, rfl, c, rfl⟩ pl pu (fun h' F' N' => h _ h' F' (by rw [hp] at N'; exact N') fun p hp => Nat.lt_succ_of_lt (Heap.lt_size (N p hp).1)) hs ht (by rw [sizeLine_eq, List.size_toArray]; omega)
theorem pick_from (us : List Value) {e : Int} (h : 0 ≤ e) : slicePick us.toArray (some e) none none = (us.drop e.toNat).toArray := by
  have := slicePick_from' us.toArray e.toNat
  rw [Int.toNat_of_nonneg h] at this
  exact this
theorem pick_but (us : List Value) : slicePick us.toArray none (some (-1)) none = us.dropLast.toArray := by
  have := slicePick_butLast us.toArray 1 (Nat.le_refl _)
  rw [List.dropLast_eq_take]
  simpa using this
theorem pick_last (us : List Value) : slicePick us.toArray (some (-1)) none none = (us.drop (us.length - 1)).toArray := by
  have := slicePick_last us.toArray 1 (Nat.le_refl _)
  simpa using this
end
theorem strs_drop : ∀ {us : List Value} {ls : List Str}, StrsAre us ls → ∀ e, StrsAre (us.drop e) (ls.drop e)
  | _, _, .nil, e => by simp; exact .nil
  | _, _, .cons y t h, 0 => .cons y t h
  | _, _, .cons y t h, e + 1 => strs_drop h e
theorem strs_take : ∀ {us : List Value} {ls : List Str}, StrsAre us ls → ∀ e, StrsAre (us.take e) (ls.take e)
  | _, _, .nil, e => by simp; exact .nil
  | _, _, .cons y t h, 0 => .nil
  | _, _, .cons y t h, e + 1 => .cons y t (strs_take h e)
theorem strs_dropLast {us : List Value} {ls : List Str} (h : StrsAre us ls) : StrsAre us.dropLast ls.dropLast := by
  rw [List.dropLast_eq_take, List.dropLast_eq_take, PyProof.Rows.StrsAre.length h]
  exact strs_take h _
theorem Good.len {n : Nat} {ls : List Str} (h : Good n ls) : 1 ≤ ls.length ∧ ls.length ≤ n + 1 := by obtain ⟨i, l, rfl, h1, _⟩ := h; simp; omega
theorem Good.drop {n e : Nat} {ls : List Str} (h : Good n ls) (he : e < ls.length) : Good n (ls.drop e) := by
  obtain ⟨i, l, rfl, h1, h2, h3⟩ := h
  simp at he
  refine ⟨i.drop e, l, ?_, by simp; omega, fun x hx => h2 x (List.mem_of_mem_drop hx), h3⟩
  rw [List.drop_append_of_le_length (by omega)]
theorem Good.up {n : Nat} {ls : List Str} (h : Good n ls) : Good (n + 1) ls := by obtain ⟨i, l, e, h1, h2, h3⟩ := h; exact ⟨i, l, e, by omega, h2, h3⟩
theorem Good.front {n : Nat} {ls : List Str} {x : Str} (h : Good n ls) (hx : Lab x) : Good (n + 1) (x :: ls) := by
  obtain ⟨i, l, rfl, h1, h2, h3⟩ := h
  exact ⟨x :: i, l, rfl, by simp; omega, fun y hy => by
    rcases List.mem_cons.mp hy with rfl | hy
    · exact hx
    · exact h2 y hy, h3⟩
theorem Good.first {n : Nat} {ls : List Str} {x : Str} (h : Good n ls) (hx : Lab x) : Good (n + 1) (x :: ls.drop 1) := by
  by_cases hl : 1 < ls.length
  · exact (h.drop hl).front hx
  · have : ls.drop 1 = [] := List.drop_eq_nil_of_le (by omega)
    rw [this]
    exact ⟨[], x, rfl, by simp, (fun _ h => nomatch h), .inl hx⟩
theorem Good.last {n : Nat} {ls : List Str} {x : Str} (h : Good n ls) (hx : Lst x) : Good (n + 1) (ls.dropLast ++ [x]) := by
  obtain ⟨i, l, rfl, h1, h2, h3⟩ := h
  exact ⟨i, x, by simp, by omega, h2, hx⟩
end Mine
namespace Mine
section
variable {prog : Program} {w : World} {A : Around} {E : Value → Shared → Prop} {s : Shared} {h₀ : Heap} {L l b : Addr} {m : Str → Option Value} {news : List (Addr × Obj)} {vs ws : List Value} {c c2 : Nat} {Q : Value → Shared → Prop}
theorem list_plus (F : Fr h₀ L s.heap m) (N : News h₀ L s.heap news) (h1 : (l, listOf vs.toArray c) ∈ news) (h2 : (b, listOf ws.toArray c2) ∈ news) (hz : vs.length + ws.length ≤ 1000)
    (h : ∀ D h', Fr h₀ L h' m → News h₀ L h' ((D, listOf (vs ++ ws).toArray 0) :: news) → (∀ p ∈ news, p.1 < D) → Q (.ref D) { s with heap := h' }) :
    wpAny (model prog w) A (binaryOp .Add (.ref l) (.ref b)) Q E s :=
  add_lists (hsz := by rw [sizeLine_eq]; omega) F N ⟨_, (N _ h1).1, rfl, c, rfl⟩ ⟨_, (N _ h2).1, rfl, c2, rfl⟩ fun h' F' N' => h _ h' F' N' fun p hp => Heap.lt_size (N p hp).1
end
end Mine
end
section
open PySem PySem.W PyProof.Rows
namespace Mine
set_option pp.deepTerms false
set_option pp.deepTerms.threshold 6
set_option maxRecDepth 100000 in
set_option maxHeartbeats 4000000 in
theorem labels_c (w : World) (mean : ExcName → Option Value) (mg mb : Str → Option Value) (news : List (Addr × Obj)) (x : Int) (tkx : Tok)
    (x0 : 0 ≤ x) (x1 : x < 432) :
    Ctr 8 w mean mg mb 83 news [.int x tkx] (fun r tl => ∃ D us c ls, r = .ref D ∧ tl = [(D, listOf us.toArray c)] ∧ StrsAre us ls ∧ Good 3 ls) := by
  unfold Ctr Pg Lo
  w_top off
  k_fill
  intro dp un gd cn cs a ccd cl outer A₀ base h₀ L m s Q E B F X N T hk hd hu hret
  refine wpAny_call ?_
  k_dflt (refine' code_defC ?k1 ?k2 ?k3 ?k4 ?k5 ?kA ?kF ?kK ?k6 ?k7 ?k8 ?k9 ?kB ?kD ?_ ?c2 ?c3 ?c4; (case kA => exact rfl); (case kF => exact rfl); (case kK => assumption); (case k1 => k_asm); (case k2 => k_asm); (case k3 => k_asm); (case k4 => k_asm); (case k5 => k_asm); (case k6 => k_is); (case k7 => k_is); (case k8 => ktr_room); (case k9 => exact BindsTo.of_eq rfl); (case kB => exact rfl); (case kD => decide +kernel); (case c2 => exact rfl); (case c3 => exact rfl); (case c4 => exact rfl); k_whole; intro g' L' h' tk' cells' FG' F' N' Y' B' X' T' l1; k_cells Y'; (try simp only [List.cons_append, List.nil_append] at N'); (try dsimp only); (try k_lift B'); (try k_fold))
  (rename_i oc dc)
  have d1 : oc.data = .cell (some (.int x tkx)) := dc
  clear dc
  repeat' ((fail_if_success (with_reducible show Lfp _ _ _ _ _ _ _)); (fail_if_success (with_reducible show TurnW _ _ _ _ _ _ _ _ _ _)); (fail_if_success (with_reducible show TurnF _ _ _ _ _ _ _ _ _)); (fail_if_success (with_reducible show CutF _ _ _ _ _ _ _ _ _)); (fail_if_success (with_reducible show Q _ _)); (fail_if_success (with_reducible show LCg.CompSrc _ _ _ _ _ _ _ _ _ _ _ _ _ _ )); (fail_if_success (with_reducible show LCg.CompEnd _ _ _ _ _ _ _ _ _ _ _ _ _ _ )); (fail_if_success (with_reducible show wpAny _ _ (exec (Stmt.While _ _ _ _) _) _ _ _)); (fail_if_success (with_reducible show wpAny _ _ (exec (Stmt.For _ _ _ _ _) _) _ _ _)); (fail_if_success (with_reducible show wpAny _ _ (exec (Stmt.Assign _ _ _) _) _ _ _)); (first | ((first | (with_reducible show wpAny _ _ (execs _ _) _ _ _) | (with_reducible show wpAny _ _ (PySem.isTrue _ _ _) _ _ _)); (dsimp only); walk1) | (k_unfold; (try dsimp only)) | (k_end; wrow_close) | walk1 | (dsimp only; walk1) | (leave1; walk_say "STEP leave1"; try dsimp only) | fail "no step"))
  k_dflt (refine LCg.Assign_ListComp_U (F₀ := by k_asm) (by rfl) (by with_unfolding_all rfl) (by with_unfolding_all rfl) (by decide) (by rfl) (by decide) (by rfl) (by rfl) (by rfl) ?_)
  repeat' ((fail_if_success (with_reducible show Lfp _ _ _ _ _ _ _)); (fail_if_success (with_reducible show TurnW _ _ _ _ _ _ _ _ _ _)); (fail_if_success (with_reducible show TurnF _ _ _ _ _ _ _ _ _)); (fail_if_success (with_reducible show CutF _ _ _ _ _ _ _ _ _)); (fail_if_success (with_reducible show Q _ _)); (fail_if_success (with_reducible show LCg.CompSrc _ _ _ _ _ _ _ _ _ _ _ _ _ _ )); (fail_if_success (with_reducible show LCg.CompEnd _ _ _ _ _ _ _ _ _ _ _ _ _ _ )); (fail_if_success (with_reducible show wpAny _ _ (exec (Stmt.While _ _ _ _) _) _ _ _)); (fail_if_success (with_reducible show wpAny _ _ (exec (Stmt.For _ _ _ _ _) _) _ _ _)); (first | ((first | (with_reducible show wpAny _ _ (execs _ _) _ _ _) | (with_reducible show wpAny _ _ (PySem.isTrue _ _ _) _ _ _)); (dsimp only); walk1) | (k_unfold; (try dsimp only)) | (k_end; wrow_close) | walk1 | (dsimp only; walk1) | (leave1; walk_say "STEP leave1"; try dsimp only) | fail "no step"))
  (rename IsRange _ _ _ _ _ _ _ _ => hR); (rename Fr _ _ _ _ => F2); (rename News _ _ _ _ => N2)
  have f0 := fmod_lo x (show (0 : Int) < 4 by decide)
  have f1 := fmod_hi x (show (0 : Int) < 4 by decide)
  refine LCg.CompSrc.range (n := (x.fmod 4).toNat) rfl F2 N2 hR (small_one (by omega) (by omega) (by omega) (by omega)) (by simp only [Builtin.Range.rangeSize]; split <;> split <;> omega) (by rw [sizeLine_eq]; omega) ?_
  clear F2 N2
  intro g1
  refine comp_any (fun _ y => ∃ l t, y = Value.str l t ∧ Lab l) ?_ trivial ?_
  · rintro i v I oI C oC D m₂ ys h2 tk2 E' hi ⟨t, rfl⟩ hC hx F2 N2 off ne -
    have hpow : (0 : Int) < 3 ^ (0 + (i : Int)).toNat := Int.pow_pos (by decide)
    have hpow2 : (3 : Int) ^ (0 + (i : Int)).toNat ≤ 27 := by
      have hi3 : i = 0 ∨ i = 1 ∨ i = 2 := by omega
      rcases hi3 with rfl | rfl | rfl <;> decide
    have hna : ((3 : Int) ^ (0 + (i : Int)).toNat).natAbs < 1073741824 := by
      generalize (3 : Int) ^ (0 + (i : Int)).toNat = pw at hpow hpow2 ⊢
      omega
    have hx4 : -1000 ≤ x.fdiv 4 ∧ x.fdiv 4 ≤ 1000 := by have := fdiv_fmod_facts x 4; omega
    repeat' ((fail_if_success (with_reducible show Lfp _ _ _ _ _ _ _)); (fail_if_success (with_reducible show TurnW _ _ _ _ _ _ _ _ _ _)); (fail_if_success (with_reducible show TurnF _ _ _ _ _ _ _ _ _)); (fail_if_success (with_reducible show CutF _ _ _ _ _ _ _ _ _)); (fail_if_success (with_reducible show Q _ _)); (fail_if_success (with_reducible show LCg.CompSrc _ _ _ _ _ _ _ _ _ _ _ _ _ _ )); (fail_if_success (with_reducible show LCg.CompEnd _ _ _ _ _ _ _ _ _ _ _ _ _ _ )); (fail_if_success (with_reducible show wpAny _ _ (exec (Stmt.While _ _ _ _) _) _ _ _)); (fail_if_success (with_reducible show wpAny _ _ (exec (Stmt.For _ _ _ _ _) _) _ _ _)); (first | ((first | (with_reducible show wpAny _ _ (execs _ _) _ _ _) | (with_reducible show wpAny _ _ (PySem.isTrue _ _ _) _ _ _)); (dsimp only); walk1) | (k_unfold; (try dsimp only)) | (k_end; wrow_close) | walk1 | (dsimp only; walk1) | (leave1; walk_say "STEP leave1"; try dsimp only) | fail "no step"))
    (rename Fr _ _ _ _ => F3); (rename News _ _ _ _ => N3)
    exact LCg.CompEnd.intro F3 N3 _ (fun _ h => h) off trivial ⟨rfl, _, _, rfl, lab_item (fmod_lo _ (by decide)) (fmod_hi _ (by decide))⟩
  · intro ys hl hy
    obtain ⟨ls, hls, hlab⟩ := strs_of Lab hy
    have g0 := fmod_lo (x.fdiv 108) (show (0 : Int) < 4 by decide)
    have g2 := fmod_hi (x.fdiv 108) (show (0 : Int) < 4 by decide)
    repeat' ((fail_if_success (with_reducible show Lfp _ _ _ _ _ _ _)); (fail_if_success (with_reducible show TurnW _ _ _ _ _ _ _ _ _ _)); (fail_if_success (with_reducible show TurnF _ _ _ _ _ _ _ _ _)); (fail_if_success (with_reducible show CutF _ _ _ _ _ _ _ _ _)); (fail_if_success (with_reducible show Q _ _)); (fail_if_success (with_reducible show LCg.CompSrc _ _ _ _ _ _ _ _ _ _ _ _ _ _ )); (fail_if_success (with_reducible show LCg.CompEnd _ _ _ _ _ _ _ _ _ _ _ _ _ _ )); (fail_if_success (with_reducible show wpAny _ _ (exec (Stmt.While _ _ _ _) _) _ _ _)); (fail_if_success (with_reducible show wpAny _ _ (exec (Stmt.For _ _ _ _ _) _) _ _ _)); (fail_if_success (with_reducible show wpAny _ _ (subscriptTail _ _ (Value.ref _) (Value.int _ _)) _ _ _)); (first | ((first | (with_reducible show wpAny _ _ (execs _ _) _ _ _) | (with_reducible show wpAny _ _ (PySem.isTrue _ _ _) _ _ _)); (dsimp only); walk1) | (k_unfold; (try dsimp only)) | (k_end; wrow_close) | walk1 | (dsimp only; walk1) | (leave1; walk_say "STEP leave1"; try dsimp only) | fail "no step"))
    generalize (x.fdiv 108).fmod 4 = e at *
    have he : e = 0 ∨ e = 1 ∨ e = 2 ∨ e = 3 := by omega
    rcases he with rfl | rfl | rfl | rfl
    all_goals repeat' ((fail_if_success (with_reducible show Lfp _ _ _ _ _ _ _)); (fail_if_success (with_reducible show TurnW _ _ _ _ _ _ _ _ _ _)); (fail_if_success (with_reducible show TurnF _ _ _ _ _ _ _ _ _)); (fail_if_success (with_reducible show CutF _ _ _ _ _ _ _ _ _)); (fail_if_success (with_reducible show Q _ _)); (fail_if_success (with_reducible show LCg.CompSrc _ _ _ _ _ _ _ _ _ _ _ _ _ _ )); (fail_if_success (with_reducible show LCg.CompEnd _ _ _ _ _ _ _ _ _ _ _ _ _ _ )); (fail_if_success (with_reducible show wpAny _ _ (exec (Stmt.While _ _ _ _) _) _ _ _)); (fail_if_success (with_reducible show wpAny _ _ (exec (Stmt.For _ _ _ _ _) _) _ _ _)); (first | ((first | (with_reducible show wpAny _ _ (execs _ _) _ _ _) | (with_reducible show wpAny _ _ (PySem.isTrue _ _ _) _ _ _)); (dsimp only); walk1) | (k_unfold; (try dsimp only)) | (k_end; wrow_close) | walk1 | (dsimp only; walk1) | (leave1; walk_say "STEP leave1"; try dsimp only) | fail "no step"))
    all_goals ((rename StrsAre _ _ => hls); (rename ∀ l ∈ ls, Lab l => hlab); (rename News _ _ _ _ => N9); (rename_i zF N8 zl zh za zb zk zT zX))
    · exact hret _ [(_, listOf (ys ++ [Value.str sA _]).toArray 0)] _ _ ⟨_, ys ++ [Value.str sA _], 0, ls ++ [sA], rfl, rfl, StrsAre.append' hls (.cons _ _ .nil), ls, sA, rfl, by rw [← PyProof.Rows.StrsAre.length hls, hl]; omega, hlab, .inl (.inl rfl)⟩ (by k_asm)
        (cb_drop N9 (List.forall_mem_cons.mpr ⟨List.mem_cons_self .., fun p hp => List.mem_cons_of_mem _ (List.mem_cons_of_mem _ (List.mem_cons_of_mem _ (List.mem_cons_of_mem _ (List.mem_cons_of_mem _ hp))))⟩))
        (fun q hq p hp => by rw [List.mem_singleton.mp hp]; exact Heap.lt_size (N8 q (List.mem_cons_of_mem _ (List.mem_cons_of_mem _ (List.mem_cons_of_mem _ (List.mem_cons_of_mem _ hq))))).1)
    · exact hret _ [(_, listOf (ys ++ [Value.str sB _]).toArray 0)] _ _ ⟨_, ys ++ [Value.str sB _], 0, ls ++ [sB], rfl, rfl, StrsAre.append' hls (.cons _ _ .nil), ls, sB, rfl, by rw [← PyProof.Rows.StrsAre.length hls, hl]; omega, hlab, .inl (.inr (.inl rfl))⟩ (by k_asm)
        (cb_drop N9 (List.forall_mem_cons.mpr ⟨List.mem_cons_self .., fun p hp => List.mem_cons_of_mem _ (List.mem_cons_of_mem _ (List.mem_cons_of_mem _ (List.mem_cons_of_mem _ (List.mem_cons_of_mem _ hp))))⟩))
        (fun q hq p hp => by rw [List.mem_singleton.mp hp]; exact Heap.lt_size (N8 q (List.mem_cons_of_mem _ (List.mem_cons_of_mem _ (List.mem_cons_of_mem _ (List.mem_cons_of_mem _ hq))))).1)
    · exact hret _ [(_, listOf (ys ++ [Value.str s7 _]).toArray 0)] _ _ ⟨_, ys ++ [Value.str s7 _], 0, ls ++ [s7], rfl, rfl, StrsAre.append' hls (.cons _ _ .nil), ls, s7, rfl, by rw [← PyProof.Rows.StrsAre.length hls, hl]; omega, hlab, .inl (.inr (.inr rfl))⟩ (by k_asm)
        (cb_drop N9 (List.forall_mem_cons.mpr ⟨List.mem_cons_self .., fun p hp => List.mem_cons_of_mem _ (List.mem_cons_of_mem _ (List.mem_cons_of_mem _ (List.mem_cons_of_mem _ (List.mem_cons_of_mem _ hp))))⟩))
        (fun q hq p hp => by rw [List.mem_singleton.mp hp]; exact Heap.lt_size (N8 q (List.mem_cons_of_mem _ (List.mem_cons_of_mem _ (List.mem_cons_of_mem _ (List.mem_cons_of_mem _ hq))))).1)
    · exact hret _ [(_, listOf (ys ++ [Value.str sL _]).toArray 0)] _ _ ⟨_, ys ++ [Value.str sL _], 0, ls ++ [sL], rfl, rfl, StrsAre.append' hls (.cons _ _ .nil), ls, sL, rfl, by rw [← PyProof.Rows.StrsAre.length hls, hl]; omega, hlab, .inr rfl⟩ (by k_asm)
        (cb_drop N9 (List.forall_mem_cons.mpr ⟨List.mem_cons_self .., fun p hp => List.mem_cons_of_mem _ (List.mem_cons_of_mem _ (List.mem_cons_of_mem _ (List.mem_cons_of_mem _ (List.mem_cons_of_mem _ hp))))⟩))
        (fun q hq p hp => by rw [List.mem_singleton.mp hp]; exact Heap.lt_size (N8 q (List.mem_cons_of_mem _ (List.mem_cons_of_mem _ (List.mem_cons_of_mem _ (List.mem_cons_of_mem _ hq))))).1)
end Mine
end
section
open PySem PySem.W PyProof.Rows
namespace Mine
set_option pp.deepTerms false
set_option pp.deepTerms.threshold 6
theorem news_dup {h₀ h : Heap} {L : Addr} {news : List (Addr × Obj)} {p : Addr × Obj} (N : News h₀ L h news) (hm : p ∈ news) : News h₀ L h (p :: news) := fun q hq => by
  rcases List.mem_cons.mp hq with rfl | hq
  · exact N _ hm
  · exact N _ hq
set_option maxRecDepth 100000 in
set_option maxHeartbeats 1000000 in
theorem parts_c (w : World) (mean : ExcName → Option Value) (mg mb : Str → Option Value) (news : List (Addr × Obj)) (dl : Addr) (us : List Value) (cc : Nat) (ls : List Str) (z : Int) (tkz : Tok)
    (hm : (dl, listOf us.toArray cc) ∈ news) (hus : StrsAre us ls) (hg : Good 3 ls) (z0 : 0 ≤ z) (z1 : z < 1024) :
    Ctr 8 w mean mg mb 90 news [.ref dl, .int z tkz] (fun r tl => ∃ D ws c ps, r = .ref D ∧ tl = [(D, listOf ws.toArray c)] ∧ StrsAre ws ps ∧ Good 4 ps) := by
  unfold Ctr Pg Lo
  w_top off
  k_fill
  intro dp un gd cn cs a ccd cl outer A₀ base h₀ L m s Q E B F X N T hk hd hu hret
  refine wpAny_call ?_
  k_dflt cell_enter
  (rename Fr _ _ _ _ => F0)
  obtain ⟨m1, F1⟩ := fr_open F0 [(Str.ofString "labels", .ref dl), (Str.ofString "z", .int z tkz)] (.cons rfl (.cons rfl .nil))
  clear F0
  dsimp only [kstB] at F1
  (rename News _ _ _ _ => N1)
  have N2 := news_dup N1 hm
  clear N1
  have hlen := PyProof.Rows.StrsAre.length hus
  have hlen2 : 1 ≤ ls.length ∧ ls.length ≤ 4 := by obtain ⟨init, last, rfl, h1, _⟩ := hg; simp; omega
  have f0 := fmod_lo (z.fmod 4) (show (0 : Int) < (ls.length : Int) by omega)
  have f1 := fmod_hi (z.fmod 4) (show (0 : Int) < (ls.length : Int) by omega)
  repeat' ((fail_if_success (with_reducible show Lfp _ _ _ _ _ _ _)); (fail_if_success (with_reducible show TurnW _ _ _ _ _ _ _ _ _ _)); (fail_if_success (with_reducible show TurnF _ _ _ _ _ _ _ _ _)); (fail_if_success (with_reducible show CutF _ _ _ _ _ _ _ _ _)); (fail_if_success (with_reducible show Q _ _)); (fail_if_success (with_reducible show LCg.CompSrc _ _ _ _ _ _ _ _ _ _ _ _ _ _ )); (fail_if_success (with_reducible show LCg.CompEnd _ _ _ _ _ _ _ _ _ _ _ _ _ _ )); (fail_if_success (with_reducible show wpAny _ _ (exec (Stmt.While _ _ _ _) _) _ _ _)); (fail_if_success (with_reducible show wpAny _ _ (exec (Stmt.For _ _ _ _ _) _) _ _ _)); (fail_if_success (with_reducible show wpAny _ _ (subscriptTail _ (Expr.Slice _ _ _ _) (Value.ref _) (Value.ref _)) _ _ _)); (first | ((first | (with_reducible show wpAny _ _ (execs _ _) _ _ _) | (with_reducible show wpAny _ _ (PySem.isTrue _ _ _) _ _ _)); (dsimp only); walk1) | (k_unfold; (try dsimp only)) | (k_end; wrow_close) | walk1 | (dsimp only; walk1) | (leave1; walk_say "STEP leave1"; try dsimp only) | fail "no step"))
  (rename Fr _ _ _ _ => F3); (rename News _ _ _ _ => N3)
  refine slice_vals F3 N3 (List.mem_cons_self ..) (.int _ _) .none (pick_from us f0) (by omega) ?_
  rintro dt h3 F4 N4 lt
  (rename StrsAre us ls => hus)
  have gT := hg.drop (e := ((z.fmod 4).fmod ls.length).toNat) (by omega)
  have sT := strs_drop hus ((z.fmod 4).fmod ls.length).toNat
  generalize hts : us.drop ((z.fmod 4).fmod ls.length).toNat = ts at *
  generalize hTs : ls.drop ((z.fmod 4).fmod ls.length).toNat = tls at *
  have lts := PyProof.Rows.StrsAre.length sT
  have gl := gT.len
  repeat' ((fail_if_success (with_reducible show Lfp _ _ _ _ _ _ _)); (fail_if_success (with_reducible show TurnW _ _ _ _ _ _ _ _ _ _)); (fail_if_success (with_reducible show TurnF _ _ _ _ _ _ _ _ _)); (fail_if_success (with_reducible show CutF _ _ _ _ _ _ _ _ _)); (fail_if_success (with_reducible show Q _ _)); (fail_if_success (with_reducible show LCg.CompSrc _ _ _ _ _ _ _ _ _ _ _ _ _ _ )); (fail_if_success (with_reducible show LCg.CompEnd _ _ _ _ _ _ _ _ _ _ _ _ _ _ )); (fail_if_success (with_reducible show wpAny _ _ (exec (Stmt.While _ _ _ _) _) _ _ _)); (fail_if_success (with_reducible show wpAny _ _ (exec (Stmt.For _ _ _ _ _) _) _ _ _)); (fail_if_success (with_reducible show wpAny _ _ (subscriptTail _ (Expr.Slice _ _ _ _) (Value.ref _) (Value.ref _)) _ _ _)); (first | ((first | (with_reducible show wpAny _ _ (execs _ _) _ _ _) | (with_reducible show wpAny _ _ (PySem.isTrue _ _ _) _ _ _)); (dsimp only); walk1) | (k_unfold; (try dsimp only)) | (k_end; wrow_close) | walk1 | (dsimp only; walk1) | (leave1; walk_say "STEP leave1"; try dsimp only) | fail "no step"))
  · (rename StrsAre ts tls => sT); (rename News _ _ _ _ => N9); (rename_i zF N8 zl zh za zb zk zT zX)
    exact hret _ [(_, listOf ([Value.str (Txt.item (Str.ofString "ba7") ((z.fdiv 16).fmod 3)) _] ++ ts).toArray 0)] _ _ ⟨_, [Value.str (Txt.item (Str.ofString "ba7") ((z.fdiv 16).fmod 3)) _] ++ ts, 0, [Txt.item (Str.ofString "ba7") ((z.fdiv 16).fmod 3)] ++ tls, rfl, rfl, StrsAre.append' (.cons _ _ .nil) sT, gT.front (lab_item2 (fmod_lo _ (by decide)) (fmod_hi _ (by decide)))⟩ (by k_asm)
      (cb_drop N9 (List.forall_mem_cons.mpr ⟨List.mem_cons_self .., fun p hp => (List.mem_cons_of_mem _ (List.mem_cons_of_mem _ (List.mem_cons_of_mem _ (List.mem_cons_of_mem _ hp))))⟩))
      (fun q hp p hp' => by rw [List.mem_singleton.mp hp']; exact Heap.lt_size (N8 q (List.mem_cons_of_mem _ (List.mem_cons_of_mem _ (List.mem_cons_of_mem _ hp)))).1)
  · (rename Fr _ _ _ _ => F5); (rename News _ _ _ _ => N5)
    refine slice_vals F5 N5 (List.mem_cons_of_mem _ (List.mem_cons_self ..)) (.int _ _) .none (pick_from ts (by decide)) (by omega) ?_
    rintro dq h5 F6 N6 lq
    have sQ := strs_drop sT 1
    have sQl := PyProof.Rows.StrsAre.length sQ
    have sQ2 : tls.length - 1 = (tls.drop 1).length := by simp
    repeat' ((fail_if_success (with_reducible show Lfp _ _ _ _ _ _ _)); (fail_if_success (with_reducible show TurnW _ _ _ _ _ _ _ _ _ _)); (fail_if_success (with_reducible show TurnF _ _ _ _ _ _ _ _ _)); (fail_if_success (with_reducible show CutF _ _ _ _ _ _ _ _ _)); (fail_if_success (with_reducible show Q _ _)); (fail_if_success (with_reducible show LCg.CompSrc _ _ _ _ _ _ _ _ _ _ _ _ _ _ )); (fail_if_success (with_reducible show LCg.CompEnd _ _ _ _ _ _ _ _ _ _ _ _ _ _ )); (fail_if_success (with_reducible show wpAny _ _ (exec (Stmt.While _ _ _ _) _) _ _ _)); (fail_if_success (with_reducible show wpAny _ _ (exec (Stmt.For _ _ _ _ _) _) _ _ _)); (fail_if_success (with_reducible show wpAny _ _ (binaryOp Operator.Add (Value.ref _) (Value.ref _)) _ _ _)); (first | ((first | (with_reducible show wpAny _ _ (execs _ _) _ _ _) | (with_reducible show wpAny _ _ (PySem.isTrue _ _ _) _ _ _)); (dsimp only); walk1) | (k_unfold; (try dsimp only)) | (k_end; wrow_close) | walk1 | (dsimp only; walk1) | (leave1; walk_say "STEP leave1"; try dsimp only) | fail "no step"))
    (rename Fr _ _ _ _ => F7); (rename News _ _ _ _ => N7)
    refine list_plus (vs := [Value.str (Txt.item (Str.ofString "ba7") ((z.fdiv 16).fmod 3)) _]) (ws := ts.drop 1) F7 N7 (List.mem_cons_of_mem _ (List.mem_cons_self ..)) (List.mem_cons_self ..) (by simp; omega) ?_
    rintro D h7 F8 N8 lD
    repeat' ((fail_if_success (with_reducible show Lfp _ _ _ _ _ _ _)); (fail_if_success (with_reducible show TurnW _ _ _ _ _ _ _ _ _ _)); (fail_if_success (with_reducible show TurnF _ _ _ _ _ _ _ _ _)); (fail_if_success (with_reducible show CutF _ _ _ _ _ _ _ _ _)); (fail_if_success (with_reducible show Q _ _)); (fail_if_success (with_reducible show LCg.CompSrc _ _ _ _ _ _ _ _ _ _ _ _ _ _ )); (fail_if_success (with_reducible show LCg.CompEnd _ _ _ _ _ _ _ _ _ _ _ _ _ _ )); (fail_if_success (with_reducible show wpAny _ _ (exec (Stmt.While _ _ _ _) _) _ _ _)); (fail_if_success (with_reducible show wpAny _ _ (exec (Stmt.For _ _ _ _ _) _) _ _ _)); (first | ((first | (with_reducible show wpAny _ _ (execs _ _) _ _ _) | (with_reducible show wpAny _ _ (PySem.isTrue _ _ _) _ _ _)); (dsimp only); walk1) | (k_unfold; (try dsimp only)) | (k_end; wrow_close) | walk1 | (dsimp only; walk1) | (leave1; walk_say "STEP leave1"; try dsimp only) | fail "no step"))
    (rename News _ _ _ _ => N9)
    exact hret _ [(_, listOf ([Value.str (Txt.item (Str.ofString "ba7") ((z.fdiv 16).fmod 3)) _] ++ ts.drop 1).toArray 0)] _ _ ⟨_, _, 0, [Txt.item (Str.ofString "ba7") ((z.fdiv 16).fmod 3)] ++ tls.drop 1, rfl, rfl, StrsAre.append' (.cons _ _ .nil) sQ, gT.first (lab_item2 (fmod_lo _ (by decide)) (fmod_hi _ (by decide)))⟩ (by k_asm)
      (cb_drop N9 (List.forall_mem_cons.mpr ⟨List.mem_cons_self .., fun p hp => (List.mem_cons_of_mem _ (List.mem_cons_of_mem _ (List.mem_cons_of_mem _ (List.mem_cons_of_mem _ (List.mem_cons_of_mem _ hp)))))⟩))
      (fun q hp p hp' => by rw [List.mem_singleton.mp hp']; exact lD q (List.mem_cons_of_mem _ (List.mem_cons_of_mem _ (List.mem_cons_of_mem _ (List.mem_cons_of_mem _ hp)))))
  · (rename Fr _ _ _ _ => F5); (rename News _ _ _ _ => N5)
    refine slice_vals F5 N5 (List.mem_cons_self ..) .none (.int _ _) (pick_but ts) (by omega) ?_
    rintro dq h5 F6 N6 lq
    have sQ := strs_dropLast sT
    have sQl := PyProof.Rows.StrsAre.length sQ
    have g0 := fmod_lo (z.fdiv 16) (show (0 : Int) < 4 by decide)
    have g2 := fmod_hi (z.fdiv 16) (show (0 : Int) < 4 by decide)
    repeat' ((fail_if_success (with_reducible show Lfp _ _ _ _ _ _ _)); (fail_if_success (with_reducible show TurnW _ _ _ _ _ _ _ _ _ _)); (fail_if_success (with_reducible show TurnF _ _ _ _ _ _ _ _ _)); (fail_if_success (with_reducible show CutF _ _ _ _ _ _ _ _ _)); (fail_if_success (with_reducible show Q _ _)); (fail_if_success (with_reducible show LCg.CompSrc _ _ _ _ _ _ _ _ _ _ _ _ _ _ )); (fail_if_success (with_reducible show LCg.CompEnd _ _ _ _ _ _ _ _ _ _ _ _ _ _ )); (fail_if_success (with_reducible show wpAny _ _ (exec (Stmt.While _ _ _ _) _) _ _ _)); (fail_if_success (with_reducible show wpAny _ _ (exec (Stmt.For _ _ _ _ _) _) _ _ _)); (fail_if_success (with_reducible show wpAny _ _ (subscriptTail _ _ (Value.ref _) (Value.int _ _)) _ _ _)); (first | ((first | (with_reducible show wpAny _ _ (execs _ _) _ _ _) | (with_reducible show wpAny _ _ (PySem.isTrue _ _ _) _ _ _)); (dsimp only); walk1) | (k_unfold; (try dsimp only)) | (k_end; wrow_close) | walk1 | (dsimp only; walk1) | (leave1; walk_say "STEP leave1"; try dsimp only) | fail "no step"))
    generalize (z.fdiv 16).fmod 4 = e at *
    have he : e = 0 ∨ e = 1 ∨ e = 2 ∨ e = 3 := by omega
    rcases he with rfl | rfl | rfl | rfl
    all_goals repeat' ((fail_if_success (with_reducible show Lfp _ _ _ _ _ _ _)); (fail_if_success (with_reducible show TurnW _ _ _ _ _ _ _ _ _ _)); (fail_if_success (with_reducible show TurnF _ _ _ _ _ _ _ _ _)); (fail_if_success (with_reducible show CutF _ _ _ _ _ _ _ _ _)); (fail_if_success (with_reducible show Q _ _)); (fail_if_success (with_reducible show LCg.CompSrc _ _ _ _ _ _ _ _ _ _ _ _ _ _ )); (fail_if_success (with_reducible show LCg.CompEnd _ _ _ _ _ _ _ _ _ _ _ _ _ _ )); (fail_if_success (with_reducible show wpAny _ _ (exec (Stmt.While _ _ _ _) _) _ _ _)); (fail_if_success (with_reducible show wpAny _ _ (exec (Stmt.For _ _ _ _ _) _) _ _ _)); (fail_if_success (with_reducible show wpAny _ _ (binaryOp Operator.Add (Value.ref _) (Value.ref _)) _ _ _)); (first | ((first | (with_reducible show wpAny _ _ (execs _ _) _ _ _) | (with_reducible show wpAny _ _ (PySem.isTrue _ _ _) _ _ _)); (dsimp only); walk1) | (k_unfold; (try dsimp only)) | (k_end; wrow_close) | walk1 | (dsimp only; walk1) | (leave1; walk_say "STEP leave1"; try dsimp only) | fail "no step"))
    · (rename Fr _ _ _ _ => F7); (rename News _ _ _ _ => N7)
      refine list_plus (vs := ts.dropLast) (ws := [Value.str sB _]) F7 N7 (List.mem_cons_of_mem _ (List.mem_cons_of_mem _ (List.mem_cons_self ..))) (List.mem_cons_self ..) (by simp; omega) ?_
      rintro D h7 F8 N8 lD
      repeat' ((fail_if_success (with_reducible show Lfp _ _ _ _ _ _ _)); (fail_if_success (with_reducible show TurnW _ _ _ _ _ _ _ _ _ _)); (fail_if_success (with_reducible show TurnF _ _ _ _ _ _ _ _ _)); (fail_if_success (with_reducible show CutF _ _ _ _ _ _ _ _ _)); (fail_if_success (with_reducible show Q _ _)); (fail_if_success (with_reducible show LCg.CompSrc _ _ _ _ _ _ _ _ _ _ _ _ _ _ )); (fail_if_success (with_reducible show LCg.CompEnd _ _ _ _ _ _ _ _ _ _ _ _ _ _ )); (fail_if_success (with_reducible show wpAny _ _ (exec (Stmt.While _ _ _ _) _) _ _ _)); (fail_if_success (with_reducible show wpAny _ _ (exec (Stmt.For _ _ _ _ _) _) _ _ _)); (first | ((first | (with_reducible show wpAny _ _ (execs _ _) _ _ _) | (with_reducible show wpAny _ _ (PySem.isTrue _ _ _) _ _ _)); (dsimp only); walk1) | (k_unfold; (try dsimp only)) | (k_end; wrow_close) | walk1 | (dsimp only; walk1) | (leave1; walk_say "STEP leave1"; try dsimp only) | fail "no step"))
      (rename News _ _ _ _ => N9)
      exact hret _ [(_, listOf (ts.dropLast ++ [Value.str sB _]).toArray 0)] _ _ ⟨_, _, 0, tls.dropLast ++ [sB], rfl, rfl, StrsAre.append' sQ (.cons _ _ .nil), gT.last (.inl (.inr (.inl rfl)))⟩ (by k_asm)
        (cb_drop N9 (List.forall_mem_cons.mpr ⟨List.mem_cons_self .., fun p hp => (List.mem_cons_of_mem _ (List.mem_cons_of_mem _ (List.mem_cons_of_mem _ (List.mem_cons_of_mem _ (List.mem_cons_of_mem _ (List.mem_cons_of_mem _ hp))))))⟩))
        (fun q hp p hp' => by rw [List.mem_singleton.mp hp']; exact lD q (List.mem_cons_of_mem _ (List.mem_cons_of_mem _ (List.mem_cons_of_mem _ (List.mem_cons_of_mem _ (List.mem_cons_of_mem _ hp))))))
    · (rename Fr _ _ _ _ => F7); (rename News _ _ _ _ => N7)
      refine list_plus (vs := ts.dropLast) (ws := [Value.str sA _]) F7 N7 (List.mem_cons_of_mem _ (List.mem_cons_of_mem _ (List.mem_cons_self ..))) (List.mem_cons_self ..) (by simp; omega) ?_
      rintro D h7 F8 N8 lD
      repeat' ((fail_if_success (with_reducible show Lfp _ _ _ _ _ _ _)); (fail_if_success (with_reducible show TurnW _ _ _ _ _ _ _ _ _ _)); (fail_if_success (with_reducible show TurnF _ _ _ _ _ _ _ _ _)); (fail_if_success (with_reducible show CutF _ _ _ _ _ _ _ _ _)); (fail_if_success (with_reducible show Q _ _)); (fail_if_success (with_reducible show LCg.CompSrc _ _ _ _ _ _ _ _ _ _ _ _ _ _ )); (fail_if_success (with_reducible show LCg.CompEnd _ _ _ _ _ _ _ _ _ _ _ _ _ _ )); (fail_if_success (with_reducible show wpAny _ _ (exec (Stmt.While _ _ _ _) _) _ _ _)); (fail_if_success (with_reducible show wpAny _ _ (exec (Stmt.For _ _ _ _ _) _) _ _ _)); (first | ((first | (with_reducible show wpAny _ _ (execs _ _) _ _ _) | (with_reducible show wpAny _ _ (PySem.isTrue _ _ _) _ _ _)); (dsimp only); walk1) | (k_unfold; (try dsimp only)) | (k_end; wrow_close) | walk1 | (dsimp only; walk1) | (leave1; walk_say "STEP leave1"; try dsimp only) | fail "no step"))
      (rename News _ _ _ _ => N9)
      exact hret _ [(_, listOf (ts.dropLast ++ [Value.str sA _]).toArray 0)] _ _ ⟨_, _, 0, tls.dropLast ++ [sA], rfl, rfl, StrsAre.append' sQ (.cons _ _ .nil), gT.last (.inl (.inl rfl))⟩ (by k_asm)
        (cb_drop N9 (List.forall_mem_cons.mpr ⟨List.mem_cons_self .., fun p hp => (List.mem_cons_of_mem _ (List.mem_cons_of_mem _ (List.mem_cons_of_mem _ (List.mem_cons_of_mem _ (List.mem_cons_of_mem _ (List.mem_cons_of_mem _ hp))))))⟩))
        (fun q hp p hp' => by rw [List.mem_singleton.mp hp']; exact lD q (List.mem_cons_of_mem _ (List.mem_cons_of_mem _ (List.mem_cons_of_mem _ (List.mem_cons_of_mem _ (List.mem_cons_of_mem _ hp))))))
    · (rename Fr _ _ _ _ => F7); (rename News _ _ _ _ => N7)
      refine list_plus (vs := ts.dropLast) (ws := [Value.str s7 _]) F7 N7 (List.mem_cons_of_mem _ (List.mem_cons_of_mem _ (List.mem_cons_self ..))) (List.mem_cons_self ..) (by simp; omega) ?_
      rintro D h7 F8 N8 lD
      repeat' ((fail_if_success (with_reducible show Lfp _ _ _ _ _ _ _)); (fail_if_success (with_reducible show TurnW _ _ _ _ _ _ _ _ _ _)); (fail_if_success (with_reducible show TurnF _ _ _ _ _ _ _ _ _)); (fail_if_success (with_reducible show CutF _ _ _ _ _ _ _ _ _)); (fail_if_success (with_reducible show Q _ _)); (fail_if_success (with_reducible show LCg.CompSrc _ _ _ _ _ _ _ _ _ _ _ _ _ _ )); (fail_if_success (with_reducible show LCg.CompEnd _ _ _ _ _ _ _ _ _ _ _ _ _ _ )); (fail_if_success (with_reducible show wpAny _ _ (exec (Stmt.While _ _ _ _) _) _ _ _)); (fail_if_success (with_reducible show wpAny _ _ (exec (Stmt.For _ _ _ _ _) _) _ _ _)); (first | ((first | (with_reducible show wpAny _ _ (execs _ _) _ _ _) | (with_reducible show wpAny _ _ (PySem.isTrue _ _ _) _ _ _)); (dsimp only); walk1) | (k_unfold; (try dsimp only)) | (k_end; wrow_close) | walk1 | (dsimp only; walk1) | (leave1; walk_say "STEP leave1"; try dsimp only) | fail "no step"))
      (rename News _ _ _ _ => N9)
      exact hret _ [(_, listOf (ts.dropLast ++ [Value.str s7 _]).toArray 0)] _ _ ⟨_, _, 0, tls.dropLast ++ [s7], rfl, rfl, StrsAre.append' sQ (.cons _ _ .nil), gT.last (.inl (.inr (.inr rfl)))⟩ (by k_asm)
        (cb_drop N9 (List.forall_mem_cons.mpr ⟨List.mem_cons_self .., fun p hp => (List.mem_cons_of_mem _ (List.mem_cons_of_mem _ (List.mem_cons_of_mem _ (List.mem_cons_of_mem _ (List.mem_cons_of_mem _ (List.mem_cons_of_mem _ hp))))))⟩))
        (fun q hp p hp' => by rw [List.mem_singleton.mp hp']; exact lD q (List.mem_cons_of_mem _ (List.mem_cons_of_mem _ (List.mem_cons_of_mem _ (List.mem_cons_of_mem _ (List.mem_cons_of_mem _ hp))))))
    · (rename Fr _ _ _ _ => F7); (rename News _ _ _ _ => N7)
      refine list_plus (vs := ts.dropLast) (ws := [Value.str sL _]) F7 N7 (List.mem_cons_of_mem _ (List.mem_cons_of_mem _ (List.mem_cons_self ..))) (List.mem_cons_self ..) (by simp; omega) ?_
      rintro D h7 F8 N8 lD
      repeat' ((fail_if_success (with_reducible show Lfp _ _ _ _ _ _ _)); (fail_if_success (with_reducible show TurnW _ _ _ _ _ _ _ _ _ _)); (fail_if_success (with_reducible show TurnF _ _ _ _ _ _ _ _ _)); (fail_if_success (with_reducible show CutF _ _ _ _ _ _ _ _ _)); (fail_if_success (with_reducible show Q _ _)); (fail_if_success (with_reducible show LCg.CompSrc _ _ _ _ _ _ _ _ _ _ _ _ _ _ )); (fail_if_success (with_reducible show LCg.CompEnd _ _ _ _ _ _ _ _ _ _ _ _ _ _ )); (fail_if_success (with_reducible show wpAny _ _ (exec (Stmt.While _ _ _ _) _) _ _ _)); (fail_if_success (with_reducible show wpAny _ _ (exec (Stmt.For _ _ _ _ _) _) _ _ _)); (first | ((first | (with_reducible show wpAny _ _ (execs _ _) _ _ _) | (with_reducible show wpAny _ _ (PySem.isTrue _ _ _) _ _ _)); (dsimp only); walk1) | (k_unfold; (try dsimp only)) | (k_end; wrow_close) | walk1 | (dsimp only; walk1) | (leave1; walk_say "STEP leave1"; try dsimp only) | fail "no step"))
      (rename News _ _ _ _ => N9)
      exact hret _ [(_, listOf (ts.dropLast ++ [Value.str sL _]).toArray 0)] _ _ ⟨_, _, 0, tls.dropLast ++ [sL], rfl, rfl, StrsAre.append' sQ (.cons _ _ .nil), gT.last (.inr rfl)⟩ (by k_asm)
        (cb_drop N9 (List.forall_mem_cons.mpr ⟨List.mem_cons_self .., fun p hp => (List.mem_cons_of_mem _ (List.mem_cons_of_mem _ (List.mem_cons_of_mem _ (List.mem_cons_of_mem _ (List.mem_cons_of_mem _ (List.mem_cons_of_mem _ hp))))))⟩))
        (fun q hp p hp' => by rw [List.mem_singleton.mp hp']; exact lD q (List.mem_cons_of_mem _ (List.mem_cons_of_mem _ (List.mem_cons_of_mem _ (List.mem_cons_of_mem _ (List.mem_cons_of_mem _ hp))))))
  · (rename News _ _ _ _ => N9)
    exact hret _ [(_, listOf ts.toArray 0)] _ _ ⟨_, ts, 0, tls, rfl, rfl, sT, gT.up⟩ (by k_asm) (cb_drop N9 (List.forall_mem_cons.mpr ⟨List.mem_cons_self .., fun p hp => List.mem_cons_of_mem _ (List.mem_cons_of_mem _ hp)⟩))
      (fun q hq p hp => by rw [List.mem_singleton.mp hp]; exact lt q (List.mem_cons_of_mem _ hq))
end Mine
end
section
open PySem PySem.W PyProof.Rows PySem.Builtin PySem.Builtin.Str
namespace Mine
/-! joined labels as lists of numbers -/
noncomputable def jn : List (List Nat) → List Nat
  | [] => []
  | [l] => l
  | l :: l' :: r => l ++ 46 :: jn (l' :: r)
theorem tx_app (a b : Str) : tx (a ++ b) = tx a ++ tx b := by show (a ++ b).cps.toList = _; rw [Str.cps_append, Array.toList_append]
theorem tx_dot : tx dot = [46] := by decide +kernel
abbrev jS (ls : List Str) : Str := Txt.join dot ls
theorem tx_join : ∀ ls : List Str, tx (jS ls) = jn (ls.map tx) := by
  intro ls
  show tx (glued dot ls) = _
  rw [StrLaws.glued_eq_join]
  induction ls with
  | nil => rfl
  | cons l r ih =>
    cases r with
    | nil => rfl
    | cons l' r =>
      show tx (l ++ dot ++ Str.join dot (l' :: r)) = tx l ++ 46 :: jn ((l' :: r).map tx)
      rw [tx_app, tx_app, ih, tx_dot]
      simp
theorem jn_cons {l : List Nat} {r : List (List Nat)} (h : r ≠ []) : jn (l :: r) = l ++ 46 :: jn r := by
  cases r with
  | nil => exact absurd rfl h
  | cons l' r => rfl
/-- a label's signs: none is a dot, there is one at least -/
def LabL (l : List Nat) : Prop := l = [97] ∨ l = [98] ∨ l = [55]
def LstL (l : List Nat) : Prop := LabL l ∨ l = [108, 111, 99, 97, 108]
theorem Lab.tx {l : Str} (h : Lab l) : LabL (Mine.tx l) := by
  rcases h with rfl | rfl | rfl
  · exact .inl (by decide +kernel)
  · exact .inr (.inl (by decide +kernel))
  · exact .inr (.inr (by decide +kernel))
theorem Lst.tx {l : Str} (h : Lst l) : LstL (Mine.tx l) := by
  rcases h with h | rfl
  · exact .inl h.tx
  · exact .inr (by decide +kernel)
theorem LstL.nodot {l : List Nat} (h : LstL l) : 46 ∉ l ∧ l ≠ [] := by
  rcases h with (rfl | rfl | rfl) | rfl <;> decide
theorem Good.all {n : Nat} {ls : List Str} (h : Good n ls) : ∀ l ∈ ls, Lst l := by
  obtain ⟨i, x, rfl, _, h2, h3⟩ := h
  intro l hl
  rcases List.mem_append.mp hl with hl | hl
  · exact .inl (h2 l hl)
  · rw [List.mem_singleton.mp hl]; exact h3
/-- two joined rows of labels are equal only if the labels are -/
theorem split_dot {a b r s : List Nat} (ha : 46 ∉ a) (hb : 46 ∉ b) (h : a ++ 46 :: r = b ++ 46 :: s) : a = b ∧ r = s := by
  induction a generalizing b with
  | nil =>
    cases b with
    | nil => simpa using h
    | cons c b =>
      simp at h
      exact absurd h.1 (fun e => hb (by rw [← e]; exact List.mem_cons_self ..))
  | cons c a ih =>
    cases b with
    | nil =>
      simp at h
      exact absurd h.1 (fun e => ha (by rw [e]; exact List.mem_cons_self ..))
    | cons d b =>
      simp only [List.cons_append, List.cons.injEq] at h
      obtain ⟨e1, e2⟩ := ih (fun hm => ha (List.mem_cons_of_mem _ hm)) (fun hm => hb (List.mem_cons_of_mem _ hm)) h.2
      exact ⟨by rw [h.1, e1], e2⟩
theorem jn_inj : ∀ {as bs : List (List Nat)}, (∀ l ∈ as, 46 ∉ l ∧ l ≠ []) → (∀ l ∈ bs, 46 ∉ l ∧ l ≠ []) → as ≠ [] → bs ≠ [] → jn as = jn bs → as = bs
  | [], _, _, _, h, _, _ => absurd rfl h
  | _, [], _, _, _, h, _ => absurd rfl h
  | [a], [b], _, _, _, _, h => by rw [show a = b from h]
  | [a], b :: b' :: bs, ha, _, _, _, h => by
    have h' : a = b ++ 46 :: jn (b' :: bs) := h
    exact absurd (by rw [h']; simp) (ha a (List.mem_cons_self ..)).1
  | a :: a' :: as, [b], _, hb, _, _, h => by
    have h' : a ++ 46 :: jn (a' :: as) = b := h
    exact absurd (by rw [← h']; simp) (hb b (List.mem_cons_self ..)).1
  | a :: a' :: as, b :: b' :: bs, ha, hb, _, _, h => by
    obtain ⟨e1, e2⟩ := split_dot (ha a (List.mem_cons_self ..)).1 (hb b (List.mem_cons_self ..)).1 h
    rw [e1, jn_inj (as := a' :: as) (bs := b' :: bs) (fun l hl => ha l (List.mem_cons_of_mem _ hl)) (fun l hl => hb l (List.mem_cons_of_mem _ hl)) (by simp) (by simp) e2]
/-- a dot and joined labels stand at the end of joined labels just where they are its last ones -/
theorem jn_suffix : ∀ {as : List (List Nat)} {bs : List (List Nat)}, (∀ l ∈ as, 46 ∉ l ∧ l ≠ []) → (∀ l ∈ bs, 46 ∉ l ∧ l ≠ []) → as ≠ [] → bs ≠ [] → ((46 :: jn bs <:+ jn as) ↔ ∃ k, 1 ≤ k ∧ k < as.length ∧ bs = as.drop k)
  | [], _, _, _, h, _ => absurd rfl h
  | [a], bs, ha, hb, _, hne => by
    constructor
    · intro ⟨p, hp⟩
      have hp' : p ++ 46 :: jn bs = a := hp
      exact absurd (by rw [← hp']; simp) (ha a (List.mem_cons_self ..)).1
    · rintro ⟨k, h1, h2, _⟩; simp at h2; omega
  | a :: a' :: as, bs, ha, hb, _, hne => by
    have ih := jn_suffix (as := a' :: as) (bs := bs) (fun l hl => ha l (List.mem_cons_of_mem _ hl)) hb (by simp) hne
    have key : (46 :: jn bs <:+ a ++ 46 :: jn (a' :: as)) ↔ (bs = a' :: as ∨ 46 :: jn bs <:+ jn (a' :: as)) := by
      constructor
      · rintro ⟨p, hp⟩
        by_cases hl : p.length ≤ a.length
        · -- the dot of bs lies at the first dot
          have h1 := List.append_eq_append_iff.mp hp
          rcases h1 with ⟨t, e1, e2⟩ | ⟨t, e1, e2⟩
          · -- a = p ++ t
            cases t with
            | nil =>
              simp at e2
              exact .inl (jn_inj hb (fun l hl => ha l (List.mem_cons_of_mem _ hl)) hne (by simp) e2)
            | cons c t =>
              simp only [List.cons_append, List.cons.injEq] at e2
              exact absurd (by rw [e1, ← e2.1]; simp) (ha a (List.mem_cons_self ..)).1
          · -- p = a ++ t
            have : t = [] := by
              have := congrArg List.length e1
              simp at this
              exact List.eq_nil_of_length_eq_zero (by omega)
            subst this
            simp at e2
            exact .inl (jn_inj hb (fun l hl => ha l (List.mem_cons_of_mem _ hl)) hne (by simp) e2.symm)
        · have h1 := List.append_eq_append_iff.mp hp
          rcases h1 with ⟨t, e1, e2⟩ | ⟨t, e1, e2⟩
          · have := congrArg List.length e1
            simp at this
            omega
          · cases t with
            | nil => exact absurd (by rw [e1]; simp) hl
            | cons c t =>
              simp only [List.cons_append, List.cons.injEq] at e2
              exact .inr ⟨t, e2.2.symm⟩
      · rintro (rfl | ⟨p, hp⟩)
        · exact ⟨a, rfl⟩
        · exact ⟨a ++ 46 :: p, by rw [List.append_assoc, List.cons_append, hp]⟩
    show (46 :: jn bs <:+ a ++ 46 :: jn (a' :: as)) ↔ _
    rw [key, ih]
    constructor
    · rintro (rfl | ⟨k, h1, h2, e⟩)
      · exact ⟨1, by omega, by simp, rfl⟩
      · exact ⟨k + 1, by omega, by simp at h2 ⊢; omega, e⟩
    · rintro ⟨k, h1, h2, e⟩
      cases k with
      | zero => omega
      | succ k =>
        cases k with
        | zero => exact .inl e
        | succ k => exact .inr ⟨k + 1, by omega, by simp at h2 ⊢; omega, e⟩

/-! find, startswith, endswith -/
theorem sub_dot (x : Str) (i : Nat) : subAt x dot i = true ↔ (tx x)[i]? = some 46 := by
  rw [StrLaws.subAt_eq, show dot.length = 1 from by decide +kernel, show dot.cps.toList = [46] from tx_dot, beq_iff_eq]
  show ((tx x).drop i).take 1 = [46] ↔ _
  rw [List.take_one, List.head?_drop]
  cases (tx x)[i]? with
  | none => simp
  | some c => simp
theorem find_none {x : Str} (h : 46 ∉ tx x) : Txt.find x dot = -1 := by
  unfold Txt.find
  rcases StrLaws.occ_head x dot 1 (Nat.le_refl _) with ⟨e, _⟩ | ⟨i, r, e, hi, _⟩
  · rw [e]
  · exact absurd (List.mem_of_getElem? ((sub_dot x i).mp hi.2)) h
theorem find_first {x : Str} {a r : List Nat} (hx : tx x = a ++ 46 :: r) (ha : 46 ∉ a) : Txt.find x dot = (a.length : Int) := by
  unfold Txt.find
  have hat : (tx x)[a.length]? = some 46 := by rw [hx]; simp
  have hlen : a.length + 1 ≤ x.length := by rw [← tx_len, hx]; simp
  rcases StrLaws.occ_head x dot 1 (Nat.le_refl _) with ⟨_, hn⟩ | ⟨i, r', e, hi, hm⟩
  · exact absurd ⟨hlen, (sub_dot x _).mpr hat⟩ (hn a.length)
  · rw [e]
    have h1 : ¬ a.length < i := fun h => hm a.length h ⟨hlen, (sub_dot x _).mpr hat⟩
    have h2 : ¬ i < a.length := fun h => by
      have := (sub_dot x i).mp hi.2
      rw [hx, List.getElem?_append_left h] at this
      exact ha (List.mem_of_getElem? this)
    have : i = a.length := by omega
    rw [this]
theorem starts_dot (x : Str) : Txt.startswith x dot = true ↔ (tx x)[0]? = some 46 := by
  unfold Txt.startswith
  rw [Bool.and_eq_true, sub_dot, decide_eq_true_eq, show dot.length = 1 from by decide +kernel]
  constructor
  · exact fun h => h.2
  · intro h
    refine ⟨?_, h⟩
    have : 0 < (tx x).length := by
      cases hx : tx x with
      | nil => rw [hx] at h; simp at h
      | cons c l => simp
    rw [tx_len] at this
    omega
theorem ends_iff (x y : Str) : Txt.endswith x y = true ↔ tx y <:+ tx x := by
  unfold Txt.endswith
  rw [Bool.and_eq_true, decide_eq_true_eq, StrLaws.subAt_eq, beq_iff_eq, Nat.zero_add]
  show (_ ∧ ((tx x).drop (x.length - y.length)).take y.length = tx y) ↔ _
  rw [← tx_len x, ← tx_len y]
  constructor
  · rintro ⟨h1, h2⟩
    rw [List.take_of_length_le (by rw [List.length_drop]; omega)] at h2
    exact ⟨(tx x).take ((tx x).length - (tx y).length), by
      have := List.take_append_drop ((tx x).length - (tx y).length) (tx x)
      rw [h2] at this
      exact this⟩
  · rintro ⟨p, hp⟩
    have hl := congrArg List.length hp
    rw [List.length_append] at hl
    refine ⟨by omega, ?_⟩
    have e : (tx x).length - (tx y).length = p.length := by omega
    rw [e, ← hp, List.drop_left]
    exact List.take_of_length_le (Nat.le_refl _)

/-! what the pattern says of joined labels -/
/-- behind a dot and a digit, if a sign follows, it is no digit and no line's end -/
noncomputable def ce : List Nat → Bool
  | a :: b :: c :: r => (!(a == 46 && Sre.isDigit b) || (!Sre.isDigit c && c != 10)) && ce (b :: c :: r)
  | _ => true
theorem ce_at : ∀ (t : List Nat) (i : Nat), ce t = true → i + 2 < t.length → t[i]? = some 46 → ∀ b c, t[i + 1]? = some b → t[i + 2]? = some c → Sre.isDigit b = true → Sre.isDigit c = false ∧ (c == 10) = false
  | [], i, _, h, _, _, _, _, _, _ => by simp at h
  | [_], i, _, h, _, _, _, _, _, _ => by simp at h
  | [_, _], i, _, h, _, _, _, _, _, _ => by simp at h; omega
  | a :: b :: c :: r, 0, hc, _, h0, b', c', h1, h2, hd => by
    simp at h0 h1 h2
    subst h0; subst h1; subst h2
    have hc' : ((!(46 == 46 && Sre.isDigit b) || (!Sre.isDigit c && c != 10)) && ce (b :: c :: r)) = true := hc
    rw [hd] at hc'
    simp at hc'
    exact ⟨hc'.1.1, by simp [hc'.1.2]⟩
  | a :: b :: c :: r, i + 1, hc, h, h0, b', c', h1, h2, hd => by
    have hc' : ((!(a == 46 && Sre.isDigit b) || (!Sre.isDigit c && c != 10)) && ce (b :: c :: r)) = true := hc
    rw [Bool.and_eq_true] at hc'
    refine ce_at (b :: c :: r) i hc'.2 ?_ ?_ b' c' ?_ ?_ hd
    · simp at h ⊢; omega
    · simpa using h0
    · simpa using h1
    · simpa using h2
theorem says_yes {x : Str} (hc : ce (tx x) = true) (hl : ∀ d, tx x = d ++ [46, 55] → False) (h7 : ∀ b, (tx x)[(tx x).length - 1]? = some b → Sre.isDigit b = true → b = 55) : Says x true := by
  refine search_no fun i hi h46 h1 hd => ?_
  have hsz : x.cps.size = (tx x).length := by simp
  have g0 : (tx x)[i]? = some 46 := by
    have : (tx x)[i]? = some ((x.cps).getD i 0) := by simp [Array.getD, hi]
    rw [this, h46]
  have g1 : (tx x)[i + 1]? = some (x.cps.getD (i + 1) 0) := by simp [Array.getD, h1]
  by_cases h2 : i + 2 < x.cps.size
  · have g2 : (tx x)[i + 2]? = some (x.cps.getD (i + 2) 0) := by simp [Array.getD, h2]
    obtain ⟨a, b⟩ := ce_at (tx x) i hc (by omega) g0 _ _ g1 g2 hd
    exact ⟨h2, a, b⟩
  · exfalso
    have hb := h7 (x.cps.getD (i + 1) 0) (by rw [show (tx x).length - 1 = i + 1 from by omega]; exact g1) hd
    rw [hb] at g1
    refine hl ((tx x).take i) ?_
    refine List.ext_getElem? fun k => ?_
    by_cases hk : k < i
    · rw [List.getElem?_append_left (by rw [List.length_take]; omega), List.getElem?_take, if_pos hk]
    · rw [List.getElem?_append_right (by rw [List.length_take]; omega), List.length_take, show min i (tx x).length = i from by omega]
      have h3 : k = i ∨ k = i + 1 ∨ i + 2 ≤ k := by omega
      rcases h3 with rfl | rfl | h3
      · simp [g0]
      · rw [g1]; simp
      · rw [List.getElem?_eq_none (by omega), List.getElem?_eq_none (by simp; omega)]
theorem says_no {x : Str} {d : List Nat} (hc : ce (tx x) = true) (hl : tx x = d ++ [46, 55]) : Says x false := by
  have hsz : x.cps.size = d.length + 2 := by
    have : x.cps.size = (tx x).length := by simp
    rw [this, hl]; simp
  have gd : ∀ k, k < x.cps.size → (tx x)[k]? = some (x.cps.getD k 0) := fun k hk => by simp [Array.getD, hk]
  refine search_yes (by omega) ?_ ?_ ?_
  · rw [hsz]
    exact Option.some.inj ((gd d.length (by omega)).symm.trans (by rw [hl]; simp))
  · rw [hsz]
    have e : x.cps.getD (d.length + 1) 0 = 55 := Option.some.inj ((gd (d.length + 1) (by omega)).symm.trans (by rw [hl]; simp))
    show Sre.isDigit (x.cps.getD (d.length + 1) 0) = true
    rw [e]; rfl
  · intro i hi h46 h1 hd
    have g0 : (tx x)[i]? = some 46 := by rw [gd i (by omega), h46]
    obtain ⟨a, b⟩ := ce_at (tx x) i hc (by simp at hsz ⊢; omega) g0 _ _ (gd (i + 1) h1) (gd (i + 2) (by omega)) hd
    exact ⟨by omega, a, b⟩

theorem ce_labs {t : List Nat} (hne : t ≠ []) (ht : ce (46 :: t) = true) : ∀ {i : List (List Nat)}, (∀ l ∈ i, LabL l) → ce (46 :: (i.flatMap fun l => l ++ [46]) ++ t) = true
  | [], _ => ht
  | l :: i, h => by
    have ih := ce_labs hne ht (i := i) fun l hl => h l (List.mem_cons_of_mem _ hl)
    have hl := h l (List.mem_cons_self ..)
    rw [List.flatMap_cons]
    show ce (46 :: ((l ++ [46]) ++ (i.flatMap fun l => l ++ [46]) ++ t)) = true
    rw [List.append_assoc, List.append_assoc]
    have e : ∃ c s, (i.flatMap fun l => l ++ [46]) ++ t = c :: s := by
      cases hx : (i.flatMap fun l => l ++ [46]) ++ t with
      | nil => simp at hx; exact absurd hx.2 hne
      | cons c s => exact ⟨c, s, rfl⟩
    obtain ⟨c, s, e⟩ := e
    have ih' : ce (46 :: c :: s) = true := by rw [← e]; exact ih
    rw [e]
    rcases hl with rfl | rfl | rfl
    · show ((!(46 == 46 && Sre.isDigit 97) || _) && ((!(97 == 46 && _) || _) && ce (46 :: c :: s))) = true
      rw [ih']; rfl
    · show ((!(46 == 46 && Sre.isDigit 98) || _) && ((!(98 == 46 && _) || _) && ce (46 :: c :: s))) = true
      rw [ih']; rfl
    · show ((!(46 == 46 && Sre.isDigit 55) || (!Sre.isDigit 46 && 46 != 10)) && ((!(55 == 46 && _) || _) && ce (46 :: c :: s))) = true
      rw [ih']; rfl
theorem jn_flat : ∀ (i : List (List Nat)) (l : List Nat), jn (i ++ [l]) = (i.flatMap fun l => l ++ [46]) ++ l
  | [], l => rfl
  | a :: i, l => by
    rw [List.cons_append, jn_cons (by simp), jn_flat i l, List.flatMap_cons]
    simp
theorem ce_tail {a : Nat} {t : List Nat} (h : ce (a :: t) = true) : ce t = true := by
  match t, h with
  | [], _ => rfl
  | [_], _ => rfl
  | b :: c :: r, h => exact (Bool.and_eq_true _ _ ▸ h : _ ∧ _).2
theorem ce_last {l : List Nat} (h : LstL l) : ce (46 :: l) = true := by
  rcases h with (rfl | rfl | rfl) | rfl <;> decide
theorem good_ce {n : Nat} {ls : List Str} (h : Good n ls) : ce (46 :: tx (jS ls)) = true := by
  obtain ⟨i, l, rfl, _, h2, h3⟩ := h
  rw [tx_join, List.map_append, List.map_cons, List.map_nil, jn_flat]
  exact ce_labs h3.tx.nodot.2 (ce_last h3.tx) (fun x hx => by obtain ⟨y, hy, rfl⟩ := List.mem_map.mp hx; exact (h2 y hy).tx)
end Mine
end
section
open PySem PySem.W PyProof.Rows PySem.Builtin PySem.Builtin.Str
namespace Mine
/-! the pattern upon hosts and rules -/
theorem flat_end : ∀ (i : List (List Nat)), i ≠ [] → ∃ e, (i.flatMap fun l => l ++ [46]) = e ++ [46]
  | [], h => absurd rfl h
  | [a], _ => ⟨a, by simp⟩
  | a :: b :: i, _ => by
    obtain ⟨e, h⟩ := flat_end (b :: i) (by simp)
    exact ⟨a ++ [46] ++ e, by rw [List.flatMap_cons, h]; simp⟩
theorem flat_end' (i : List (List Nat)) : ∃ e, 46 :: (i.flatMap fun l => l ++ [46]) = e ++ [46] := by
  by_cases h : i = []
  · subst h; exact ⟨[], rfl⟩
  · obtain ⟨e, he⟩ := flat_end i h
    exact ⟨46 :: e, by rw [he]; rfl⟩
theorem tx_s7 : tx s7 = [55] := by decide +kernel
theorem tx_good (i : List Str) (l : Str) : tx (jS (i ++ [l])) = ((i.map tx).flatMap fun l => l ++ [46]) ++ tx l := by
  rw [tx_join, List.map_append, List.map_cons, List.map_nil, jn_flat]
theorem tx_dotted (x : Str) : tx (dot ++ x) = 46 :: tx x := by rw [tx_app, tx_dot]; rfl
theorem last_no7 {l : Str} (h : Lst l) (h7 : l ≠ s7) : ∃ e c, tx l = e ++ [c] ∧ Sre.isDigit c = false := by
  rcases h with (rfl | rfl | rfl) | rfl
  · exact ⟨[], 97, by decide +kernel, rfl⟩
  · exact ⟨[], 98, by decide +kernel, rfl⟩
  · exact absurd rfl h7
  · exact ⟨[108, 111, 99, 97], 108, by decide +kernel, rfl⟩
theorem says_true_of {x : Str} {p : List Nat} {l : Str} (hx : tx x = p ++ tx l) (hc : ce (tx x) = true) (h : Lst l) (h7 : l ≠ s7) : Says x true := by
  obtain ⟨e, c, he, hd⟩ := last_no7 h h7
  have hx' : tx x = (p ++ e) ++ [c] := by rw [hx, he, List.append_assoc]
  refine says_yes hc (fun d hd' => ?_) (fun b hb hb' => ?_)
  · have : (p ++ e) ++ [c] = (d ++ [46]) ++ [55] := by rw [← hx', hd']; simp
    have := (List.append_inj' this rfl).2
    simp at this
    rw [this] at hd; cases hd
  · rw [hx'] at hb
    simp at hb
    rw [hb] at hd; rw [hd] at hb'; cases hb'
/-- of a host: a name, unless its last label is a number behind a dot -/
theorem says_host {n : Nat} {i : List Str} {l : Str} (h : Good n (i ++ [l])) : Says (jS (i ++ [l])) (!(decide (i ≠ []) && decide (l = s7))) := by
  have hc := ce_tail (good_ce h)
  have hl : Lst l := h.all l (by simp)
  have hx := tx_good i l
  by_cases h7 : l = s7
  · by_cases hi : i = []
    · subst hi; subst h7
      rw [show (!(decide (([] : List Str) ≠ []) && decide (s7 = s7))) = true from by simp]
      have hx' : tx (jS ([] ++ [s7])) = [55] := by rw [hx]; exact tx_s7
      refine says_yes hc (fun d hd => ?_) (fun b hb _ => ?_)
      · rw [hx'] at hd
        have := congrArg List.length hd
        simp at this
      · rw [hx'] at hb; simp at hb; exact hb.symm
    · rw [show (!(decide (i ≠ []) && decide (l = s7))) = false from by simp [hi, h7]]
      obtain ⟨e, he⟩ := flat_end (i.map tx) (by simpa using hi)
      exact says_no (d := e) hc (by rw [hx, he, h7, tx_s7]; simp)
  · rw [show (!(decide (i ≠ []) && decide (l = s7))) = true from by simp [h7]]
    exact says_true_of hx hc hl h7
theorem says_dotted {n : Nat} {i : List Str} {l : Str} (h : Good n (i ++ [l])) : Says (dot ++ jS (i ++ [l])) (!decide (l = s7)) := by
  have hx : tx (dot ++ jS (i ++ [l])) = (46 :: ((i.map tx).flatMap fun l => l ++ [46])) ++ tx l := by rw [tx_dotted, tx_good]; rfl
  have hc : ce (tx (dot ++ jS (i ++ [l]))) = true := by rw [tx_dotted]; exact good_ce h
  have hl : Lst l := h.all l (by simp)
  by_cases h7 : l = s7
  · rw [show (!decide (l = s7)) = false from by simp [h7]]
    obtain ⟨e, he⟩ := flat_end' (i.map tx)
    exact says_no (d := e) hc (by rw [hx, he, h7, tx_s7]; simp)
  · rw [show (!decide (l = s7)) = true from by simp [h7]]
    exact says_true_of hx hc hl h7
/-! the way up -/
def okR (r : List Str) : Bool := decide (r ≠ []) && decide (r.getLast? ≠ some s7) && (decide (2 ≤ r.length) || decide (r = [sL]))
noncomputable def climbL : List Str → List Str
  | [] => []
  | _ :: r => if okR r then (dot ++ jS r) :: climbL r else []
noncomputable def rungsR : List Str → List Str
  | [] => []
  | _ :: r => (if okR r then [dot ++ jS r] else []) ++ rungsR r
theorem rungs_none : ∀ {r : List Str}, okR r = false → rungsR r = []
  | [], _ => rfl
  | [x], _ => by simp [rungsR, okR]
  | x :: y :: t, h => by
    have h7 : (y :: t).getLast? = some s7 := by
      unfold okR at h
      simp at h
      simpa using h
    have h' : okR (y :: t) = false := by unfold okR; simp [h7]
    show (if okR (y :: t) then _ else []) ++ rungsR (y :: t) = []
    rw [h', rungs_none h']; rfl
theorem climb_rungs : ∀ ls : List Str, climbL ls = rungsR ls
  | [] => rfl
  | a :: r => by
    show (if okR r then _ else _) = (if okR r then _ else _) ++ rungsR r
    cases h : okR r with
    | true => simp [climb_rungs r]
    | false => rw [rungs_none h]; rfl
theorem jS_cut {a : Str} {r : List Str} (hr : r ≠ []) (ha : 46 ∉ tx a) : Txt.find (jS (a :: r)) dot = ((tx a).length : Int) ∧ cutAt (jS (a :: r)) = jS r := by
  have hx : tx (jS (a :: r)) = tx a ++ 46 :: tx (jS r) := by
    rw [tx_join, tx_join, List.map_cons, jn_cons (by simpa using hr)]
  have hf := find_first hx ha
  refine ⟨hf, tx_inj ?_⟩
  unfold cutAt
  rw [hf, tx_from (by omega) (by rw [← tx_len, hx]; simp; omega), hx, show ((tx a).length + 1 : Int).toNat = (tx a).length + 1 from by omega]
  rw [← List.drop_drop, List.drop_left]
  rfl
theorem good_tail {n : Nat} {a : Str} {r : List Str} (h : Good n (a :: r)) (hr : r ≠ []) : Good n r := by
  have := h.drop (e := 1) (by cases r <;> simp at hr ⊢)
  simpa using this
theorem nodots {n : Nat} {ls : List Str} (h : Good n ls) : ∀ l ∈ ls, 46 ∉ tx l ∧ tx l ≠ [] := fun l hl => (h.all l hl).tx.nodot
theorem jS_single (l : Str) : jS [l] = l := tx_inj (by rw [tx_join]; rfl)
theorem reach_good {n : Nat} {i : List Str} {l : Str} {a : Str} {r : List Str} (h : Good n (i ++ [l])) (e : i ++ [l] = a :: r) :
    reachOf (jS (a :: r)) (!(decide (i ≠ []) && decide (l = s7))) = if okR r then dot ++ jS r else jS (a :: r) := by
  rw [e] at h
  have ha := nodots h a (List.mem_cons_self ..)
  by_cases hr : r = []
  · subst hr
    have hf : Txt.find (jS [a]) dot = -1 := find_none (by rw [jS_single]; exact ha.1)
    unfold reachOf
    rw [hf, if_neg (by rintro ⟨h, _⟩; omega)]
    simp [okR]
  · obtain ⟨hf, hcut⟩ := jS_cut hr ha.1
    have hi : i ≠ [] := by
      rintro rfl
      simp at e
      exact hr e.2
    have hgl : r.getLast? = some l := by
      have := congrArg List.getLast? e
      rw [List.getLast?_append] at this
      simp at this
      rw [List.getLast?_cons] at this
      cases hg : r.getLast? with
      | none => rw [List.getLast?_eq_none_iff] at hg; exact absurd hg hr
      | some x => rw [hg] at this; simp at this; rw [this]
    have hr2 : (0 ≤ Txt.find (jS r) dot ∨ jS r = sL) ↔ (2 ≤ r.length ∨ r = [sL]) := by
      have hg := good_tail h hr
      cases r with
      | nil => exact absurd rfl hr
      | cons b t =>
        have hb := nodots hg b (List.mem_cons_self ..)
        cases t with
        | nil =>
          rw [jS_single, find_none hb.1]
          simp
        | cons c t =>
          obtain ⟨hf', _⟩ := jS_cut (a := b) (r := c :: t) (by simp) hb.1
          rw [hf']
          simp
    unfold reachOf
    rw [hf, hcut]
    by_cases h7 : l = s7
    · rw [if_neg (by simp [hi, h7])]
      have : okR r = false := by unfold okR; simp [hgl, h7]
      rw [this]; rfl
    · by_cases hc : 2 ≤ r.length ∨ r = [sL]
      · rw [if_pos ⟨by omega, by simp [h7], hr2.mpr hc⟩]
        have : okR r = true := by unfold okR; simp [hr, hgl, h7, hc]
        rw [this]; rfl
      · rw [if_neg (fun h => hc (hr2.mp h.2.2))]
        have : okR r = false := by unfold okR; simp [hr, hgl, h7]; simpa using hc
        rw [this]; rfl
end Mine
end
section
open PySem PySem.W PyProof.Rows PySem.Builtin PySem.Builtin.Str
namespace Mine
theorem still_lst {l : Str} (h : Lst l) : KXs.Still l := by
  rcases h with (rfl | rfl | rfl) | rfl <;> exact KXs.still_of (by decide +kernel)
theorem still_dot : KXs.Still dot := KXs.still_of (by decide +kernel)
theorem still_good {n : Nat} {ls : List Str} (h : Good n ls) : KXs.Still (jS ls) := by
  show KXs.Still (glued dot ls)
  rw [StrLaws.glued_eq_join]
  exact KXs.still_joined still_dot ls fun a ha => still_lst (h.all a ha)
theorem still_dotted {n : Nat} {ls : List Str} (h : Good n ls) : KXs.Still (dot ++ jS ls) := KXs.still_app still_dot (still_good h)
theorem lab_len {l : Str} (h : Lab l) : (tx l).length = 1 := by
  rcases h.tx with e | e | e <;> rw [e] <;> rfl
theorem lst_len {l : Str} (h : Lst l) : 1 ≤ (tx l).length ∧ (tx l).length ≤ 5 := by
  rcases h.tx with (e | e | e) | e <;> rw [e] <;> decide
theorem flat_len : ∀ {i : List Str}, (∀ l ∈ i, Lab l) → ((i.map tx).flatMap fun l => l ++ [46]).length = 2 * i.length
  | [], _ => rfl
  | a :: i, h => by
    rw [List.map_cons, List.flatMap_cons, List.length_append, flat_len (fun l hl => h l (List.mem_cons_of_mem _ hl)), List.length_append, lab_len (h a (List.mem_cons_self ..)), List.length_cons]
    simp; omega
theorem good_len {n : Nat} {ls : List Str} (h : Good n ls) : 1 ≤ (jS ls).length ∧ (jS ls).length ≤ 2 * n + 5 := by
  obtain ⟨i, l, rfl, h1, h2, h3⟩ := h
  rw [← tx_len, tx_good, List.length_append, flat_len h2]
  have := lst_len h3
  omega
theorem dotted_len {n : Nat} {ls : List Str} (h : Good n ls) : (dot ++ jS ls).length ≤ 2 * n + 6 := by
  rw [← tx_len, tx_dotted, List.length_cons, tx_len]
  have := good_len h
  omega
theorem not_dot {c : Nat} (h : c ≠ 46) : ((⟨#[c]⟩ : Str) == Str.ofString ".") = false := by
  rw [beq_eq_false_iff_ne]
  intro e
  have := congrArg tx e
  rw [show tx (Str.ofString ".") = [46] from tx_dot] at this
  simp [tx] at this
  exact h this
theorem good_first {n : Nat} {ls : List Str} (h : Good n ls) : ∃ c r, tx (jS ls) = c :: r ∧ c ≠ 46 := by
  obtain ⟨hl, _⟩ := h.len
  cases ls with
  | nil => simp at hl
  | cons a r =>
    obtain ⟨ha, hne⟩ := nodots h a (List.mem_cons_self ..)
    cases ht : tx a with
    | nil => exact absurd ht hne
    | cons c t =>
      have hc : c ≠ 46 := fun e => ha (by rw [ht, e]; exact List.mem_cons_self ..)
      by_cases hr : r = []
      · subst hr; exact ⟨c, t, by rw [jS_single, ht], hc⟩
      · exact ⟨c, t ++ 46 :: jn (r.map tx), by rw [tx_join, List.map_cons, jn_cons (by simpa using hr), ht]; rfl, hc⟩
theorem item_first {n : Nat} {ls : List Str} (h : Good n ls) : (Txt.item (jS ls) 0 == Str.ofString ".") = false := by
  obtain ⟨c, r, e, hc⟩ := good_first h
  have hl := (good_len h).1
  rw [tx_item (by omega) (by omega)]
  simp only [e]
  exact not_dot hc
theorem item_last {n : Nat} {ls : List Str} (h : Good n ls) : (Txt.item (jS ls) (-1) == Str.ofString ".") = false := by
  have hl := (good_len h).1
  obtain ⟨i, l, rfl, h1, h2, h3⟩ := h
  rw [tx_item_neg (by omega) (by omega)]
  refine not_dot ?_
  intro e
  have hn := h3.tx.nodot
  have e2 : (tx (jS (i ++ [l]))).getLast? = (tx l).getLast? := by
    rw [tx_good, List.getLast?_append]
    cases hg : (tx l).getLast? with
    | none => exact absurd (List.getLast?_eq_none_iff.mp hg) hn.2
    | some c => rfl
  have e3 : (tx (jS (i ++ [l]))).getLast? = some 46 := by
    rw [List.getLast?_eq_getElem?, List.getElem?_eq_some_iff]
    refine ⟨by rw [tx_len]; omega, ?_⟩
    rw [← e]
    congr 1
    rw [tx_len]; omega
  rw [e3] at e2
  exact hn.1 (List.mem_of_getLast? e2.symm)
theorem dotted_ne {n : Nat} {ls : List Str} (h : Good n ls) (y : Str) : dot ++ y ≠ jS ls := by
  intro e
  obtain ⟨c, r, e2, hc⟩ := good_first h
  rw [← e, tx_dotted] at e2
  simp at e2
  exact hc e2.1.symm
theorem cut_dot (y : Str) : Txt.slice (dot ++ y) (some 1) none = y := by
  refine tx_inj ?_
  rw [tx_from (by omega) (by rw [← tx_len, tx_dotted, List.length_cons]; omega), tx_dotted]
  rfl
theorem good_split {n : Nat} {ls : List Str} (h : Good n ls) : ∃ a r, ls = a :: r := by
  have := h.len
  cases ls with
  | nil => simp at this
  | cons a r => exact ⟨a, r, rfl⟩
theorem okR_ne {r : List Str} (h : okR r = true) : r ≠ [] := by
  intro e
  subst e
  simp [okR] at h
/-- what reach gives of a good host -/
theorem reach_step {n : Nat} {a : Str} {r : List Str} (h : Good n (a :: r)) : ∃ b, Says (jS (a :: r)) b ∧ reachOf (jS (a :: r)) b = if okR r then dot ++ jS r else jS (a :: r) := by
  obtain ⟨i, l, e, h1, h2, h3⟩ := id h
  rw [e] at h
  exact ⟨_, e ▸ says_host h, reach_good h e.symm⟩
end Mine
end
section
open PySem PySem.W PyProof.Rows
namespace Mine
section
variable {prog : Program} {w : World} {A : Around} {E : Value → Shared → Prop} {s : Shared} {h₀ : Heap} {L l : Addr} {m : Str → Option Value} {news : List (Addr × Obj)} {u : Obj → List (Addr × Obj)} {vs : List Value} {v : Value} {c : Nat} {Q : Value → Shared → Prop}
theorem list_app (F : Fr h₀ L s.heap m) (N : News h₀ L s.heap news) (U : UpdF l (listOf vs.toArray c) news u) (hz : vs.length ≤ 1000)
    (h : ∀ h' c', Fr h₀ L h' m → News h₀ L h' (u (listOf (vs ++ [v]).toArray c')) → Q .none { s with heap := h' }) :
    wpAny (model prog w) A (call (.builtin "list.append") [.ref l, v]) Q E s := by
  obtain ⟨pre, post, e1, e2, n1, n2⟩ := U.split
  have hm : (l, listOf vs.toArray c) ∈ news := by rw [e1]; simp
  refine append_at (hsz := by rw [sizeLine_eq, List.size_toArray]; omega) (N _ hm).1 fun h' hs ho' => ?_
  refine h h' (c + 1) (F.change hs (N _ hm).2.1 (N _ hm).2.2) ?_
  rw [e2]
  intro p hp
  rcases List.mem_append.mp hp with hp | hp
  · have := N p (by rw [e1]; exact List.mem_append_left _ hp)
    exact ⟨(hs.2 _ (n1 p hp)).trans this.1, this.2⟩
  · rcases List.mem_cons.mp hp with rfl | hp
    · refine ⟨?_, (N _ hm).2⟩
      rw [ho']
      simp [W.listOf]
    · have := N p (by rw [e1]; exact List.mem_append_right _ (List.mem_cons_of_mem _ hp))
      exact ⟨(hs.2 _ (n2 p hp)).trans this.1, this.2⟩
end
section
variable {M : Model} {A : Around} {E : Value → Shared → Prop} {s : Shared} {h₀ : Heap} {L c : Addr} {m : Str → Option Value} {news : List (Addr × Obj)} {u : Obj → List (Addr × Obj)} {env : Env} {x : Str} {v : Value} {v₀ : Option Value} {o : Obj} {Q : Unit → Shared → Prop}
/-- a store into a cell that lies in the ledger -/
theorem cell_put (F : Fr h₀ L s.heap m) (N : News h₀ L s.heap news) (U : UpdF c o news u) (hd : o.data = .cell v₀) (hk : env.scope.kind = .function) (hl : env.kindOf x = some .cell) (hc : env.cells.lookup x = some c)
    (h : ∀ h' o', Fr h₀ L h' m → News h₀ L h' (u o') → o'.data = .cell (some v) → Q () { s with heap := h' }) : wpAny M A (storeName env x v) Q E s := by
  obtain ⟨own, rest, rfl, hg, h1, h2⟩ := U.split
  have hmem := N (c, o) (List.mem_append_right _ (.head _))
  refine wpAny_storeName_cell hk hl hc ⟨o, hmem.1, hd⟩ fun h' hv hs => ?_
  obtain ⟨o', ho', hd'⟩ := hv
  exact h h' o' (F.change hs hmem.2.1 hmem.2.2) (hg o' ▸ N.setAt h1 h2 hs ho') hd'
end
end Mine
end
section
open PySem PySem.W PyProof.Rows
namespace Mine
set_option pp.deepTerms false
set_option pp.deepTerms.threshold 6
theorem climb_end {a : Str} {r : List Str} (h : okR r = false) : climbL (a :: r) = [] := by
  show (if okR r then _ else _) = _
  rw [h]; rfl
theorem climb_more {a : Str} {r : List Str} (h : okR r = true) : climbL (a :: r) = (dot ++ jS r) :: climbL r := by
  show (if okR r then _ else _) = _
  rw [h]; rfl
set_option maxRecDepth 100000 in
set_option maxHeartbeats 1000000 in
theorem climbed_c (w : World) (mean : ExcName → Option Value) (mg mb : Str → Option Value) (news : List (Addr × Obj)) (ls : List Str) (tkx : Tok) (hg : Good 3 ls) :
    Ctr 16 w mean mg mb 97 news [.str (jS ls) tkx] (fun r tl => ∃ D ws c, r = .ref D ∧ tl = [(D, listOf ws.toArray c)] ∧ StrsAre ws (jS ls :: climbL ls)) := by
  unfold Ctr Pg Lo
  w_top off
  k_fill
  intro dp un gd cn cs a ccd cl outer A₀ base h₀ L m s Q E B F X N T hk hd hu hret
  refine wpAny_call ?_
  k_dflt cell_enter
  (rename Fr _ _ _ _ => F0)
  obtain ⟨m1, F1⟩ := fr_open F0 [(Str.ofString "host", .str (jS ls) tkx)] (.cons rfl .nil)
  clear F0
  dsimp only [kstB] at F1
  repeat' ((fail_if_success (with_reducible show Lfp _ _ _ _ _ _ _)); (fail_if_success (with_reducible show TurnW _ _ _ _ _ _ _ _ _ _)); (fail_if_success (with_reducible show TurnF _ _ _ _ _ _ _ _ _)); (fail_if_success (with_reducible show CutF _ _ _ _ _ _ _ _ _)); (fail_if_success (with_reducible show Q _ _)); (fail_if_success (with_reducible show LCg.CompSrc _ _ _ _ _ _ _ _ _ _ _ _ _ _ )); (fail_if_success (with_reducible show LCg.CompEnd _ _ _ _ _ _ _ _ _ _ _ _ _ _ )); (fail_if_success (with_reducible show wpAny _ _ (exec (Stmt.While _ _ _ _) _) _ _ _)); (fail_if_success (with_reducible show wpAny _ _ (exec (Stmt.For _ _ _ _ _) _) _ _ _)); (first | ((first | (with_reducible show wpAny _ _ (execs _ _) _ _ _) | (with_reducible show wpAny _ _ (PySem.isTrue _ _ _) _ _ _)); (dsimp only); walk1) | (k_unfold; (try dsimp only)) | (k_end; wrow_close) | walk1 | (dsimp only; walk1) | (leave1; walk_say "STEP leave1"; try dsimp only) | fail "no step"))
  (rename_i D zh2 lD zh1 zk zh F2 N2)
  with_unfolding_all refine' For_invVF F2 ?k1 ?k2 ?_
  case k1 => exact rfl
  case k2 => exact rfl
  repeat' ((fail_if_success (with_reducible show Lfp _ _ _ _ _ _ _)); (fail_if_success (with_reducible show TurnW _ _ _ _ _ _ _ _ _ _)); (fail_if_success (with_reducible show TurnF _ _ _ _ _ _ _ _ _)); (fail_if_success (with_reducible show CutF _ _ _ _ _ _ _ _ _)); (fail_if_success (with_reducible show Q _ _)); (fail_if_success (with_reducible show LCg.CompSrc _ _ _ _ _ _ _ _ _ _ _ _ _ _ )); (fail_if_success (with_reducible show LCg.CompEnd _ _ _ _ _ _ _ _ _ _ _ _ _ _ )); (fail_if_success (with_reducible show wpAny _ _ (exec (Stmt.While _ _ _ _) _) _ _ _)); (fail_if_success (with_reducible show wpAny _ _ (exec (Stmt.For _ _ _ _ _) _) _ _ _)); (fail_if_success (with_reducible show wpAny _ _ (pyIter _) _ _ _)); (first | ((first | (with_reducible show wpAny _ _ (execs _ _) _ _ _) | (with_reducible show wpAny _ _ (PySem.isTrue _ _ _) _ _ _)); (dsimp only); walk1) | (k_unfold; (try dsimp only)) | (k_end; wrow_close) | walk1 | (dsimp only; walk1) | (leave1; walk_say "STEP leave1"; try dsimp only) | fail "no step"))
  (rename IsRange _ _ _ _ _ _ _ _ => hR); (rename Fr _ _ _ _ => F2); (rename News _ _ _ _ => N2)
  refine itRange (n := 6) (σ := List Value × Nat × List Str × Tok) (fun c => [(Str.ofString "climbed", .ref D), (Str.ofString "here", .str (jS c.2.2.1) c.2.2.2)])
    (fun c => (D, listOf c.1.toArray c.2.1) :: news)
    (fun i c => ∃ acc, StrsAre c.1 acc ∧ jS ls :: climbL ls = acc ++ climbL c.2.2.1 ∧ Good 3 c.2.2.1 ∧ c.2.2.1.length + i ≤ 4 ∧ acc.length ≤ i + 1) ([Value.str (jS ls) tkx], 0, ls, tkx)
    rfl hR (small_one (by omega) (by omega) (by omega) (by omega)) (by simp only [Builtin.Range.rangeSize]; omega) (fun _ => rfl) F2 N2 (.cons rfl (.cons rfl .nil)) ⟨[jS ls], .cons _ _ .nil, rfl, hg, by have := hg.len; dsimp only; omega, by simp⟩ ?_ ?_
  · clear F2 N2
    rintro i k tk9 ⟨ws, cc, cur, th⟩ m2 h2 tk2 I oi hi hk9 ⟨acc, hws, hcl, hgc, hln, hla⟩ lI F3 N3
    dsimp only [kstB] at F3
    dsimp only at hws hcl hgc hln N3 lI
    obtain ⟨x, r, rfl⟩ := good_split hgc
    obtain ⟨b, hsb, hrb⟩ := reach_step hgc
    have hlx := good_len hgc
    have hwl := PyProof.Rows.StrsAre.length hws
    repeat' ((fail_if_success (with_reducible show Lfp _ _ _ _ _ _ _)); (fail_if_success (with_reducible show TurnW _ _ _ _ _ _ _ _ _ _)); (fail_if_success (with_reducible show TurnF _ _ _ _ _ _ _ _ _)); (fail_if_success (with_reducible show CutF _ _ _ _ _ _ _ _ _)); (fail_if_success (with_reducible show Q _ _)); (fail_if_success (with_reducible show LCg.CompSrc _ _ _ _ _ _ _ _ _ _ _ _ _ _ )); (fail_if_success (with_reducible show LCg.CompEnd _ _ _ _ _ _ _ _ _ _ _ _ _ _ )); (fail_if_success (with_reducible show wpAny _ _ (exec (Stmt.While _ _ _ _) _) _ _ _)); (fail_if_success (with_reducible show wpAny _ _ (exec (Stmt.For _ _ _ _ _) _) _ _ _)); (fail_if_success (with_reducible show wpAny _ _ (call (Value.ref _) _) _ _ _)); (first | ((first | (with_reducible show wpAny _ _ (execs _ _) _ _ _) | (with_reducible show wpAny _ _ (PySem.isTrue _ _ _) _ _ _)); (dsimp only); walk1) | (k_unfold; (try dsimp only)) | (k_end; wrow_close) | walk1 | (dsimp only; walk1) | (leave1; walk_say "STEP leave1"; try dsimp only) | fail "no step"))
    (rename Fr _ _ _ _ => F4); (rename News _ _ _ _ => N4)
    refine (reach_c w mean mg mb _ (jS (x :: r)) _ (by omega) hlx.1 (item_first hgc) (item_last hgc) hsb) _ _ _ _ _ _ _ _ _ _ _ _ _ _ _ _ _ (by k_asm) F4 (by k_asm) N4 (by k_asm) rfl (by show dp + 1 + 8 < recursionLimit; omega) (by show un + 3 + 16 * 8 < cLine; omega) ?_
    rintro rv tl h5 tk5 ⟨etl, t9, erv⟩ F9 N9 -
    subst etl; subst erv
    dsimp only [List.nil_append] at N9
    rw [hrb]
    cases hok : okR r with
    | true =>
      have hne : (dot ++ jS r == jS (x :: r)) = false := beq_eq_false_iff_ne.mpr (dotted_ne hgc _)
      simp only [if_true]
      have hgr := good_tail hgc (okR_ne hok)
      have hlr := dotted_len hgr
      repeat' ((fail_if_success (with_reducible show Lfp _ _ _ _ _ _ _)); (fail_if_success (with_reducible show TurnW _ _ _ _ _ _ _ _ _ _)); (fail_if_success (with_reducible show TurnF _ _ _ _ _ _ _ _ _)); (fail_if_success (with_reducible show CutF _ _ _ _ _ _ _ _ _)); (fail_if_success (with_reducible show Q _ _)); (fail_if_success (with_reducible show LCg.CompSrc _ _ _ _ _ _ _ _ _ _ _ _ _ _ )); (fail_if_success (with_reducible show LCg.CompEnd _ _ _ _ _ _ _ _ _ _ _ _ _ _ )); (fail_if_success (with_reducible show wpAny _ _ (exec (Stmt.While _ _ _ _) _) _ _ _)); (fail_if_success (with_reducible show wpAny _ _ (exec (Stmt.For _ _ _ _ _) _) _ _ _)); (fail_if_success (with_reducible show wpAny _ _ (call (Value.builtin "list.append") _) _ _ _)); (first | ((first | (with_reducible show wpAny _ _ (execs _ _) _ _ _) | (with_reducible show wpAny _ _ (PySem.isTrue _ _ _) _ _ _)); (dsimp only); walk1) | (k_unfold; (try dsimp only)) | (k_end; wrow_close) | walk1 | (dsimp only; walk1) | (leave1; walk_say "STEP leave1"; try dsimp only) | fail "no step"))
      (rename Fr _ _ _ _ => F5); (rename News _ _ _ _ => N5)
      refine list_app F5 N5 (.tail (Nat.ne_of_gt (lI _ (List.mem_cons_self ..))) (.head fun p hp => Nat.ne_of_lt (lD p hp))) (by omega) ?_
      intro h6 c6 F6 N6
      clear F5 N5
      repeat' ((fail_if_success (with_reducible show Lfp _ _ _ _ _ _ _)); (fail_if_success (with_reducible show TurnW _ _ _ _ _ _ _ _ _ _)); (fail_if_success (with_reducible show TurnF _ _ _ _ _ _ _ _ _)); (fail_if_success (with_reducible show CutF _ _ _ _ _ _ _ _ _)); (fail_if_success (with_reducible show Q _ _)); (fail_if_success (with_reducible show LCg.CompSrc _ _ _ _ _ _ _ _ _ _ _ _ _ _ )); (fail_if_success (with_reducible show LCg.CompEnd _ _ _ _ _ _ _ _ _ _ _ _ _ _ )); (fail_if_success (with_reducible show wpAny _ _ (exec (Stmt.While _ _ _ _) _) _ _ _)); (fail_if_success (with_reducible show wpAny _ _ (exec (Stmt.For _ _ _ _ _) _) _ _ _)); (first | ((first | (with_reducible show wpAny _ _ (execs _ _) _ _ _) | (with_reducible show wpAny _ _ (PySem.isTrue _ _ _) _ _ _)); (dsimp only); walk1) | (k_unfold; (try dsimp only)) | (k_end; wrow_close) | walk1 | (dsimp only; walk1) | (leave1; walk_say "STEP leave1"; try dsimp only) | fail "no step"))
      (rename Fr _ _ _ _ => F7); (rename News _ _ _ _ => N7)
      rw [cut_dot] at F7
      exact lfp (_, _, r, _) F7 N7 (.cons rfl (.cons rfl .nil)) (fun _ h => h) ⟨acc ++ [dot ++ jS r], StrsAre.append' hws (.cons _ _ .nil), by rw [hcl, climb_more hok]; simp, hgr, by dsimp only [List.length_cons] at hln ⊢; omega, by rw [List.length_append]; simp; omega⟩
    | false =>
      simp only [Bool.false_eq_true, if_false]
      have hne : (jS (x :: r) == jS (x :: r)) = true := beq_self_eq_true _
      repeat' ((fail_if_success (with_reducible show Lfp _ _ _ _ _ _ _)); (fail_if_success (with_reducible show TurnW _ _ _ _ _ _ _ _ _ _)); (fail_if_success (with_reducible show TurnF _ _ _ _ _ _ _ _ _)); (fail_if_success (with_reducible show CutF _ _ _ _ _ _ _ _ _)); (fail_if_success (with_reducible show Q _ _)); (fail_if_success (with_reducible show LCg.CompSrc _ _ _ _ _ _ _ _ _ _ _ _ _ _ )); (fail_if_success (with_reducible show LCg.CompEnd _ _ _ _ _ _ _ _ _ _ _ _ _ _ )); (fail_if_success (with_reducible show wpAny _ _ (exec (Stmt.While _ _ _ _) _) _ _ _)); (fail_if_success (with_reducible show wpAny _ _ (exec (Stmt.For _ _ _ _ _) _) _ _ _)); (fail_if_success (with_reducible show wpAny _ _ (call (Value.builtin "list.append") _) _ _ _)); (first | ((first | (with_reducible show wpAny _ _ (execs _ _) _ _ _) | (with_reducible show wpAny _ _ (PySem.isTrue _ _ _) _ _ _)); (dsimp only); walk1) | (k_unfold; (try dsimp only)) | (k_end; wrow_close) | walk1 | (dsimp only; walk1) | (leave1; walk_say "STEP leave1"; try dsimp only) | fail "no step"))
      dsimp only [TurnF]
      repeat' ((fail_if_success (with_reducible show Lfp _ _ _ _ _ _ _)); (fail_if_success (with_reducible show TurnW _ _ _ _ _ _ _ _ _ _)); (fail_if_success (with_reducible show TurnF _ _ _ _ _ _ _ _ _)); (fail_if_success (with_reducible show CutF _ _ _ _ _ _ _ _ _)); (fail_if_success (with_reducible show Q _ _)); (fail_if_success (with_reducible show LCg.CompSrc _ _ _ _ _ _ _ _ _ _ _ _ _ _ )); (fail_if_success (with_reducible show LCg.CompEnd _ _ _ _ _ _ _ _ _ _ _ _ _ _ )); (fail_if_success (with_reducible show wpAny _ _ (exec (Stmt.While _ _ _ _) _) _ _ _)); (fail_if_success (with_reducible show wpAny _ _ (exec (Stmt.For _ _ _ _ _) _) _ _ _)); (first | ((first | (with_reducible show wpAny _ _ (execs _ _) _ _ _) | (with_reducible show wpAny _ _ (PySem.isTrue _ _ _) _ _ _)); (dsimp only); walk1) | (k_unfold; (try dsimp only)) | (k_end; wrow_close) | walk1 | (dsimp only; walk1) | (leave1; walk_say "STEP leave1"; try dsimp only) | fail "no step"))
      (rename News _ _ _ _ => N9)
      exact hret _ [(D, listOf ws.toArray cc)] _ _ ⟨D, ws, cc, rfl, rfl, by rw [hcl, climb_end hok, List.append_nil]; exact hws⟩ (by k_asm)
        (cb_drop N9 fun p hp => List.mem_cons_of_mem _ hp) (fun q hq p hp => by rw [List.mem_singleton.mp hp]; exact lD q hq)
  · clear F2 N2
    rintro ⟨ws, cc, cur, th⟩ m2 h2 tk2 ⟨acc, hws, hcl, hgc, hln, hla⟩ F3 N3
    dsimp only at hln
    have := hgc.len
    dsimp only at this
    omega
end Mine
end
section
open PySem PySem.W PyProof.Rows
namespace Mine
theorem sum_len : ∀ {ls : List Str}, (∀ l ∈ ls, Lst l) → (ls.map (·.length)).sum ≤ 5 * ls.length
  | [], _ => by simp
  | a :: r, h => by
    have h1 := sum_len (ls := r) fun l hl => h l (List.mem_cons_of_mem _ hl)
    have h2 := (lst_len (h a (List.mem_cons_self ..))).2
    rw [tx_len] at h2
    simp only [List.map_cons, List.sum_cons, List.length_cons]
    omega
section
variable {prog : Program} {w : World} {A : Around} {E : Value → Shared → Prop} {s : Shared} {h₀ : Heap} {L D : Addr} {news : List (Addr × Obj)} {us : List Value} {ls : List Str} {c n : Nat} {t : Tok} {Q : Value → Shared → Prop}
theorem join_good (N : News h₀ L s.heap news) (hm : (D, listOf us.toArray c) ∈ news) (hs : StrsAre us ls) (hg : Good n ls) (hn : n ≤ 10)
    (h : ∀ t' k, Q (.str (jS ls) t') { s with toks := k }) : wpAny (model prog w) A (call (.builtin "str.join") [.str (Str.ofString ".") t, .ref D]) Q E s := by
  refine join_listW (ys := ls) ⟨_, (N _ hm).1, rfl, c, rfl⟩ hs (by decide +kernel) ?_ h
  have := sum_len hg.all
  have := hg.len
  omega
end
end Mine
end
section
open PySem PySem.W PyProof.Rows PySem.Builtin PySem.Builtin.Str
namespace Mine
def rung1 (r : List Str) : List Str := if okR r then [dot ++ jS r] else []
def rungsTo (ls : List Str) (i : Nat) : List Str := (List.range i).flatMap fun k => rung1 (ls.drop (k + 1))
theorem rungsTo_succ (ls : List Str) (i : Nat) : rungsTo ls (i + 1) = rungsTo ls i ++ rung1 (ls.drop (i + 1)) := by
  unfold rungsTo
  rw [List.range_succ, List.flatMap_append]
  simp
theorem rungsR_to : ∀ ls : List Str, rungsR ls = rungsTo ls ls.length
  | [] => rfl
  | a :: r => by
    show rung1 r ++ rungsR r = _
    rw [rungsR_to r]
    unfold rungsTo
    rw [List.length_cons, List.range_succ_eq_map, List.flatMap_cons, List.flatMap_map]
    rfl
theorem rungsTo_end {ls : List Str} (h : 1 ≤ ls.length) : rungsTo ls (ls.length - 1) = rungsR ls := by
  obtain ⟨n, hn⟩ : ∃ n, ls.length = n + 1 := ⟨ls.length - 1, by omega⟩
  rw [rungsR_to, hn, rungsTo_succ, show ls.drop (n + 1) = [] from List.drop_eq_nil_of_le (by omega)]
  simp [rung1, okR]
theorem getLast_of {ls : List Str} {i : List Str} {l : Str} (e : ls = i ++ [l]) : ls.getD ((-1 : Int) + ls.length).toNat Str.empty = l := by
  subst e
  have e2 : ((-1 : Int) + (i ++ [l]).length).toNat = i.length := by simp; omega
  rw [e2]
  simp [List.getD]
theorem last_drop {ls : List Str} {k : Nat} (h : k < ls.length) : (ls.drop k).getLast? = ls.getLast? := by
  rw [List.getLast?_drop, if_neg (by omega)]
/-- the law's own test of a rung -/
theorem okR_iff {ls i : List Str} {l : Str} {k : Nat} (e : ls = i ++ [l]) (h : k < ls.length) :
    okR (ls.drop k) = (!decide (l = s7) && (decide (1 < (ls.length : Int) - k) || decide (ls.getD k Str.empty = sL))) := by
  have h1 : (ls.drop k).getLast? = some l := by rw [last_drop h, e]; simp
  have h2 : ls.drop k ≠ [] := by intro e2; rw [e2] at h1; cases h1
  unfold okR
  rw [h1]
  by_cases h7 : l = s7
  · simp [h7]
  · by_cases hk : 1 < (ls.length : Int) - k
    · simp [h7, hk]
      exact ⟨by omega, .inl (by omega)⟩
    · have hk1 : k + 1 = ls.length := by omega
      have hd : ls.drop k = [ls.getD k Str.empty] := by
        rw [List.drop_eq_getElem_cons h, show ls.drop (k + 1) = [] from List.drop_eq_nil_of_le (by omega)]
        simp [List.getD, h]
      rw [hd]
      simp [h7, hk]
section
variable {ls i : List Str} {l : Str} {k : Nat}
theorem okR_yes1 (e : ls = i ++ [l]) (h : k < ls.length) (h7 : (l != Str.ofString "7") = true) (hk : 1 < (ls.length : Int) - k) : okR (ls.drop k) = true := by
  rw [okR_iff e h]; simp [hk]; simpa using h7
theorem okR_yes2 (e : ls = i ++ [l]) (h : k < ls.length) (h7 : (l != Str.ofString "7") = true) (hs : (ls.getD k Str.empty == Str.ofString "local") = true) : okR (ls.drop k) = true := by
  rw [okR_iff e h, beq_iff_eq.mp hs]
  simp only [decide_true, Bool.or_true, Bool.and_true, Bool.not_eq_true', decide_eq_false_iff_not]
  simpa using h7
theorem okR_no7 (e : ls = i ++ [l]) (h : k < ls.length) (h7 : (l != Str.ofString "7") = false) : okR (ls.drop k) = false := by
  have h7' : l = s7 := by simpa using h7
  rw [okR_iff e h, h7']; simp
theorem okR_no (e : ls = i ++ [l]) (h : k < ls.length) (hk : ¬ 1 < (ls.length : Int) - k) (hs : (ls.getD k Str.empty == Str.ofString "local") = false) : okR (ls.drop k) = false := by
  rw [okR_iff e h, decide_eq_false hk, decide_eq_false (beq_eq_false_iff_ne.mp hs)]; simp
end
theorem rung_len (r : List Str) : (rung1 r).length ≤ 1 := by unfold rung1; split <;> simp
theorem rungsTo_len (ls : List Str) : ∀ i, (rungsTo ls i).length ≤ i
  | 0 => by simp [rungsTo]
  | i + 1 => by
    rw [rungsTo_succ, List.length_append]
    have := rungsTo_len ls i
    have := rung_len (ls.drop (i + 1))
    omega
theorem rungs_yes {ls : List Str} {k : Nat} (h : okR (ls.drop (k + 1)) = true) : rungsTo ls (k + 1) = rungsTo ls k ++ [dot ++ jS (ls.drop (k + 1))] := by
  rw [rungsTo_succ, rung1, if_pos h]
theorem rungs_no {ls : List Str} {k : Nat} (h : okR (ls.drop (k + 1)) = false) : rungsTo ls (k + 1) = rungsTo ls k := by
  rw [rungsTo_succ, rung1, h]; simp
end Mine
end
section
open PySem PySem.W PyProof.Rows PyProof.V PySem.Spec PySem.SeqAt
namespace Mine
theorem readsAll_strs {h : Heap} : ∀ {vs : List Value} {ns : List Str}, StrsAre vs ns → ReadsAll h vs (ns.map PyData.str) []
  | _, _, .nil => .nil
  | _, _, .cons k t r => by
    have := ReadsAll.cons (Reads.str (h := h) k t) (readsAll_strs (h := h) r)
    simpa using this
theorem reads_strs {h : Heap} {a : Addr} {vs : List Value} {ns : List Str} (hl : h.IsList a vs.toArray) (hi : StrsAre vs ns) : Reads h (.ref a) (.list (ns.map PyData.str)) [a] := by
  obtain ⟨o, ho, hc, n, hd⟩ := hl
  exact Reads.list ho hc hd (by simpa using readsAll_strs hi)
theorem canLay_strs : ∀ {ns : List Str}, (∀ x ∈ ns, PyData.canLay0 (.str x) = true) → PyData.canLayAll0 (ns.map PyData.str) = true
  | [], _ => by simp [PyData.canLayAll0]
  | n :: r, h => by
    rw [List.map_cons, PyData.canLayAll0, h n (List.mem_cons_self ..), canLay_strs fun x hx => h x (List.mem_cons_of_mem _ hx)]; rfl
theorem depth_strs : ∀ ns : List Str, PyData.depthAll (ns.map PyData.str) ≤ 1
  | [] => by simp [PyData.depthAll]
  | n :: r => by
    have := depth_strs r
    simp only [List.map_cons, PyData.depthAll, PyData.depth]
    omega
theorem shaped_strs {ns : List Str} (h : ∀ x ∈ ns, PyData.canLay0 (.str x) = true) : shaped (.list (ns.map PyData.str)) = true := by
  have h1 := depth_strs ns
  have h2 : PyData.depth (.list (ns.map PyData.str)) ≤ 64 := by simp only [PyData.depth]; omega
  show (PyData.canLay0 (.list (ns.map PyData.str)) && decide (PyData.depth (.list (ns.map PyData.str)) ≤ 64)) = true
  rw [Bool.and_eq_true]
  exact ⟨by simp only [PyData.canLay0]; exact canLay_strs h, decide_eq_true h2⟩
theorem noMix_strs : ∀ ns ms : List Str, noMixAll (ns.map PyData.str) (ms.map PyData.str) = true
  | [], [] => by simp [noMixAll]
  | [], _ :: _ => by simp [noMixAll]
  | _ :: _, [] => by simp [noMixAll]
  | _ :: r, _ :: q => by simp [noMixAll, noMix, noMix_strs r q]
theorem same_strs : ∀ ns ms : List Str, PySem.Spec.sameAll (ns.map PyData.str) (ms.map PyData.str) = decide (ns = ms)
  | [], [] => by simp [PySem.Spec.sameAll]
  | [], _ :: _ => by simp [PySem.Spec.sameAll]
  | _ :: _, [] => by simp [PySem.Spec.sameAll]
  | n :: r, k :: q => by
    simp only [List.map_cons, PySem.Spec.sameAll, PySem.Spec.same, same_strs r q]
    by_cases h : n = k <;> simp [h]
section
variable {prog : Program} {w : World} {A : Around} {E : Value → Shared → Prop} {s : Shared}
theorem eq_strs {a b : Addr} {vs us : List Value} {ns ms : List Str} {Q : Value → Shared → Prop} (hl : s.heap.IsList a vs.toArray) (hi : StrsAre vs ns) (hl' : s.heap.IsList b us.toArray) (hi' : StrsAre us ms) (hn : ∀ x ∈ ns, PyData.canLay0 (.str x) = true) (hm : ∀ x ∈ ms, PyData.canLay0 (.str x) = true) (hu : A.units + 64 < cLine)
    (h : Q (.bool (decide (ns = ms))) s) : wpAny (model prog w) A (compareOp .Eq (.ref a) (.ref b)) Q E s :=
  eq_dataH_same (reads_strs hl hi) (reads_strs hl' hi') (shaped_strs hn) (shaped_strs hm) hu (by simp only [noMix]; exact noMix_strs ns ms) (by simp only [PySem.Spec.same]; rw [same_strs]; exact h)
theorem ne_strs {a b : Addr} {vs us : List Value} {ns ms : List Str} {Q : Value → Shared → Prop} (hl : s.heap.IsList a vs.toArray) (hi : StrsAre vs ns) (hl' : s.heap.IsList b us.toArray) (hi' : StrsAre us ms) (hn : ∀ x ∈ ns, PyData.canLay0 (.str x) = true) (hm : ∀ x ∈ ms, PyData.canLay0 (.str x) = true) (hu : A.units + 64 < cLine)
    (h : Q (.bool (!decide (ns = ms))) s) : wpAny (model prog w) A (compareOp .NotEq (.ref a) (.ref b)) Q E s :=
  ne_dataH_same (reads_strs hl hi) (reads_strs hl' hi') (shaped_strs hn) (shaped_strs hm) hu (by simp only [noMix]; exact noMix_strs ns ms) (by simp only [PySem.Spec.same]; rw [same_strs]; exact h)
end
theorem lay_still {x : Str} (h : KXs.Still x) : PyData.canLay0 (.str x) = true := by
  show x.cps.all (· < 0x110000) = true
  rw [Array.all_eq_true']
  intro c hc
  have := h c (by simpa using hc)
  exact decide_eq_true (by omega)
theorem lay_rungs {n : Nat} {ls : List Str} (h : Good n ls) : ∀ i, i < ls.length → ∀ x ∈ jS ls :: rungsTo ls i, KXs.Still x ∧ 1 ≤ x.length ∧ x.length ≤ 2 * n + 6
  | 0, _, x, hx => by
    rcases List.mem_cons.mp hx with rfl | hx
    · exact ⟨still_good h, (good_len h).1, by have := good_len h; omega⟩
    · simp [rungsTo] at hx
  | i + 1, hi, x, hx => by
    rcases List.mem_cons.mp hx with rfl | hx
    · exact ⟨still_good h, (good_len h).1, by have := good_len h; omega⟩
    · rw [rungsTo_succ] at hx
      rcases List.mem_append.mp hx with hx | hx
      · exact lay_rungs h i (by omega) x (List.mem_cons_of_mem _ hx)
      · unfold rung1 at hx
        split at hx
        · rw [List.mem_singleton.mp hx]
          have hg := h.drop hi
          refine ⟨still_dotted hg, ?_, dotted_len hg⟩
          rw [← tx_len, tx_dotted, List.length_cons]; omega
        · simp at hx
end Mine
end
section
open PySem PySem.W PyProof.Rows
namespace Mine
theorem shown_small : ∀ n : Fin 200, (PyData.shown (.int (n.val : Int))).length ≤ 8 := by decide +kernel
theorem shown_int {i : Int} (h0 : 0 ≤ i) (h1 : i < 200) : (PyData.shown (.int i)).length ≤ 8 := by
  have := shown_small ⟨i.toNat, by omega⟩
  rwa [show ((⟨i.toNat, by omega⟩ : Fin 200).val : Int) = i from by simp; omega] at this
theorem log_small {i : Int} (h0 : 0 ≤ i) (h1 : i < 200) : i.natAbs.log2 < 8 := by
  by_cases h : i.natAbs = 0
  · rw [h]; decide
  · exact (Nat.log2_lt h).mpr (by omega)
section
variable {ns : List Int}
theorem leaves_ints : ∀ {ns : List Int}, (∀ n ∈ ns, 0 ≤ n ∧ n < 200) → PyData.leavesShortAll 8 (ns.map PyData.int) = true
  | [], _ => rfl
  | n :: r, h => by
    have hn := h n (List.mem_cons_self ..)
    show (decide ((PyData.shown (.int n)).length ≤ 8) && _) = true
    rw [decide_eq_true (shown_int hn.1 hn.2), leaves_ints fun k hk => h k (List.mem_cons_of_mem _ hk)]; rfl
theorem showable_ints : ∀ {ns : List Int}, (∀ n ∈ ns, 0 ≤ n ∧ n < 200) → PyData.showableAll (ns.map PyData.int) = true
  | [], _ => rfl
  | n :: r, h => by
    have hn := h n (List.mem_cons_self ..)
    show (decide (n.natAbs.log2 < 1920) && _) = true
    rw [decide_eq_true (Nat.lt_trans (log_small hn.1 hn.2) (by decide)), showable_ints fun k hk => h k (List.mem_cons_of_mem _ hk)]; rfl
theorem weight_ints : ∀ {ns : List Int}, (∀ n ∈ ns, 0 ≤ n ∧ n < 200) → PyData.weightAll (ns.map PyData.int) ≤ 10 * ns.length
  | [], _ => by simp [PyData.weightAll]
  | n :: r, h => by
    have hn := h n (List.mem_cons_self ..)
    have := weight_ints fun k hk => h k (List.mem_cons_of_mem n hk)
    have hl := log_small hn.1 hn.2
    have hw : PyData.weight (.int n) ≤ 9 := by simp only [PyData.weight]; split <;> omega
    simp only [List.map_cons, PyData.weightAll, List.length_cons]
    omega
theorem noDict_ints : ∀ ns : List Int, PyData.hasDictAll (ns.map PyData.int) = false
  | [] => rfl
  | n :: r => by show (false || _) = false; rw [noDict_ints r]; rfl
end
section
variable {prog : Program} {w : World} {A : Around} {E : Value → Shared → Prop} {s : Shared} {h₀ : Heap} {L a : Addr} {m : Str → Option Value} {news : List (Addr × Obj)} {us : List Value} {ns : List Int} {Q : Value → Shared → Prop}
theorem str_ints (F : Fr h₀ L s.heap m) (N : News h₀ L s.heap news) (hl : s.heap.IsList a us.toArray) (hi : IntsAre us ns) (hb : ∀ n ∈ ns, 0 ≤ n ∧ n < 200) (hn : ns.length ≤ 1000) (hg : A.guards = some []) (hu : A.units + 64 < cLine)
    (h : ∀ h' u tk, Fr h₀ L h' m → News h₀ L h' news → Q (.str (PyData.list (ns.map .int)).shown u) { s with heap := h', toks := tk }) : wpAny (model prog w) A (call (.type "str") [.ref a]) Q E s := by
  have hd := W.depthAll_ints ns
  refine str_HN F N (reads_of_ints hl hi) (by simp only [PyData.hasDict]; exact noDict_ints ns) (by simp only [PyData.showable]; exact showable_ints hb) hg (by simp only [PyData.depth]; omega) h ?_
  have hw := weight_ints hb
  exact PyData.shown_fits (B := 8) (by decide) (by decide) (by simp only [PyData.leavesShort]; exact leaves_ints hb) (by simp only [PyData.weight]; omega)
end
end Mine
end
section
open PySem PySem.W PyProof.Rows PySem.Builtin PySem.Builtin.Str
namespace Mine
/-! the plain law: what user_domain_match gives back, against the rungs and the lone label -/
def ruleOf (b : Bool) (ps : List Str) : Str := if b then dot ++ jS ps else jS ps
def loneOf (b : Bool) (ls ps : List Str) : Bool := b && decide (1 < ls.length) && decide (ps = ls.drop (ls.length - 1)) && (decide (ps.getD 0 Str.empty = sA) || decide (ps.getD 0 Str.empty = sB))
theorem still_rule {n : Nat} {ps : List Str} (b : Bool) (h : Good n ps) : KXs.Still (ruleOf b ps) := by
  cases b
  · exact still_good h
  · exact still_dotted h
theorem rule_len {ps : List Str} (b : Bool) (h : Good 4 ps) : (ruleOf b ps).length ≤ 14 := by
  cases b
  · have := good_len h; show (jS ps).length ≤ 14; omega
  · exact dotted_len h
theorem mem_rungs {ls : List Str} {x : Str} : x ∈ rungsR ls ↔ ∃ k, 1 ≤ k ∧ k < ls.length ∧ okR (ls.drop k) = true ∧ x = dot ++ jS (ls.drop k) := by
  rw [rungsR_to]
  unfold rungsTo rung1
  simp only [List.mem_flatMap, List.mem_range]
  constructor
  · rintro ⟨k, hk, hx⟩
    split at hx
    · rename_i ho
      refine ⟨k + 1, by omega, ?_, ho, by simpa using hx⟩
      rcases Nat.lt_or_ge (k + 1) ls.length with h | h
      · exact h
      · exact absurd (List.drop_eq_nil_of_le h) (okR_ne ho)
    · simp at hx
  · rintro ⟨k, h1, h2, h3, rfl⟩
    refine ⟨k - 1, by omega, ?_⟩
    rw [show k - 1 + 1 = k from by omega, if_pos h3]
    simp
theorem nodots' {n : Nat} {ls : List Str} (h : Good n ls) : ∀ l ∈ ls.map tx, 46 ∉ l ∧ l ≠ [] := fun l hl => by
  obtain ⟨y, hy, rfl⟩ := List.mem_map.mp hl
  exact nodots h y hy
theorem map_tx_inj : ∀ {as bs : List Str}, as.map tx = bs.map tx → as = bs
  | [], [], _ => rfl
  | [], _ :: _, h => by simp at h
  | _ :: _, [], h => by simp at h
  | a :: as, b :: bs, h => by
    rw [List.map_cons, List.map_cons, List.cons.injEq] at h
    rw [tx_inj h.1, map_tx_inj h.2]
theorem good_ne {n : Nat} {ls : List Str} (h : Good n ls) : ls ≠ [] := by
  intro e
  have := h.len
  rw [e] at this
  simp at this
theorem jS_inj {n m : Nat} {as bs : List Str} (h : Good n as) (h' : Good m bs) (e : jS as = jS bs) : as = bs := by
  have e2 := congrArg tx e
  rw [tx_join, tx_join] at e2
  exact map_tx_inj (jn_inj (nodots' h) (nodots' h') (by simpa using good_ne h) (by simpa using good_ne h') e2)
theorem dot_inj {x y : Str} (h : dot ++ x = dot ++ y) : x = y := by
  have := congrArg tx h
  rw [tx_dotted, tx_dotted, List.cons.injEq] at this
  exact tx_inj this.2
theorem ends_dotted {n m : Nat} {ls ps : List Str} (h : Good n ls) (h' : Good m ps) : Txt.endswith (jS ls) (dot ++ jS ps) = true ↔ ∃ k, 1 ≤ k ∧ k < ls.length ∧ ps = ls.drop k := by
  rw [ends_iff, tx_dotted, tx_join, tx_join, jn_suffix (nodots' h) (nodots' h') (by simpa using good_ne h) (by simpa using good_ne h')]
  constructor
  · rintro ⟨k, h1, h2, e⟩
    exact ⟨k, h1, by simpa using h2, map_tx_inj (by rw [e, List.map_drop])⟩
  · rintro ⟨k, h1, h2, e⟩
    exact ⟨k, h1, by simpa using h2, by rw [e, List.map_drop]⟩
theorem starts_no {n : Nat} {ls : List Str} (h : Good n ls) : Txt.startswith (jS ls) dot = false := by
  rw [Bool.eq_false_iff]
  intro e
  obtain ⟨c, r, e2, hc⟩ := good_first h
  have := (starts_dot _).mp e
  rw [e2] at this
  simp at this
  exact hc this
theorem starts_yes (y : Str) : Txt.startswith (dot ++ y) dot = true := (starts_dot _).mpr (by rw [tx_dotted]; rfl)
/-- the rule is one of the rungs -/
noncomputable def hits (ls : List Str) (y : Str) : Bool := decide (y ∈ jS ls :: rungsR ls)
theorem beq_dec (x y : Str) : (x == y) = decide (y = x) := by
  by_cases e : y = x
  · subst e; simp
  · rw [decide_eq_false e]; exact beq_eq_false_iff_ne.mpr fun h => e h.symm
theorem udm_law {n m : Nat} {ls ps : List Str} (gL : Good n ls) (gQ : Good m ps) (b : Bool) :
    ∃ bx bY, Says (jS ls) bx ∧ Says (ruleOf b ps) bY ∧ udmOf (jS ls) (ruleOf b ps) bx bY = (hits ls (ruleOf b ps) || loneOf b ls ps) := by
  obtain ⟨i, l, eL, _, _, hl⟩ := id gL
  obtain ⟨j, q, eQ, _, _, hq⟩ := id gQ
  have hx := says_host (eL ▸ gL)
  rw [← eL] at hx
  cases b with
  | false =>
    have hy := says_host (eQ ▸ gQ)
    rw [← eQ] at hy
    refine ⟨_, _, hx, hy, ?_⟩
    have h1 : hits ls (ruleOf false ps) = (jS ls == jS ps) := by
      show decide (jS ps ∈ jS ls :: rungsR ls) = _
      rw [beq_dec, decide_eq_decide]
      constructor
      · intro h
        rcases List.mem_cons.mp h with h | h
        · exact h
        · obtain ⟨k, _, _, _, e⟩ := mem_rungs.mp h
          exact absurd e.symm (dotted_ne gQ _)
      · intro h; rw [h]; exact List.mem_cons_self ..
    rw [h1]
    show udmOf (jS ls) (jS ps) _ _ = _
    unfold udmOf
    rw [starts_no gQ]
    simp [loneOf]
  | true =>
    have hy := says_dotted (eQ ▸ gQ)
    rw [← eQ] at hy
    refine ⟨_, _, hx, hy, ?_⟩
    have hne : (jS ls == dot ++ jS ps) = false := beq_eq_false_iff_ne.mpr fun e => dotted_ne gL _ e.symm
    have hls : ls.getLast? = some l := by rw [eL]; simp
    have hps : ps.getLast? = some q := by rw [eQ]; simp
    have hit : hits ls (ruleOf true ps) = true ↔ ∃ k, 1 ≤ k ∧ k < ls.length ∧ okR (ls.drop k) = true ∧ ps = ls.drop k := by
      show decide (dot ++ jS ps ∈ jS ls :: rungsR ls) = true ↔ _
      rw [decide_eq_true_eq, List.mem_cons, mem_rungs]
      constructor
      · rintro (h | ⟨k, h1, h2, h3, h4⟩)
        · exact absurd h (dotted_ne gL _)
        · exact ⟨k, h1, h2, h3, jS_inj gQ (gL.drop h2) (dot_inj h4)⟩
      · rintro ⟨k, h1, h2, h3, h4⟩
        exact .inr ⟨k, h1, h2, h3, by rw [h4]⟩
    have hlone : loneOf true ls ps = true ↔ 1 < ls.length ∧ ps = ls.drop (ls.length - 1) ∧ (l = sA ∨ l = sB) := by
      have hd : ls.drop (ls.length - 1) = [l] := by rw [eL]; simp
      unfold loneOf
      simp only [Bool.true_and, Bool.and_eq_true, Bool.or_eq_true, decide_eq_true_eq]
      constructor
      · rintro ⟨⟨h1, h2⟩, h3⟩
        rw [h2, hd] at h3
        exact ⟨h1, h2, by simpa using h3⟩
      · rintro ⟨h1, h2, h3⟩
        refine ⟨⟨h1, h2⟩, ?_⟩
        rw [h2, hd]
        simpa using h3
    rw [Bool.eq_iff_iff, Bool.or_eq_true, hit, hlone]
    show udmOf (jS ls) (dot ++ jS ps) _ _ = true ↔ _
    unfold udmOf
    rw [starts_yes, hne]
    simp only [Bool.not_true, Bool.false_and, Bool.or_false, Bool.true_and]
    have h7 : ∀ k, k < ls.length → ps = ls.drop k → q = l := fun k hk e => by
      have := last_drop hk
      rw [← e, hps, hls] at this
      exact Option.some.inj this
    by_cases hq7 : q = s7
    · rw [if_neg (by simp [hq7])]
      constructor
      · intro h; cases h
      · rintro (⟨k, h1, h2, h3, h4⟩ | ⟨h1, h2, h3⟩)
        · exfalso
          unfold okR at h3
          rw [← h4, hps, hq7] at h3
          simp at h3
        · exfalso
          have e := h7 (ls.length - 1) (by omega) h2
          rw [hq7] at e
          rw [← e] at h3
          rcases h3 with h3 | h3 <;> exact absurd (congrArg tx h3) (by decide +kernel)
    · by_cases hl7 : i ≠ [] ∧ l = s7
      · rw [if_neg (by simp [hl7.1, hl7.2])]
        constructor
        · intro h; cases h
        · rintro (⟨k, h1, h2, h3, h4⟩ | ⟨h1, h2, h3⟩)
          · exact absurd ((h7 k h2 h4).trans hl7.2) hq7
          · exact absurd ((h7 _ (by omega) h2).trans hl7.2) hq7
      · have hc : (!(decide (i ≠ []) && decide (l = s7)) && !decide (q = s7)) = true := by
          by_cases hi : i = []
          · simp [hq7, hi]
          · have h2 : l ≠ s7 := fun h => hl7 ⟨hi, h⟩
            simp [hq7, h2]
        rw [if_pos hc, ends_dotted gL gQ]
        constructor
        · rintro ⟨k, h1, h2, h3⟩
          have hql := h7 k h2 h3
          by_cases ho : okR (ls.drop k) = true
          · exact .inl ⟨k, h1, h2, ho, h3⟩
          · right
            have hlen : (ls.drop k).length < 2 ∧ ls.drop k ≠ [sL] := by
              unfold okR at ho
              rw [last_drop h2, hls] at ho
              have hne' : ls.drop k ≠ [] := by rw [← h3]; exact good_ne gQ
              have hl7' : ¬ l = s7 := fun h => hq7 (hql.trans h)
              simp only [Bool.and_eq_true, Bool.or_eq_true, decide_eq_true_eq, ne_eq, hne', not_false_eq_true, true_and, Option.some.injEq, hl7', not_or] at ho
              exact ⟨by omega, ho.2⟩
            have hk : k = ls.length - 1 := by
              have := hlen.1
              rw [List.length_drop] at this
              omega
            subst hk
            refine ⟨by omega, h3, ?_⟩
            have hd : ls.drop (ls.length - 1) = [l] := by rw [eL]; simp
            rw [hd] at hlen
            rcases hl with (h | h | h) | h
            · exact .inl h
            · exact .inr h
            · exact absurd (hql.trans h) hq7
            · exact absurd (by rw [h]) hlen.2
        · rintro (⟨k, h1, h2, _, h4⟩ | ⟨h1, h2, _⟩)
          · exact ⟨k, h1, h2, h4⟩
          · exact ⟨ls.length - 1, by omega, by omega, h2⟩
/-- the least distance is nought just where the rule is one of the rungs -/
theorem min_zero {ls : List Str} {y : Str} {M : Int} (hm : M ∈ (jS ls :: rungsR ls).map fun r => 2 * (lev (tx r) (tx y) : Int)) (hle : ∀ a, a ∈ ((jS ls :: rungsR ls).map fun r => 2 * (lev (tx r) (tx y) : Int)) → M ≤ a) : M = 0 ↔ hits ls y = true := by
  unfold hits
  rw [decide_eq_true_eq]
  constructor
  · intro h
    obtain ⟨r, hr, e⟩ := List.mem_map.mp hm
    have e0 : lev (tx r) (tx y) = 0 := by omega
    have := tx_inj ((lev_eq_zero _ _).mp e0)
    rw [← this]; exact hr
  · intro h
    have h1 := hle _ (List.mem_map.mpr ⟨y, h, rfl⟩)
    rw [lev_self] at h1
    obtain ⟨r, hr, e⟩ := List.mem_map.mp hm
    have : (0 : Int) ≤ (lev (tx r) (tx y) : Int) := Int.natCast_nonneg _
    omega
theorem upper_still {x : Str} (h : KXs.Still x) : Txt.upper x = ⟨x.cps.map up1⟩ := upper_ascii fun c hc => by have := h c hc; omega
theorem upper_len {x : Str} (h : KXs.Still x) : (Txt.upper x).length = x.length := by rw [upper_still h]; simp [Str.length]
theorem lower_upper {x : Str} (h : KXs.Still x) : Txt.lower (Txt.upper x) = x := by
  rw [upper_still h, lower_ascii]
  · refine tx_inj ?_
    show ((x.cps.map up1).map lo1).toList = x.cps.toList
    rw [Array.toList_map, Array.toList_map, List.map_map]
    conv => rhs; rw [← List.map_id x.cps.toList]
    refine List.map_congr_left fun c hc => ?_
    have := h c hc
    show lo1 (up1 c) = c
    unfold up1 lo1
    split <;> split <;> omega
  · intro c hc
    obtain ⟨d, hd, rfl⟩ := List.mem_map.mp (by simpa using hc : c ∈ x.cps.toList.map up1)
    have := h d hd
    unfold up1
    split <;> omega
/-- the two ways to ask -/
def big (b : Bool) (x : Str) : Str := if b then Txt.upper x else x
theorem big_lower {x : Str} (b : Bool) (h : KXs.Still x) : Txt.lower (big b x) = x := by
  cases b
  · exact KXs.lower_still h
  · exact lower_upper h
theorem big_len {x : Str} (b : Bool) (h : KXs.Still x) : (big b x).length = x.length := by
  cases b
  · rfl
  · exact upper_len h
end Mine
end
section
open PySem PySem.W PyProof.Rows
namespace Mine
set_option pp.deepTerms false
set_option pp.deepTerms.threshold 4
theorem lst_in {h₀ h : Heap} {L D : Addr} {news : List (Addr × Obj)} {us : List Value} {c : Nat} (N : News h₀ L h news) (hm : (D, listOf us.toArray c) ∈ news) : h.IsList D us.toArray := ⟨_, (N _ hm).1, rfl, c, rfl⟩
theorem ints_len : ∀ {vs : List Value} {ns : List Int}, IntsAre vs ns → vs.length = ns.length
  | _, _, .nil => rfl
  | _, _, .cons _ _ h => by simp [ints_len h]
theorem int_at : ∀ {vs : List Value} {ns : List Int} {i : Nat} {v : Value}, IntsAre vs ns → vs.toArray[i]? = some v → ∃ z t, v = Value.int z t
  | _, _, i, v, .nil, h => by simp at h
  | _, _, 0, v, .cons z t _, h => by simp at h; exact ⟨z, t, h.symm⟩
  | _, _, i + 1, v, .cons z t r, h => int_at (i := i) r (by simpa using h)
theorem int_mem : ∀ {vs : List Value} {ns : List Int} {i : Nat} {z : Int} {t : Tok}, IntsAre vs ns → (∀ z ∈ ns, 0 ≤ z ∧ z < 1024) → vs.toArray[i]? = some (Value.int z t) → 0 ≤ z ∧ z < 1024
  | _, _, i, v, _, .nil, _, h => by simp at h
  | _, _, 0, v, _, .cons z t _, hb, h => by simp at h; exact h.1 ▸ hb z (List.mem_cons_self ..)
  | _, _, i + 1, v, _, .cons z t r, hb, h => int_mem (i := i) r (fun z hz => hb z (List.mem_cons_of_mem _ hz)) (by simpa using h)
theorem rungs_len : ∀ ls : List Str, (rungsR ls).length ≤ ls.length
  | [] => by simp [rungsR]
  | a :: r => by
    show (_ ++ rungsR r).length ≤ _
    have := rungs_len r
    rw [List.length_append, List.length_cons]
    split <;> simp <;> omega
theorem str_at : ∀ {vs : List Value} {ns : List Str} {i : Nat} {v : Value}, StrsAre vs ns → vs.toArray[i]? = some v → ∃ r t, v = Value.str r t ∧ ns.getD i Str.empty = r ∧ r ∈ ns
  | _, _, i, v, .nil, h => by simp at h
  | _, _, 0, v, .cons z t _, h => by simp at h; exact ⟨z, t, h.symm, rfl, List.mem_cons_self ..⟩
  | _, _, i + 1, v, .cons z t r, h => by
    obtain ⟨r', t', e, e2, e3⟩ := str_at (i := i) r (by simpa using h)
    exact ⟨r', t', e, by simpa using e2, List.mem_cons_of_mem _ e3⟩
theorem ints_map {f : Str → Int} : ∀ {us : List Value} {ls : List Str} {ts : List Value}, StrsAre us ls → ts.length = us.length → (∀ (i : Nat) (y : Value), ts[i]? = some y → ∃ t, y = Value.int (f (ls.getD i Str.empty)) t) → IntsAre ts (ls.map f)
  | _, _, [], .nil, _, _ => .nil
  | _, _, _ :: _, .nil, h, _ => by simp at h
  | _, _, [], .cons _ _ _, h, _ => by simp at h
  | _, _, v :: ts, .cons z t r, h, hy => by
    obtain ⟨t', rfl⟩ := hy 0 v (by simp)
    exact .cons _ _ (ints_map r (by simpa using h) fun i y hi => by simpa using hy (i + 1) y (by simpa using hi))
theorem any_ab (x : Str) : ([Str.ofString "a", Str.ofString "b"].any fun k => k == x) = (decide (x = sA) || decide (x = sB)) := by
  have h : ∀ a : Str, (a == x) = decide (x = a) := fun a => by
    by_cases e : x = a
    · subst e; simp
    · rw [decide_eq_false e]; exact beq_eq_false_iff_ne.mpr fun h => e h.symm
  simp only [List.any_cons, List.any_nil, Bool.or_false, h]
theorem ints_from : ∀ {vs : List Value}, (∀ (i : Nat) (y : Value), vs[i]? = some y → ∃ z t, y = Value.int z t ∧ 0 ≤ z ∧ z < 1024) → ∃ ns, IntsAre vs ns ∧ ∀ z ∈ ns, 0 ≤ z ∧ z < 1024
  | [], _ => ⟨[], .nil, fun _ h => nomatch h⟩
  | v :: r, h => by
    obtain ⟨z, t, rfl, hz⟩ := h 0 v (by simp)
    obtain ⟨ns, h1, h2⟩ := ints_from (vs := r) fun i y hy => h (i + 1) y (by simpa using hy)
    exact ⟨z :: ns, .cons _ _ h1, fun k hk => by
      rcases List.mem_cons.mp hk with rfl | hk
      · exact hz
      · exact h2 k hk⟩
set_option maxRecDepth 100000 in
set_option maxHeartbeats 4000000 in
theorem tt : PySem.Challenge.rw_nb0171_01.Holds := by
  w_top off
  refine hd ?_
  k_go0
  all_goals try k_fold
  (rename World => w); (rename List Int => script); (rename IntsAre _ _ => hI); (rename Heap.IsList _ _ _ => hL); (rename Fr _ _ _ _ => F0); (rename News _ _ _ _ => N0); (rename _ = Data.cell _ => dc)
  (rename_i s₀ s₁ mg mb G Y fa o pm doc ho hgn KX X V GL T B TE TW w8 w7 M w6 w5 hcd hs hlay0 hL1 hr1 hl2 w4 w3 dl us w2 ra w1 r0 hr hc1 hc0 K0 hD zh ztk oc zX)
  have d0 : oc.data = .cell none := dc
  obtain ⟨m1, F1⟩ := fr_open F0 [(Str.ofString "script", .ref dl)] (.cons rfl .nil)
  clear F0 dc
  dsimp only [kstB] at F1
  repeat' ((fail_if_success (with_reducible show Lfp _ _ _ _ _ _ _)); (fail_if_success (with_reducible show TurnW _ _ _ _ _ _ _ _ _ _)); (fail_if_success (with_reducible show TurnF _ _ _ _ _ _ _ _ _)); (fail_if_success (with_reducible show CutF _ _ _ _ _ _ _ _ _)); (fail_if_success (with_reducible show Q _ _)); (fail_if_success (with_reducible show LCg.CompSrc _ _ _ _ _ _ _ _ _ _ _ _ _ _ )); (fail_if_success (with_reducible show LCg.CompEnd _ _ _ _ _ _ _ _ _ _ _ _ _ _ )); (fail_if_success (with_reducible show wpAny _ _ (exec (Stmt.While _ _ _ _) _) _ _ _)); (fail_if_success (with_reducible show wpAny _ _ (exec (Stmt.For _ _ _ _ _) _) _ _ _)); (fail_if_success (with_reducible show wpAny _ _ (exec (Stmt.Assign _ _ _) _) _ _ _)); (first | ((first | (with_reducible show wpAny _ _ (execs _ _) _ _ _) | (with_reducible show wpAny _ _ (PySem.isTrue _ _ _) _ _ _)); (dsimp only); walk1) | (k_unfold; (try dsimp only)) | (k_end; wrow_close) | walk1 | (dsimp only; walk1) | (leave1; walk_say "STEP leave1"; try dsimp only) | fail "no step"))
  (rename News _ _ _ _ => N2)
  refine cutS (σ := Addr × List Value × Nat × List Str) (by k_asm) (fun c => [(Str.ofString "script", .ref dl), (Str.ofString "labels", .ref c.1)]) (fun c => [(c.1, listOf c.2.1.toArray c.2.2.1), (s₁.heap.objs.size + 1, oc)])
    (fun c => StrsAre c.2.1 c.2.2.2 ∧ Good 3 c.2.2.2 ∧ s₁.heap.objs.size + 1 < c.1) ?_ ?_
  · --[
    repeat' ((fail_if_success (with_reducible show Lfp _ _ _ _ _ _ _)); (fail_if_success (with_reducible show TurnW _ _ _ _ _ _ _ _ _ _)); (fail_if_success (with_reducible show TurnF _ _ _ _ _ _ _ _ _)); (fail_if_success (with_reducible show CutF _ _ _ _ _ _ _ _ _)); (fail_if_success (with_reducible show Q _ _)); (fail_if_success (with_reducible show LCg.CompSrc _ _ _ _ _ _ _ _ _ _ _ _ _ _ )); (fail_if_success (with_reducible show LCg.CompEnd _ _ _ _ _ _ _ _ _ _ _ _ _ _ )); (fail_if_success (with_reducible show wpAny _ _ (exec (Stmt.While _ _ _ _) _) _ _ _)); (fail_if_success (with_reducible show wpAny _ _ (exec (Stmt.For _ _ _ _ _) _) _ _ _)); (fail_if_success (with_reducible show wpAny _ _ (call (Value.ref _) _) _ _ _)); (first | ((first | (with_reducible show wpAny _ _ (execs _ _) _ _ _) | (with_reducible show wpAny _ _ (PySem.isTrue _ _ _) _ _ _)); (dsimp only); walk1) | (k_unfold; (try dsimp only)) | (k_end; wrow_close) | walk1 | (dsimp only; walk1) | (leave1; walk_say "STEP leave1"; try dsimp only) | fail "no step"))
    · (rename Fr _ _ _ _ => F2); (rename News _ _ _ _ => N2)
      refine (labels_c w _ mg mb _ 367 _ (by decide) (by decide)) _ _ _ _ _ _ _ _ _ _ _ _ _ _ _ _ _ (by k_asm) F2 (by k_asm) N2 (by k_asm) rfl (by decide) (by decide) ?_
      rintro rv tl h5 tk5 ⟨D, vs, c, ls, e1, e2, e3, e4⟩ F9 N9 l9
      subst e1; subst e2
      clear F2 N2
      repeat' ((fail_if_success (with_reducible show Lfp _ _ _ _ _ _ _)); (fail_if_success (with_reducible show TurnW _ _ _ _ _ _ _ _ _ _)); (fail_if_success (with_reducible show TurnF _ _ _ _ _ _ _ _ _)); (fail_if_success (with_reducible show CutF _ _ _ _ _ _ _ _ _)); (fail_if_success (with_reducible show Q _ _)); (fail_if_success (with_reducible show LCg.CompSrc _ _ _ _ _ _ _ _ _ _ _ _ _ _ )); (fail_if_success (with_reducible show LCg.CompEnd _ _ _ _ _ _ _ _ _ _ _ _ _ _ )); (fail_if_success (with_reducible show wpAny _ _ (exec (Stmt.While _ _ _ _) _) _ _ _)); (fail_if_success (with_reducible show wpAny _ _ (exec (Stmt.For _ _ _ _ _) _) _ _ _)); (first | ((first | (with_reducible show wpAny _ _ (execs _ _) _ _ _) | (with_reducible show wpAny _ _ (PySem.isTrue _ _ _) _ _ _)); (dsimp only); walk1) | (k_unfold; (try dsimp only)) | (k_end; wrow_close) | walk1 | (dsimp only; walk1) | (leave1; walk_say "STEP leave1"; try dsimp only) | fail "no step"))
      (rename Fr _ _ _ _ => F8); (rename News _ _ _ _ => N8)
      exact lfp (D, vs, c, ls) F8 N8 (.cons rfl (.cons rfl .nil)) (List.forall_mem_cons.mpr ⟨List.mem_cons_self .., List.forall_mem_cons.mpr ⟨List.mem_cons_of_mem _ (List.mem_cons_of_mem _ (List.mem_cons_self ..)), fun _ h => nomatch h⟩⟩) ⟨e3, e4, l9 _ (List.mem_cons_of_mem _ (List.mem_cons_self ..)) _ (List.mem_cons_self ..)⟩
    · exfalso
      (rename decide (script = []) = false => e9)
      have e8 : script ≠ [] := of_decide_eq_false e9
      have e7 := List.length_pos_iff.mpr e8
      first | omega | trace_state
    · (rename Fr _ _ _ _ => F2); (rename News _ _ _ _ => N2)
      refine (labels_c w _ mg mb _ _ _ (fmod_lo _ (by decide)) (fmod_hi _ (by decide))) _ _ _ _ _ _ _ _ _ _ _ _ _ _ _ _ _ (by k_asm) F2 (by k_asm) N2 (by k_asm) rfl (by decide) (by decide) ?_
      rintro rv tl h5 tk5 ⟨D, vs, c, ls, e1, e2, e3, e4⟩ F9 N9 l9
      subst e1; subst e2
      clear F2 N2
      repeat' ((fail_if_success (with_reducible show Lfp _ _ _ _ _ _ _)); (fail_if_success (with_reducible show TurnW _ _ _ _ _ _ _ _ _ _)); (fail_if_success (with_reducible show TurnF _ _ _ _ _ _ _ _ _)); (fail_if_success (with_reducible show CutF _ _ _ _ _ _ _ _ _)); (fail_if_success (with_reducible show Q _ _)); (fail_if_success (with_reducible show LCg.CompSrc _ _ _ _ _ _ _ _ _ _ _ _ _ _ )); (fail_if_success (with_reducible show LCg.CompEnd _ _ _ _ _ _ _ _ _ _ _ _ _ _ )); (fail_if_success (with_reducible show wpAny _ _ (exec (Stmt.While _ _ _ _) _) _ _ _)); (fail_if_success (with_reducible show wpAny _ _ (exec (Stmt.For _ _ _ _ _) _) _ _ _)); (first | ((first | (with_reducible show wpAny _ _ (execs _ _) _ _ _) | (with_reducible show wpAny _ _ (PySem.isTrue _ _ _) _ _ _)); (dsimp only); walk1) | (k_unfold; (try dsimp only)) | (k_end; wrow_close) | walk1 | (dsimp only; walk1) | (leave1; walk_say "STEP leave1"; try dsimp only) | fail "no step"))
      (rename Fr _ _ _ _ => F8); (rename News _ _ _ _ => N8)
      exact lfp (D, vs, c, ls) F8 N8 (.cons rfl (.cons rfl .nil)) (List.forall_mem_cons.mpr ⟨List.mem_cons_self .., List.forall_mem_cons.mpr ⟨List.mem_cons_of_mem _ (List.mem_cons_of_mem _ (List.mem_cons_self ..)), fun _ h => nomatch h⟩⟩) ⟨e3, e4, l9 _ (List.mem_cons_of_mem _ (List.mem_cons_self ..)) _ (List.mem_cons_self ..)⟩
    --]
  · clear N2
    rintro ⟨dL, ul, cL, ls⟩ m2 h2 tk2 ⟨sL, gL, lL⟩ F2 N2
    dsimp only [kstB] at F2
    dsimp only at sL gL lL N2
    have hll := PyProof.Rows.StrsAre.length sL
    have hgl := gL.len
    have hhl := good_len gL
    repeat' ((fail_if_success (with_reducible show Lfp _ _ _ _ _ _ _)); (fail_if_success (with_reducible show TurnW _ _ _ _ _ _ _ _ _ _)); (fail_if_success (with_reducible show TurnF _ _ _ _ _ _ _ _ _)); (fail_if_success (with_reducible show CutF _ _ _ _ _ _ _ _ _)); (fail_if_success (with_reducible show Q _ _)); (fail_if_success (with_reducible show LCg.CompSrc _ _ _ _ _ _ _ _ _ _ _ _ _ _ )); (fail_if_success (with_reducible show LCg.CompEnd _ _ _ _ _ _ _ _ _ _ _ _ _ _ )); (fail_if_success (with_reducible show wpAny _ _ (exec (Stmt.While _ _ _ _) _) _ _ _)); (fail_if_success (with_reducible show wpAny _ _ (exec (Stmt.For _ _ _ _ _) _) _ _ _)); (fail_if_success (with_reducible show wpAny _ _ (call (Value.builtin "str.join") _) _ _ _)); (first | ((first | (with_reducible show wpAny _ _ (execs _ _) _ _ _) | (with_reducible show wpAny _ _ (PySem.isTrue _ _ _) _ _ _)); (dsimp only); walk1) | (k_unfold; (try dsimp only)) | (k_end; wrow_close) | walk1 | (dsimp only; walk1) | (leave1; walk_say "STEP leave1"; try dsimp only) | fail "no step"))
    refine join_good N2 (List.mem_cons_self ..) sL gL (by decide) ?_
    intro th tk3
    repeat' ((fail_if_success (with_reducible show Lfp _ _ _ _ _ _ _)); (fail_if_success (with_reducible show TurnW _ _ _ _ _ _ _ _ _ _)); (fail_if_success (with_reducible show TurnF _ _ _ _ _ _ _ _ _)); (fail_if_success (with_reducible show CutF _ _ _ _ _ _ _ _ _)); (fail_if_success (with_reducible show Q _ _)); (fail_if_success (with_reducible show LCg.CompSrc _ _ _ _ _ _ _ _ _ _ _ _ _ _ )); (fail_if_success (with_reducible show LCg.CompEnd _ _ _ _ _ _ _ _ _ _ _ _ _ _ )); (fail_if_success (with_reducible show wpAny _ _ (exec (Stmt.While _ _ _ _) _) _ _ _)); (fail_if_success (with_reducible show wpAny _ _ (exec (Stmt.For _ _ _ _ _) _) _ _ _)); (fail_if_success (with_reducible show wpAny _ _ (call (Value.builtin "len") [Value.ref _]) _ _ _)); (first | ((first | (with_reducible show wpAny _ _ (execs _ _) _ _ _) | (with_reducible show wpAny _ _ (PySem.isTrue _ _ _) _ _ _)); (dsimp only); walk1) | (k_unfold; (try dsimp only)) | (k_end; wrow_close) | walk1 | (dsimp only; walk1) | (leave1; walk_say "STEP leave1"; try dsimp only) | fail "no step"))
    (rename Fr _ _ _ _ => F3); (rename News _ _ _ _ => N3)
    refine kun_lenL (k := (ls.length : Int)) ⟨_, (N3 _ (List.mem_cons_self ..)).1, rfl, cL, rfl⟩ (by rw [List.size_toArray, hll]) (by omega) ?_
    repeat' ((fail_if_success (with_reducible show Lfp _ _ _ _ _ _ _)); (fail_if_success (with_reducible show TurnW _ _ _ _ _ _ _ _ _ _)); (fail_if_success (with_reducible show TurnF _ _ _ _ _ _ _ _ _)); (fail_if_success (with_reducible show CutF _ _ _ _ _ _ _ _ _)); (fail_if_success (with_reducible show Q _ _)); (fail_if_success (with_reducible show LCg.CompSrc _ _ _ _ _ _ _ _ _ _ _ _ _ _ )); (fail_if_success (with_reducible show LCg.CompEnd _ _ _ _ _ _ _ _ _ _ _ _ _ _ )); (fail_if_success (with_reducible show wpAny _ _ (exec (Stmt.While _ _ _ _) _) _ _ _)); (fail_if_success (with_reducible show wpAny _ _ (exec (Stmt.For _ _ _ _ _) _) _ _ _)); (first | ((first | (with_reducible show wpAny _ _ (execs _ _) _ _ _) | (with_reducible show wpAny _ _ (PySem.isTrue _ _ _) _ _ _)); (dsimp only); walk1) | (k_unfold; (try dsimp only)) | (k_end; wrow_close) | walk1 | (dsimp only; walk1) | (leave1; walk_say "STEP leave1"; try dsimp only) | fail "no step"))
    (rename Heap => zh9); (rename_i zh8 zk8 zh7 zk7 dR zh6 lR F4 N4)
    obtain ⟨il, ll, eL, -, -, -⟩ := id gL
    with_unfolding_all refine' For_invVF F4 ?k1 ?k2 ?_
    case k1 => exact rfl
    case k2 => exact rfl
    have hw : ls.length ≤ 1000 := by omega
    clear hgl hhl
    repeat' ((fail_if_success (with_reducible show Lfp _ _ _ _ _ _ _)); (fail_if_success (with_reducible show TurnW _ _ _ _ _ _ _ _ _ _)); (fail_if_success (with_reducible show TurnF _ _ _ _ _ _ _ _ _)); (fail_if_success (with_reducible show CutF _ _ _ _ _ _ _ _ _)); (fail_if_success (with_reducible show Q _ _)); (fail_if_success (with_reducible show LCg.CompSrc _ _ _ _ _ _ _ _ _ _ _ _ _ _ )); (fail_if_success (with_reducible show LCg.CompEnd _ _ _ _ _ _ _ _ _ _ _ _ _ _ )); (fail_if_success (with_reducible show wpAny _ _ (exec (Stmt.While _ _ _ _) _) _ _ _)); (fail_if_success (with_reducible show wpAny _ _ (exec (Stmt.For _ _ _ _ _) _) _ _ _)); (fail_if_success (with_reducible show wpAny _ _ (pyIter _) _ _ _)); (first | ((first | (with_reducible show wpAny _ _ (execs _ _) _ _ _) | (with_reducible show wpAny _ _ (PySem.isTrue _ _ _) _ _ _)); (dsimp only); walk1) | (k_unfold; (try dsimp only)) | (k_end; wrow_close) | walk1 | (dsimp only; walk1) | (leave1; walk_say "STEP leave1"; try dsimp only) | fail "no step"))
    have hgl := gL.len
    have hhl := good_len gL
    (rename IsRange _ _ _ _ _ _ _ _ => hR); (rename Fr _ _ _ _ => F5); (rename News _ _ _ _ => N5)
    refine itRange (n := ls.length - 1) (σ := List Value × Nat × Tok × Tok) (fun c => [(Str.ofString "script", .ref dl), (Str.ofString "labels", .ref dL), (Str.ofString "host", .str (jS ls) c.2.2.1), (Str.ofString "size", .int (ls.length : Int) c.2.2.2), (Str.ofString "rungs", .ref dR)])
      (fun c => [(dR, listOf c.1.toArray c.2.1), (dL, listOf ul.toArray cL), (s₁.heap.objs.size + 1, oc)])
      (fun i c => StrsAre c.1 (jS ls :: rungsTo ls i)) ([Value.str (jS ls) _], 0, _, _)
      rfl hR (small_one (by omega) (by omega) (by omega) (by omega)) (by simp only [Builtin.Range.rangeSize]; rw [if_pos (by decide)]; split <;> omega) (fun _ => rfl) F5 N5 (.cons rfl (.cons rfl (.cons rfl (.cons rfl (.cons rfl .nil))))) (.cons _ _ .nil) ?_ ?_
    · --[
      clear F5 N5
      rintro i k tk9 ⟨rs, cR, tH, tS⟩ m3 h3 tk4 I oi hi hk9 hrs lI F6 N6
      dsimp only [kstB] at F6
      dsimp only at hrs N6 lI
      subst hk9
      have hz1 : rs.length ≤ 100 := by
        have h1 := PyProof.Rows.StrsAre.length hrs
        have h2 := rungsTo_len ls i
        simp only [List.length_cons] at h1
        omega
      have gS : Good 3 (ls.drop (i + 1)) := gL.drop (by omega)
      have sS : StrsAre (ul.drop (1 + (i : Int)).toNat) (ls.drop (i + 1)) := by
        rw [show (1 + (i : Int)).toNat = i + 1 from by omega]; exact strs_drop sL (i + 1)
      have hdl := dotted_len gS
      have hjl := good_len gS
      have hneR : ∀ p ∈ [(dL, W.listOf ul.toArray cL), (s₁.heap.objs.size + 1, oc)], p.1 ≠ dR := List.forall_mem_cons.mpr ⟨Nat.ne_of_lt lR.1, List.forall_mem_cons.mpr ⟨Nat.ne_of_lt lR.2, fun _ h => nomatch h⟩⟩
      repeat' ((fail_if_success (with_reducible show Lfp _ _ _ _ _ _ _)); (fail_if_success (with_reducible show TurnW _ _ _ _ _ _ _ _ _ _)); (fail_if_success (with_reducible show TurnF _ _ _ _ _ _ _ _ _)); (fail_if_success (with_reducible show CutF _ _ _ _ _ _ _ _ _)); (fail_if_success (with_reducible show Q _ _)); (fail_if_success (with_reducible show LCg.CompSrc _ _ _ _ _ _ _ _ _ _ _ _ _ _ )); (fail_if_success (with_reducible show LCg.CompEnd _ _ _ _ _ _ _ _ _ _ _ _ _ _ )); (fail_if_success (with_reducible show wpAny _ _ (exec (Stmt.While _ _ _ _) _) _ _ _)); (fail_if_success (with_reducible show wpAny _ _ (exec (Stmt.For _ _ _ _ _) _) _ _ _)); (fail_if_success (with_reducible show wpAny _ _ (subscriptTail _ _ (Value.ref _) (Value.int _ _)) _ _ _)); (first | ((first | (with_reducible show wpAny _ _ (execs _ _) _ _ _) | (with_reducible show wpAny _ _ (PySem.isTrue _ _ _) _ _ _)); (dsimp only); walk1) | (k_unfold; (try dsimp only)) | (k_end; wrow_close) | walk1 | (dsimp only; walk1) | (leave1; walk_say "STEP leave1"; try dsimp only) | fail "no step"))
      (rename Fr _ _ _ _ => F7); (rename News _ _ _ _ => N7)
      refine item_strs_neg (vs := ul) (lst_in (c := cL) N7 (by k_mem)) sL (by decide) (by omega) (by decide) ?_
      intro tl9
      rw [getLast_of eL]
      repeat' ((fail_if_success (with_reducible show Lfp _ _ _ _ _ _ _)); (fail_if_success (with_reducible show TurnW _ _ _ _ _ _ _ _ _ _)); (fail_if_success (with_reducible show TurnF _ _ _ _ _ _ _ _ _)); (fail_if_success (with_reducible show CutF _ _ _ _ _ _ _ _ _)); (fail_if_success (with_reducible show Q _ _)); (fail_if_success (with_reducible show LCg.CompSrc _ _ _ _ _ _ _ _ _ _ _ _ _ _ )); (fail_if_success (with_reducible show LCg.CompEnd _ _ _ _ _ _ _ _ _ _ _ _ _ _ )); (fail_if_success (with_reducible show wpAny _ _ (exec (Stmt.While _ _ _ _) _) _ _ _)); (fail_if_success (with_reducible show wpAny _ _ (exec (Stmt.For _ _ _ _ _) _) _ _ _)); (fail_if_success (with_reducible show wpAny _ _ (subscriptTail _ _ (Value.ref _) (Value.int _ _)) _ _ _)); (fail_if_success (with_reducible show wpAny _ _ (subscriptTail _ (Expr.Slice _ _ _ _) (Value.ref _) (Value.ref _)) _ _ _)); (first | ((first | (with_reducible show wpAny _ _ (execs _ _) _ _ _) | (with_reducible show wpAny _ _ (PySem.isTrue _ _ _) _ _ _)); (dsimp only); walk1) | (k_unfold; (try dsimp only)) | (k_end; wrow_close) | walk1 | (dsimp only; walk1) | (leave1; walk_say "STEP leave1"; try dsimp only) | fail "no step"))
      · (rename (ll != Str.ofString "7") = true => h7); (rename 1 < (ls.length : Int) - (1 + (i : Int)) => hk7)
        have hyes := okR_yes1 (k := i + 1) eL (by omega) h7 (by omega)
        (rename Fr _ _ _ _ => F8); (rename News _ _ _ _ => N8)
        refine slice_vals F8 N8 (by k_mem) (.int _ _) .none (pick_from ul (by omega)) (by omega) ?_
        rintro dS h8 F9 N9 lS
        clear F8 N8
        repeat' ((fail_if_success (with_reducible show Lfp _ _ _ _ _ _ _)); (fail_if_success (with_reducible show TurnW _ _ _ _ _ _ _ _ _ _)); (fail_if_success (with_reducible show TurnF _ _ _ _ _ _ _ _ _)); (fail_if_success (with_reducible show CutF _ _ _ _ _ _ _ _ _)); (fail_if_success (with_reducible show Q _ _)); (fail_if_success (with_reducible show LCg.CompSrc _ _ _ _ _ _ _ _ _ _ _ _ _ _ )); (fail_if_success (with_reducible show LCg.CompEnd _ _ _ _ _ _ _ _ _ _ _ _ _ _ )); (fail_if_success (with_reducible show wpAny _ _ (exec (Stmt.While _ _ _ _) _) _ _ _)); (fail_if_success (with_reducible show wpAny _ _ (exec (Stmt.For _ _ _ _ _) _) _ _ _)); (fail_if_success (with_reducible show wpAny _ _ (call (Value.builtin "str.join") _) _ _ _)); (first | ((first | (with_reducible show wpAny _ _ (execs _ _) _ _ _) | (with_reducible show wpAny _ _ (PySem.isTrue _ _ _) _ _ _)); (dsimp only); walk1) | (k_unfold; (try dsimp only)) | (k_end; wrow_close) | walk1 | (dsimp only; walk1) | (leave1; walk_say "STEP leave1"; try dsimp only) | fail "no step"))
        (rename News _ _ _ _ => N9)
        refine join_good N9 (List.mem_cons_self ..) sS gS (by decide) ?_
        intro tj tkj
        repeat' ((fail_if_success (with_reducible show Lfp _ _ _ _ _ _ _)); (fail_if_success (with_reducible show TurnW _ _ _ _ _ _ _ _ _ _)); (fail_if_success (with_reducible show TurnF _ _ _ _ _ _ _ _ _)); (fail_if_success (with_reducible show CutF _ _ _ _ _ _ _ _ _)); (fail_if_success (with_reducible show Q _ _)); (fail_if_success (with_reducible show LCg.CompSrc _ _ _ _ _ _ _ _ _ _ _ _ _ _ )); (fail_if_success (with_reducible show LCg.CompEnd _ _ _ _ _ _ _ _ _ _ _ _ _ _ )); (fail_if_success (with_reducible show wpAny _ _ (exec (Stmt.While _ _ _ _) _) _ _ _)); (fail_if_success (with_reducible show wpAny _ _ (exec (Stmt.For _ _ _ _ _) _) _ _ _)); (fail_if_success (with_reducible show wpAny _ _ (call (Value.builtin "list.append") _) _ _ _)); (first | ((first | (with_reducible show wpAny _ _ (execs _ _) _ _ _) | (with_reducible show wpAny _ _ (PySem.isTrue _ _ _) _ _ _)); (dsimp only); walk1) | (k_unfold; (try dsimp only)) | (k_end; wrow_close) | walk1 | (dsimp only; walk1) | (leave1; walk_say "STEP leave1"; try dsimp only) | fail "no step"))
        (rename Fr _ _ _ _ => F10); (rename News _ _ _ _ => N10)
        refine list_app (vs := rs) (c := cR) F10 N10 (.tail (Nat.ne_of_gt (lS (dR, W.listOf rs.toArray cR) (by k_mem))) (.tail (Nat.ne_of_gt (lI (dR, W.listOf rs.toArray cR) (by k_mem))) (.head hneR))) (by omega) ?_
        intro h11 c11 F11 N11
        clear F10 N10
        repeat' ((fail_if_success (with_reducible show Lfp _ _ _ _ _ _ _)); (fail_if_success (with_reducible show TurnW _ _ _ _ _ _ _ _ _ _)); (fail_if_success (with_reducible show TurnF _ _ _ _ _ _ _ _ _)); (fail_if_success (with_reducible show CutF _ _ _ _ _ _ _ _ _)); (fail_if_success (with_reducible show Q _ _)); (fail_if_success (with_reducible show LCg.CompSrc _ _ _ _ _ _ _ _ _ _ _ _ _ _ )); (fail_if_success (with_reducible show LCg.CompEnd _ _ _ _ _ _ _ _ _ _ _ _ _ _ )); (fail_if_success (with_reducible show wpAny _ _ (exec (Stmt.While _ _ _ _) _) _ _ _)); (fail_if_success (with_reducible show wpAny _ _ (exec (Stmt.For _ _ _ _ _) _) _ _ _)); (first | ((first | (with_reducible show wpAny _ _ (execs _ _) _ _ _) | (with_reducible show wpAny _ _ (PySem.isTrue _ _ _) _ _ _)); (dsimp only); walk1) | (k_unfold; (try dsimp only)) | (k_end; wrow_close) | walk1 | (dsimp only; walk1) | (leave1; walk_say "STEP leave1"; try dsimp only) | fail "no step"))
        (rename Fr _ _ _ _ => F12); (rename News _ _ _ _ => N12)
        exact lfp (_, _, _, _) F12 N12 (.cons rfl (.cons rfl (.cons rfl (.cons rfl (.cons rfl .nil))))) (fun _ h => List.mem_cons_of_mem _ h) (by rw [rungs_yes hyes]; exact StrsAre.append' hrs (.cons _ _ .nil))
      · (rename (ll != Str.ofString "7") = true => h7); (rename ¬ 1 < (ls.length : Int) - (1 + (i : Int)) => hk7)
        refine KTb.item_list (vs := ul) (lst_in (c := cL) (by assumption) (by k_mem)) sL (by omega) (by omega) (by omega) ?_
        intro tl8 hlt
        rw [show (1 + (i : Int)).toNat = i + 1 from by omega]
        repeat' ((fail_if_success (with_reducible show Lfp _ _ _ _ _ _ _)); (fail_if_success (with_reducible show TurnW _ _ _ _ _ _ _ _ _ _)); (fail_if_success (with_reducible show TurnF _ _ _ _ _ _ _ _ _)); (fail_if_success (with_reducible show CutF _ _ _ _ _ _ _ _ _)); (fail_if_success (with_reducible show Q _ _)); (fail_if_success (with_reducible show LCg.CompSrc _ _ _ _ _ _ _ _ _ _ _ _ _ _ )); (fail_if_success (with_reducible show LCg.CompEnd _ _ _ _ _ _ _ _ _ _ _ _ _ _ )); (fail_if_success (with_reducible show wpAny _ _ (exec (Stmt.While _ _ _ _) _) _ _ _)); (fail_if_success (with_reducible show wpAny _ _ (exec (Stmt.For _ _ _ _ _) _) _ _ _)); (fail_if_success (with_reducible show wpAny _ _ (subscriptTail _ (Expr.Slice _ _ _ _) (Value.ref _) (Value.ref _)) _ _ _)); (first | ((first | (with_reducible show wpAny _ _ (execs _ _) _ _ _) | (with_reducible show wpAny _ _ (PySem.isTrue _ _ _) _ _ _)); (dsimp only); walk1) | (k_unfold; (try dsimp only)) | (k_end; wrow_close) | walk1 | (dsimp only; walk1) | (leave1; walk_say "STEP leave1"; try dsimp only) | fail "no step"))
        · (rename (_ == Str.ofString "local") = true => hs7)
          have hyes := okR_yes2 (k := i + 1) eL (by omega) h7 hs7
          (rename Fr _ _ _ _ => F8); (rename News _ _ _ _ => N8)
          refine slice_vals F8 N8 (by k_mem) (.int _ _) .none (pick_from ul (by omega)) (by omega) ?_
          rintro dS h8 F9 N9 lS
          clear F8 N8
          repeat' ((fail_if_success (with_reducible show Lfp _ _ _ _ _ _ _)); (fail_if_success (with_reducible show TurnW _ _ _ _ _ _ _ _ _ _)); (fail_if_success (with_reducible show TurnF _ _ _ _ _ _ _ _ _)); (fail_if_success (with_reducible show CutF _ _ _ _ _ _ _ _ _)); (fail_if_success (with_reducible show Q _ _)); (fail_if_success (with_reducible show LCg.CompSrc _ _ _ _ _ _ _ _ _ _ _ _ _ _ )); (fail_if_success (with_reducible show LCg.CompEnd _ _ _ _ _ _ _ _ _ _ _ _ _ _ )); (fail_if_success (with_reducible show wpAny _ _ (exec (Stmt.While _ _ _ _) _) _ _ _)); (fail_if_success (with_reducible show wpAny _ _ (exec (Stmt.For _ _ _ _ _) _) _ _ _)); (fail_if_success (with_reducible show wpAny _ _ (call (Value.builtin "str.join") _) _ _ _)); (first | ((first | (with_reducible show wpAny _ _ (execs _ _) _ _ _) | (with_reducible show wpAny _ _ (PySem.isTrue _ _ _) _ _ _)); (dsimp only); walk1) | (k_unfold; (try dsimp only)) | (k_end; wrow_close) | walk1 | (dsimp only; walk1) | (leave1; walk_say "STEP leave1"; try dsimp only) | fail "no step"))
          (rename News _ _ _ _ => N9)
          refine join_good N9 (List.mem_cons_self ..) sS gS (by decide) ?_
          intro tj tkj
          repeat' ((fail_if_success (with_reducible show Lfp _ _ _ _ _ _ _)); (fail_if_success (with_reducible show TurnW _ _ _ _ _ _ _ _ _ _)); (fail_if_success (with_reducible show TurnF _ _ _ _ _ _ _ _ _)); (fail_if_success (with_reducible show CutF _ _ _ _ _ _ _ _ _)); (fail_if_success (with_reducible show Q _ _)); (fail_if_success (with_reducible show LCg.CompSrc _ _ _ _ _ _ _ _ _ _ _ _ _ _ )); (fail_if_success (with_reducible show LCg.CompEnd _ _ _ _ _ _ _ _ _ _ _ _ _ _ )); (fail_if_success (with_reducible show wpAny _ _ (exec (Stmt.While _ _ _ _) _) _ _ _)); (fail_if_success (with_reducible show wpAny _ _ (exec (Stmt.For _ _ _ _ _) _) _ _ _)); (fail_if_success (with_reducible show wpAny _ _ (call (Value.builtin "list.append") _) _ _ _)); (first | ((first | (with_reducible show wpAny _ _ (execs _ _) _ _ _) | (with_reducible show wpAny _ _ (PySem.isTrue _ _ _) _ _ _)); (dsimp only); walk1) | (k_unfold; (try dsimp only)) | (k_end; wrow_close) | walk1 | (dsimp only; walk1) | (leave1; walk_say "STEP leave1"; try dsimp only) | fail "no step"))
          (rename Fr _ _ _ _ => F10); (rename News _ _ _ _ => N10)
          refine list_app (vs := rs) (c := cR) F10 N10 (.tail (Nat.ne_of_gt (lS (dR, W.listOf rs.toArray cR) (by k_mem))) (.tail (Nat.ne_of_gt (lI (dR, W.listOf rs.toArray cR) (by k_mem))) (.head hneR))) (by omega) ?_
          intro h11 c11 F11 N11
          clear F10 N10
          repeat' ((fail_if_success (with_reducible show Lfp _ _ _ _ _ _ _)); (fail_if_success (with_reducible show TurnW _ _ _ _ _ _ _ _ _ _)); (fail_if_success (with_reducible show TurnF _ _ _ _ _ _ _ _ _)); (fail_if_success (with_reducible show CutF _ _ _ _ _ _ _ _ _)); (fail_if_success (with_reducible show Q _ _)); (fail_if_success (with_reducible show LCg.CompSrc _ _ _ _ _ _ _ _ _ _ _ _ _ _ )); (fail_if_success (with_reducible show LCg.CompEnd _ _ _ _ _ _ _ _ _ _ _ _ _ _ )); (fail_if_success (with_reducible show wpAny _ _ (exec (Stmt.While _ _ _ _) _) _ _ _)); (fail_if_success (with_reducible show wpAny _ _ (exec (Stmt.For _ _ _ _ _) _) _ _ _)); (first | ((first | (with_reducible show wpAny _ _ (execs _ _) _ _ _) | (with_reducible show wpAny _ _ (PySem.isTrue _ _ _) _ _ _)); (dsimp only); walk1) | (k_unfold; (try dsimp only)) | (k_end; wrow_close) | walk1 | (dsimp only; walk1) | (leave1; walk_say "STEP leave1"; try dsimp only) | fail "no step"))
          (rename Fr _ _ _ _ => F12); (rename News _ _ _ _ => N12)
          exact lfp (_, _, _, _) F12 N12 (.cons rfl (.cons rfl (.cons rfl (.cons rfl (.cons rfl .nil))))) (fun _ h => List.mem_cons_of_mem _ h) (by rw [rungs_yes hyes]; exact StrsAre.append' hrs (.cons _ _ .nil))
        · (rename (_ == Str.ofString "local") = false => hs7)
          have hno := okR_no (k := i + 1) eL (by omega) (by omega) hs7
          (rename Fr _ _ _ _ => F12); (rename News _ _ _ _ => N12)
          exact lfp (_, _, _, _) F12 N12 (.cons rfl (.cons rfl (.cons rfl (.cons rfl (.cons rfl .nil))))) (fun _ h => h) (by rw [rungs_no hno]; exact hrs)
      · (rename (ll != Str.ofString "7") = false => h7)
        have hno := okR_no7 (k := i + 1) eL (by omega) h7
        (rename Fr _ _ _ _ => F12); (rename News _ _ _ _ => N12)
        exact lfp (_, _, _, _) F12 N12 (.cons rfl (.cons rfl (.cons rfl (.cons rfl (.cons rfl .nil))))) (fun _ h => h) (by rw [rungs_no hno]; exact hrs)
      --]
    · clear F5 N5
      rintro ⟨rs, cR, tH, tS⟩ m3 h3 tk4 hrs F6 N6
      dsimp only [kstB] at F6
      dsimp only at hrs N6
      have hrl := lay_rungs gL (ls.length - 1) (by omega)
      rw [rungsTo_end hgl.1] at hrs hrl
      repeat' ((fail_if_success (with_reducible show Lfp _ _ _ _ _ _ _)); (fail_if_success (with_reducible show TurnW _ _ _ _ _ _ _ _ _ _)); (fail_if_success (with_reducible show TurnF _ _ _ _ _ _ _ _ _)); (fail_if_success (with_reducible show CutF _ _ _ _ _ _ _ _ _)); (fail_if_success (with_reducible show Q _ _)); (fail_if_success (with_reducible show LCg.CompSrc _ _ _ _ _ _ _ _ _ _ _ _ _ _ )); (fail_if_success (with_reducible show LCg.CompEnd _ _ _ _ _ _ _ _ _ _ _ _ _ _ )); (fail_if_success (with_reducible show wpAny _ _ (exec (Stmt.While _ _ _ _) _) _ _ _)); (fail_if_success (with_reducible show wpAny _ _ (exec (Stmt.For _ _ _ _ _) _) _ _ _)); (fail_if_success (with_reducible show wpAny _ _ (call (Value.ref _) _) _ _ _)); (first | ((first | (with_reducible show wpAny _ _ (execs _ _) _ _ _) | (with_reducible show wpAny _ _ (PySem.isTrue _ _ _) _ _ _)); (dsimp only); walk1) | (k_unfold; (try dsimp only)) | (k_end; wrow_close) | walk1 | (dsimp only; walk1) | (leave1; walk_say "STEP leave1"; try dsimp only) | fail "no step"))
      (rename Fr _ _ _ _ => F7); (rename News _ _ _ _ => N7)
      refine (climbed_c w _ mg mb _ ls _ gL) _ _ _ _ _ _ _ _ _ _ _ _ _ _ _ _ _ (by k_asm) F7 (by k_asm) N7 (by k_asm) rfl (by decide) (by decide) ?_
      rintro rv tl h5 tk5 ⟨dC, ws, cC, e1, e2, sC⟩ F8 N8 lC
      subst e1; subst e2
      rw [climb_rungs] at sC
      clear F7 N7
      repeat' ((fail_if_success (with_reducible show Lfp _ _ _ _ _ _ _)); (fail_if_success (with_reducible show TurnW _ _ _ _ _ _ _ _ _ _)); (fail_if_success (with_reducible show TurnF _ _ _ _ _ _ _ _ _)); (fail_if_success (with_reducible show CutF _ _ _ _ _ _ _ _ _)); (fail_if_success (with_reducible show Q _ _)); (fail_if_success (with_reducible show LCg.CompSrc _ _ _ _ _ _ _ _ _ _ _ _ _ _ )); (fail_if_success (with_reducible show LCg.CompEnd _ _ _ _ _ _ _ _ _ _ _ _ _ _ )); (fail_if_success (with_reducible show wpAny _ _ (exec (Stmt.While _ _ _ _) _) _ _ _)); (fail_if_success (with_reducible show wpAny _ _ (exec (Stmt.For _ _ _ _ _) _) _ _ _)); (fail_if_success (with_reducible show wpAny _ _ (compareOp _ (Value.ref _) (Value.ref _)) _ _ _)); (first | ((first | (with_reducible show wpAny _ _ (execs _ _) _ _ _) | (with_reducible show wpAny _ _ (PySem.isTrue _ _ _) _ _ _)); (dsimp only); walk1) | (k_unfold; (try dsimp only)) | (k_end; wrow_close) | walk1 | (dsimp only; walk1) | (leave1; walk_say "STEP leave1"; try dsimp only) | fail "no step"))
      (rename News _ _ _ _ => N9)
      refine ne_strs (lst_in N9 (List.mem_cons_self ..)) sC (lst_in N9 (List.mem_cons_of_mem _ (List.mem_cons_self ..))) hrs (fun x hx => lay_still (hrl x hx).1) (fun x hx => lay_still (hrl x hx).1) (by units_room) ?_
      rw [decide_eq_true rfl]
      repeat' ((fail_if_success (with_reducible show Lfp _ _ _ _ _ _ _)); (fail_if_success (with_reducible show TurnW _ _ _ _ _ _ _ _ _ _)); (fail_if_success (with_reducible show TurnF _ _ _ _ _ _ _ _ _)); (fail_if_success (with_reducible show CutF _ _ _ _ _ _ _ _ _)); (fail_if_success (with_reducible show Q _ _)); (fail_if_success (with_reducible show LCg.CompSrc _ _ _ _ _ _ _ _ _ _ _ _ _ _ )); (fail_if_success (with_reducible show LCg.CompEnd _ _ _ _ _ _ _ _ _ _ _ _ _ _ )); (fail_if_success (with_reducible show wpAny _ _ (exec (Stmt.While _ _ _ _) _) _ _ _)); (fail_if_success (with_reducible show wpAny _ _ (exec (Stmt.For _ _ _ _ _) _) _ _ _)); (fail_if_success (with_reducible show wpAny _ _ (exec (Stmt.Assign _ _ _) _) _ _ _)); (first | ((first | (with_reducible show wpAny _ _ (execs _ _) _ _ _) | (with_reducible show wpAny _ _ (PySem.isTrue _ _ _) _ _ _)); (dsimp only); walk1) | (k_unfold; (try dsimp only)) | (k_end; wrow_close) | walk1 | (dsimp only; walk1) | (leave1; walk_say "STEP leave1"; try dsimp only) | fail "no step"))
      k_dflt (refine LCg.Assign_ListComp_U (F₀ := by k_asm) (by rfl) (by with_unfolding_all rfl) (by with_unfolding_all rfl) (by decide) (by rfl) (by decide) (by rfl) (by rfl) (by rfl) ?_)
      repeat' ((fail_if_success (with_reducible show Lfp _ _ _ _ _ _ _)); (fail_if_success (with_reducible show TurnW _ _ _ _ _ _ _ _ _ _)); (fail_if_success (with_reducible show TurnF _ _ _ _ _ _ _ _ _)); (fail_if_success (with_reducible show CutF _ _ _ _ _ _ _ _ _)); (fail_if_success (with_reducible show Q _ _)); (fail_if_success (with_reducible show LCg.CompSrc _ _ _ _ _ _ _ _ _ _ _ _ _ _ )); (fail_if_success (with_reducible show LCg.CompEnd _ _ _ _ _ _ _ _ _ _ _ _ _ _ )); (fail_if_success (with_reducible show wpAny _ _ (exec (Stmt.While _ _ _ _) _) _ _ _)); (fail_if_success (with_reducible show wpAny _ _ (exec (Stmt.For _ _ _ _ _) _) _ _ _)); (first | ((first | (with_reducible show wpAny _ _ (execs _ _) _ _ _) | (with_reducible show wpAny _ _ (PySem.isTrue _ _ _) _ _ _)); (dsimp only); walk1) | (k_unfold; (try dsimp only)) | (k_end; wrow_close) | walk1 | (dsimp only; walk1) | (leave1; walk_say "STEP leave1"; try dsimp only) | fail "no step"))
      (rename Fr _ _ _ _ => F10); (rename News _ _ _ _ => N10); (rename IntsAre _ (List.take _ _) => hI2)
      (rename_i dP wp zhp lP zC zL)
      refine LCg.CompSrc.ledger (its := wp.toArray) (k := 0) rfl F10 N10 (List.mem_cons_self ..) (by rw [sizeLine_eq, List.size_toArray, ints_len hI2]; omega) ?_
      intro g1
      refine comp_any (fun _ y => ∃ z t, y = Value.int z t ∧ 0 ≤ z ∧ z < 1024) ?_ (.inr ⟨_, List.mem_cons_self .., rfl, _, rfl⟩) ?_
      · rintro i v I oI C oC D m₂ ys h2 tk2 E' hi hv hC hx F2 N2 off ne hS
        obtain ⟨z, tz, rfl⟩ := int_at hI2 hv
        repeat' ((fail_if_success (with_reducible show Lfp _ _ _ _ _ _ _)); (fail_if_success (with_reducible show TurnW _ _ _ _ _ _ _ _ _ _)); (fail_if_success (with_reducible show TurnF _ _ _ _ _ _ _ _ _)); (fail_if_success (with_reducible show CutF _ _ _ _ _ _ _ _ _)); (fail_if_success (with_reducible show Q _ _)); (fail_if_success (with_reducible show LCg.CompSrc _ _ _ _ _ _ _ _ _ _ _ _ _ _ )); (fail_if_success (with_reducible show LCg.CompEnd _ _ _ _ _ _ _ _ _ _ _ _ _ _ )); (fail_if_success (with_reducible show wpAny _ _ (exec (Stmt.While _ _ _ _) _) _ _ _)); (fail_if_success (with_reducible show wpAny _ _ (exec (Stmt.For _ _ _ _ _) _) _ _ _)); (first | ((first | (with_reducible show wpAny _ _ (execs _ _) _ _ _) | (with_reducible show wpAny _ _ (PySem.isTrue _ _ _) _ _ _)); (dsimp only); walk1) | (k_unfold; (try dsimp only)) | (k_end; wrow_close) | walk1 | (dsimp only; walk1) | (leave1; walk_say "STEP leave1"; try dsimp only) | fail "no step"))
        (rename Fr _ _ _ _ => F3); (rename News _ _ _ _ => N3)
        exact LCg.CompEnd.intro F3 N3 _ (fun _ h => h) off hS ⟨rfl, _, _, rfl, fmod_lo _ (by decide), fmod_hi _ (by decide)⟩
      · intro ys hl hy
        obtain ⟨ns, hns, hnb⟩ := ints_from hy
        repeat' ((fail_if_success (with_reducible show Lfp _ _ _ _ _ _ _)); (fail_if_success (with_reducible show TurnW _ _ _ _ _ _ _ _ _ _)); (fail_if_success (with_reducible show TurnF _ _ _ _ _ _ _ _ _)); (fail_if_success (with_reducible show CutF _ _ _ _ _ _ _ _ _)); (fail_if_success (with_reducible show Q _ _)); (fail_if_success (with_reducible show LCg.CompSrc _ _ _ _ _ _ _ _ _ _ _ _ _ _ )); (fail_if_success (with_reducible show LCg.CompEnd _ _ _ _ _ _ _ _ _ _ _ _ _ _ )); (fail_if_success (with_reducible show wpAny _ _ (exec (Stmt.While _ _ _ _) _) _ _ _)); (fail_if_success (with_reducible show wpAny _ _ (exec (Stmt.For _ _ _ _ _) _) _ _ _)); (fail_if_success (with_reducible show wpAny _ _ (exec (Stmt.If _ _ _ _) _) _ _ _)); (first | ((first | (with_reducible show wpAny _ _ (execs _ _) _ _ _) | (with_reducible show wpAny _ _ (PySem.isTrue _ _ _) _ _ _)); (dsimp only); walk1) | (k_unfold; (try dsimp only)) | (k_end; wrow_close) | walk1 | (dsimp only; walk1) | (leave1; walk_say "STEP leave1"; try dsimp only) | fail "no step"))
        (rename Fr _ _ _ _ => F11); (rename News _ _ _ _ => N11); (rename _ ∧ LCg.Off1 _ _ => oD); (rename_i dD zhD zkD)
        have hcD : s₁.heap.objs.size + 1 ≠ dD := by have := oD.2; simp only [LCg.Off1, List.cons_append, List.nil_append] at this; exact this.2.2.2.1
        refine cutS (σ := Addr × List Value × Nat × List Int) F11 (fun c => [(Str.ofString "labels", .ref dL), (Str.ofString "host", .str (jS ls) tH), (Str.ofString "size", .int (ls.length : Int) tS), (Str.ofString "rungs", .ref dR), (Str.ofString "numbers", .ref c.1)])
          (fun c => [(c.1, listOf c.2.1.toArray c.2.2.1), (dR, listOf rs.toArray cR), (dL, listOf ul.toArray cL), (s₁.heap.objs.size + 1, oc)])
          (fun c => IntsAre c.2.1 c.2.2.2 ∧ (∀ z ∈ c.2.2.2, 0 ≤ z ∧ z < 1024) ∧ c.1 ≠ s₁.heap.objs.size + 1) ?_ ?_
        · repeat' ((fail_if_success (with_reducible show Lfp _ _ _ _ _ _ _)); (fail_if_success (with_reducible show TurnW _ _ _ _ _ _ _ _ _ _)); (fail_if_success (with_reducible show TurnF _ _ _ _ _ _ _ _ _)); (fail_if_success (with_reducible show CutF _ _ _ _ _ _ _ _ _)); (fail_if_success (with_reducible show Q _ _)); (fail_if_success (with_reducible show LCg.CompSrc _ _ _ _ _ _ _ _ _ _ _ _ _ _ )); (fail_if_success (with_reducible show LCg.CompEnd _ _ _ _ _ _ _ _ _ _ _ _ _ _ )); (fail_if_success (with_reducible show wpAny _ _ (exec (Stmt.While _ _ _ _) _) _ _ _)); (fail_if_success (with_reducible show wpAny _ _ (exec (Stmt.For _ _ _ _ _) _) _ _ _)); (fail_if_success (with_reducible show wpAny _ _ (compareOp _ (Value.ref _) (Value.ref _)) _ _ _)); (first | ((first | (with_reducible show wpAny _ _ (execs _ _) _ _ _) | (with_reducible show wpAny _ _ (PySem.isTrue _ _ _) _ _ _)); (dsimp only); walk1) | (k_unfold; (try dsimp only)) | (k_end; wrow_close) | walk1 | (dsimp only; walk1) | (leave1; walk_say "STEP leave1"; try dsimp only) | fail "no step"))
          (rename Fr _ _ _ _ => F12); (rename News _ _ _ _ => N12)
          refine eq_intsK (lst_in (us := ys) (c := ys.length) N12 (List.mem_cons_of_mem _ (List.mem_cons_self ..))) hns (lst_in (us := []) (c := 0) N12 (List.mem_cons_self ..)) .nil (by units_room) ?_
          rcases Classical.em (ns = []) with hnil | hnil
          · rw [decide_eq_true hnil]
            repeat' ((fail_if_success (with_reducible show Lfp _ _ _ _ _ _ _)); (fail_if_success (with_reducible show TurnW _ _ _ _ _ _ _ _ _ _)); (fail_if_success (with_reducible show TurnF _ _ _ _ _ _ _ _ _)); (fail_if_success (with_reducible show CutF _ _ _ _ _ _ _ _ _)); (fail_if_success (with_reducible show Q _ _)); (fail_if_success (with_reducible show LCg.CompSrc _ _ _ _ _ _ _ _ _ _ _ _ _ _ )); (fail_if_success (with_reducible show LCg.CompEnd _ _ _ _ _ _ _ _ _ _ _ _ _ _ )); (fail_if_success (with_reducible show wpAny _ _ (exec (Stmt.While _ _ _ _) _) _ _ _)); (fail_if_success (with_reducible show wpAny _ _ (exec (Stmt.For _ _ _ _ _) _) _ _ _)); (first | ((first | (with_reducible show wpAny _ _ (execs _ _) _ _ _) | (with_reducible show wpAny _ _ (PySem.isTrue _ _ _) _ _ _)); (dsimp only); walk1) | (k_unfold; (try dsimp only)) | (k_end; wrow_close) | walk1 | (dsimp only; walk1) | (leave1; walk_say "STEP leave1"; try dsimp only) | fail "no step"))
            (rename Fr _ _ _ _ => F13); (rename News _ _ _ _ => N13); (rename _ ∧ _ ∧ _ ∧ _ ∧ _ ∧ _ ∧ _ => l9)
            exact lfp (_, [Value.int 65 _], 0, [65]) F13 N13 (.cons rfl (.cons rfl (.cons rfl (.cons rfl (.cons rfl .nil))))) (List.forall_mem_cons.mpr ⟨by k_mem, List.forall_mem_cons.mpr ⟨by k_mem, List.forall_mem_cons.mpr ⟨by k_mem, List.forall_mem_cons.mpr ⟨by k_mem, fun _ h => nomatch h⟩⟩⟩⟩) ⟨.cons _ _ .nil, fun z hz => by rw [List.mem_singleton.mp hz]; decide, Nat.ne_of_gt l9.2.2.2.2.2.2⟩
          · rw [decide_eq_false hnil]
            repeat' ((fail_if_success (with_reducible show Lfp _ _ _ _ _ _ _)); (fail_if_success (with_reducible show TurnW _ _ _ _ _ _ _ _ _ _)); (fail_if_success (with_reducible show TurnF _ _ _ _ _ _ _ _ _)); (fail_if_success (with_reducible show CutF _ _ _ _ _ _ _ _ _)); (fail_if_success (with_reducible show Q _ _)); (fail_if_success (with_reducible show LCg.CompSrc _ _ _ _ _ _ _ _ _ _ _ _ _ _ )); (fail_if_success (with_reducible show LCg.CompEnd _ _ _ _ _ _ _ _ _ _ _ _ _ _ )); (fail_if_success (with_reducible show wpAny _ _ (exec (Stmt.While _ _ _ _) _) _ _ _)); (fail_if_success (with_reducible show wpAny _ _ (exec (Stmt.For _ _ _ _ _) _) _ _ _)); (first | ((first | (with_reducible show wpAny _ _ (execs _ _) _ _ _) | (with_reducible show wpAny _ _ (PySem.isTrue _ _ _) _ _ _)); (dsimp only); walk1) | (k_unfold; (try dsimp only)) | (k_end; wrow_close) | walk1 | (dsimp only; walk1) | (leave1; walk_say "STEP leave1"; try dsimp only) | fail "no step"))
            (rename Fr _ _ _ _ => F13); (rename News _ _ _ _ => N13)
            exact lfp (dD, ys, ys.length, ns) F13 N13 (.cons rfl (.cons rfl (.cons rfl (.cons rfl (.cons rfl .nil))))) (List.forall_mem_cons.mpr ⟨by k_mem, List.forall_mem_cons.mpr ⟨by k_mem, List.forall_mem_cons.mpr ⟨by k_mem, List.forall_mem_cons.mpr ⟨by k_mem, fun _ h => nomatch h⟩⟩⟩⟩) ⟨hns, hnb, hcD.symm⟩
        · clear F11 N11 hns hnb hy hl oD hcD
          rintro ⟨dN, zs, cN, ns⟩ m4 h4 tk4 ⟨hns, hnb, hcN⟩ F6 N6
          dsimp only [kstB] at F6
          dsimp only at hns hnb hcN N6
          dsimp only
          repeat' ((fail_if_success (with_reducible show Lfp _ _ _ _ _ _ _)); (fail_if_success (with_reducible show TurnW _ _ _ _ _ _ _ _ _ _)); (fail_if_success (with_reducible show TurnF _ _ _ _ _ _ _ _ _)); (fail_if_success (with_reducible show CutF _ _ _ _ _ _ _ _ _)); (fail_if_success (with_reducible show Q _ _)); (fail_if_success (with_reducible show LCg.CompSrc _ _ _ _ _ _ _ _ _ _ _ _ _ _ )); (fail_if_success (with_reducible show LCg.CompEnd _ _ _ _ _ _ _ _ _ _ _ _ _ _ )); (fail_if_success (with_reducible show wpAny _ _ (exec (Stmt.While _ _ _ _) _) _ _ _)); (fail_if_success (with_reducible show wpAny _ _ (exec (Stmt.For _ _ _ _ _) _) _ _ _)); (first | ((first | (with_reducible show wpAny _ _ (execs _ _) _ _ _) | (with_reducible show wpAny _ _ (PySem.isTrue _ _ _) _ _ _)); (dsimp only); walk1) | (k_unfold; (try dsimp only)) | (k_end; wrow_close) | walk1 | (dsimp only; walk1) | (leave1; walk_say "STEP leave1"; try dsimp only) | fail "no step"))
          (rename Fr _ _ _ _ => F6); (rename News _ _ _ _ => N6)
          with_unfolding_all refine' For_invVF F6 ?k1 ?k2 ?_
          case k1 => exact rfl
          case k2 => exact rfl
          repeat' ((fail_if_success (with_reducible show Lfp _ _ _ _ _ _ _)); (fail_if_success (with_reducible show TurnW _ _ _ _ _ _ _ _ _ _)); (fail_if_success (with_reducible show TurnF _ _ _ _ _ _ _ _ _)); (fail_if_success (with_reducible show CutF _ _ _ _ _ _ _ _ _)); (fail_if_success (with_reducible show Q _ _)); (fail_if_success (with_reducible show LCg.CompSrc _ _ _ _ _ _ _ _ _ _ _ _ _ _ )); (fail_if_success (with_reducible show LCg.CompEnd _ _ _ _ _ _ _ _ _ _ _ _ _ _ )); (fail_if_success (with_reducible show wpAny _ _ (exec (Stmt.While _ _ _ _) _) _ _ _)); (fail_if_success (with_reducible show wpAny _ _ (exec (Stmt.For _ _ _ _ _) _) _ _ _)); (fail_if_success (with_reducible show wpAny _ _ (pyIter _) _ _ _)); (first | ((first | (with_reducible show wpAny _ _ (execs _ _) _ _ _) | (with_reducible show wpAny _ _ (PySem.isTrue _ _ _) _ _ _)); (dsimp only); walk1) | (k_unfold; (try dsimp only)) | (k_end; wrow_close) | walk1 | (dsimp only; walk1) | (leave1; walk_say "STEP leave1"; try dsimp only) | fail "no step"))
          (rename Fr _ _ _ _ => F7); (rename News _ _ _ _ => N7)
          refine itList (σ := Obj) (fun c => [(Str.ofString "labels", .ref dL), (Str.ofString "host", .str (jS ls) tH), (Str.ofString "size", .int (ls.length : Int) tS), (Str.ofString "rungs", .ref dR)])
            (fun c => [(dN, listOf zs.toArray cN), (dR, listOf rs.toArray cR), (dL, listOf ul.toArray cL), (s₁.heap.objs.size + 1, c)]) (fun _ c => ∃ v, c.data = .cell v) oc
            rfl (fun _ => List.mem_cons_self ..) (fun _ => rfl) F7 N7 (.cons rfl (.cons rfl (.cons rfl (.cons rfl .nil)))) ⟨none, d0⟩ ?_ ?_
          · clear F7 N7 d0
            rintro i v oc m5 h5 tk5 I oi hi hv ⟨v0, d0⟩ lI F8 N8
            obtain ⟨z, tz, rfl⟩ := int_at (i := i) hns (by simpa using hv)
            dsimp only [kstB] at F8
            have hzb := int_mem (i := i) hns hnb (by simpa using hv)
            repeat' ((fail_if_success (with_reducible show Lfp _ _ _ _ _ _ _)); (fail_if_success (with_reducible show TurnW _ _ _ _ _ _ _ _ _ _)); (fail_if_success (with_reducible show TurnF _ _ _ _ _ _ _ _ _)); (fail_if_success (with_reducible show CutF _ _ _ _ _ _ _ _ _)); (fail_if_success (with_reducible show Q _ _)); (fail_if_success (with_reducible show LCg.CompSrc _ _ _ _ _ _ _ _ _ _ _ _ _ _ )); (fail_if_success (with_reducible show LCg.CompEnd _ _ _ _ _ _ _ _ _ _ _ _ _ _ )); (fail_if_success (with_reducible show wpAny _ _ (exec (Stmt.While _ _ _ _) _) _ _ _)); (fail_if_success (with_reducible show wpAny _ _ (exec (Stmt.For _ _ _ _ _) _) _ _ _)); (fail_if_success (with_reducible show wpAny _ _ (call (Value.ref _) _) _ _ _)); (first | ((first | (with_reducible show wpAny _ _ (execs _ _) _ _ _) | (with_reducible show wpAny _ _ (PySem.isTrue _ _ _) _ _ _)); (dsimp only); walk1) | (k_unfold; (try dsimp only)) | (k_end; wrow_close) | walk1 | (dsimp only; walk1) | (leave1; walk_say "STEP leave1"; try dsimp only) | fail "no step"))
            (rename Fr _ _ _ _ => F9); (rename News _ _ _ _ => N9)
            refine (parts_c w _ mg mb _ dL ul cL ls z _ (by k_mem) sL gL hzb.1 hzb.2) _ _ _ _ _ _ _ _ _ _ _ _ _ _ _ _ _ (by k_asm) F9 (by k_asm) N9 (by k_asm) rfl (by decide) (by decide) ?_
            rintro rv tl h6 tk6 ⟨dQ, qs, cQ, ps, e1, e2, sQ, gQ⟩ F10 N10 lQ
            subst e1; subst e2
            clear F9 N9
            repeat' ((fail_if_success (with_reducible show Lfp _ _ _ _ _ _ _)); (fail_if_success (with_reducible show TurnW _ _ _ _ _ _ _ _ _ _)); (fail_if_success (with_reducible show TurnF _ _ _ _ _ _ _ _ _)); (fail_if_success (with_reducible show CutF _ _ _ _ _ _ _ _ _)); (fail_if_success (with_reducible show Q _ _)); (fail_if_success (with_reducible show LCg.CompSrc _ _ _ _ _ _ _ _ _ _ _ _ _ _ )); (fail_if_success (with_reducible show LCg.CompEnd _ _ _ _ _ _ _ _ _ _ _ _ _ _ )); (fail_if_success (with_reducible show wpAny _ _ (exec (Stmt.While _ _ _ _) _) _ _ _)); (fail_if_success (with_reducible show wpAny _ _ (exec (Stmt.For _ _ _ _ _) _) _ _ _)); (fail_if_success (with_reducible show wpAny _ _ (exec (Stmt.Assign _ _ _) _) _ _ _)); (first | ((first | (with_reducible show wpAny _ _ (execs _ _) _ _ _) | (with_reducible show wpAny _ _ (PySem.isTrue _ _ _) _ _ _)); (dsimp only); walk1) | (k_unfold; (try dsimp only)) | (k_end; wrow_close) | walk1 | (dsimp only; walk1) | (leave1; walk_say "STEP leave1"; try dsimp only) | fail "no step"))
            (first | ((first | (with_reducible show wpAny _ _ (execs _ _) _ _ _) | (with_reducible show wpAny _ _ (PySem.isTrue _ _ _) _ _ _)); (dsimp only); walk1) | (k_unfold; (try dsimp only)) | (k_end; wrow_close) | walk1 | (dsimp only; walk1) | (leave1; walk_say "STEP leave1"; try dsimp only) | fail "no step")
            repeat' ((fail_if_success (with_reducible show Lfp _ _ _ _ _ _ _)); (fail_if_success (with_reducible show TurnW _ _ _ _ _ _ _ _ _ _)); (fail_if_success (with_reducible show TurnF _ _ _ _ _ _ _ _ _)); (fail_if_success (with_reducible show CutF _ _ _ _ _ _ _ _ _)); (fail_if_success (with_reducible show Q _ _)); (fail_if_success (with_reducible show LCg.CompSrc _ _ _ _ _ _ _ _ _ _ _ _ _ _ )); (fail_if_success (with_reducible show LCg.CompEnd _ _ _ _ _ _ _ _ _ _ _ _ _ _ )); (fail_if_success (with_reducible show wpAny _ _ (exec (Stmt.While _ _ _ _) _) _ _ _)); (fail_if_success (with_reducible show wpAny _ _ (exec (Stmt.For _ _ _ _ _) _) _ _ _)); (fail_if_success (with_reducible show wpAny _ _ (exec (Stmt.Assign _ _ _) _) _ _ _)); (first | ((first | (with_reducible show wpAny _ _ (execs _ _) _ _ _) | (with_reducible show wpAny _ _ (PySem.isTrue _ _ _) _ _ _)); (dsimp only); walk1) | (k_unfold; (try dsimp only)) | (k_end; wrow_close) | walk1 | (dsimp only; walk1) | (leave1; walk_say "STEP leave1"; try dsimp only) | fail "no step"))
            (rename Fr _ _ _ _ => F11); (rename News _ _ _ _ => N11)
            have gQl := good_len gQ
            have cI : s₁.heap.objs.size + 1 < I := lI (s₁.heap.objs.size + 1, oc) (by k_mem)
            refine cutS (σ := Obj × Bool × Tok) F11 (fun c => [(Str.ofString "labels", .ref dL), (Str.ofString "host", .str (jS ls) tH), (Str.ofString "size", .int (ls.length : Int) tS), (Str.ofString "rungs", .ref dR), (Str.ofString "z", .int z tz), (Str.ofString "parts", .ref dQ), (Str.ofString "dotted", .bool c.2.1)])
              (fun c => [(dQ, listOf qs.toArray cQ), (I, oi), (dN, listOf zs.toArray cN), (dR, listOf rs.toArray cR), (dL, listOf ul.toArray cL), (s₁.heap.objs.size + 1, c.1)])
              (fun c => c.1.data = .cell (some (.str (ruleOf c.2.1 ps) c.2.2))) ?_ ?_
            · --[
              repeat' ((fail_if_success (with_reducible show Lfp _ _ _ _ _ _ _)); (fail_if_success (with_reducible show TurnW _ _ _ _ _ _ _ _ _ _)); (fail_if_success (with_reducible show TurnF _ _ _ _ _ _ _ _ _)); (fail_if_success (with_reducible show CutF _ _ _ _ _ _ _ _ _)); (fail_if_success (with_reducible show Q _ _)); (fail_if_success (with_reducible show LCg.CompSrc _ _ _ _ _ _ _ _ _ _ _ _ _ _ )); (fail_if_success (with_reducible show LCg.CompEnd _ _ _ _ _ _ _ _ _ _ _ _ _ _ )); (fail_if_success (with_reducible show wpAny _ _ (exec (Stmt.While _ _ _ _) _) _ _ _)); (fail_if_success (with_reducible show wpAny _ _ (exec (Stmt.For _ _ _ _ _) _) _ _ _)); (fail_if_success (with_reducible show wpAny _ _ (call (Value.builtin "str.join") _) _ _ _)); (first | ((first | (with_reducible show wpAny _ _ (execs _ _) _ _ _) | (with_reducible show wpAny _ _ (PySem.isTrue _ _ _) _ _ _)); (dsimp only); walk1) | (k_unfold; (try dsimp only)) | (k_end; wrow_close) | walk1 | (dsimp only; walk1) | (leave1; walk_say "STEP leave1"; try dsimp only) | fail "no step"))
              · (rename News _ _ _ _ => N12)
                refine join_good N12 (List.mem_cons_self ..) sQ gQ (by decide) ?_
                intro tj tkj
                repeat' ((fail_if_success (with_reducible show Lfp _ _ _ _ _ _ _)); (fail_if_success (with_reducible show TurnW _ _ _ _ _ _ _ _ _ _)); (fail_if_success (with_reducible show TurnF _ _ _ _ _ _ _ _ _)); (fail_if_success (with_reducible show CutF _ _ _ _ _ _ _ _ _)); (fail_if_success (with_reducible show Q _ _)); (fail_if_success (with_reducible show LCg.CompSrc _ _ _ _ _ _ _ _ _ _ _ _ _ _ )); (fail_if_success (with_reducible show LCg.CompEnd _ _ _ _ _ _ _ _ _ _ _ _ _ _ )); (fail_if_success (with_reducible show wpAny _ _ (exec (Stmt.While _ _ _ _) _) _ _ _)); (fail_if_success (with_reducible show wpAny _ _ (exec (Stmt.For _ _ _ _ _) _) _ _ _)); (first | ((first | (with_reducible show wpAny _ _ (execs _ _) _ _ _) | (with_reducible show wpAny _ _ (PySem.isTrue _ _ _) _ _ _)); (dsimp only); walk1) | (k_unfold; (try dsimp only)) | (k_end; wrow_close) | walk1 | (dsimp only; walk1) | (leave1; walk_say "STEP leave1"; try dsimp only) | fail "no step"))
                (rename Fr _ _ _ _ => F12); (rename News _ _ _ _ => N12)
                refine cell_put (c := s₁.heap.objs.size + 1) F12 N12 (.tail (Nat.ne_of_gt (Nat.lt_trans cI (lQ (I, oi) (List.mem_cons_self ..) (dQ, _) (List.mem_cons_self ..)))) (.tail (Nat.ne_of_gt cI) (.tail hcN (.tail (Nat.ne_of_gt lR.2) (.tail (Nat.ne_of_gt lL) (.head fun _ h => nomatch h)))))) d0 rfl rfl rfl ?_
                intro h13 o13 F13 N13 d13
                clear F12 N12
                (rename 0 < (z.fdiv 64).fmod 4 => hb9)
                exact lfp (o13, true, _) F13 N13 (.cons rfl (.cons rfl (.cons rfl (.cons rfl (.cons rfl (.cons rfl (.cons (congrArg (fun b => some (Value.bool b)) (decide_eq_true hb9)) .nil))))))) (fun _ h => h) d13
              · (rename News _ _ _ _ => N12)
                refine join_good N12 (List.mem_cons_self ..) sQ gQ (by decide) ?_
                intro tj tkj
                repeat' ((fail_if_success (with_reducible show Lfp _ _ _ _ _ _ _)); (fail_if_success (with_reducible show TurnW _ _ _ _ _ _ _ _ _ _)); (fail_if_success (with_reducible show TurnF _ _ _ _ _ _ _ _ _)); (fail_if_success (with_reducible show CutF _ _ _ _ _ _ _ _ _)); (fail_if_success (with_reducible show Q _ _)); (fail_if_success (with_reducible show LCg.CompSrc _ _ _ _ _ _ _ _ _ _ _ _ _ _ )); (fail_if_success (with_reducible show LCg.CompEnd _ _ _ _ _ _ _ _ _ _ _ _ _ _ )); (fail_if_success (with_reducible show wpAny _ _ (exec (Stmt.While _ _ _ _) _) _ _ _)); (fail_if_success (with_reducible show wpAny _ _ (exec (Stmt.For _ _ _ _ _) _) _ _ _)); (first | ((first | (with_reducible show wpAny _ _ (execs _ _) _ _ _) | (with_reducible show wpAny _ _ (PySem.isTrue _ _ _) _ _ _)); (dsimp only); walk1) | (k_unfold; (try dsimp only)) | (k_end; wrow_close) | walk1 | (dsimp only; walk1) | (leave1; walk_say "STEP leave1"; try dsimp only) | fail "no step"))
                (rename Fr _ _ _ _ => F12); (rename News _ _ _ _ => N12)
                refine cell_put (c := s₁.heap.objs.size + 1) F12 N12 (.tail (Nat.ne_of_gt (Nat.lt_trans cI (lQ (I, oi) (List.mem_cons_self ..) (dQ, _) (List.mem_cons_self ..)))) (.tail (Nat.ne_of_gt cI) (.tail hcN (.tail (Nat.ne_of_gt lR.2) (.tail (Nat.ne_of_gt lL) (.head fun _ h => nomatch h)))))) d0 rfl rfl rfl ?_
                intro h13 o13 F13 N13 d13
                clear F12 N12
                (rename ¬ 0 < (z.fdiv 64).fmod 4 => hb9)
                exact lfp (o13, false, _) F13 N13 (.cons rfl (.cons rfl (.cons rfl (.cons rfl (.cons rfl (.cons rfl (.cons (congrArg (fun b => some (Value.bool b)) (decide_eq_false hb9)) .nil))))))) (fun _ h => h) d13
              --]
            · clear F11 N11 d0
              rintro ⟨oc, bD, tR⟩ m6 h7 tk7 d0 F12 N12
              dsimp only [kstB] at F12
              dsimp only at d0 N12
              dsimp only
              generalize hyy : ruleOf bD ps = y at d0
              repeat' ((fail_if_success (with_reducible show Lfp _ _ _ _ _ _ _)); (fail_if_success (with_reducible show TurnW _ _ _ _ _ _ _ _ _ _)); (fail_if_success (with_reducible show TurnF _ _ _ _ _ _ _ _ _)); (fail_if_success (with_reducible show CutF _ _ _ _ _ _ _ _ _)); (fail_if_success (with_reducible show Q _ _)); (fail_if_success (with_reducible show LCg.CompSrc _ _ _ _ _ _ _ _ _ _ _ _ _ _ )); (fail_if_success (with_reducible show LCg.CompEnd _ _ _ _ _ _ _ _ _ _ _ _ _ _ )); (fail_if_success (with_reducible show wpAny _ _ (exec (Stmt.While _ _ _ _) _) _ _ _)); (fail_if_success (with_reducible show wpAny _ _ (exec (Stmt.For _ _ _ _ _) _) _ _ _)); (fail_if_success (with_reducible show wpAny _ _ (exec (Stmt.Assign _ _ _) _) _ _ _)); (first | ((first | (with_reducible show wpAny _ _ (execs _ _) _ _ _) | (with_reducible show wpAny _ _ (PySem.isTrue _ _ _) _ _ _)); (dsimp only); walk1) | (k_unfold; (try dsimp only)) | (k_end; wrow_close) | walk1 | (dsimp only; walk1) | (leave1; walk_say "STEP leave1"; try dsimp only) | fail "no step"))
              k_dflt (refine LCg.Assign_ListComp_U (F₀ := by k_asm) (by rfl) (by with_unfolding_all rfl) (by with_unfolding_all rfl) (by decide) (by rfl) (by decide) (by rfl) (by rfl) (by rfl) ?_)
              repeat' ((fail_if_success (with_reducible show Lfp _ _ _ _ _ _ _)); (fail_if_success (with_reducible show TurnW _ _ _ _ _ _ _ _ _ _)); (fail_if_success (with_reducible show TurnF _ _ _ _ _ _ _ _ _)); (fail_if_success (with_reducible show CutF _ _ _ _ _ _ _ _ _)); (fail_if_success (with_reducible show Q _ _)); (fail_if_success (with_reducible show LCg.CompSrc _ _ _ _ _ _ _ _ _ _ _ _ _ _ )); (fail_if_success (with_reducible show LCg.CompEnd _ _ _ _ _ _ _ _ _ _ _ _ _ _ )); (fail_if_success (with_reducible show wpAny _ _ (exec (Stmt.While _ _ _ _) _) _ _ _)); (fail_if_success (with_reducible show wpAny _ _ (exec (Stmt.For _ _ _ _ _) _) _ _ _)); (first | ((first | (with_reducible show wpAny _ _ (execs _ _) _ _ _) | (with_reducible show wpAny _ _ (PySem.isTrue _ _ _) _ _ _)); (dsimp only); walk1) | (k_unfold; (try dsimp only)) | (k_end; wrow_close) | walk1 | (dsimp only; walk1) | (leave1; walk_say "STEP leave1"; try dsimp only) | fail "no step"))
              have hys : KXs.Still y := hyy ▸ still_rule bD gQ
              have hyl : y.length ≤ 14 := hyy ▸ rule_len bD gQ
              (rename Fr _ _ _ _ => F13); (rename News _ _ _ _ => N13)
              refine LCg.CompSrc.ledger (its := rs.toArray) (k := cR) rfl F13 N13 (by k_mem) (by rw [sizeLine_eq, List.size_toArray, PyProof.Rows.StrsAre.length hrs]; have := rungs_len ls; simp only [List.length_cons]; omega) ?_
              intro g2
              refine comp_any (fun i y' => ∃ t, y' = Value.int (2 * (lev (tx ((jS ls :: rungsR ls).getD i Str.empty)) (tx y) : Int)) t) ?_ (.inr ⟨_, by k_mem, rfl, _, rfl⟩) ?_
              · rintro i v I oI C oC D m₂ ys h2 tk2 E' hi hv hC hx F2 N2 off ne hS
                obtain ⟨r, tr, rfl, er, hmr⟩ := str_at hrs hv
                have hrl' := hrl r hmr
                repeat' ((fail_if_success (with_reducible show Lfp _ _ _ _ _ _ _)); (fail_if_success (with_reducible show TurnW _ _ _ _ _ _ _ _ _ _)); (fail_if_success (with_reducible show TurnF _ _ _ _ _ _ _ _ _)); (fail_if_success (with_reducible show CutF _ _ _ _ _ _ _ _ _)); (fail_if_success (with_reducible show Q _ _)); (fail_if_success (with_reducible show LCg.CompSrc _ _ _ _ _ _ _ _ _ _ _ _ _ _ )); (fail_if_success (with_reducible show LCg.CompEnd _ _ _ _ _ _ _ _ _ _ _ _ _ _ )); (fail_if_success (with_reducible show wpAny _ _ (exec (Stmt.While _ _ _ _) _) _ _ _)); (fail_if_success (with_reducible show wpAny _ _ (exec (Stmt.For _ _ _ _ _) _) _ _ _)); (fail_if_success (with_reducible show wpAny _ _ (call (Value.ref _) _) _ _ _)); (first | ((first | (with_reducible show wpAny _ _ (execs _ _) _ _ _) | (with_reducible show wpAny _ _ (PySem.isTrue _ _ _) _ _ _)); (dsimp only); walk1) | (k_unfold; (try dsimp only)) | (k_end; wrow_close) | walk1 | (dsimp only; walk1) | (leave1; walk_say "STEP leave1"; try dsimp only) | fail "no step"))
                (rename Fr _ _ _ _ => F3); (rename News _ _ _ _ => N3)
                refine (lev_c w _ mg mb _ r y _ _ _ hrl'.1 hys (by omega) (by omega)) _ _ _ _ _ _ _ _ _ _ _ _ _ _ _ _ _ (by k_asm) F3 (by k_asm) N3 (by k_asm) rfl (by decide) (by decide) ?_
                rintro rv tl h6 tk6 ⟨e1, t6, e2⟩ F4 N4 -
                subst e1; subst e2
                dsimp only [List.nil_append] at N4
                repeat' ((fail_if_success (with_reducible show Lfp _ _ _ _ _ _ _)); (fail_if_success (with_reducible show TurnW _ _ _ _ _ _ _ _ _ _)); (fail_if_success (with_reducible show TurnF _ _ _ _ _ _ _ _ _)); (fail_if_success (with_reducible show CutF _ _ _ _ _ _ _ _ _)); (fail_if_success (with_reducible show Q _ _)); (fail_if_success (with_reducible show LCg.CompSrc _ _ _ _ _ _ _ _ _ _ _ _ _ _ )); (fail_if_success (with_reducible show LCg.CompEnd _ _ _ _ _ _ _ _ _ _ _ _ _ _ )); (fail_if_success (with_reducible show wpAny _ _ (exec (Stmt.While _ _ _ _) _) _ _ _)); (fail_if_success (with_reducible show wpAny _ _ (exec (Stmt.For _ _ _ _ _) _) _ _ _)); (first | ((first | (with_reducible show wpAny _ _ (execs _ _) _ _ _) | (with_reducible show wpAny _ _ (PySem.isTrue _ _ _) _ _ _)); (dsimp only); walk1) | (k_unfold; (try dsimp only)) | (k_end; wrow_close) | walk1 | (dsimp only; walk1) | (leave1; walk_say "STEP leave1"; try dsimp only) | fail "no step"))
                exact LCg.CompEnd.intro F4 N4 _ (fun _ h => h) off hS ⟨rfl, _, by rw [er]⟩
              · intro ts hl hy
                have sT : IntsAre ts ((jS ls :: rungsR ls).map fun r => 2 * (lev (tx r) (tx y) : Int)) := ints_map hrs (by simpa using hl) hy
                have hTb : ∀ n ∈ ((jS ls :: rungsR ls).map fun r => 2 * (lev (tx r) (tx y) : Int)), 0 ≤ n ∧ n < 200 := by
                  intro n hn
                  obtain ⟨r, hr, rfl⟩ := List.mem_map.mp hn
                  have h1 := (lev_len (tx r) (tx y)).1
                  have h2 := hrl r hr
                  rw [tx_len, tx_len] at h1
                  omega
                have hTl : ((jS ls :: rungsR ls).map fun r => 2 * (lev (tx r) (tx y) : Int)).length ≤ 1000 := by
                  have := rungs_len ls
                  simp only [List.length_map, List.length_cons]; omega
                generalize hTT : ((jS ls :: rungsR ls).map fun r => 2 * (lev (tx r) (tx y) : Int)) = TT at sT hTb hTl
                repeat' ((fail_if_success (with_reducible show Lfp _ _ _ _ _ _ _)); (fail_if_success (with_reducible show TurnW _ _ _ _ _ _ _ _ _ _)); (fail_if_success (with_reducible show TurnF _ _ _ _ _ _ _ _ _)); (fail_if_success (with_reducible show CutF _ _ _ _ _ _ _ _ _)); (fail_if_success (with_reducible show Q _ _)); (fail_if_success (with_reducible show LCg.CompSrc _ _ _ _ _ _ _ _ _ _ _ _ _ _ )); (fail_if_success (with_reducible show LCg.CompEnd _ _ _ _ _ _ _ _ _ _ _ _ _ _ )); (fail_if_success (with_reducible show wpAny _ _ (exec (Stmt.While _ _ _ _) _) _ _ _)); (fail_if_success (with_reducible show wpAny _ _ (exec (Stmt.For _ _ _ _ _) _) _ _ _)); (fail_if_success (with_reducible show wpAny _ _ (call (Value.type "str") [Value.ref _]) _ _ _)); (first | ((first | (with_reducible show wpAny _ _ (execs _ _) _ _ _) | (with_reducible show wpAny _ _ (PySem.isTrue _ _ _) _ _ _)); (dsimp only); walk1) | (k_unfold; (try dsimp only)) | (k_end; wrow_close) | walk1 | (dsimp only; walk1) | (leave1; walk_say "STEP leave1"; try dsimp only) | fail "no step"))
                (rename Fr _ _ _ _ => F14); (rename News _ _ _ _ => N14)
                refine str_ints F14 N14 (lst_in (us := ts) (c := ts.length) N14 (List.mem_cons_self ..)) sT hTb hTl rfl (by units_room) ?_
                intro h15 u15 tk15 F15 N15
                clear F14 N14
                repeat' ((fail_if_success (with_reducible show Lfp _ _ _ _ _ _ _)); (fail_if_success (with_reducible show TurnW _ _ _ _ _ _ _ _ _ _)); (fail_if_success (with_reducible show TurnF _ _ _ _ _ _ _ _ _)); (fail_if_success (with_reducible show CutF _ _ _ _ _ _ _ _ _)); (fail_if_success (with_reducible show Q _ _)); (fail_if_success (with_reducible show LCg.CompSrc _ _ _ _ _ _ _ _ _ _ _ _ _ _ )); (fail_if_success (with_reducible show LCg.CompEnd _ _ _ _ _ _ _ _ _ _ _ _ _ _ )); (fail_if_success (with_reducible show wpAny _ _ (exec (Stmt.While _ _ _ _) _) _ _ _)); (fail_if_success (with_reducible show wpAny _ _ (exec (Stmt.For _ _ _ _ _) _) _ _ _)); (fail_if_success (with_reducible show wpAny _ _ (eval (Expr.ListComp _ _ _ _) _) _ _ _)); (fail_if_success (with_reducible show wpAny _ _ (call (Value.type "str") [Value.ref _]) _ _ _)); (first | ((first | (with_reducible show wpAny _ _ (execs _ _) _ _ _) | (with_reducible show wpAny _ _ (PySem.isTrue _ _ _) _ _ _)); (dsimp only); walk1) | (k_unfold; (try dsimp only)) | (k_end; wrow_close) | walk1 | (dsimp only; walk1) | (leave1; walk_say "STEP leave1"; try dsimp only) | fail "no step"))
                (rename_i dT zhT zkT oT)
                k_dflt (refine LCg.ListComp_U (F₀ := by k_asm) (by with_unfolding_all rfl) (by decide) (by rfl) (by decide) (by rfl) ?_)
                repeat' ((fail_if_success (with_reducible show Lfp _ _ _ _ _ _ _)); (fail_if_success (with_reducible show TurnW _ _ _ _ _ _ _ _ _ _)); (fail_if_success (with_reducible show TurnF _ _ _ _ _ _ _ _ _)); (fail_if_success (with_reducible show CutF _ _ _ _ _ _ _ _ _)); (fail_if_success (with_reducible show Q _ _)); (fail_if_success (with_reducible show LCg.CompSrc _ _ _ _ _ _ _ _ _ _ _ _ _ _ )); (fail_if_success (with_reducible show LCg.CompEnd _ _ _ _ _ _ _ _ _ _ _ _ _ _ )); (fail_if_success (with_reducible show wpAny _ _ (exec (Stmt.While _ _ _ _) _) _ _ _)); (fail_if_success (with_reducible show wpAny _ _ (exec (Stmt.For _ _ _ _ _) _) _ _ _)); (first | ((first | (with_reducible show wpAny _ _ (execs _ _) _ _ _) | (with_reducible show wpAny _ _ (PySem.isTrue _ _ _) _ _ _)); (dsimp only); walk1) | (k_unfold; (try dsimp only)) | (k_end; wrow_close) | walk1 | (dsimp only; walk1) | (leave1; walk_say "STEP leave1"; try dsimp only) | fail "no step"))
                (rename Fr _ _ _ _ => F16); (rename News _ _ _ _ => N16)
                refine LCg.CompSrc.ledger (its := rs.toArray) (k := cR) rfl F16 N16 (by k_mem) (by rw [sizeLine_eq, List.size_toArray, PyProof.Rows.StrsAre.length hrs]; have := rungs_len ls; simp only [List.length_cons]; omega) ?_
                intro g3
                refine comp_any (fun i y' => ∃ t, y' = Value.int (2 * (lev (tx ((jS ls :: rungsR ls).getD i Str.empty)) (tx y) : Int)) t) ?_ (.inr ⟨_, by k_mem, rfl, _, rfl⟩) ?_
                · rintro i v I oI C oC D m₂ ys h2 tk2 E' hi hv hC hx F2 N2 off ne hS
                  obtain ⟨r, tr, rfl, er, hmr⟩ := str_at hrs hv
                  have hrl' := hrl r hmr
                  repeat' ((fail_if_success (with_reducible show Lfp _ _ _ _ _ _ _)); (fail_if_success (with_reducible show TurnW _ _ _ _ _ _ _ _ _ _)); (fail_if_success (with_reducible show TurnF _ _ _ _ _ _ _ _ _)); (fail_if_success (with_reducible show CutF _ _ _ _ _ _ _ _ _)); (fail_if_success (with_reducible show Q _ _)); (fail_if_success (with_reducible show LCg.CompSrc _ _ _ _ _ _ _ _ _ _ _ _ _ _ )); (fail_if_success (with_reducible show LCg.CompEnd _ _ _ _ _ _ _ _ _ _ _ _ _ _ )); (fail_if_success (with_reducible show wpAny _ _ (exec (Stmt.While _ _ _ _) _) _ _ _)); (fail_if_success (with_reducible show wpAny _ _ (exec (Stmt.For _ _ _ _ _) _) _ _ _)); (fail_if_success (with_reducible show wpAny _ _ (call (Value.ref _) _) _ _ _)); (first | ((first | (with_reducible show wpAny _ _ (execs _ _) _ _ _) | (with_reducible show wpAny _ _ (PySem.isTrue _ _ _) _ _ _)); (dsimp only); walk1) | (k_unfold; (try dsimp only)) | (k_end; wrow_close) | walk1 | (dsimp only; walk1) | (leave1; walk_say "STEP leave1"; try dsimp only) | fail "no step"))
                  (rename Fr _ _ _ _ => F3); (rename News _ _ _ _ => N3)
                  refine (chg_c w _ mg mb _ r y _ _ (by omega) (by omega)) _ _ _ _ _ _ _ _ _ _ _ _ _ _ _ _ _ (by k_asm) F3 (by k_asm) N3 (by k_asm) rfl (by decide) (by decide) ?_
                  rintro rv tl h6 tk6 ⟨e1, t6, e2⟩ F4 N4 -
                  subst e1; subst e2
                  dsimp only [List.nil_append] at N4
                  have hlb := (lev_len (tx r) (tx y)).1
                  rw [tx_len, tx_len] at hlb
                  clear F3 N3
                  repeat' ((fail_if_success (with_reducible show Lfp _ _ _ _ _ _ _)); (fail_if_success (with_reducible show TurnW _ _ _ _ _ _ _ _ _ _)); (fail_if_success (with_reducible show TurnF _ _ _ _ _ _ _ _ _)); (fail_if_success (with_reducible show CutF _ _ _ _ _ _ _ _ _)); (fail_if_success (with_reducible show Q _ _)); (fail_if_success (with_reducible show LCg.CompSrc _ _ _ _ _ _ _ _ _ _ _ _ _ _ )); (fail_if_success (with_reducible show LCg.CompEnd _ _ _ _ _ _ _ _ _ _ _ _ _ _ )); (fail_if_success (with_reducible show wpAny _ _ (exec (Stmt.While _ _ _ _) _) _ _ _)); (fail_if_success (with_reducible show wpAny _ _ (exec (Stmt.For _ _ _ _ _) _) _ _ _)); (first | ((first | (with_reducible show wpAny _ _ (execs _ _) _ _ _) | (with_reducible show wpAny _ _ (PySem.isTrue _ _ _) _ _ _)); (dsimp only); walk1) | (k_unfold; (try dsimp only)) | (k_end; wrow_close) | walk1 | (dsimp only; walk1) | (leave1; walk_say "STEP leave1"; try dsimp only) | fail "no step"))
                  (rename Fr _ _ _ _ => F5); (rename News _ _ _ _ => N5)
                  exact LCg.CompEnd.intro F5 N5 _ (fun _ h => h) off hS ⟨rfl, _, by rw [er]⟩
                · intro ts2 hl2 hy2
                  have sT2 : IntsAre ts2 TT := hTT ▸ ints_map hrs (by simpa using hl2) hy2
                  repeat' ((fail_if_success (with_reducible show Lfp _ _ _ _ _ _ _)); (fail_if_success (with_reducible show TurnW _ _ _ _ _ _ _ _ _ _)); (fail_if_success (with_reducible show TurnF _ _ _ _ _ _ _ _ _)); (fail_if_success (with_reducible show CutF _ _ _ _ _ _ _ _ _)); (fail_if_success (with_reducible show Q _ _)); (fail_if_success (with_reducible show LCg.CompSrc _ _ _ _ _ _ _ _ _ _ _ _ _ _ )); (fail_if_success (with_reducible show LCg.CompEnd _ _ _ _ _ _ _ _ _ _ _ _ _ _ )); (fail_if_success (with_reducible show wpAny _ _ (exec (Stmt.While _ _ _ _) _) _ _ _)); (fail_if_success (with_reducible show wpAny _ _ (exec (Stmt.For _ _ _ _ _) _) _ _ _)); (fail_if_success (with_reducible show wpAny _ _ (call (Value.type "str") [Value.ref _]) _ _ _)); (first | ((first | (with_reducible show wpAny _ _ (execs _ _) _ _ _) | (with_reducible show wpAny _ _ (PySem.isTrue _ _ _) _ _ _)); (dsimp only); walk1) | (k_unfold; (try dsimp only)) | (k_end; wrow_close) | walk1 | (dsimp only; walk1) | (leave1; walk_say "STEP leave1"; try dsimp only) | fail "no step"))
                  (rename Fr _ _ _ _ => F14); (rename News _ _ _ _ => N14)
                  refine str_ints F14 N14 (lst_in (us := ts2) (c := ts2.length) N14 (List.mem_cons_self ..)) sT2 hTb hTl rfl (by units_room) ?_
                  intro h17 u17 tk17 F17 N17
                  clear F14 N14
                  repeat' ((fail_if_success (with_reducible show Lfp _ _ _ _ _ _ _)); (fail_if_success (with_reducible show TurnW _ _ _ _ _ _ _ _ _ _)); (fail_if_success (with_reducible show TurnF _ _ _ _ _ _ _ _ _)); (fail_if_success (with_reducible show CutF _ _ _ _ _ _ _ _ _)); (fail_if_success (with_reducible show Q _ _)); (fail_if_success (with_reducible show LCg.CompSrc _ _ _ _ _ _ _ _ _ _ _ _ _ _ )); (fail_if_success (with_reducible show LCg.CompEnd _ _ _ _ _ _ _ _ _ _ _ _ _ _ )); (fail_if_success (with_reducible show wpAny _ _ (exec (Stmt.While _ _ _ _) _) _ _ _)); (fail_if_success (with_reducible show wpAny _ _ (exec (Stmt.For _ _ _ _ _) _) _ _ _)); (fail_if_success (with_reducible show wpAny _ _ (exec (Stmt.Assign _ _ _) _) _ _ _)); (first | ((first | (with_reducible show wpAny _ _ (execs _ _) _ _ _) | (with_reducible show wpAny _ _ (PySem.isTrue _ _ _) _ _ _)); (dsimp only); walk1) | (k_unfold; (try dsimp only)) | (k_end; wrow_close) | walk1 | (dsimp only; walk1) | (leave1; walk_say "STEP leave1"; try dsimp only) | fail "no step"))
                  · exfalso
                    (rename (_ != _) = true => e9)
                    simp at e9
                  · (rename Fr _ _ _ _ => F18); (rename News _ _ _ _ => N18)
                    refine cutS (σ := Unit) F18 (fun _ => [(Str.ofString "labels", .ref dL), (Str.ofString "host", .str (jS ls) tH), (Str.ofString "size", .int (ls.length : Int) tS), (Str.ofString "rungs", .ref dR), (Str.ofString "z", .int z tz), (Str.ofString "told", .ref dT), (Str.ofString "lone", .bool (loneOf bD ls ps))])
                      (fun _ => [(dT, LCg.lst ts), (I, oi), (dN, listOf zs.toArray cN), (dR, listOf rs.toArray cR), (dL, listOf ul.toArray cL), (s₁.heap.objs.size + 1, oc)])
                      (fun _ => True) ?_ ?_
                    · --[
                      cases bD with
                      | false =>
                        repeat' ((fail_if_success (with_reducible show Lfp _ _ _ _ _ _ _)); (fail_if_success (with_reducible show TurnW _ _ _ _ _ _ _ _ _ _)); (fail_if_success (with_reducible show TurnF _ _ _ _ _ _ _ _ _)); (fail_if_success (with_reducible show CutF _ _ _ _ _ _ _ _ _)); (fail_if_success (with_reducible show Q _ _)); (fail_if_success (with_reducible show LCg.CompSrc _ _ _ _ _ _ _ _ _ _ _ _ _ _ )); (fail_if_success (with_reducible show LCg.CompEnd _ _ _ _ _ _ _ _ _ _ _ _ _ _ )); (fail_if_success (with_reducible show wpAny _ _ (exec (Stmt.While _ _ _ _) _) _ _ _)); (fail_if_success (with_reducible show wpAny _ _ (exec (Stmt.For _ _ _ _ _) _) _ _ _)); (first | ((first | (with_reducible show wpAny _ _ (execs _ _) _ _ _) | (with_reducible show wpAny _ _ (PySem.isTrue _ _ _) _ _ _)); (dsimp only); walk1) | (k_unfold; (try dsimp only)) | (k_end; wrow_close) | walk1 | (dsimp only; walk1) | (leave1; walk_say "STEP leave1"; try dsimp only) | fail "no step"))
                        (rename Fr _ _ _ _ => F19); (rename News _ _ _ _ => N19)
                        exact lfp () F19 N19 (.cons rfl (.cons rfl (.cons rfl (.cons rfl (.cons rfl (.cons rfl (.cons (congrArg (fun b => some (Value.bool b)) (by simp [loneOf])) .nil))))))) (List.forall_mem_cons.mpr ⟨by k_mem, List.forall_mem_cons.mpr ⟨by k_mem, List.forall_mem_cons.mpr ⟨by k_mem, List.forall_mem_cons.mpr ⟨by k_mem, List.forall_mem_cons.mpr ⟨by k_mem, List.forall_mem_cons.mpr ⟨by k_mem, fun _ h => nomatch h⟩⟩⟩⟩⟩⟩) trivial
                      | true =>
                        repeat' ((fail_if_success (with_reducible show Lfp _ _ _ _ _ _ _)); (fail_if_success (with_reducible show TurnW _ _ _ _ _ _ _ _ _ _)); (fail_if_success (with_reducible show TurnF _ _ _ _ _ _ _ _ _)); (fail_if_success (with_reducible show CutF _ _ _ _ _ _ _ _ _)); (fail_if_success (with_reducible show Q _ _)); (fail_if_success (with_reducible show LCg.CompSrc _ _ _ _ _ _ _ _ _ _ _ _ _ _ )); (fail_if_success (with_reducible show LCg.CompEnd _ _ _ _ _ _ _ _ _ _ _ _ _ _ )); (fail_if_success (with_reducible show wpAny _ _ (exec (Stmt.While _ _ _ _) _) _ _ _)); (fail_if_success (with_reducible show wpAny _ _ (exec (Stmt.For _ _ _ _ _) _) _ _ _)); (fail_if_success (with_reducible show wpAny _ _ (compareOp _ (Value.ref _) (Value.ref _)) _ _ _)); (fail_if_success (with_reducible show wpAny _ _ (subscriptTail _ (Expr.Slice _ _ _ _) (Value.ref _) (Value.ref _)) _ _ _)); (first | ((first | (with_reducible show wpAny _ _ (execs _ _) _ _ _) | (with_reducible show wpAny _ _ (PySem.isTrue _ _ _) _ _ _)); (dsimp only); walk1) | (k_unfold; (try dsimp only)) | (k_end; wrow_close) | walk1 | (dsimp only; walk1) | (leave1; walk_say "STEP leave1"; try dsimp only) | fail "no step"))
                        · (rename 1 < (ls.length : Int) => hs1)
                          (rename Fr _ _ _ _ => F19); (rename News _ _ _ _ => N19)
                          refine slice_vals F19 N19 (us := ul) (c := cL) (by k_mem) (.int _ _) .none (pick_last ul) (by omega) ?_
                          rintro dE h20 F20 N20 lE
                          have sE := strs_drop sL (ul.length - 1)
                          rw [hll] at sE
                          have gE := gL.drop (e := ls.length - 1) (by omega)
                          repeat' ((fail_if_success (with_reducible show Lfp _ _ _ _ _ _ _)); (fail_if_success (with_reducible show TurnW _ _ _ _ _ _ _ _ _ _)); (fail_if_success (with_reducible show TurnF _ _ _ _ _ _ _ _ _)); (fail_if_success (with_reducible show CutF _ _ _ _ _ _ _ _ _)); (fail_if_success (with_reducible show Q _ _)); (fail_if_success (with_reducible show LCg.CompSrc _ _ _ _ _ _ _ _ _ _ _ _ _ _ )); (fail_if_success (with_reducible show LCg.CompEnd _ _ _ _ _ _ _ _ _ _ _ _ _ _ )); (fail_if_success (with_reducible show wpAny _ _ (exec (Stmt.While _ _ _ _) _) _ _ _)); (fail_if_success (with_reducible show wpAny _ _ (exec (Stmt.For _ _ _ _ _) _) _ _ _)); (fail_if_success (with_reducible show wpAny _ _ (compareOp _ (Value.ref _) (Value.ref _)) _ _ _)); (first | ((first | (with_reducible show wpAny _ _ (execs _ _) _ _ _) | (with_reducible show wpAny _ _ (PySem.isTrue _ _ _) _ _ _)); (dsimp only); walk1) | (k_unfold; (try dsimp only)) | (k_end; wrow_close) | walk1 | (dsimp only; walk1) | (leave1; walk_say "STEP leave1"; try dsimp only) | fail "no step"))
                          (rename News _ _ _ _ => N21)
                          refine eq_strs (lst_in (us := qs) (c := cQ) N21 (by k_mem)) sQ (lst_in (us := ul.drop (ul.length - 1)) (c := 0) N21 (by k_mem)) (hll ▸ sE) (fun x hx => lay_still (still_lst (gQ.all x hx))) (fun x hx => lay_still (still_lst (gE.all x hx))) (by units_room) ?_
                          rcases Classical.em (ps = ls.drop (ls.length - 1)) with hps | hps
                          · rw [decide_eq_true hps]
                            repeat' ((fail_if_success (with_reducible show Lfp _ _ _ _ _ _ _)); (fail_if_success (with_reducible show TurnW _ _ _ _ _ _ _ _ _ _)); (fail_if_success (with_reducible show TurnF _ _ _ _ _ _ _ _ _)); (fail_if_success (with_reducible show CutF _ _ _ _ _ _ _ _ _)); (fail_if_success (with_reducible show Q _ _)); (fail_if_success (with_reducible show LCg.CompSrc _ _ _ _ _ _ _ _ _ _ _ _ _ _ )); (fail_if_success (with_reducible show LCg.CompEnd _ _ _ _ _ _ _ _ _ _ _ _ _ _ )); (fail_if_success (with_reducible show wpAny _ _ (exec (Stmt.While _ _ _ _) _) _ _ _)); (fail_if_success (with_reducible show wpAny _ _ (exec (Stmt.For _ _ _ _ _) _) _ _ _)); (fail_if_success (with_reducible show wpAny _ _ (subscriptTail _ _ (Value.ref _) (Value.int _ _)) _ _ _)); (first | ((first | (with_reducible show wpAny _ _ (execs _ _) _ _ _) | (with_reducible show wpAny _ _ (PySem.isTrue _ _ _) _ _ _)); (dsimp only); walk1) | (k_unfold; (try dsimp only)) | (k_end; wrow_close) | walk1 | (dsimp only; walk1) | (leave1; walk_say "STEP leave1"; try dsimp only) | fail "no step"))
                            (rename Fr _ _ _ _ => F22); (rename News _ _ _ _ => N22)
                            have hgq := gQ.len
                            refine KTb.item_list (vs := qs) (lst_in (c := cQ) N22 (by k_mem)) sQ (by decide) (by omega) (by decide) ?_
                            intro t22 _
                            repeat' ((fail_if_success (with_reducible show Lfp _ _ _ _ _ _ _)); (fail_if_success (with_reducible show TurnW _ _ _ _ _ _ _ _ _ _)); (fail_if_success (with_reducible show TurnF _ _ _ _ _ _ _ _ _)); (fail_if_success (with_reducible show CutF _ _ _ _ _ _ _ _ _)); (fail_if_success (with_reducible show Q _ _)); (fail_if_success (with_reducible show LCg.CompSrc _ _ _ _ _ _ _ _ _ _ _ _ _ _ )); (fail_if_success (with_reducible show LCg.CompEnd _ _ _ _ _ _ _ _ _ _ _ _ _ _ )); (fail_if_success (with_reducible show wpAny _ _ (exec (Stmt.While _ _ _ _) _) _ _ _)); (fail_if_success (with_reducible show wpAny _ _ (exec (Stmt.For _ _ _ _ _) _) _ _ _)); (first | ((first | (with_reducible show wpAny _ _ (execs _ _) _ _ _) | (with_reducible show wpAny _ _ (PySem.isTrue _ _ _) _ _ _)); (dsimp only); walk1) | (k_unfold; (try dsimp only)) | (k_end; wrow_close) | walk1 | (dsimp only; walk1) | (leave1; walk_say "STEP leave1"; try dsimp only) | fail "no step"))
                            (rename Fr _ _ _ _ => F19); (rename News _ _ _ _ => N19)
                            exact lfp () F19 N19 (.cons rfl (.cons rfl (.cons rfl (.cons rfl (.cons rfl (.cons rfl (.cons (congrArg (fun b => some (Value.bool b)) (by unfold loneOf; rw [decide_eq_true hps, decide_eq_true (show 1 < ls.length by omega), Bool.true_and, Bool.true_and, Bool.true_and]; exact any_ab _)) .nil))))))) (List.forall_mem_cons.mpr ⟨by k_mem, List.forall_mem_cons.mpr ⟨by k_mem, List.forall_mem_cons.mpr ⟨by k_mem, List.forall_mem_cons.mpr ⟨by k_mem, List.forall_mem_cons.mpr ⟨by k_mem, List.forall_mem_cons.mpr ⟨by k_mem, fun _ h => nomatch h⟩⟩⟩⟩⟩⟩) trivial
                          · rw [decide_eq_false hps]
                            repeat' ((fail_if_success (with_reducible show Lfp _ _ _ _ _ _ _)); (fail_if_success (with_reducible show TurnW _ _ _ _ _ _ _ _ _ _)); (fail_if_success (with_reducible show TurnF _ _ _ _ _ _ _ _ _)); (fail_if_success (with_reducible show CutF _ _ _ _ _ _ _ _ _)); (fail_if_success (with_reducible show Q _ _)); (fail_if_success (with_reducible show LCg.CompSrc _ _ _ _ _ _ _ _ _ _ _ _ _ _ )); (fail_if_success (with_reducible show LCg.CompEnd _ _ _ _ _ _ _ _ _ _ _ _ _ _ )); (fail_if_success (with_reducible show wpAny _ _ (exec (Stmt.While _ _ _ _) _) _ _ _)); (fail_if_success (with_reducible show wpAny _ _ (exec (Stmt.For _ _ _ _ _) _) _ _ _)); (first | ((first | (with_reducible show wpAny _ _ (execs _ _) _ _ _) | (with_reducible show wpAny _ _ (PySem.isTrue _ _ _) _ _ _)); (dsimp only); walk1) | (k_unfold; (try dsimp only)) | (k_end; wrow_close) | walk1 | (dsimp only; walk1) | (leave1; walk_say "STEP leave1"; try dsimp only) | fail "no step"))
                            (rename Fr _ _ _ _ => F19); (rename News _ _ _ _ => N19)
                            exact lfp () F19 N19 (.cons rfl (.cons rfl (.cons rfl (.cons rfl (.cons rfl (.cons rfl (.cons (congrArg (fun b => some (Value.bool b)) (by unfold loneOf; rw [decide_eq_false hps]; simp)) .nil))))))) (List.forall_mem_cons.mpr ⟨by k_mem, List.forall_mem_cons.mpr ⟨by k_mem, List.forall_mem_cons.mpr ⟨by k_mem, List.forall_mem_cons.mpr ⟨by k_mem, List.forall_mem_cons.mpr ⟨by k_mem, List.forall_mem_cons.mpr ⟨by k_mem, fun _ h => nomatch h⟩⟩⟩⟩⟩⟩) trivial
                        · (rename ¬ 1 < (ls.length : Int) => hs1)
                          (rename Fr _ _ _ _ => F19); (rename News _ _ _ _ => N19)
                          exact lfp () F19 N19 (.cons rfl (.cons rfl (.cons rfl (.cons rfl (.cons rfl (.cons rfl (.cons (congrArg (fun b => some (Value.bool b)) (by unfold loneOf; rw [decide_eq_false (show ¬ 1 < ls.length by omega)]; simp; omega)) .nil))))))) (List.forall_mem_cons.mpr ⟨by k_mem, List.forall_mem_cons.mpr ⟨by k_mem, List.forall_mem_cons.mpr ⟨by k_mem, List.forall_mem_cons.mpr ⟨by k_mem, List.forall_mem_cons.mpr ⟨by k_mem, List.forall_mem_cons.mpr ⟨by k_mem, fun _ h => nomatch h⟩⟩⟩⟩⟩⟩) trivial
                      --]
                    · clear F18 N18
                      rintro ⟨⟩ m7 h7 tk7 - F18 N18
                      dsimp only [kstB] at F18
                      dsimp only
                      repeat' ((fail_if_success (with_reducible show Lfp _ _ _ _ _ _ _)); (fail_if_success (with_reducible show TurnW _ _ _ _ _ _ _ _ _ _)); (fail_if_success (with_reducible show TurnF _ _ _ _ _ _ _ _ _)); (fail_if_success (with_reducible show CutF _ _ _ _ _ _ _ _ _)); (fail_if_success (with_reducible show Q _ _)); (fail_if_success (with_reducible show LCg.CompSrc _ _ _ _ _ _ _ _ _ _ _ _ _ _ )); (fail_if_success (with_reducible show LCg.CompEnd _ _ _ _ _ _ _ _ _ _ _ _ _ _ )); (fail_if_success (with_reducible show wpAny _ _ (exec (Stmt.While _ _ _ _) _) _ _ _)); (fail_if_success (with_reducible show wpAny _ _ (exec (Stmt.For _ _ _ _ _) _) _ _ _)); (fail_if_success (with_reducible show wpAny _ _ (exec (Stmt.Assign _ _ _) _) _ _ _)); (first | ((first | (with_reducible show wpAny _ _ (execs _ _) _ _ _) | (with_reducible show wpAny _ _ (PySem.isTrue _ _ _) _ _ _)); (dsimp only); walk1) | (k_unfold; (try dsimp only)) | (k_end; wrow_close) | walk1 | (dsimp only; walk1) | (leave1; walk_say "STEP leave1"; try dsimp only) | fail "no step"))
                      (rename Fr _ _ _ _ => F18); (rename News _ _ _ _ => N18)
                      have hsL := still_good gL
                      obtain ⟨bx, bY, hsx, hsy, hudm⟩ := udm_law gL gQ bD
                      rw [hyy] at hsy hudm
                      refine cutS (σ := Unit) F18 (fun _ => [(Str.ofString "labels", .ref dL), (Str.ofString "host", .str (jS ls) tH), (Str.ofString "size", .int (ls.length : Int) tS), (Str.ofString "rungs", .ref dR), (Str.ofString "told", .ref dT), (Str.ofString "lone", .bool (loneOf bD ls ps)), (Str.ofString "asked", .bool (hits ls y || loneOf bD ls ps))])
                        (fun _ => [(dT, LCg.lst ts), (I, oi), (dN, listOf zs.toArray cN), (dR, listOf rs.toArray cR), (dL, listOf ul.toArray cL), (s₁.heap.objs.size + 1, oc)])
                        (fun _ => True) ?_ ?_
                      · repeat' ((fail_if_success (with_reducible show Lfp _ _ _ _ _ _ _)); (fail_if_success (with_reducible show TurnW _ _ _ _ _ _ _ _ _ _)); (fail_if_success (with_reducible show TurnF _ _ _ _ _ _ _ _ _)); (fail_if_success (with_reducible show CutF _ _ _ _ _ _ _ _ _)); (fail_if_success (with_reducible show Q _ _)); (fail_if_success (with_reducible show LCg.CompSrc _ _ _ _ _ _ _ _ _ _ _ _ _ _ )); (fail_if_success (with_reducible show LCg.CompEnd _ _ _ _ _ _ _ _ _ _ _ _ _ _ )); (fail_if_success (with_reducible show wpAny _ _ (exec (Stmt.While _ _ _ _) _) _ _ _)); (fail_if_success (with_reducible show wpAny _ _ (exec (Stmt.For _ _ _ _ _) _) _ _ _)); (fail_if_success (with_reducible show wpAny _ _ (call (Value.ref _) _) _ _ _)); (first | ((first | (with_reducible show wpAny _ _ (execs _ _) _ _ _) | (with_reducible show wpAny _ _ (PySem.isTrue _ _ _) _ _ _)); (dsimp only); walk1) | (k_unfold; (try dsimp only)) | (k_end; wrow_close) | walk1 | (dsimp only; walk1) | (leave1; walk_say "STEP leave1"; try dsimp only) | fail "no step"))
                        all_goals (
                          (rename Fr _ _ _ _ => F20); (rename News _ _ _ _ => N20)
                          refine (udm_c w _ mg mb _ (jS ls) y _ _ _ _ (by first | (rw [upper_len hsL]; omega) | omega) (by first | (rw [upper_len hys]; omega) | omega) (by first | with_reducible exact lower_upper hsL | with_reducible exact KXs.lower_still hsL) (by first | with_reducible exact lower_upper hys | with_reducible exact KXs.lower_still hys) (by omega) (by omega) hsx hsy) _ _ _ _ _ _ _ _ _ _ _ _ _ _ _ _ _ (by k_asm) F20 (by k_asm) N20 (by k_asm) rfl (by decide) (by decide) ?_
                          rintro rv tl h20 tk20 ⟨e1, e2⟩ F21 N21 -
                          subst e1; subst e2
                          dsimp only [List.nil_append] at N21
                          rw [hudm]
                          clear F20 N20
                          repeat' ((fail_if_success (with_reducible show Lfp _ _ _ _ _ _ _)); (fail_if_success (with_reducible show TurnW _ _ _ _ _ _ _ _ _ _)); (fail_if_success (with_reducible show TurnF _ _ _ _ _ _ _ _ _)); (fail_if_success (with_reducible show CutF _ _ _ _ _ _ _ _ _)); (fail_if_success (with_reducible show Q _ _)); (fail_if_success (with_reducible show LCg.CompSrc _ _ _ _ _ _ _ _ _ _ _ _ _ _ )); (fail_if_success (with_reducible show LCg.CompEnd _ _ _ _ _ _ _ _ _ _ _ _ _ _ )); (fail_if_success (with_reducible show wpAny _ _ (exec (Stmt.While _ _ _ _) _) _ _ _)); (fail_if_success (with_reducible show wpAny _ _ (exec (Stmt.For _ _ _ _ _) _) _ _ _)); (first | ((first | (with_reducible show wpAny _ _ (execs _ _) _ _ _) | (with_reducible show wpAny _ _ (PySem.isTrue _ _ _) _ _ _)); (dsimp only); walk1) | (k_unfold; (try dsimp only)) | (k_end; wrow_close) | walk1 | (dsimp only; walk1) | (leave1; walk_say "STEP leave1"; try dsimp only) | fail "no step"))
                          (rename Fr _ _ _ _ => F22); (rename News _ _ _ _ => N22)
                          exact lfp () F22 N22 (.cons rfl (.cons rfl (.cons rfl (.cons rfl (.cons rfl (.cons rfl (.cons rfl .nil))))))) (fun _ h => h) trivial)
                      · clear F18 N18
                        rintro ⟨⟩ m8 h8 tk8 - F18 N18
                        dsimp only [kstB] at F18
                        dsimp only
                        repeat' ((fail_if_success (with_reducible show Lfp _ _ _ _ _ _ _)); (fail_if_success (with_reducible show TurnW _ _ _ _ _ _ _ _ _ _)); (fail_if_success (with_reducible show TurnF _ _ _ _ _ _ _ _ _)); (fail_if_success (with_reducible show CutF _ _ _ _ _ _ _ _ _)); (fail_if_success (with_reducible show Q _ _)); (fail_if_success (with_reducible show LCg.CompSrc _ _ _ _ _ _ _ _ _ _ _ _ _ _ )); (fail_if_success (with_reducible show LCg.CompEnd _ _ _ _ _ _ _ _ _ _ _ _ _ _ )); (fail_if_success (with_reducible show wpAny _ _ (exec (Stmt.While _ _ _ _) _) _ _ _)); (fail_if_success (with_reducible show wpAny _ _ (exec (Stmt.For _ _ _ _ _) _) _ _ _)); (fail_if_success (with_reducible show wpAny _ _ (call (Value.builtin "min") [Value.ref _]) _ _ _)); (first | ((first | (with_reducible show wpAny _ _ (execs _ _) _ _ _) | (with_reducible show wpAny _ _ (PySem.isTrue _ _ _) _ _ _)); (dsimp only); walk1) | (k_unfold; (try dsimp only)) | (k_end; wrow_close) | walk1 | (dsimp only; walk1) | (leave1; walk_say "STEP leave1"; try dsimp only) | fail "no step"))
                        (rename Fr _ _ _ _ => F22); (rename News _ _ _ _ => N22)
                        refine min_list_N rfl F22 N22 (lst_in (us := ts) (c := ts.length) N22 (List.mem_cons_self ..)) sT (by rw [← hTT]; simp) ?_
                        intro h23 M tM tk23 F23 N23 hM hle
                        rw [← hTT] at hM hle
                        have hz := min_zero hM hle
                        clear F22 N22
                        repeat' ((fail_if_success (with_reducible show Lfp _ _ _ _ _ _ _)); (fail_if_success (with_reducible show TurnW _ _ _ _ _ _ _ _ _ _)); (fail_if_success (with_reducible show TurnF _ _ _ _ _ _ _ _ _)); (fail_if_success (with_reducible show CutF _ _ _ _ _ _ _ _ _)); (fail_if_success (with_reducible show Q _ _)); (fail_if_success (with_reducible show LCg.CompSrc _ _ _ _ _ _ _ _ _ _ _ _ _ _ )); (fail_if_success (with_reducible show LCg.CompEnd _ _ _ _ _ _ _ _ _ _ _ _ _ _ )); (fail_if_success (with_reducible show wpAny _ _ (exec (Stmt.While _ _ _ _) _) _ _ _)); (fail_if_success (with_reducible show wpAny _ _ (exec (Stmt.For _ _ _ _ _) _) _ _ _)); (first | ((first | (with_reducible show wpAny _ _ (execs _ _) _ _ _) | (with_reducible show wpAny _ _ (PySem.isTrue _ _ _) _ _ _)); (dsimp only); walk1) | (k_unfold; (try dsimp only)) | (k_end; wrow_close) | walk1 | (dsimp only; walk1) | (leave1; walk_say "STEP leave1"; try dsimp only) | fail "no step"))
                        · exfalso
                          (rename M = 0 => h0); (rename (_ != _) = true => e9)
                          rw [hz.mp h0, Bool.true_or, h0] at e9
                          simp at e9
                        · (rename Fr _ _ _ _ => F24); (rename News _ _ _ _ => N24)
                          exact lfp oc F24 N24 (.cons rfl (.cons rfl (.cons rfl (.cons rfl .nil)))) (fun p hp => List.mem_cons_of_mem _ hp) ⟨_, d0⟩
                        · exfalso
                          (rename M ≠ 0 => h0); (rename (_ != _) = true => e9)
                          have hh : hits ls y = false := by
                            cases hb : hits ls y with
                            | false => rfl
                            | true => exact absurd (hz.mpr hb) h0
                          rw [hh, Bool.false_or] at e9
                          simp at e9
                        · (rename Fr _ _ _ _ => F24); (rename News _ _ _ _ => N24)
                          exact lfp oc F24 N24 (.cons rfl (.cons rfl (.cons rfl (.cons rfl .nil)))) (fun p hp => List.mem_cons_of_mem _ hp) ⟨_, d0⟩
          · rintro c m5 h5 tk5 - F8 N8
            repeat' ((fail_if_success (with_reducible show Lfp _ _ _ _ _ _ _)); (fail_if_success (with_reducible show TurnW _ _ _ _ _ _ _ _ _ _)); (fail_if_success (with_reducible show TurnF _ _ _ _ _ _ _ _ _)); (fail_if_success (with_reducible show CutF _ _ _ _ _ _ _ _ _)); (fail_if_success (with_reducible show Q _ _)); (fail_if_success (with_reducible show LCg.CompSrc _ _ _ _ _ _ _ _ _ _ _ _ _ _ )); (fail_if_success (with_reducible show LCg.CompEnd _ _ _ _ _ _ _ _ _ _ _ _ _ _ )); (fail_if_success (with_reducible show wpAny _ _ (exec (Stmt.While _ _ _ _) _) _ _ _)); (fail_if_success (with_reducible show wpAny _ _ (exec (Stmt.For _ _ _ _ _) _) _ _ _)); (first | ((first | (with_reducible show wpAny _ _ (execs _ _) _ _ _) | (with_reducible show wpAny _ _ (PySem.isTrue _ _ _) _ _ _)); (dsimp only); walk1) | (k_unfold; (try dsimp only)) | (k_end; wrow_close) | walk1 | (dsimp only; walk1) | (leave1; walk_say "STEP leave1"; try dsimp only) | fail "no step"))
end Mine
end
theorem PySem.Challenge.cw_nb0171_01_holds : PySem.Challenge.rw_nb0171_01.Holds :=
  Mine.tt
