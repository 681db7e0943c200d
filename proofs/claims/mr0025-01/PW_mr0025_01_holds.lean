import PyProof.Rows.All
import Wide.All
import OpenK.AllK
import Wide.FinOn
import PySem.Challenge.RW_mr0025_01
set_option Elab.async false
section
open PySem PySem.W PyProof.Rows
set_option maxRecDepth 100000
set_option maxHeartbeats 8000000
namespace Mine
open_top hd for PySem.Challenge.rw_mr0025_01
end Mine
end
section
open PySem PySem.W PyProof.Rows
namespace Mine
/-- what a call of one of the text's defs tells: from any frame of a def, with any ledger, it comes back with the same ledger and a value of which Out holds -/
def Calls (w : World) (f : Addr) (k : Nat) (vs : List Value) (news : List (Addr × Obj)) (Out : Value → Prop) : Prop :=
  ∀ (loose : List Str) (mean : ExcName → Option Value) (mg mb : Str → Option Value) (dp un : Nat) (gd : Option (List Code)) (cn : Str) (cs : Scope) (a : Addr) (ccd : Value) (cl : List (Str × Addr)) (outer : List Env) (A₀ : Around) (base h₀ : Heap) (L : Addr) (m : Str → Option Value) (s : Shared) (Q E : Value → Shared → Prop),
    Below A₀ base outer h₀ → Fr h₀ L s.heap m → (Mine.hd.heap_39 w.params).In h₀ → News h₀ L s.heap news → Top topProg loose mean mg mb h₀ → cs.kind = .function → dp + k < recursionLimit → un + 200 * k < cLine →
    (∀ r h' tk', Fr h₀ L h' m → News h₀ L h' news → Out r → Q r { s with heap := h', toks := tk' }) →
    wpAny (model PySem.Challenge.rw_mr0025_01.prog w) (ktrTop dp un gd cn cs L a ccd cl outer) (call (.ref f) vs) Q E s
/-- the same, of a call that makes objects -/
def Makes (w : World) (f : Addr) (k : Nat) (vs : List Value) (news : List (Addr × Obj)) (Out : Value → List (Addr × Obj) → Prop) : Prop :=
  ∀ (loose : List Str) (mean : ExcName → Option Value) (mg mb : Str → Option Value) (dp un : Nat) (gd : Option (List Code)) (cn : Str) (cs : Scope) (a : Addr) (ccd : Value) (cl : List (Str × Addr)) (outer : List Env) (A₀ : Around) (base h₀ : Heap) (L : Addr) (m : Str → Option Value) (s : Shared) (Q E : Value → Shared → Prop),
    Below A₀ base outer h₀ → Fr h₀ L s.heap m → (Mine.hd.heap_39 w.params).In h₀ → News h₀ L s.heap news → Top topProg loose mean mg mb h₀ → cs.kind = .function → dp + k < recursionLimit → un + 200 * k < cLine →
    (∀ r tl h' tk', Fr h₀ L h' m → News h₀ L h' (tl ++ news) → (∀ p ∈ tl, ∀ q ∈ news, q.1 < p.1) → Out r tl → Q r { s with heap := h', toks := tk' }) →
    wpAny (model PySem.Challenge.rw_mr0025_01.prog w) (ktrTop dp un gd cn cs L a ccd cl outer) (call (.ref f) vs) Q E s
end Mine
end
section
open PySem PySem.W PyProof.Rows
namespace Mine
/-! words in X and Y, their matrices, and how a matrix tells its first letter -/
inductive G where
  | X (b : Bool)
  | Y (b : Bool)
structure M4 where
  p : Int
  q : Int
  r : Int
  s : Int
def e1 (b : Bool) : Int := if b then 1 else -1
def mat : List G → M4
  | [] => ⟨1, 0, 0, 1⟩
  | .X b :: l => ⟨(mat l).p + 2 * e1 b * (mat l).r, (mat l).q + 2 * e1 b * (mat l).s, (mat l).r, (mat l).s⟩
  | .Y b :: l => ⟨(mat l).p, (mat l).q, (mat l).r + 2 * e1 b * (mat l).p, (mat l).s + 2 * e1 b * (mat l).q⟩
def Rd : List G → Prop
  | [] => True
  | a :: l => (match a, l with
    | .X b, .X c :: _ => b = c
    | .Y b, .Y c :: _ => b = c
    | _, _ => True) ∧ Rd l
/-- great and of like sign (strictly), x above y -/
def Big (x y : Int) : Prop := (0 < y ∧ y < x) ∨ (y < 0 ∧ x < y)
/-- great, of like sign or y is nought -/
def Big0 (x y : Int) : Prop := (0 ≤ y ∧ y < x) ∨ (y ≤ 0 ∧ x < y)
def ShapeX (b : Bool) (m : M4) : Prop := Big (e1 b * m.q) m.s ∧ Big0 (e1 b * m.p) m.r
def ShapeY (b : Bool) (m : M4) : Prop := Big (e1 b * m.r) m.p ∧ Big0 (e1 b * m.s) m.q
def Shape (l : List G) (m : M4) : Prop :=
  match l with
  | [] => m = ⟨1, 0, 0, 1⟩
  | .X b :: _ => ShapeX b m
  | .Y b :: _ => ShapeY b m
theorem shape : ∀ l : List G, Rd l → Shape l (mat l)
  | [], _ => rfl
  | .X b :: l, h => by
    have ih := shape l h.2
    have h1 := h.1
    cases l with
    | nil =>
      cases b <;> simp [Shape, ShapeX, mat, e1, Big, Big0]
    | cons a l' =>
      cases a with
      | X c =>
        have h1 : b = c := h1
        subst h1
        revert ih
        simp only [Shape, ShapeX]
        rw [show mat (.X b :: .X b :: l') = ⟨(mat (.X b :: l')).p + 2 * e1 b * (mat (.X b :: l')).r, (mat (.X b :: l')).q + 2 * e1 b * (mat (.X b :: l')).s, (mat (.X b :: l')).r, (mat (.X b :: l')).s⟩ from rfl]
        generalize mat (.X b :: l') = m
        cases b <;> simp only [e1, Big, Big0] <;> simp <;> omega
      | Y c =>
        revert ih
        simp only [Shape, ShapeX, ShapeY]
        rw [show mat (.X b :: .Y c :: l') = ⟨(mat (.Y c :: l')).p + 2 * e1 b * (mat (.Y c :: l')).r, (mat (.Y c :: l')).q + 2 * e1 b * (mat (.Y c :: l')).s, (mat (.Y c :: l')).r, (mat (.Y c :: l')).s⟩ from rfl]
        generalize mat (.Y c :: l') = m
        cases b <;> cases c <;> simp only [e1, Big, Big0] <;> simp <;> omega
  | .Y b :: l, h => by
    have ih := shape l h.2
    have h1 := h.1
    cases l with
    | nil =>
      cases b <;> simp [Shape, ShapeY, mat, e1, Big, Big0]
    | cons a l' =>
      cases a with
      | Y c =>
        have h1 : b = c := h1
        subst h1
        revert ih
        simp only [Shape, ShapeY]
        rw [show mat (.Y b :: .Y b :: l') = ⟨(mat (.Y b :: l')).p, (mat (.Y b :: l')).q, (mat (.Y b :: l')).r + 2 * e1 b * (mat (.Y b :: l')).p, (mat (.Y b :: l')).s + 2 * e1 b * (mat (.Y b :: l')).q⟩ from rfl]
        generalize mat (.Y b :: l') = m
        cases b <;> simp only [e1, Big, Big0] <;> simp <;> omega
      | X c =>
        revert ih
        simp only [Shape, ShapeX, ShapeY]
        rw [show mat (.Y b :: .X c :: l') = ⟨(mat (.X c :: l')).p, (mat (.X c :: l')).q, (mat (.X c :: l')).r + 2 * e1 b * (mat (.X c :: l')).p, (mat (.X c :: l')).s + 2 * e1 b * (mat (.X c :: l')).q⟩ from rfl]
        generalize mat (.X c :: l') = m
        cases b <;> cases c <;> simp only [e1, Big, Big0] <;> simp <;> omega
/-- what the word tells from a count on -/
def dec : Int → List G → List Nat
  | _, [] => []
  | c, .X b :: l => dec (c + e1 b) l
  | c, .Y b :: l => ((if b then 96 else 64) + c).toNat :: dec c l
/-- the count stays that of a letter or nought -/
def OkC : Int → List G → Prop
  | c, [] => 0 ≤ c ∧ c ≤ 26
  | c, .X b :: l => (0 ≤ c ∧ c ≤ 26) ∧ OkC (c + e1 b) l
  | c, .Y _ :: l => (0 ≤ c ∧ c ≤ 26) ∧ OkC c l
theorem OkC.here {c : Int} : ∀ {l : List G}, OkC c l → 0 ≤ c ∧ c ≤ 26
  | [], h => h
  | .X _ :: _, h => h.1
  | .Y _ :: _, h => h.1
theorem mat_small : ∀ l : List G, (mat l).p.natAbs < 2 ^ (2 * l.length + 1) ∧ (mat l).q.natAbs < 2 ^ (2 * l.length + 1) ∧ (mat l).r.natAbs < 2 ^ (2 * l.length + 1) ∧ (mat l).s.natAbs < 2 ^ (2 * l.length + 1)
  | [] => by simp [mat]
  | a :: l => by
    have ih := mat_small l
    have e : 2 ^ (2 * (a :: l).length + 1) = 4 * 2 ^ (2 * l.length + 1) := by
      rw [List.length_cons, show 2 * (l.length + 1) + 1 = (2 * l.length + 1) + 2 by omega, Nat.pow_add]
      omega
    rw [e]
    generalize 2 ^ (2 * l.length + 1) = N at ih ⊢
    cases a with
    | X b =>
      simp only [mat]
      generalize mat l = m at ih ⊢
      cases b <;> simp only [e1] <;> simp <;> omega
    | Y b =>
      simp only [mat]
      generalize mat l = m at ih ⊢
      cases b <;> simp only [e1] <;> simp <;> omega
theorem mat_mul {l : List G} (h : l.length ≤ 10000) : IntMulOk (mat l).q (mat l).s ∧ IntMulOk (mat l).p (mat l).r := by
  obtain ⟨h1, h2, h3, h4⟩ := mat_small l
  have a : ∀ x y : Int, x.natAbs < 2 ^ (2 * l.length + 1) → y.natAbs < 2 ^ (2 * l.length + 1) → IntMulOk x y := fun x y hx hy =>
    mulOk_of_bits (intBits_le hx) (intBits_le hy) (by omega)
  exact ⟨a _ _ h2 h4, a _ _ h1 h3⟩
theorem mul_pos_iff {a b : Int} (h : (0 < a ∧ 0 < b) ∨ (a < 0 ∧ b < 0)) : 0 < a * b := by
  rcases h with ⟨h1, h2⟩ | ⟨h1, h2⟩
  · exact Int.mul_pos h1 h2
  · exact Int.mul_pos_of_neg_of_neg h1 h2
theorem mul_neg_iff {a b : Int} (h : (0 < a ∧ b < 0) ∨ (a < 0 ∧ 0 < b)) : a * b < 0 := by
  rcases h with ⟨h1, h2⟩ | ⟨h1, h2⟩
  · exact Int.mul_neg_of_pos_of_neg h1 h2
  · exact Int.mul_neg_of_neg_of_pos h1 h2
/-- the first letter, told by the matrix -/
theorem first_X {l : List G} {p q r s : Int} (hr : Rd l) (hm : mat l = ⟨p, q, r, s⟩) (h : (if s < 0 then -s else s) < if q < 0 then -q else q) :
    ∃ b l', l = .X b :: l' ∧ (if b then 0 < q * s else ¬ 0 < q * s) ∧ mat l' = ⟨p - 2 * e1 b * r, q - 2 * e1 b * s, r, s⟩ := by
  have sh := shape l hr
  rw [hm] at sh
  cases l with
  | nil => cases sh; simp at h
  | cons a l' =>
    cases a with
    | X b =>
      refine ⟨b, l', rfl, ?_, ?_⟩
      · have sh := sh.1
        cases b
        · have hn : q * s < 0 := mul_neg_iff (by simp only [Big, e1] at sh; simp at sh; omega)
          simp; omega
        · have hp : 0 < q * s := mul_pos_iff (by simp only [Big, e1] at sh; simp at sh; omega)
          simpa using hp
      · have e := hm
        simp only [mat] at e
        cases hh : mat l' with
        | mk p' q' r' s' =>
        rw [hh] at e
        simp only [M4.mk.injEq] at e ⊢
        obtain ⟨e1', e2', e3', e4'⟩ := e
        subst e3' e4'
        refine ⟨by omega, by omega, rfl, rfl⟩
    | Y b =>
      exfalso
      have sh := sh.2
      cases b <;> simp only [Big0, e1] at sh <;> simp at sh <;> split at h <;> split at h <;> omega
theorem first_Y {l : List G} {p q r s : Int} (hr : Rd l) (hm : mat l = ⟨p, q, r, s⟩) (hn : (p == 1 && (q == 0 && (r == 0 && s == 1))) = false) (h : ¬ (if s < 0 then -s else s) < if q < 0 then -q else q) :
    ∃ b l', l = .Y b :: l' ∧ (if b then 0 < p * r else ¬ 0 < p * r) ∧ mat l' = ⟨p, q, r - 2 * e1 b * p, s - 2 * e1 b * q⟩ := by
  have sh := shape l hr
  rw [hm] at sh
  cases l with
  | nil => cases sh; simp at hn
  | cons a l' =>
    cases a with
    | Y b =>
      refine ⟨b, l', rfl, ?_, ?_⟩
      · have sh := sh.1
        cases b
        · have hn : p * r < 0 := mul_neg_iff (by simp only [Big, e1] at sh; simp at sh; omega)
          simp; omega
        · have hp : 0 < p * r := mul_pos_iff (by simp only [Big, e1] at sh; simp at sh; omega)
          simpa using hp
      · have e := hm
        simp only [mat] at e
        cases hh : mat l' with
        | mk p' q' r' s' =>
        rw [hh] at e
        simp only [M4.mk.injEq] at e ⊢
        obtain ⟨e1', e2', e3', e4'⟩ := e
        subst e1' e2'
        refine ⟨rfl, rfl, by omega, by omega⟩
    | X b =>
      exfalso
      have sh := sh.1
      cases b <;> simp only [Big, e1] at sh <;> simp at sh <;> split at h <;> split at h <;> omega
theorem first_none {l : List G} {p q r s : Int} (hr : Rd l) (hm : mat l = ⟨p, q, r, s⟩) (hn : (p == 1 && (q == 0 && (r == 0 && s == 1))) = true) : l = [] := by
  simp only [Bool.and_eq_true, beq_iff_eq] at hn
  obtain ⟨rfl, rfl, rfl, rfl⟩ := hn
  have sh := shape l hr
  rw [hm] at sh
  cases l with
  | nil => rfl
  | cons a l' =>
    exfalso
    cases a with
    | X b => have sh := sh.1; cases b <;> simp [Big, e1] at sh
    | Y b => have sh := sh.1; cases b <;> simp [Big, e1] at sh
end Mine
end
section
open PySem PySem.W PyProof.Rows
namespace Mine
/-! letters, their words in X and Y, and the product on the right -/
def prodP (p q n two : Int) : Int := p + two * (q + n * p)
def prodQ (p q n two : Int) : Int := q + n * p - n * (p + two * (q + n * p))
def num (x : Nat) : Int := Int.fmod x 32
def isUp (x : Nat) : Bool := 65 ≤ x && x ≤ 90
def isLow (x : Nat) : Bool := 97 ≤ x && x ≤ 122
def isLet (x : Nat) : Bool := isUp x || isLow x
/-- the two signs undo each other -/
def pairb (y x : Nat) : Bool := decide (y % 32 = x % 32) && (isUp y && isLow x || isLow y && isUp x)
def pushR : List Nat → Nat → List Nat
  | [], x => [x]
  | y :: st, x => if pairb y x then st else x :: y :: st
def redR (l : List Nat) : List Nat := l.foldl pushR []
def sgn (x : Nat) : Bool := decide (90 < x)
def run (k : Int) : List G := List.replicate k.natAbs (.X (decide (0 ≤ k)))
def ex : Int → List Nat → List G
  | c, [] => run (-c)
  | c, x :: r => run (num x - c) ++ .Y (sgn x) :: ex (num x) r
def step (m : M4) (x : Nat) : M4 :=
  ⟨prodP m.p m.q (num x * 2) (2 * e1 (sgn x)), prodQ m.p m.q (num x * 2) (2 * e1 (sgn x)), prodP m.r m.s (num x * 2) (2 * e1 (sgn x)), prodQ m.r m.s (num x * 2) (2 * e1 (sgn x))⟩
theorem mat_rep (b : Bool) (l : List G) : ∀ k : Nat, mat (List.replicate k (.X b) ++ l) = ⟨(mat l).p + 2 * (k * e1 b) * (mat l).r, (mat l).q + 2 * (k * e1 b) * (mat l).s, (mat l).r, (mat l).s⟩
  | 0 => by simp
  | k + 1 => by
    rw [List.replicate_succ, List.cons_append]
    simp only [mat]
    rw [mat_rep b l k]
    generalize mat l = m
    simp only [M4.mk.injEq, Int.natCast_add, Int.cast_ofNat_Int, and_true]
    cases b <;> simp only [e1] <;> constructor <;> simp <;> grind
theorem mat_run (k : Int) (l : List G) : mat (run k ++ l) = ⟨(mat l).p + 2 * k * (mat l).r, (mat l).q + 2 * k * (mat l).s, (mat l).r, (mat l).s⟩ := by
  unfold run
  rw [mat_rep]
  have : (k.natAbs : Int) * e1 (decide (0 ≤ k)) = k := by
    by_cases h : 0 ≤ k <;> simp only [h, decide_true, decide_false, e1] <;> simp <;> omega
  rw [this]
theorem mat_run0 (k : Int) : mat (run k) = ⟨1, 2 * k, 0, 1⟩ := by
  have := mat_run k []
  rw [List.append_nil] at this
  rw [this]
  simp [mat]
theorem step_rows (m : M4) (x : Nat) (k : Int) : step ⟨m.p + 2 * k * m.r, m.q + 2 * k * m.s, m.r, m.s⟩ x = ⟨(step m x).p + 2 * k * (step m x).r, (step m x).q + 2 * k * (step m x).s, (step m x).r, (step m x).s⟩ := by
  simp only [step, prodP, prodQ, M4.mk.injEq, and_true]
  generalize num x = n
  generalize e1 (sgn x) = e
  constructor <;> grind
theorem step_rowsY (m : M4) (x : Nat) (k : Int) : step ⟨m.p, m.q, m.r + 2 * k * m.p, m.s + 2 * k * m.q⟩ x = ⟨(step m x).p, (step m x).q, (step m x).r + 2 * k * (step m x).p, (step m x).s + 2 * k * (step m x).q⟩ := by
  simp only [step, prodP, prodQ, M4.mk.injEq, true_and]
  generalize num x = n
  generalize e1 (sgn x) = e
  constructor <;> grind
theorem mat_snoc (x : Nat) : ∀ (seg : List Nat) (c : Int), mat (ex c (seg ++ [x])) = step (mat (ex c seg)) x
  | [], c => by
    simp only [List.nil_append, ex]
    rw [mat_run, mat_run0]
    simp only [mat]
    rw [mat_run0]
    simp only [step, prodP, prodQ, M4.mk.injEq]
    generalize num x = n
    generalize e1 (sgn x) = e
    refine ⟨?_, ?_, ?_, ?_⟩ <;> grind
  | y :: seg, c => by
    simp only [List.cons_append, ex]
    rw [mat_run, mat_run]
    simp only [mat]
    rw [mat_snoc x seg (num y)]
    have a := step_rowsY (mat (ex (num y) seg)) x (e1 (sgn y))
    have b := step_rows ⟨(mat (ex (num y) seg)).p, (mat (ex (num y) seg)).q, (mat (ex (num y) seg)).r + 2 * e1 (sgn y) * (mat (ex (num y) seg)).p, (mat (ex (num y) seg)).s + 2 * e1 (sgn y) * (mat (ex (num y) seg)).q⟩ x (num y - c)
    rw [a] at b
    exact b.symm
theorem step_undo (m : M4) (x y : Nat) (hn : num x = num y) (he : e1 (sgn x) = - e1 (sgn y)) : step (step m y) x = m := by
  obtain ⟨p, q, r, s⟩ := m
  simp only [step, prodP, prodQ, M4.mk.injEq]
  rw [hn, he]
  generalize num y = n
  generalize e1 (sgn y) = e
  refine ⟨?_, ?_, ?_, ?_⟩ <;> grind
theorem pair_facts {y x : Nat} (h : pairb y x = true) : num x = num y ∧ e1 (sgn x) = - e1 (sgn y) := by
  simp only [pairb, Bool.and_eq_true, decide_eq_true_eq, Bool.or_eq_true, isUp, isLow] at h
  constructor
  · unfold num
    rw [Int.fmod_eq_emod_of_nonneg _ (by omega), Int.fmod_eq_emod_of_nonneg _ (by omega)]
    omega
  · unfold sgn
    rcases h.2 with h2 | h2
    · rw [show decide (90 < x) = true from decide_eq_true (by omega), show decide (90 < y) = false from decide_eq_false (by omega)]; rfl
    · rw [show decide (90 < x) = false from decide_eq_false (by omega), show decide (90 < y) = true from decide_eq_true (by omega)]; rfl
theorem mat_undo {y x : Nat} (h : pairb y x = true) (seg : List Nat) (c : Int) : step (mat (ex c (seg ++ [y]))) x = mat (ex c seg) := by
  rw [mat_snoc]
  exact step_undo _ _ _ (pair_facts h).1 (pair_facts h).2
/-- a segment: letters, no two neighbours a pair -/
def Seg : List Nat → Prop
  | [] => True
  | x :: r => isLet x = true ∧ (∀ y ∈ r.head?, pairb x y = false) ∧ Seg r
theorem num_let {x : Nat} (h : isLet x = true) : 1 ≤ num x ∧ num x ≤ 26 ∧ ((if sgn x then (96 : Int) else 64) + num x).toNat = x := by
  have e : num x = (x : Int) % 32 := Int.fmod_eq_emod_of_nonneg _ (by omega)
  rw [e]
  simp only [isLet, isUp, isLow, Bool.or_eq_true, Bool.and_eq_true, decide_eq_true_eq] at h
  rcases h with h | h
  · rw [show sgn x = false from decide_eq_false (by omega)]
    simp
    omega
  · rw [show sgn x = true from decide_eq_true (by omega)]
    simp
    omega
theorem dec_rep (b : Bool) (l : List G) : ∀ (k : Nat) (c : Int), dec c (List.replicate k (.X b) ++ l) = dec (c + k * e1 b) l
  | 0, c => by simp
  | k + 1, c => by
    rw [List.replicate_succ, List.cons_append]
    simp only [dec]
    rw [dec_rep b l k]
    congr 1
    cases b <;> simp only [e1] <;> simp <;> omega
theorem run_all (k : Int) : (k.natAbs : Int) * e1 (decide (0 ≤ k)) = k := by
  by_cases h : 0 ≤ k <;> simp only [h, decide_true, decide_false, e1] <;> simp <;> omega
theorem dec_run (k c : Int) (l : List G) : dec c (run k ++ l) = dec (c + k) l := by
  unfold run
  rw [dec_rep, run_all]
theorem dec_ex : ∀ (seg : List Nat) (c : Int), Seg seg → dec c (ex c seg) = seg
  | [], c, _ => by
    have := dec_run (-c) c []
    rw [List.append_nil] at this
    simp only [ex, this, dec]
  | x :: r, c, h => by
    simp only [ex]
    rw [dec_run, show c + (num x - c) = num x by omega]
    simp only [dec]
    rw [dec_ex r _ h.2.2, (num_let h.1).2.2]
theorem ok_rep (b : Bool) (l : List G) : ∀ (k : Nat) (c : Int), 0 ≤ c → c ≤ 26 → 0 ≤ c + k * e1 b → c + k * e1 b ≤ 26 → OkC (c + k * e1 b) l → OkC c (List.replicate k (.X b) ++ l)
  | 0, c, _, _, _, _, h => by simpa using h
  | k + 1, c, h1, h2, h3, h4, h => by
    rw [List.replicate_succ, List.cons_append]
    have e : c + ((k + 1 : Nat) : Int) * e1 b = c + e1 b + k * e1 b := by cases b <;> simp only [e1] <;> simp <;> omega
    rw [e] at h3 h4 h
    refine ⟨⟨h1, h2⟩, ok_rep b l k _ ?_ ?_ h3 h4 h⟩
    · revert h3 h4; cases b <;> simp only [e1] <;> simp <;> omega
    · revert h3 h4; cases b <;> simp only [e1] <;> simp <;> omega
theorem ok_run {k c : Int} {l : List G} (h1 : 0 ≤ c) (h2 : c ≤ 26) (h : OkC (c + k) l) : OkC c (run k ++ l) := by
  have h3 := h.here
  unfold run
  refine ok_rep _ _ _ _ h1 h2 ?_ ?_ ?_ <;> rw [run_all]
  · exact h3.1
  · exact h3.2
  · exact h
theorem ok_ex : ∀ (seg : List Nat) (c : Int), 0 ≤ c → c ≤ 26 → Seg seg → OkC c (ex c seg)
  | [], c, h1, h2, _ => by
    have := @ok_run (-c) c [] h1 h2 (by simp only [OkC]; omega)
    rw [List.append_nil] at this
    exact this
  | x :: r, c, h1, h2, h => by
    have hn := num_let h.1
    refine ok_run h1 h2 ?_
    rw [show c + (num x - c) = num x by omega]
    exact ⟨⟨by omega, by omega⟩, ok_ex r _ (by omega) (by omega) h.2.2⟩
theorem rd_rep (b : Bool) (l : List G) (h : Rd l) (hl : ∀ c l', l = .X c :: l' → False) : ∀ k : Nat, Rd (List.replicate k (.X b) ++ l)
  | 0 => by simpa using h
  | k + 1 => by
    rw [List.replicate_succ, List.cons_append]
    refine ⟨?_, rd_rep b l h hl k⟩
    cases k with
    | zero =>
      simp only [List.replicate_zero, List.nil_append]
      cases l with
      | nil => trivial
      | cons a l' =>
        cases a with
        | X c => exact (hl c l' rfl).elim
        | Y c => trivial
    | succ k => rw [List.replicate_succ, List.cons_append]
theorem rd_run {k : Int} {l : List G} (h : Rd l) (hl : ∀ c l', l = .X c :: l' → False) : Rd (run k ++ l) := rd_rep _ _ h hl _
theorem run_zero : run 0 = [] := rfl
theorem run_cons {k : Int} (h : k ≠ 0) : ∃ b l, run k = .X b :: l := by
  unfold run
  have : k.natAbs ≠ 0 := by omega
  obtain ⟨n, hn⟩ := Nat.exists_eq_succ_of_ne_zero this
  rw [hn, List.replicate_succ]
  exact ⟨_, _, rfl⟩
theorem rd_ex : ∀ (seg : List Nat) (c : Int), Seg seg → Rd (ex c seg)
  | [], c, _ => by
    have := @rd_run (-c) [] trivial (fun _ _ h => by cases h)
    rw [List.append_nil] at this
    exact this
  | x :: r, c, h => by
    refine rd_run ⟨?_, rd_ex r _ h.2.2⟩ (fun _ _ h => by cases h)
    cases r with
    | nil =>
      simp only [ex]
      by_cases h0 : -num x = 0
      · rw [h0, run_zero]; trivial
      · obtain ⟨b, l, e⟩ := run_cons h0
        rw [e]; trivial
    | cons y r' =>
      simp only [ex]
      by_cases h0 : num y - num x = 0
      · rw [h0, run_zero, List.nil_append]
        show sgn x = sgn y
        have hp := h.2.1 y (by simp)
        have hy := h.2.2.1
        have hx := h.1
        have e1 : num x = (x : Int) % 32 := Int.fmod_eq_emod_of_nonneg _ (by omega)
        have e2 : num y = (y : Int) % 32 := Int.fmod_eq_emod_of_nonneg _ (by omega)
        have e3 : x % 32 = y % 32 := by omega
        simp only [pairb, e3, decide_true, Bool.true_and, Bool.or_eq_false_iff, Bool.and_eq_false_iff] at hp
        simp only [isLet, isUp, isLow, Bool.or_eq_true, Bool.and_eq_true, decide_eq_true_eq, Bool.and_eq_false_iff, decide_eq_false_iff_not] at hp hx hy
        unfold sgn
        rw [decide_eq_decide]
        omega
      · obtain ⟨b, l, e⟩ := run_cons h0
        rw [e]; trivial
theorem ex_length : ∀ (seg : List Nat) (c : Int), 0 ≤ c → c ≤ 26 → Seg seg → (ex c seg).length ≤ 27 * (seg.length + 1)
  | [], c, h1, h2, _ => by simp only [ex, run, List.length_replicate, List.length_nil]; omega
  | x :: r, c, h1, h2, h => by
    have hn := num_let h.1
    have ih := ex_length r (num x) (by omega) (by omega) h.2.2
    simp only [ex, run, List.length_append, List.length_replicate, List.length_cons]
    omega
end Mine
end
section
open PySem PySem.W PyProof.Rows
namespace Mine
/-! free reduction by a stack -/
def red (l : List Nat) : List Nat := (redR l).reverse
theorem nil_or_snoc (l : List Nat) : l = [] ∨ ∃ a x, l = a ++ [x] := by
  rcases List.eq_nil_or_concat l with h | ⟨a, x, h⟩
  · exact .inl h
  · exact .inr ⟨a, x, by rw [h, List.concat_eq_append]⟩
theorem redR_snoc (l : List Nat) (x : Nat) : redR (l ++ [x]) = pushR (redR l) x := by
  unfold redR
  rw [List.foldl_append]
  rfl
theorem pushR_length (st : List Nat) (x : Nat) : (pushR st x).length ≤ st.length + 1 := by
  cases st with
  | nil => simp [pushR]
  | cons y st =>
    simp only [pushR]
    split <;> simp only [List.length_cons] <;> omega
theorem seg_snoc : ∀ (seg : List Nat) (x : Nat), Seg (seg ++ [x]) ↔ Seg seg ∧ isLet x = true ∧ ∀ y ∈ seg.getLast?, pairb y x = false
  | [], x => by simp [Seg]
  | [y], x => by simp [Seg]; exact fun _ => And.comm
  | y :: z :: r, x => by
    have ih := seg_snoc (z :: r) x
    simp only [List.cons_append, Seg, List.head?_cons, Option.mem_def, Option.some.injEq, forall_eq', List.getLast?_cons_cons] at ih ⊢
    constructor
    · intro h
      have := ih.mp h.2.2
      exact ⟨⟨h.1, h.2.1, this.1⟩, this.2.1, this.2.2⟩
    · intro h
      exact ⟨h.1.1, h.1.2.1, ih.mpr ⟨h.1.2.2, h.2.1, h.2.2⟩⟩
theorem pair_let {y x : Nat} (h : pairb y x = true) : isLet y = true ∧ isLet x = true := by
  simp only [pairb, Bool.and_eq_true, Bool.or_eq_true] at h
  simp only [isLet, Bool.or_eq_true]
  rcases h.2 with ⟨a, b⟩ | ⟨a, b⟩
  · exact ⟨.inl a, .inr b⟩
  · exact ⟨.inr a, .inl b⟩
structure LInv (pre told seg : List Nat) : Prop where
  sg : Seg seg
  tl : told = [] ∨ ∃ t z, told = t ++ [z] ∧ isLet z = false
  rd : redR pre = (told ++ seg).reverse
  len : told.length + seg.length ≤ pre.length
theorem linv_nil : LInv [] [] [] := ⟨trivial, .inl rfl, rfl, Nat.le_refl _⟩
theorem linv_let {pre told seg : List Nat} {x : Nat} (h : LInv pre told seg) (hx : isLet x = true) :
    ∃ seg', LInv (pre ++ [x]) told seg' ∧ mat (ex 0 seg') = step (mat (ex 0 seg)) x := by
  rcases nil_or_snoc seg with rfl | ⟨seg', y, rfl⟩
  · refine ⟨[x], ⟨⟨hx, by simp, trivial⟩, h.tl, ?_, by have := h.len; simp only [List.length_append, List.length_cons, List.length_nil] at this ⊢; omega⟩, mat_snoc x [] 0⟩
    rw [redR_snoc, h.rd]
    rcases h.tl with rfl | ⟨t, z, rfl, hz⟩
    · rfl
    · simp only [List.append_nil, List.reverse_append, List.reverse_cons, List.reverse_nil, List.nil_append, List.cons_append, pushR]
      have : pairb z x = false := by
        cases hp : pairb z x with
        | false => rfl
        | true => rw [(pair_let hp).1] at hz; cases hz
      rw [this]
      rfl
  · have hs := (seg_snoc seg' y).mp h.sg
    cases hp : pairb y x with
    | true =>
      refine ⟨seg', ⟨hs.1, h.tl, ?_, by have := h.len; simp only [List.length_append, List.length_cons, List.length_nil] at this ⊢; omega⟩, (mat_undo hp seg' 0).symm⟩
      rw [redR_snoc, h.rd]
      simp only [List.reverse_append, List.reverse_cons, List.reverse_nil, List.nil_append, List.cons_append, List.append_assoc, pushR, hp, if_true]
    | false =>
      refine ⟨seg' ++ [y] ++ [x], ⟨(seg_snoc _ x).mpr ⟨h.sg, hx, by simpa using hp⟩, h.tl, ?_, by have := h.len; simp only [List.length_append, List.length_cons, List.length_nil] at this ⊢; omega⟩, mat_snoc x _ 0⟩
      rw [redR_snoc, h.rd]
      simp only [List.reverse_append, List.reverse_cons, List.reverse_nil, List.nil_append, List.cons_append, List.append_assoc, pushR, hp, Bool.false_eq_true, if_false]
theorem linv_non {pre told seg : List Nat} {x : Nat} (h : LInv pre told seg) (hx : isLet x = false) : LInv (pre ++ [x]) (told ++ (seg ++ [x])) [] := by
  refine ⟨trivial, .inr ⟨told ++ seg, x, by simp, hx⟩, ?_, by have := h.len; simp only [List.length_append, List.length_cons, List.length_nil] at this ⊢; omega⟩
  rw [redR_snoc, h.rd]
  have : ∀ st : List Nat, pushR st x = x :: st := by
    intro st
    cases st with
    | nil => rfl
    | cons y st =>
      have hp : pairb y x = false := by
        cases hp : pairb y x with
        | false => rfl
        | true => rw [(pair_let hp).2] at hx; cases hx
      simp [pushR, hp]
  rw [this]
  simp
theorem linv_end {pre told seg : List Nat} (h : LInv pre told seg) : told ++ seg = red pre := by
  rw [red, h.rd, List.reverse_reverse]
/-! striking a pair does not change what is left -/
def RedS : List Nat → Prop
  | [] => True
  | x :: r => (∀ y ∈ r.head?, pairb y x = false) ∧ RedS r
theorem redS_push {st : List Nat} (h : RedS st) (x : Nat) : RedS (pushR st x) := by
  cases st with
  | nil => exact ⟨by simp, trivial⟩
  | cons y st =>
    simp only [pushR]
    cases hp : pairb y x with
    | true => simpa using h.2
    | false => exact ⟨by simpa using hp, h⟩
theorem redS_foldl : ∀ (l st : List Nat), RedS st → RedS (l.foldl pushR st)
  | [], _, h => h
  | x :: l, st, h => redS_foldl l _ (redS_push h x)
theorem redS_redR (l : List Nat) : RedS (redR l) := redS_foldl l [] trivial
theorem pair_back {z y x : Nat} (h1 : pairb z y = true) (h2 : pairb y x = true) : z = x := by
  simp only [pairb, Bool.and_eq_true, decide_eq_true_eq, Bool.or_eq_true, isUp, isLow] at h1 h2
  omega
theorem push_pair {st : List Nat} (h : RedS st) {y x : Nat} (hp : pairb y x = true) : pushR (pushR st y) x = st := by
  cases st with
  | nil => simp [pushR, hp]
  | cons z st =>
    cases hz : pairb z y with
    | false => simp [pushR, hz, hp]
    | true =>
      have e := pair_back hz hp
      subst e
      simp only [pushR, hz, if_true]
      cases st with
      | nil => rfl
      | cons u st =>
        have := h.1 u (by simp)
        simp [pushR, this]
theorem redR_strike (u v : List Nat) {y x : Nat} (hp : pairb y x = true) : redR (u ++ y :: x :: v) = redR (u ++ v) := by
  have e := push_pair (redS_redR u) hp
  unfold redR at e ⊢
  rw [List.foldl_append, List.foldl_append, List.foldl_cons, List.foldl_cons, e]
/-- no two neighbours are a pair -/
def NoPair (l : List Nat) : Prop := ∀ u y x v, l = u ++ y :: x :: v → pairb y x = false
theorem redR_noPair_aux : ∀ (l u : List Nat), NoPair (u ++ l) → l.foldl pushR u.reverse = (u ++ l).reverse
  | [], u, _ => by simp
  | x :: l, u, h => by
    rw [List.foldl_cons]
    have e : pushR u.reverse x = (u ++ [x]).reverse := by
      rcases nil_or_snoc u with rfl | ⟨u', y, rfl⟩
      · rfl
      · have := h u' y x l (by simp)
        simp [pushR, this]
    rw [e]
    have := redR_noPair_aux l (u ++ [x]) (by simpa using h)
    rw [this]
    simp
theorem red_noPair {l : List Nat} (h : NoPair l) : red l = l := by
  have := redR_noPair_aux l [] (by simpa using h)
  unfold red redR
  simp only [List.reverse_nil, List.nil_append] at this
  rw [this, List.reverse_reverse]
end Mine
end
section
open PySem PySem.W PyProof.Rows PySem.Calls
set_option maxRecDepth 100000
set_option maxHeartbeats 8000000
set_option pp.deepTerms false
set_option pp.deepTerms.threshold 6
namespace Mine
local macro_rules | `(tactic| k_room) => `(tactic| ktr_room)
local macro_rules | `(tactic| k_units) => `(tactic| ktr_units)
local macro_rules | `(tactic| ke_room) => `(tactic| ktr_units)
structure WS where
  word : Str
  tw : Tok
  count : Int
  tc : Tok
  p : Int
  tp : Tok
  q : Int
  tq : Tok
  r : Int
  tr : Tok
  s : Int
  ts : Tok
  l : List G
abbrev WSps (c : WS) : List (Str × Value) :=
  [(Str.ofString "word", .str c.word c.tw), (Str.ofString "count", .int c.count c.tc), (Str.ofString "p", .int c.p c.tp), (Str.ofString "q", .int c.q c.tq), (Str.ofString "r", .int c.r c.tr), (Str.ofString "s", .int c.s c.ts)]
structure WSP (out : List Nat) (c : WS) : Prop where
  rd : Rd c.l
  hm : mat c.l = ⟨c.p, c.q, c.r, c.s⟩
  ok : OkC c.count c.l
  len : c.word.length + c.l.length ≤ 10000
  out : c.word.cps.toList ++ dec c.count c.l = out
theorem ws_X {out : List Nat} {word : Str} {count p q r s : Int} {tw tc tp tq tr ts tc' tp' tq' : Tok} {b : Bool} {l' : List G} {c' p' q' : Int} (h : WSP out ⟨word, tw, count, tc, p, tp, q, tq, r, tr, s, ts, .X b :: l'⟩) (hm : mat l' = ⟨p', q', r, s⟩) (hc : c' = count + e1 b) :
    WSP out ⟨word, tw, c', tc', p', tp', q', tq', r, tr, s, ts, l'⟩ := by
  subst hc
  exact ⟨h.1.2, hm, h.3.2, by have := h.4; simp only [List.length_cons] at this ⊢; omega, h.5⟩
theorem ws_Y {out : List Nat} {word word' : Str} {count p q r s : Int} {tw tw' tc tp tq tr ts tr' ts' : Tok} {b : Bool} {l' : List G} {r' s' : Int} (h : WSP out ⟨word, tw, count, tc, p, tp, q, tq, r, tr, s, ts, .Y b :: l'⟩) (hm : mat l' = ⟨p, q, r', s'⟩)
    (hw : word' = word ++ ⟨#[((if b then 96 else 64) + count).toNat]⟩) :
    WSP out ⟨word', tw', count, tc, p, tp, q, tq, r', tr', s', ts', l'⟩ := by
  subst hw
  refine ⟨h.1.2, hm, h.3.2, by have := h.4; simp only [List.length_cons, Str.length_append] at this ⊢; simp only [Str.length] at this ⊢; simp; omega, ?_⟩
  have := h.5
  simp only [dec, Str.cps_append, Array.toList_append, List.append_assoc] at this ⊢
  exact this

theorem ofs_nil : Str.ofString "" = ⟨#[]⟩ := by decide +kernel
theorem ws_start {l : List G} {p q r s : Int} {tw tc tp tq tr ts : Tok} (hr : Rd l) (hl : mat l = ⟨p, q, r, s⟩) (hok : OkC 0 l) (hlen : l.length ≤ 10000) : WSP (dec 0 l) ⟨Str.ofString "", tw, 0, tc, p, tp, q, tq, r, tr, s, ts, l⟩ :=
  ⟨hr, hl, hok, by rw [ofs_nil]; simpa [Str.length] using hlen, by rw [ofs_nil]; rfl⟩

theorem word_ok (w : World) (t : Addr) (n : Nat) (p q r s : Int) (t1 t2 t3 t4 : Tok) (news : List (Addr × Obj))
   (hm : (t, ({ cls := .type "tuple", data := .seq #[.int p t1, .int q t2, .int r t3, .int s t4] n } : Obj)) ∈ news) (l : List G) (hr : Rd l) (hl : mat l = ⟨p, q, r, s⟩) (hok : OkC 0 l) (hlen : l.length ≤ 10000) :
   Calls w 91 5 [.ref t] news (fun v => ∃ tk, v = .str ⟨(dec 0 l).toArray⟩ tk) := by
  unfold Calls
  k_fill
  intro loose mean mg mb dp un gd cn cs a ccd cl outer A₀ base h₀ L m sh Q E B F X N T hk hd hu hret
  w_on
  k_with_none
  refine wpAny_call ?_
  k_dflt cell_enter
  k_with "exec" => (k_here; (rename Fr _ _ _ _ => lF'); (rename News _ _ _ _ => lN'); (with_unfolding_all refine' ksw_while (σ := WS) (fun _ => news) WSps (fun _ => True) [Str.ofString "one"] (WSP (dec 0 l)) (fun c => c.l.length) ⟨Str.ofString "", _, 0, _, p, t1, q, t2, r, t3, s, t4, l⟩ lF' lN' True.intro ?kk ?kp ?_); (case kk => kst_all); (case kp => exact ws_start hr hl hok hlen); (clear lF' lN' hl hr hok hlen); (rintro ⟨word, tw, count, tc, p, tp, q, tq, r, tr, s, ts, l⟩ kU kH kTk kFacts kP kFr kNews); (obtain ⟨c0, c26⟩ := kP.ok.here); (have kM := mat_mul (Nat.le_trans (Nat.le_add_left _ _) kP.len)); (have kLen := kP.len); rw [kP.hm] at kM; obtain ⟨b1, b2⟩ := kM; dsimp only [WSps, kstB] at kFr kNews c0 c26 b1 b2 kLen)
  w_strict (k_steps)
  · have e := first_none kP.rd kP.hm (by assumption)
    dsimp only at e
    subst e
    refine hret _ _ _ (by assumption) (cb_drop (by assumption) (by kcj_all)) ⟨tw, ?_⟩
    have h5 := kP.out
    simp only [dec, List.append_nil] at h5
    rw [← h5]
  · obtain ⟨b, l', e, hb, hm'⟩ := first_X kP.rd kP.hm (by assumption)
    dsimp only at e
    subst e
    cases b with
    | false => exact absurd (by assumption) hb
    | true =>
      (rename News _ _ _ _ => nE')
      refine ksw_end ⟨_, _, _, _, _, _, _, _, _, _, _, _, l'⟩ (by assumption) nE' (by kst_in) True.intro (by kst_all) (by ksw_same) (ws_X kP hm' rfl) (Nat.lt_succ_self _)
  · obtain ⟨b, l', e, hb, hm'⟩ := first_X kP.rd kP.hm (by assumption)
    dsimp only at e
    subst e
    cases b with
    | true => exact absurd hb (by assumption)
    | false =>
      (rename News _ _ _ _ => nE')
      refine ksw_end ⟨_, _, _, _, _, _, _, _, _, _, _, _, l'⟩ (by assumption) nE' (by kst_in) True.intro (by kst_all) (by ksw_same) (ws_X kP hm' rfl) (Nat.lt_succ_self _)
  · obtain ⟨b, l', e, hb, hm'⟩ := first_Y kP.rd kP.hm (by assumption) (by assumption)
    dsimp only at e
    subst e
    cases b with
    | false => exact absurd (by assumption) hb
    | true =>
      (rename News _ _ _ _ => nE')
      refine ksw_end ⟨_, _, _, _, _, _, _, _, _, _, _, _, l'⟩ (by assumption) nE' (by kst_in) True.intro (by kst_all) (by ksw_same) (ws_Y kP hm' rfl) (Nat.lt_succ_self _)
  · obtain ⟨b, l', e, hb, hm'⟩ := first_Y kP.rd kP.hm (by assumption) (by assumption)
    dsimp only at e
    subst e
    cases b with
    | true => exact absurd hb (by assumption)
    | false =>
      (rename News _ _ _ _ => nE')
      refine ksw_end ⟨_, _, _, _, _, _, _, _, _, _, _, _, l'⟩ (by assumption) nE' (by kst_in) True.intro (by kst_all) (by ksw_same) (ws_Y kP hm' rfl) (Nat.lt_succ_self _)
end Mine
end
section
open PySem PySem.W PyProof.Rows PySem.Calls
set_option maxRecDepth 100000
set_option maxHeartbeats 8000000
namespace Mine
local macro_rules | `(tactic| k_room) => `(tactic| ktr_room)
local macro_rules | `(tactic| k_units) => `(tactic| ktr_units)
local macro_rules | `(tactic| ke_room) => `(tactic| ktr_units)
abbrev tup4 (p q r s : Int) (t1 t2 t3 t4 : Tok) (n : Nat) : Obj := { cls := .type "tuple", data := .seq #[.int p t1, .int q t2, .int r t3, .int s t4] n }
theorem ofs_Z : Str.ofString "Z" = ⟨#[90]⟩ := by decide +kernel
theorem list_lt1 (a b : Nat) : ([a] < [b]) ↔ a < b := by
  rw [List.cons_lt_cons_iff]; simp
theorem made_one {h₀ h : Heap} {L D : Addr} {o : Obj} {rest news : List (Addr × Obj)} (N : News h₀ L h ((D, o) :: rest)) (hs : ∀ p ∈ news, p ∈ rest) : News h₀ L h ([(D, o)] ++ news) := fun p hp => by
  rcases List.mem_cons.mp hp with rfl | hp
  · exact N _ (.head _)
  · exact N _ (.tail _ (hs _ hp))
theorem ord_one {D : Addr} {o : Obj} {news : List (Addr × Obj)} (h : AllLt D news) : ∀ p ∈ [(D, o)], ∀ q ∈ news, q.1 < p.1 := fun p hp q hq => by
  rw [List.mem_singleton.mp hp]; exact ktn_ltOf h q hq
theorem prod_ok (w : World) (t : Addr) (n : Nat) (p q r s : Int) (t1 t2 t3 t4 tc : Tok) (c : Nat) (news : List (Addr × Obj))
   (hm : (t, tup4 p q r s t1 t2 t3 t4 n) ∈ news) :
   Makes w 84 5 [.ref t, .str ⟨#[c]⟩ tc] news (fun v tl => ∃ t' k1 k2 k3 k4, v = .ref t' ∧ tl = [(t', tup4 (step ⟨p, q, r, s⟩ c).p (step ⟨p, q, r, s⟩ c).q (step ⟨p, q, r, s⟩ c).r (step ⟨p, q, r, s⟩ c).s k1 k2 k3 k4 0)]) := by
  unfold Makes
  k_fill
  intro loose mean mg mb dp un gd cn cs a ccd cl outer A₀ base h₀ L m sh Q E B F X N T hk hd hu hret
  w_on
  k_with_none
  refine wpAny_call ?_
  k_dflt cell_enter
  w_strict (k_steps)
  · rename (Str.ofString "Z").cps.toList < _ => hz
    rename _ ∧ _ ∧ AllLt _ _ => hl
    rw [ofs_Z] at hz
    have hz : sgn c = true := decide_eq_true ((list_lt1 _ _).mp hz)
    have e : step ⟨p, q, r, s⟩ c = ⟨prodP p q (num c * 2) (2), prodQ p q (num c * 2) (2), prodP r s (num c * 2) (2), prodQ r s (num c * 2) (2)⟩ := by
      unfold step
      rw [hz]
      rfl
    rw [e] at hret
    refine hret _ _ _ _ (by assumption) (made_one (by assumption) (by kcj_all)) (ord_one hl.2.2) ⟨_, _, _, _, _, rfl, rfl⟩
  · rename ¬ (Str.ofString "Z").cps.toList < _ => hz
    rename _ ∧ _ ∧ AllLt _ _ => hl
    rw [ofs_Z] at hz
    have hz : sgn c = false := decide_eq_false fun h => hz ((list_lt1 _ _).mpr h)
    have e : step ⟨p, q, r, s⟩ c = ⟨prodP p q (num c * 2) (-2), prodQ p q (num c * 2) (-2), prodP r s (num c * 2) (-2), prodQ r s (num c * 2) (-2)⟩ := by
      unfold step
      rw [hz]
      rfl
    rw [e] at hret
    refine hret _ _ _ _ (by assumption) (made_one (by assumption) (by kcj_all)) (ord_one hl.2.2) ⟨_, _, _, _, _, rfl, rfl⟩
end Mine
end
section
open PySem PySem.W PyProof.Rows PySem.Calls
namespace Mine
/-! a loop over a text's signs, whose ledger may turn -/
/-- the state between two turns: the library's, with what holds of the signs taken so far as its facts -/
abbrev TxS {σ : Type} (Led : σ → List (Addr × Obj)) (ps : σ → List (Str × Value)) (x : Str) (stored : List Str) (m₀ : Str → Option Value) (P : List Nat → σ → Prop) (pre : List Nat) : (Str → Option Value) → List (Addr × Obj) → Prop :=
  KstS Led ps (P pre) x stored m₀ (fun _ _ => True) []
theorem cut_next {l : List Nat} {i n : Nat} (h : l[i]? = some n) : l.take (i + 1) = l.take i ++ [n] ∧ l = l.take i ++ n :: l.drop (i + 1) := by
  obtain ⟨hi, rfl⟩ := List.getElem?_eq_some_iff.mp h
  exact ⟨(List.take_append_getElem hi).symm, by rw [← List.drop_eq_getElem_cons hi, List.take_append_drop]⟩
section
variable {prog : Program} {w : World} {A : Around} {E : Value → Shared → Prop} {s : Shared} {env : Env} {h₀ : Heap} {x : Str} {body : List Stmt} {Q : Flow → Shared → Prop}
/-- a loop whose iterator is the newest object -/
theorem newest_loop {n : Nat} {V : Nat → Value → Prop} {St : Nat → Heap → Prop} {o : Obj} {m₀ : Str → Option Value} {news : List (Addr × Obj)} (J : Nat → (Str → Option Value) → List (Addr × Obj) → Prop)
    (W : Walks prog w A s.heap.objs.size [s.heap.objs.size] [s.heap.objs.size] n V St) (there : ∀ i h, St i h → ∃ o, h.get? s.heap.objs.size = some o) (hst : St 0 (s.heap.push o)) (F : Fr h₀ env.locals s.heap m₀) (N : News h₀ env.locals s.heap news) (hj : J 0 m₀ news)
    (turn : ∀ i v m₁ nx h tk own, i < n → V i v → OwnOff own (nx.map (·.1)) → J i m₁ nx → Fr h₀ env.locals h (fun y => if y = x then some v else m₁ y) → News h₀ env.locals h (nx ++ own) →
      wpAny (model prog w) A (execs body env) (InvPostG h₀ env.locals (J (i + 1)) own { s with heap := h, toks := tk } Q) E { s with heap := h, toks := tk })
    (done : ∀ m₁ nx h tk, J n m₁ nx → Fr h₀ env.locals h m₁ → News h₀ env.locals h nx → Q .next { s with heap := h, toks := tk }) :
    LoopAtV prog w A h₀ env x body Q E (.ref s.heap.objs.size) { s with heap := s.heap.push o } :=
  kdr_loop (s := { s with heap := s.heap.push o }) J W (fun _ h => h) (fun _ h => h) (fun i h e => List.forall_mem_singleton.mpr (there i h e)) (fun e => Nat.ne_of_lt F.ns.lt (List.mem_singleton.mp e))
    (List.forall_mem_singleton.mpr F.fresh) (fun p hp e => N.apart p hp (List.mem_singleton.mp e)) hst (F.push o) (N.pushKeep o) hj turn done
theorem txt_loop {σ : Type} {xt : Str} {tx : Tok} {m₀ : Str → Option Value} (Led : σ → List (Addr × Obj)) (ps : σ → List (Str × Value)) (stored : List Str) (P : List Nat → σ → Prop) (c₀ : σ)
    (hh : A.handled = none) (F : Fr h₀ env.locals s.heap m₀) (N : News h₀ env.locals s.heap (Led c₀)) (hk : ∀ p ∈ ps c₀, m₀ p.1 = some p.2) (hp : P [] c₀)
    (turn : ∀ (c : σ) (pre post : List Nat) (n : Nat) t (u : Str → Option Value) h tk own, xt.cps.toList = pre ++ n :: post → OwnOff own ((Led c).map (·.1)) → P pre c →
      Fr h₀ env.locals h (fun y => if y = x then some (.str ⟨#[n]⟩ t) else kstB (fun z => if stored.contains z then u z else m₀ z) (ps c) y) → News h₀ env.locals h (Led c ++ own) →
      wpAny (model prog w) A (execs body env) (InvPostG h₀ env.locals (TxS Led ps x stored m₀ P (pre ++ [n])) own { s with heap := h, toks := tk } Q) E { s with heap := h, toks := tk })
    (done : ∀ (c : σ) (u : Str → Option Value) h tk, P xt.cps.toList c → Fr h₀ env.locals h (fun y => if y = x then u y else kstB (fun z => if stored.contains z then u z else m₀ z) (ps c) y) → News h₀ env.locals h (Led c) → Q .next { s with heap := h, toks := tk }) :
    wpAny (model prog w) A (pyIter (.str xt tx)) (fun it s₂ => LoopAtV prog w A h₀ env x body Q E it s₂) E s := by
  have go : ∀ {St : Nat → Heap → Prop} {o : Obj}, Walks prog w A s.heap.objs.size [s.heap.objs.size] [s.heap.objs.size] xt.cps.size (SignAt xt) St → (∀ i h, St i h → ∃ o, h.get? s.heap.objs.size = some o) → St 0 (s.heap.push o) →
      LoopAtV prog w A h₀ env x body Q E (.ref s.heap.objs.size) { s with heap := s.heap.push o } := by
    intro St o W there st
    refine newest_loop (fun i => TxS Led ps x stored m₀ P (xt.cps.toList.take i)) W there st F N ⟨c₀, rfl, by rw [List.take_zero]; exact hp, hk, fun _ _ _ _ => rfl, trivial⟩ ?_ ?_
    · rintro i _ m₁ _ h tk own _ ⟨n, t, hn, rfl⟩ off ⟨c, rfl, hc, b1, b2, _⟩ F₁ N₁
      obtain ⟨e1, e2⟩ := cut_next (l := xt.cps.toList) (i := i) (n := n) (by rw [Array.getElem?_toList]; exact hn)
      rw [e1]
      exact turn c _ _ n t m₁ h tk own e2 off hc (kst_fr b1 b2 F₁) N₁
    · rintro m₁ _ h tk ⟨c, rfl, hc, b1, b2, _⟩ F₁ N₁
      rw [← Array.length_toList, List.take_length] at hc
      exact done c m₁ h tk hc (kst_frOut b1 b2 F₁) N₁
  cases ha : xt.cps.all (· < 128)
  · exact wpAny_pyIter_wide ha (go (Walks.strWide hh _ xt tx) (fun _ _ ⟨o, ho, _⟩ => ⟨o, ho⟩) ⟨_, Heap.get?_push_size _ rfl, rfl, rfl⟩)
  · exact wpAny_pyIter_ascii ha (go (Walks.strAscii hh _ xt tx) (fun _ _ ⟨o, ho, _⟩ => ⟨o, ho⟩) ⟨_, Heap.get?_push_size _ rfl, rfl, rfl⟩)
end
end Mine
end
section
open PySem PySem.W PyProof.Rows PySem.Calls
set_option maxRecDepth 100000
set_option maxHeartbeats 8000000
namespace Mine
local macro_rules | `(tactic| k_room) => `(tactic| ktr_room)
local macro_rules | `(tactic| k_units) => `(tactic| ktr_units)
local macro_rules | `(tactic| ke_room) => `(tactic| ktr_units)
section
variable {w : World} {f : Addr} {k : Nat} {vs : List Value} {news : List (Addr × Obj)} {loose : List Str} {mean : ExcName → Option Value} {mg mb : Str → Option Value} {dp un : Nat} {gd : Option (List Code)} {cn : Str} {cs : Scope} {a : Addr} {ccd : Value} {cl : List (Str × Addr)} {outer : List Env} {A₀ : Around} {base h₀ : Heap} {L : Addr} {m : Str → Option Value} {s : Shared} {Q E : Value → Shared → Prop}
theorem Calls.use {Out : Value → Prop} (C : Calls w f k vs news Out) (B : Below A₀ base outer h₀) (F : Fr h₀ L s.heap m) (X : (Mine.hd.heap_39 w.params).In h₀) (N : News h₀ L s.heap news) (T : Top topProg loose mean mg mb h₀) (hk : cs.kind = .function) (hd : dp + k < recursionLimit) (hu : un + 200 * k < cLine)
    (ret : ∀ r h' tk', Fr h₀ L h' m → News h₀ L h' news → Out r → Q r { s with heap := h', toks := tk' }) :
    wpAny (model PySem.Challenge.rw_mr0025_01.prog w) (ktrTop dp un gd cn cs L a ccd cl outer) (call (.ref f) vs) Q E s := C _ _ _ _ _ _ _ _ _ _ _ _ _ _ _ _ _ _ _ _ _ B F X N T hk hd hu ret
theorem Makes.use {Out : Value → List (Addr × Obj) → Prop} (C : Makes w f k vs news Out) (B : Below A₀ base outer h₀) (F : Fr h₀ L s.heap m) (X : (Mine.hd.heap_39 w.params).In h₀) (N : News h₀ L s.heap news) (T : Top topProg loose mean mg mb h₀) (hk : cs.kind = .function) (hd : dp + k < recursionLimit) (hu : un + 200 * k < cLine)
    (ret : ∀ r tl h' tk', Fr h₀ L h' m → News h₀ L h' (tl ++ news) → (∀ p ∈ tl, ∀ q ∈ news, q.1 < p.1) → Out r tl → Q r { s with heap := h', toks := tk' }) :
    wpAny (model PySem.Challenge.rw_mr0025_01.prog w) (ktrTop dp un gd cn cs L a ccd cl outer) (call (.ref f) vs) Q E s := C _ _ _ _ _ _ _ _ _ _ _ _ _ _ _ _ _ _ _ _ _ B F X N T hk hd hu ret
end
structure LS where
  told : Str
  tt : Tok
  t : Addr
  p : Int
  q : Int
  r : Int
  s : Int
  t1 : Tok
  t2 : Tok
  t3 : Tok
  t4 : Tok
  n : Nat
  seg : List Nat
abbrev LSps (c : LS) : List (Str × Value) := [(Str.ofString "told", .str c.told c.tt), (Str.ofString "numbers", .ref c.t)]
abbrev LSled (news : List (Addr × Obj)) (c : LS) : List (Addr × Obj) := (c.t, tup4 c.p c.q c.r c.s c.t1 c.t2 c.t3 c.t4 c.n) :: news
structure LSP (pre : List Nat) (c : LS) : Prop where
  inv : LInv pre c.told.cps.toList c.seg
  hm : mat (ex 0 c.seg) = ⟨c.p, c.q, c.r, c.s⟩
theorem len_pre {xt : Str} {pre post : List Nat} {n k : Nat} (h : xt.length ≤ k) (e : xt.cps.toList = pre ++ n :: post) : pre.length ≤ k := by
  have := congrArg List.length e
  simp only [Array.length_toList, List.length_append, List.length_cons] at this
  simp only [Str.length] at h
  omega
theorem word_seg {w : World} {news : List (Addr × Obj)} {pre : List Nat} {c : LS} (h : LSP pre c) (hl : pre.length ≤ 300) (hm : (c.t, tup4 c.p c.q c.r c.s c.t1 c.t2 c.t3 c.t4 c.n) ∈ news) :
    Calls w 91 5 [.ref c.t] news (fun v => ∃ tk, v = .str ⟨c.seg.toArray⟩ tk) := by
  have h1 := h.inv.sg
  have h2 := ex_length c.seg 0 (by omega) (by omega) h1
  have h3 := h.inv.len
  have := word_ok w c.t c.n c.p c.q c.r c.s c.t1 c.t2 c.t3 c.t4 news hm (ex 0 c.seg) (rd_ex _ _ h1) h.hm (ok_ex _ _ (by omega) (by omega) h1) (by omega)
  rw [dec_ex _ _ h1] at this
  exact this
theorem ofs_A : Str.ofString "A" = ⟨#[65]⟩ := by decide +kernel
theorem ofs_a : Str.ofString "a" = ⟨#[97]⟩ := by decide +kernel
theorem ofs_z : Str.ofString "z" = ⟨#[122]⟩ := by decide +kernel
theorem lt_A {n : Nat} : [n] < (Str.ofString "A").cps.toList ↔ n < 65 := by rw [ofs_A]; exact list_lt1 _ _
theorem lt_a {n : Nat} : [n] < (Str.ofString "a").cps.toList ↔ n < 97 := by rw [ofs_a]; exact list_lt1 _ _
theorem gt_Z {n : Nat} : (Str.ofString "Z").cps.toList < [n] ↔ 90 < n := by rw [ofs_Z]; exact list_lt1 _ _
theorem gt_z {n : Nat} : (Str.ofString "z").cps.toList < [n] ↔ 122 < n := by rw [ofs_z]; exact list_lt1 _ _
theorem not_let1 {n : Nat} (h : [n] < (Str.ofString "A").cps.toList) : isLet n = false := by
  have := lt_A.mp h
  simp [isLet, isUp, isLow]; omega
theorem not_let4 {n : Nat} (h : (Str.ofString "Z").cps.toList < [n]) (h' : [n] < (Str.ofString "a").cps.toList) : isLet n = false := by
  have := gt_Z.mp h
  have := lt_a.mp h'
  simp [isLet, isUp, isLow]; omega
theorem not_let5 {n : Nat} (h : (Str.ofString "z").cps.toList < [n]) : isLet n = false := by
  have := gt_z.mp h
  simp [isLet, isUp, isLow]; omega
theorem let6 {n : Nat} (h : ¬ [n] < (Str.ofString "a").cps.toList) (h' : ¬ (Str.ofString "z").cps.toList < [n]) : isLet n = true := by
  rw [lt_a] at h
  rw [gt_z] at h'
  simp [isLet, isUp, isLow]; omega
theorem let7 {n : Nat} (h : ¬ [n] < (Str.ofString "A").cps.toList) (h' : ¬ (Str.ofString "Z").cps.toList < [n]) : isLet n = true := by
  rw [lt_A] at h
  rw [gt_Z] at h'
  simp [isLet, isUp, isLow]; omega
theorem left_end {h₀ h' : Heap} {L : Addr} {x : Str} {m₀ m' : Str → Option Value} {pre : List Nat} {own news rest : List (Addr × Obj)} {s₁ : Shared} {tk : Nat} {t₀ : Addr} {o₀ : Obj} (c' : LS) (F : Fr h₀ L h' m') (N : News h₀ L h' ((c'.t, tup4 c'.p c'.q c'.r c'.s c'.t1 c'.t2 c'.t3 c'.t4 c'.n) :: rest)) (hk : ∀ p ∈ LSps c', m' p.1 = some p.2)
    (hz : ∀ z, z ≠ x → (∀ p ∈ LSps c', z ≠ p.1) → ([] : List Str).contains z = false → m' z = m₀ z) (hP : LSP pre c') (hoff : OwnOff own (List.map (fun x => x.fst) ((t₀, o₀) :: news))) (hlt : ∀ q ∈ rest, q.1 < c'.t) (hs : ∀ p ∈ news ++ own, p ∈ rest) :
    InvEndG h₀ L (TxS (LSled news) LSps x [] m₀ LSP pre) own s₁ { s₁ with heap := h', toks := tk } :=
  InvEndG.intro F N ⟨c', rfl, hP, hk, hz, trivial⟩ (fun p hp b hb => by
    rcases List.mem_cons.mp hb with rfl | hb
    · exact Nat.ne_of_lt (hlt p (hs p (List.mem_append_right _ hp)))
    · exact hoff p hp b (.tail _ hb)) (fun p hp => by
    rcases List.mem_cons.mp hp with rfl | hp
    · exact .head _
    · exact .tail _ (hs p (List.mem_append_left _ hp))) (fun p hp => .tail _ (hs p (List.mem_append_right _ hp)))
theorem lsp_non {pre : List Nat} {n : Nat} {c : LS} {tt t1 t2 t3 t4 : Tok} {t : Addr} {k : Nat} (h : LSP pre c) (hx : isLet n = false) : LSP (pre ++ [n]) ⟨c.told ++ (⟨c.seg.toArray⟩ ++ ⟨#[n]⟩), tt, t, 1, 0, 0, 1, t1, t2, t3, t4, k, []⟩ :=
  ⟨by simpa [Str.cps_append] using linv_non h.inv hx, rfl⟩
theorem lsp_let {pre : List Nat} {n : Nat} {told : Str} {tt : Tok} {t : Addr} {p q r s : Int} {t1 t2 t3 t4 : Tok} {nn : Nat} {seg : List Nat} (h : LSP pre ⟨told, tt, t, p, q, r, s, t1, t2, t3, t4, nn, seg⟩) (hx : isLet n = true) : ∃ seg', ∀ {t' : Addr} {k1 k2 k3 k4 : Tok} {k : Nat},
    LSP (pre ++ [n]) ⟨told, tt, t', (step ⟨p, q, r, s⟩ n).p, (step ⟨p, q, r, s⟩ n).q, (step ⟨p, q, r, s⟩ n).r, (step ⟨p, q, r, s⟩ n).s, k1, k2, k3, k4, k, seg'⟩ := by
  obtain ⟨seg', h1, h2⟩ := linv_let h.inv hx
  refine ⟨seg', fun {_ _ _ _ _ _} => ⟨h1, ?_⟩⟩
  rw [h2, h.hm]
theorem lsp_end {pre : List Nat} {c : LS} (h : LSP pre c) : c.told ++ ⟨c.seg.toArray⟩ = (⟨(red pre).toArray⟩ : Str) := by
  refine Str.ext' (Array.toList_inj.mp ?_)
  rw [Str.cps_append, Array.toList_append]
  exact linv_end h.inv
theorem left_ok (w : World) (xt : Str) (tx : Tok) (news : List (Addr × Obj)) (hlen : xt.length ≤ 300) :
   Calls w 98 10 [.str xt tx] news (fun v => ∃ tk, v = .str ⟨(red xt.cps.toList).toArray⟩ tk) := by
  unfold Calls
  k_fill
  intro loose mean mg mb dp un gd cn cs a ccd cl outer A₀ base h₀ L m sh Q E B F X N T hk hd hu hret
  w_on
  k_with_none
  refine wpAny_call ?_
  k_dflt cell_enter
  k_with "pyIter str" => (k_here; (rename Fr _ _ _ _ => lF'); (rename News _ _ _ _ => lN'); (with_unfolding_all refine' txt_loop (σ := LS) (LSled news) LSps [] LSP ⟨Str.ofString "", _, _, 1, 0, 0, 1, _, _, _, _, _, []⟩ (by rfl) lF' lN' ?kk ?kp ?_ ?_); (case kk => kst_all); (case kp => exact ⟨by rw [ofs_nil]; exact linv_nil, rfl⟩); (clear lF' lN'); (all_goals first | (rintro ⟨told, tt, t, p, q, r, s, t1, t2, t3, t4, nn, seg⟩ kPre kPost kN kT kU kH kTk kOwn kEq kOff kP kFr kNews; dsimp only [LSps, LSled, kstB] at kFr kNews kOff; have kLen : kPre.length ≤ 300 := len_pre hlen kEq; have kLs : told.length + seg.length ≤ kPre.length := kP.inv.len) | (rintro ⟨told, tt, t, p, q, r, s, t1, t2, t3, t4, nn, seg⟩ kU kH kTk kP kFr kNews; dsimp only [LSps, LSled, kstB] at kFr kNews; have kLen : xt.cps.toList.length ≤ 300 := (by simpa [Str.length] using hlen); have kLs : told.length + seg.length ≤ xt.cps.toList.length := kP.inv.len)))
  k_with "call ref" => (k_dflt ((with_reducible show wpAny _ _ (call (Value.ref 91) _) _ _ _); (refine' Calls.use (word_seg kP kLen ?hm) ?B ?F ?X ?N ?T ?hk ?hd ?hu ?_); (case B => k_asm); (case F => k_asm); (case X => k_asm); (case N => k_asm); (case T => k_asm); (case hk => rfl); (case hm => k_mem); (case hd => ktr_room); (case hu => ktr_units)); intro r9 h9 tk9 F9 N9 hO9; obtain ⟨t9, e9⟩ := hO9; subst e9; (try dsimp only); (try k_fold))
  k_with "call ref" => (k_dflt ((with_reducible show wpAny _ _ (call (Value.ref 84) _) _ _ _); (refine' Makes.use (prod_ok _ _ _ _ _ _ _ _ _ _ _ _ _ _ ?hm) ?B ?F ?X ?N ?T ?hk ?hd ?hu ?_); (case B => k_asm); (case F => k_asm); (case X => k_asm); (case N => k_asm); (case T => k_asm); (case hk => rfl); (case hm => k_mem); (case hd => ktr_room); (case hu => ktr_units)); intro r9 tl9 h9 tk9 F9 N9 hl9 hO9; obtain ⟨t9, k1, k2, k3, k4, e9, e9'⟩ := hO9; subst e9 e9'; simp only [List.cons_append, List.nil_append] at N9; (try dsimp only); (try k_fold))
  w_strict (k_steps)
  iterate 7 first
    | (have hx : isLet kN = true := (by first | exact let6 (by assumption) (by assumption) | exact let7 (by assumption) (by assumption))
       obtain ⟨seg', hP⟩ := lsp_let kP hx
       refine left_end ⟨_, _, _, _, _, _, _, _, _, _, _, _, seg'⟩ (by assumption) (by assumption) (by kst_all) (by kst_same) hP kOff (hl9 _ (.head _)) (fun p hp => .tail _ hp))
    | (have hx : isLet kN = false := (by first | exact not_let1 (by assumption) | exact not_let4 (by assumption) (by assumption) | exact not_let5 (by assumption))
       refine left_end ⟨_, _, _, _, _, _, _, _, _, _, _, _, []⟩ (by assumption) (by assumption) (by kst_all) (by kst_same) (lsp_non kP hx) kOff (by assumption) (fun p hp => .tail _ hp))
  refine hret _ _ _ (by assumption) (cb_drop (by assumption) (by kcj_all)) ⟨_, congrArg (fun x => Value.str x _) (lsp_end kP)⟩
end Mine
end
section
open PySem PySem.W PyProof.Rows PySem.Calls
set_option maxRecDepth 100000
set_option maxHeartbeats 8000000
namespace Mine
local macro_rules | `(tactic| k_room) => `(tactic| ktr_room)
local macro_rules | `(tactic| k_units) => `(tactic| ktr_units)
local macro_rules | `(tactic| ke_room) => `(tactic| ktr_units)
theorem low_ok (w : World) (c : Nat) (tc : Tok) (news : List (Addr × Obj)) : Calls w 35 5 [.str ⟨#[c]⟩ tc] news (fun v => v = .bool (isLow c)) := by
  unfold Calls
  k_fill
  intro loose mean mg mb dp un gd cn cs a ccd cl outer A₀ base h₀ L m sh Q E B F X N T hk hd hu hret
  w_on
  k_with_none
  refine wpAny_call ?_
  k_dflt cell_enter
  w_strict (k_steps)
  · rename (97 : Int) ≤ _ => ha
    refine hret _ _ _ (by assumption) (by assumption) (congrArg Value.bool ?_)
    rw [isLow, show decide (97 ≤ c) = true from decide_eq_true (by omega), Bool.true_and, decide_eq_decide]; omega
  · rename ¬ (97 : Int) ≤ _ => ha
    refine hret _ _ _ (by assumption) (by assumption) (congrArg Value.bool ?_)
    rw [isLow, show decide (97 ≤ c) = false from decide_eq_false (by omega), Bool.false_and, decide_eq_false_iff_not]; exact ha
theorem up_ok (w : World) (c : Nat) (tc : Tok) (news : List (Addr × Obj)) : Calls w 42 5 [.str ⟨#[c]⟩ tc] news (fun v => v = .bool (isUp c)) := by
  unfold Calls
  k_fill
  intro loose mean mg mb dp un gd cn cs a ccd cl outer A₀ base h₀ L m sh Q E B F X N T hk hd hu hret
  w_on
  k_with_none
  refine wpAny_call ?_
  k_dflt cell_enter
  w_strict (k_steps)
  · rename (65 : Int) ≤ _ => ha
    refine hret _ _ _ (by assumption) (by assumption) (congrArg Value.bool ?_)
    rw [isUp, show decide (65 ≤ c) = true from decide_eq_true (by omega), Bool.true_and, decide_eq_decide]; omega
  · rename ¬ (65 : Int) ≤ _ => ha
    refine hret _ _ _ (by assumption) (by assumption) (congrArg Value.bool ?_)
    rw [isUp, show decide (65 ≤ c) = false from decide_eq_false (by omega), Bool.false_and, decide_eq_false_iff_not]; exact ha
theorem ctrl_ok (w : World) (c : Nat) (tc : Tok) (news : List (Addr × Obj)) : Calls w 49 5 [.str ⟨#[c]⟩ tc] news (fun v => ∃ tk, v = .str ⟨#[c % 32]⟩ tk) := by
  unfold Calls
  k_fill
  intro loose mean mg mb dp un gd cn cs a ccd cl outer A₀ base h₀ L m sh Q E B F X N T hk hd hu hret
  w_on
  k_with_none
  refine wpAny_call ?_
  k_dflt cell_enter
  k_with "call builtin:chr" => (rw [bitAnd_m5]; refine chr_of_range (by omega) (by omega) ?_)
  w_strict (k_steps)
  refine hret _ _ _ (by assumption) (by assumption) ⟨_, congrArg (fun x => Value.str ⟨#[x]⟩ _) (by omega)⟩
end Mine
end
section
open PySem PySem.W PyProof.Rows PySem.Calls
set_option maxRecDepth 100000
namespace Mine
/-! attributes of function objects -/
theorem lk_ga : typeLookup (.type "function") "__getattribute__" = pure (some (.builtin "object.__getattribute__")) := by rw [typeLookup_type, builtinLookup_eq_fast]; kernel_rfl
theorem lk_hook : typeLookup (.type "function") "__getattr__" = pure none := by rw [typeLookup_type, builtinLookup_eq_fast]; kernel_rfl
theorem lk_span : typeLookup (.type "function") "span" = pure none := by rw [typeLookup_type, builtinLookup_eq_fast]; kernel_rfl
theorem lk_search : typeLookup (.type "function") "search" = pure none := by rw [typeLookup_type, builtinLookup_eq_fast]; kernel_rfl
theorem lk_bool : typeLookup (.type "function") "__bool__" = pure none := by rw [typeLookup_type, builtinLookup_eq_fast]; kernel_rfl
theorem lk_len : typeLookup (.type "function") "__len__" = pure none := by rw [typeLookup_type, builtinLookup_eq_fast]; kernel_rfl
theorem slot_ga : Slot "function" "__getattribute__" "object.__getattribute__" := .of (owner := "object") (n := "__getattribute__") lk_ga (by decide +kernel) (by decide +kernel) (by decide +kernel)
    (by first | exact .inl (by decide +kernel) | exact .inr (by decide +kernel)) (by rw [isSubtype_type]; kernel_rfl)
theorem entry_ga : entryFor table "object.__getattribute__" = some Builtin.«object.__getattribute__» := entryFor_of_tree (by kernel_rfl)
theorem args_ga (a b : Value) : argsOk "object.__getattribute__" ⟨[a, b], []⟩ := by unfold argsOk; kernel_rfl
theorem store_fn : StoreFacts "function" [.type "function", .type "object"] "object.__setattr__" "object" where
  mro := by kernel_rfl
  slot := .of (owner := "object") (n := "__setattr__") (by rw [typeLookup_type, builtinLookup_eq_fast]; kernel_rfl) (by decide +kernel) (by decide +kernel) (by decide +kernel)
    (by first | exact .inl (by decide +kernel) | exact .inr (by decide +kernel)) (by rw [isSubtype_type]; kernel_rfl)
  entry := PySem.F.entry_object_sa
  kind := by decide +kernel
  split := by decide +kernel
  hasOwner := by decide +kernel
  args := fun a b c => by unfold argsOk; kernel_rfl
  passes := fun self => by kernel_rfl
section
variable {prog : Program} {w : World} {A : Around} {E : Value → Shared → Prop} {s : Shared} {f d : Addr} {o od : Obj} {name : Str} {v : Value}
theorem truthy_fn {M : Model} {Q : Bool → Shared → Prop} (hf : s.heap.get? f = some o) (hc : o.cls = .type "function") (h : Q true s) : wpAny M A (truthy (.ref f)) Q E s := by
  have hT : s.TypeIs (.ref f) "function" := ⟨_, hf, hc⟩
  unfold truthy
  refine wpAny_bind (m := callSpecial? (.ref f) (Str.ofString "__bool__")) (wpAny_bind (wpAny_specialOf hT lk_bool (wpAny_pure ?_)))
  refine wpAny_bind (wpAny_specialOf hT lk_len ?_)
  exact wpAny_pure h
theorem get_fn {Q : Fin → Shared → Prop} {tk : Tok} {fd : FuncData} (hf : s.heap.get? f = some o) (hc : o.cls = .type "function") (hdat : o.data = .func fd) (hd : o.dict = some d) (hod : s.heap.get? d = some od) (hl : PySem.nsLook name od = pure (some v)) (hmiss : typeLookup (.type "function") name = pure none)
    (h : Q (.done (.ret v)) s) : wpAny (model prog w) A (Builtin.«object.__getattribute__» ⟨[.ref f, .str name tk], []⟩) Q E s := by
  have hT : s.TypeIs (.ref f) "function" := ⟨_, hf, hc⟩
  obtain ⟨oc, odi, oda, osl⟩ := o
  simp only at hc hd hdat
  subst hc hd hdat
  obtain ⟨hp, g, dd, tk, os⟩ := s
  unfold Builtin.«object.__getattribute__»
  repeat (any_goals (first | assumption | wp_step))
theorem method_own {Q : Value × List Value → Shared → Prop} {fd : FuncData} {pl : Sem Bool} {x : Addr} (hf : s.heap.get? f = some o) (hc : o.cls = .type "function") (hdat : o.data = .func fd) (hd : o.dict = some d) (hod : s.heap.get? d = some od) (hl : PySem.nsLook name od = pure (some (.ref x))) (hmiss : typeLookup (.type "function") name = pure none)
    (h : Q (.ref x, []) { s with toks := s.toks + 1 }) : wpAny (model prog w) A (getMethod (.ref f) name pl) Q E s := by
  have hg : ∀ (A : Around) (Q : Fin → Shared → Prop) (E : Value → Shared → Prop) (tk : Tok), Q (.done (.ret (.ref x))) { s with toks := s.toks + 1 } → wpAny (model prog w) A (Builtin.«object.__getattribute__» ⟨[.ref f, .str name tk], []⟩) Q E { s with toks := s.toks + 1 } :=
    fun A Q E tk hQ => get_fn (s := { s with toks := s.toks + 1 }) hf hc hdat hd hod hl hmiss hQ
  have hT : ∀ tk, ({ s with toks := tk } : Shared).TypeIs (.ref f) "function" := fun _ => ⟨_, hf, hc⟩
  have hT0 : s.TypeIs (.ref f) "function" := ⟨_, hf, hc⟩
  obtain ⟨oc, odi, oda, osl⟩ := o
  simp only at hc hd hdat
  subst hc hd hdat
  obtain ⟨hp, g, dd, tk, os⟩ := s
  have f1 := lk_ga
  have f2 := lk_hook
  have f3 := slot_ga.bind (.ref f)
  unfold getMethod
  repeat (any_goals (first | assumption | exact hT _ | ((with_reducible show wpAny _ _ (call (Value.builtin "object.__getattribute__") _ _) _ _ _); refine wpAny_call_entry slot_ga (hT _) entry_ga (hg _ _ _ _ ⟨_, rfl, ?_⟩) (args_ga _ _)) | wp_step))
theorem sa_fn {Q : Fin → Shared → Prop} {tk : Tok} {fd : FuncData} (hf : s.heap.get? f = some { cls := .type "function", data := .func fd }) (hmiss : typeLookup (.type "function") name = pure none)
    (h : ∀ hsh t, Q (.done (.ret .none)) { s with heap := ((s.heap.push { cls := .type "dict", data := .dict #[] }).update f fun o => { o with dict := some s.heap.objs.size }).update s.heap.objs.size (Obj.putName name hsh (.str name t) v), toks := s.toks + 1 }) :
    wpAny (model prog w) A (Builtin.«object.__setattr__» ⟨[.ref f, .str name tk, v], []⟩) Q E s := by
  have hT : s.TypeIs (.ref f) "function" := ⟨_, hf, rfl⟩
  have hne : f ≠ s.heap.objs.size := Nat.ne_of_lt (Heap.lt_size hf)
  obtain ⟨hp, g, dd, tk, os⟩ := s
  have f1 := store_fn.mro
  have f2 := store_fn.passes (.ref f)
  rw [osa_eq, refuse_eq]
  repeat (any_goals (first | assumption | wp_step))
  refine wpAny_askSetting ?_
  have hne' : f ≠ hp.objs.size := hne
  have hd : ((hp.push { cls := Value.type "dict", data := Data.dict #[] }).update f fun o => { cls := o.cls, dict := some hp.objs.size, data := o.data, slots := o.slots }).get? hp.objs.size = some { cls := Value.type "dict", data := Data.dict #[] } :=
    (Heap.get?_update_ne _ _ _ _ (Ne.symm hne')).trans (Heap.get?_push_size _ rfl)
  have hd' : ∀ hsh t, (((hp.push { cls := Value.type "dict", data := Data.dict #[] }).update f fun o => { cls := o.cls, dict := some hp.objs.size, data := o.data, slots := o.slots }).update hp.objs.size (Obj.putName name hsh (.str name t) v)).get? hp.objs.size = some (dictOf [⟨hsh, .str name t, v⟩] 1) :=
    fun hsh t => Heap.get?_update_self _ hd rfl
  refine wpAny_pure (wpAny_bind (wpAny_mkText (wpAny_bind (wpAny_loadPart hd ?_))))
  refine wpAny_updatePart hd ?_
  refine wpAny_bind (wpAny_lookBehind (hd' _ _) (pastItsLine_dict (by rw [List.size_toArray, sizeLine_eq]; simp)) ?_)
  exact wpAny_pure (h _ _)
end
section
variable {h₀ h h' : Heap} {L f d : Addr} {m : Str → Option Value} {news : List (Addr × Obj)} {o o' : Obj}
/-- one object of the ledger turns, all else stays -/
theorem led_upd (F : Fr h₀ L h m) (N : News h₀ L h news) (hm : (f, o) ∈ news) (K : ∀ b ob, b ≠ f → h.get? b = some ob → h'.get? b = some ob) (hf : h'.get? f = some o') :
    Fr h₀ L h' m ∧ News h₀ L h' ((f, o') :: news.filter (fun q => q.1 != f)) := by
  have hn := N _ hm
  refine ⟨⟨F.ns.at' fun o e => K _ _ (Ne.symm hn.2.1) e, fun b ob e => K b ob (fun q => by rw [q, hn.2.2] at e; cases e) (F.keep b ob e), F.above⟩, fun p hp => ?_⟩
  rcases List.mem_cons.mp hp with rfl | hp
  · exact ⟨hf, hn.2⟩
  · obtain ⟨h1, h2⟩ := List.mem_filter.mp hp
    exact ⟨K _ _ (by simpa using h2) (N p h1).1, (N p h1).2⟩
end
section
variable {prog : Program} {w : World} {A : Around} {E : Value → Shared → Prop} {s : Shared} {f : Addr} {name : Str} {v : Value} {h₀ : Heap} {L : Addr} {m : Str → Option Value} {news : List (Addr × Obj)}
theorem set_fn {Q : Unit → Shared → Prop} {fd : FuncData} (F : Fr h₀ L s.heap m) (N : News h₀ L s.heap news) (hm : (f, ({ cls := .type "function", data := .func fd } : Obj)) ∈ news) (hmiss : typeLookup (.type "function") name = pure none)
    (h : ∀ d hsh t h' tk, Fr h₀ L h' m → News h₀ L h' ((d, dictOf [⟨hsh, .str name t, v⟩] 1) :: (f, { cls := .type "function", dict := some d, data := .func fd }) :: news.filter (fun q => q.1 != f)) → (∀ q ∈ news, q.1 < d) → Q () { s with heap := h', toks := tk }) :
    wpAny (model prog w) A (setAttr (.ref f) name v) Q E s := by
  have hf := (N _ hm).1
  have hT : ∀ tk, ({ s with toks := tk } : Shared).TypeIs (.ref f) "function" := fun _ => ⟨_, hf, rfl⟩
  have hlt := Heap.lt_size hf
  unfold setAttr callSpecial?
  refine wpAny_bind (wpAny_mkText (wpAny_bind (wpAny_bind (wpAny_specialOf (hT _) store_fn.slot.lookup (wpAny_holding ?_)))))
  rw [store_fn.slot.bind]
  refine wpAny_bind (wpAny_pure (wpAny_bind ?_))
  refine wpAny_call_entry store_fn.slot (hT _) store_fn.entry (sa_fn (s := { s with toks := s.toks + 1 }) hf hmiss fun hsh t => ⟨_, rfl, wpAny_pure (wpAny_pure ?_)⟩) (store_fn.args _ _ _)
  have g1 : ∀ b ob, b ≠ f → s.heap.get? b = some ob → (((s.heap.push { cls := .type "dict", data := .dict #[] }).update f fun o => { o with dict := some s.heap.objs.size }).update s.heap.objs.size (Obj.putName name hsh (.str name t) v)).get? b = some ob := fun b ob hb e =>
    (Heap.get?_update_ne _ _ _ _ (Nat.ne_of_lt (Heap.lt_size e))).trans ((Heap.get?_update_ne _ _ _ _ hb).trans (Heap.get?_push_of_some _ e))
  have g2 : (((s.heap.push { cls := .type "dict", data := .dict #[] }).update f fun o => { o with dict := some s.heap.objs.size }).update s.heap.objs.size (Obj.putName name hsh (.str name t) v)).get? f = some { cls := .type "function", dict := some s.heap.objs.size, data := .func fd } :=
    (Heap.get?_update_ne _ _ _ _ (Nat.ne_of_lt hlt)).trans (Heap.get?_update_self _ (Heap.get?_push_of_some _ hf) rfl)
  have g3 : (((s.heap.push { cls := .type "dict", data := .dict #[] }).update f fun o => { o with dict := some s.heap.objs.size }).update s.heap.objs.size (Obj.putName name hsh (.str name t) v)).get? s.heap.objs.size = some (dictOf [⟨hsh, .str name t, v⟩] 1) :=
    Heap.get?_update_self _ ((Heap.get?_update_ne _ _ _ _ (Ne.symm (Nat.ne_of_lt hlt))).trans (Heap.get?_push_size _ rfl)) rfl
  obtain ⟨F', N'⟩ := led_upd F N hm g1 g2
  refine h s.heap.objs.size hsh t _ _ F' (fun p hp => ?_) fun q hq => Heap.lt_size (N q hq).1
  rcases List.mem_cons.mp hp with rfl | hp
  · exact ⟨g3, Ne.symm (Nat.ne_of_lt F.ns.lt), next_is_new F⟩
  · exact N' p hp
end
end Mine
end
section
open PySem PySem.W PyProof.Rows PySem.Calls PySem.Spec
set_option maxRecDepth 100000
namespace Mine
/-! functions made in a body, their code objects kept with their own tables -/
/-- a code object of that name, with its table at P -/
def CodeObj (oc : Obj) (P : Addr) (qual : Str) : Prop :=
  ∃ vs file tf flags tg inF text tt t, oc.cls = .type "code" ∧ oc.data = .fields vs ∧ vs[11]? = some (.ref P) ∧ vs.getD 11 .none = .ref P ∧ vs.getD 18 .none = .str file tf ∧
    vs.getD 7 .none = .int flags tg ∧ vs.getD 9 .none = .bool inF ∧ vs.getD 10 .none = .int text tt ∧ vs[1]? = some (.str qual t)
theorem CodeObj.hd {h : Heap} {c P : Addr} {oc : Obj} {q : Str} (x : CodeObj oc P q) (e : h.get? c = some oc) (hn : c ≠ P) : CodeHd h c P :=
  let ⟨vs, file, tf, flags, tg, inF, text, tt, _, a1, a2, a3, a4, a5, a6, a7, a8, _⟩ := x; ⟨oc, vs, file, tf, flags, tg, inF, text, tt, e, a1, a2, a3, a4, a5, a6, a7, a8, hn⟩
theorem CodeObj.rcd {h : Heap} {c P : Addr} {oc : Obj} {q : Str} (x : CodeObj oc P q) (e : h.get? c = some oc) : h.CodeRec (.ref c) q :=
  let ⟨vs, _, _, _, _, _, _, _, t, _, a2, _, _, _, _, _, _, a9⟩ := x; ⟨c, oc, vs, t, rfl, e, a2, a9⟩
/-- a code object with its table and its name, seen as one -/
theorem codeObj_of {h : Heap} {c P : Addr} {q : Str} (hc : h.IsCode c P #[]) (ht : h.TableAt c P #[]) (hr : h.CodeRec (.ref c) q) : ∃ oc, h.get? c = some oc ∧ CodeObj oc P q ∧ c ≠ P := by
  obtain ⟨oc, vs, file, tf, flags, tg, inF, text, tt, at1, cls, dat, p1, p2, p3, p4, p5, p6, off⟩ := CodeHd.of hc ht
  obtain ⟨_, ob, us, t, same, at2, dat2, nm⟩ := hr
  injection same with same
  subst same
  obtain rfl : oc = ob := Option.some.inj (at1.symm.trans at2)
  obtain rfl : vs = us := Data.fields.inj (dat.symm.trans dat2)
  exact ⟨oc, at1, ⟨vs, file, tf, flags, tg, inF, text, tt, t, cls, dat, p1, p2, p3, p4, p5, p6, nm⟩, off⟩
/-- a heap at which functions of the top can be made: its globals and its built-ins' module, both apart from the table P -/
structure Shop (h : Heap) (mg : Str → Option Value) (P : Addr) : Prop where
  glob : h.Ns mainGlobals mg
  off : mainGlobals ≠ P
  blt : h.BuiltinsAt mg P
theorem Shop.ext {h h' : Heap} {mg : Str → Option Value} {P : Addr} (x : Shop h mg P) (k : Heap.ExtBut P h h') : Shop h' mg P where
  glob := x.glob.extBut k x.off
  off := x.off
  blt := by
    obtain ⟨bm, ob, q1, q2, q3, q4, q5, q6⟩ := x.blt
    exact ⟨bm, ob, q1, q2, q3, q4, k _ _ q4 q5, q6⟩
/-- what stood stands, and the heap is no smaller -/
structure Grows (h h' : Heap) : Prop where
  old : ∀ b o, h.get? b = some o → h'.get? b = some o
  size : h.objs.size ≤ h'.objs.size
/-- a new code c' with an empty table P' of its own, entered into the table P -/
structure Made (h h' : Heap) (P : Addr) (row : Array Value) (qual : Str) (c' P' : Addr) : Prop where
  ext : Heap.ExtBut P h h'
  cnew : h.objs.size ≤ c'
  pnew : h.objs.size ≤ P'
  obj : ∃ oc, h'.get? c' = some oc ∧ CodeObj oc P' qual ∧ c' ≠ P'
  tab : h'.get? P' = some (tabObj #[])
  row : h'.get? P = some (tabObj row)
theorem Made.from {h g h' : Heap} {P c' P' : Addr} {row : Array Value} {qual : Str} (x : Made g h' P row qual c' P') (k : Grows h g) : Made h h' P row qual c' P' :=
  { x with ext := fun b o hb e => x.ext b o hb (k.old b o e), cnew := Nat.le_trans k.size x.cnew, pnew := Nat.le_trans k.size x.pnew }
section
variable {M : Model} {A : Around} {E : Value → Shared → Prop} {s : Shared} {mg : Str → Option Value} {P : Addr}
/-- the closure's tuple, made or not, and what follows -/
theorem tuple_step {b : Bool} {items : List Value} {k : Value → Sem Value} {Q : Value → Shared → Prop} (h : ∀ v g, Grows s.heap g → wpAny M A (k v) Q E { s with heap := g }) : wpAny M A (if b = true then pure .none >>= k else newTextTuple items >>= k) Q E s := by
  cases b with
  | true => exact wpAny_bind (wpAny_pure (h _ s.heap ⟨fun _ _ e => e, Nat.le_refl _⟩))
  | false => exact wpAny_bind (wpAny_newTextTuple (h _ _ ⟨fun _ _ e => Heap.get?_push_of_some _ e, by rw [Heap.size_push]; exact Nat.le_succ _⟩))
/-- a function's text, if it has one, and what follows -/
theorem doc_step {body : FuncBody} {k : Value → Sem Value} {Q : Value → Shared → Prop} (h : ∀ v tk, wpAny M A (k v) Q E { s with toks := tk }) : wpAny M A (match body with
    | .stmts b => (match docOf b with | some t => mkText t | none => pure .none) >>= k
    | .expr _ => pure .none >>= k) Q E s := by
  rcases body with b | e
  · dsimp only
    refine wpAny_bind ?_
    split
    · exact wpAny_mkText (h _ _)
    · exact wpAny_pure (h _ s.toks)
  · exact wpAny_bind (wpAny_pure (h _ s.toks))
theorem code_step {name qual : Str} {params : Arguments} {body : FuncBody} {scope : Scope} {env : Env} {c : Addr} {ps : Array Value} {pos : Pos} {line : Nat} {Q : Value → Shared → Prop} (S : Shop s.heap mg P) (hcode : env.code = .ref c) (C : CodeHd s.heap c P) (hP : s.heap.get? P = some (tabObj ps)) (ht : TriplesOk ps.toList) (hnf : codeAmong pos ps.toList = none)
    (h : ∀ c' P' h' tk, Made s.heap h' P (ps ++ #[rawInt pos.line, rawInt pos.col, .ref c']) qual c' P' → Shop h' mg P → Q (.ref c') { s with heap := h', toks := tk }) :
    wpAny M A (functionCode env pos line name qual params scope body) Q E s :=
  wpAny_functionCodeX hcode (C.code hP ht) (C.tab hP) hnf fun c' h' tk ext cnew _ _ rec tab own =>
    let ⟨P', pnew, isC, isT⟩ := own
    h c' P' h' tk ⟨ext, cnew, pnew, codeObj_of isC isT rec, isT.2, tab.2⟩ (S.ext ext)
theorem tail_new {name qual : Str} {params : Arguments} {body : FuncBody} {scope : Scope} {env : Env} {c : Addr} {ps : Array Value} {pos : Pos} {line : Nat} {clos : List (Str × Addr)} {dV : Value} {Q : Value → Shared → Prop}
    (S : Shop s.heap mg P) (hcl : closureFor scope env = pure clos) (hge : env.globals = mainGlobals) (hcode : env.code = .ref c) (C : CodeHd s.heap c P) (hP : s.heap.get? P = some (tabObj ps)) (ht : TriplesOk ps.toList) (hnf : codeAmong pos ps.toList = none)
    (h : ∀ c' P' ctv doc h' tk, Made s.heap h' P (ps ++ #[rawInt pos.line, rawInt pos.col, .ref c']) qual c' P' → Q (.ref h'.objs.size) { s with heap := h'.push (kdv_obj name qual params body scope clos dV doc ((mg "__name__").getD .none) c' ctv), toks := tk }) :
    wpAny M A (makeTail name qual params body scope env dV .none none pos line) Q E s := by
  unfold makeTail
  rw [hcl, hge]
  refine wpAny_bind (wpAny_pure (tuple_step fun ctv g k => ?_))
  have S' := S.ext (P := P) fun b o _ e => k.old b o e
  refine wpAny_bind (code_step (s := { s with heap := g }) S' hcode (C.keeps k.old) (k.old _ _ hP) ht hnf fun c' P' h' tk made S2 => ?_)
  obtain ⟨bm, ob, q1, q2, _, _, q5, q6, q7, q8⟩ := S2.blt
  refine wpAny_bind (wpAny_builtinsFor S2.glob q1 q2 q5 q6 q7 q8 (wpAny_bind (wpAny_nsGet S2.glob (doc_step fun doc tk' => ?_))))
  exact wpAny_newObj_type (h c' P' ctv doc h' tk' (made.from k)) (by size_fits)
end
section
variable {M : Model} {A : Around} {E : Value → Shared → Prop} {s : Shared} {h₀ : Heap} {L a c P : Addr} {m mg mb : Str → Option Value} {cn : Str} {cs : Scope} {ccd : Value} {cl : List (Str × Addr)} {news : List (Addr × Obj)}
  {p : Program} {loose : List Str} {mean : ExcName → Option Value} {name qual : Str} {params : Arguments} {body : FuncBody} {scope : Scope} {ps : Array Value} {pos : Pos} {firstLine : Nat} {clos : List (Str × Addr)}
/-- whatever stood ahead of the call is apart from what the call has made -/
theorem made_off {b q : Addr} {o o' : Obj} {h : Heap} (N : News h₀ L h news) (hm : (q, o') ∈ news) (e : h₀.get? b = some o) : b ≠ q := by
  rintro rfl
  exact nomatch (N.fresh hm).symm.trans e
theorem shop_of {o : Obj} (F : Fr h₀ L s.heap m) (N : News h₀ L s.heap news) (T : Top p loose mean mg mb h₀) (hm : (P, o) ∈ news) : Shop s.heap mg P := by
  obtain ⟨bm, ob, B⟩ := bmod_of_top T
  obtain ⟨_, e1, e2, e3, e4, e5, e6⟩ := B
  obtain ⟨og, es, n, g1, g2, g3⟩ := T.g
  refine ⟨T.g.keeps F.keep, made_off N hm g1, bm, ob, e1, e2, ?_, made_off N hm e3, F.keep _ _ e3, e4, e5, e6⟩
  rintro rfl
  obtain rfl : og = ob := Option.some.inj (g1.symm.trans e3)
  exact nomatch g2.symm.trans e6
/-- one more object, that was not there ahead of the step -/
theorem led_fresh {b : Addr} {o : Obj} {h' : Heap} {led : List (Addr × Obj)} (F : Fr h₀ L s.heap m) (N : News h₀ L h' led) (hb : s.heap.objs.size ≤ b) (e : h'.get? b = some o) : News h₀ L h' ((b, o) :: led) := by
  have hL : L < b := Nat.lt_of_lt_of_le F.ns.lt hb
  exact List.forall_mem_cons.mpr ⟨⟨e, Nat.ne_of_gt hL, Heap.get?_none_of_le (Nat.le_trans F.above (Nat.le_of_lt hL))⟩, N⟩
theorem led_under {b : Addr} (N : News h₀ L s.heap news) (hb : s.heap.objs.size ≤ b) : ∀ q ∈ news, q.1 < b := fun _ hq => Nat.lt_of_lt_of_le (Heap.lt_size (N _ hq).1) hb
theorem nest_new {dV : Value} {Q : Value → Shared → Prop} (F : Fr h₀ L s.heap m) (N : News h₀ L s.heap news) (T : Top p loose mean mg mb h₀) (C : CodeHd s.heap c P) (hcd : ccd = .ref c) (hmem : (P, tabObj ps) ∈ news) (ht : TriplesOk ps.toList) (hnf : codeAmong pos ps.toList = none)
    (hcl : closureFor scope (envX cn cs L a ccd cl) = pure clos)
    (h : ∀ f c' P' oc ctv doc h' tk, Fr h₀ L h' m →
      News h₀ L h' ((f, kdv_obj name qual params body scope clos dV doc ((mg "__name__").getD .none) c' ctv) :: (c', oc) :: (P', tabObj #[]) :: (P, tabObj (ps ++ #[rawInt pos.line, rawInt pos.col, .ref c'])) :: news.filter (fun q => q.1 != P)) →
      CodeObj oc P' qual → c' ≠ P' → (∀ q ∈ news, q.1 < c') → (∀ q ∈ news, q.1 < P') → c' < f → P' < f → Q (.ref f) { s with heap := h', toks := tk }) :
    wpAny M A (makeTail name qual params body scope (envX cn cs L a ccd cl) dV .none none pos firstLine) Q E s :=
  tail_new (shop_of F N T hmem) hcl rfl hcd C (N.get hmem) ht hnf fun c' P' ctv doc h' tk x => by
    obtain ⟨oc, atc, isc, off⟩ := x.obj
    obtain ⟨F', N'⟩ := led_upd F N hmem x.ext x.row
    exact h _ c' P' oc ctv doc _ tk (F'.push _) (News.push F' (led_fresh F (led_fresh F N' x.pnew x.tab) x.cnew atc) _) isc off (led_under N x.cnew) (led_under N x.pnew) (Heap.lt_size atc) (Heap.lt_size x.tab)
theorem filter_upd {P : Addr} {o : Obj} {news : List (Addr × Obj)} {g : Obj → List (Addr × Obj)} {o' : Obj} (U : UpdF P o news g) : ∀ q ∈ g o', q ∈ (P, o') :: news.filter (fun q => q.1 != P) := by
  obtain ⟨pre, post, rfl, hg, h1, h2⟩ := U.split
  intro q hq
  rw [hg] at hq
  rcases List.mem_append.mp hq with hq | hq
  · exact .tail _ (List.mem_filter.mpr ⟨List.mem_append_left _ hq, by simpa using h1 q hq⟩)
  · rcases List.mem_cons.mp hq with rfl | hq
    · exact .head _
    · exact .tail _ (List.mem_filter.mpr ⟨List.mem_append_right _ (.tail _ hq), by simpa using h2 q hq⟩)
theorem upd_mem {P : Addr} {o : Obj} {news : List (Addr × Obj)} {g : Obj → List (Addr × Obj)} (U : UpdF P o news g) : (P, o) ∈ news := by
  obtain ⟨pre, post, rfl, _⟩ := U.split
  exact List.mem_append_right _ (.head _)
theorem nest_newU {dV : Value} {g : Obj → List (Addr × Obj)} {Q : Value → Shared → Prop} (F : Fr h₀ L s.heap m) (N : News h₀ L s.heap news) (T : Top p loose mean mg mb h₀) (C : CodeHd s.heap c P) (hcd : ccd = .ref c) (U : UpdF P (tabObj ps) news g) (ht : TriplesOk ps.toList) (hnf : codeAmong pos ps.toList = none)
    (hcl : closureFor scope (envX cn cs L a ccd cl) = pure clos)
    (h : ∀ f c' P' oc ctv doc h' tk, Fr h₀ L h' m →
      News h₀ L h' ((f, kdv_obj name qual params body scope clos dV doc ((mg "__name__").getD .none) c' ctv) :: (c', oc) :: (P', tabObj #[]) :: g (tabObj (ps ++ #[rawInt pos.line, rawInt pos.col, .ref c']))) →
      CodeObj oc P' qual → c' ≠ P' → AllLt c' news → AllLt P' news → c' < f → P' < f → Q (.ref f) { s with heap := h', toks := tk }) :
    wpAny M A (makeTail name qual params body scope (envX cn cs L a ccd cl) dV .none none pos firstLine) Q E s := by
  refine nest_new F N T C hcd (upd_mem U) ht hnf hcl fun f c' P' oc ctv doc h' tk F' N' a1 a2 a3 a4 a5 a6 => h f c' P' oc ctv doc h' tk F' (fun q hq => ?_) a1 a2 (allLt_of a3) (allLt_of a4) a5 a6
  rcases List.mem_cons.mp hq with rfl | hq
  · exact N' _ (.head _)
  · rcases List.mem_cons.mp hq with rfl | hq
    · exact N' _ (.tail _ (.head _))
    · rcases List.mem_cons.mp hq with rfl | hq
      · exact N' _ (.tail _ (.tail _ (.head _)))
      · exact N' _ (.tail _ (.tail _ (.tail _ (filter_upd U q hq))))
theorem set_fnU {prog : Program} {w : World} {f : Addr} {name : Str} {v : Value} {Q : Unit → Shared → Prop} {fd : FuncData} {g : Obj → List (Addr × Obj)} (F : Fr h₀ L s.heap m) (N : News h₀ L s.heap news) (U : UpdF f ({ cls := .type "function", data := .func fd } : Obj) news g) (hmiss : typeLookup (.type "function") name = pure none)
    (h : ∀ d hsh t h' tk, Fr h₀ L h' m → News h₀ L h' ((d, dictOf [⟨hsh, .str name t, v⟩] 1) :: g { cls := .type "function", dict := some d, data := .func fd }) → AllLt d news → Q () { s with heap := h', toks := tk }) :
    wpAny (model prog w) A (setAttr (.ref f) name v) Q E s := by
  refine set_fn F N (upd_mem U) hmiss fun d hsh t h' tk F' N' l => h d hsh t h' tk F' (fun q hq => ?_) (allLt_of l)
  rcases List.mem_cons.mp hq with rfl | hq
  · exact N' _ (.head _)
  · exact N' _ (.tail _ (filter_upd U q hq))
theorem nest_old {dV : Value} {Q : Value → Shared → Prop} {c' : Addr} (F : Fr h₀ L s.heap m) (N : News h₀ L s.heap news) (T : Top p loose mean mg mb h₀) (C : CodeHd s.heap c P) (hcd : ccd = .ref c) (hmem : (P, tabObj ps) ∈ news) (ht : TriplesOk ps.toList) (hf : codeAmong pos ps.toList = some (.ref c'))
    (hcl : closureFor scope (envX cn cs L a ccd cl) = pure clos)
    (h : ∀ f ctv doc h' tk, Fr h₀ L h' m → News h₀ L h' ((f, kdv_obj name qual params body scope clos dV doc ((mg "__name__").getD .none) c' ctv) :: news) → AllLt f news → Q (.ref f) { s with heap := h', toks := tk }) :
    wpAny M A (makeTail name qual params body scope (envX cn cs L a ccd cl) dV .none none pos firstLine) Q E s :=
  have S := shop_of F N T hmem
  kdv_makeTailHit hcl rfl S.glob hcd C (N.get hmem) ht hf S.blt fun ctv doc h' tk old more =>
    h _ ctv doc _ tk ((F.kept old).push _) (News.push (F.kept old) (N.keepsAll old) _) (allLt_of (led_under N more))
theorem lam_tail {Q : Value → Shared → Prop} {env : Env} {body : Expr} (hdef : defaultsOf params env = ([], [])) (h : wpAny M A (makeTail "<lambda>" (env.qual ++ "<lambda>") params (.expr body) scope env .none .none none pos pos.line) Q E s) :
    wpAny M A (eval (.Lambda params body scope pos) env) Q E s := by
  refine kla_eval hdef ?_
  rw [makeFunction_eq]
  simp only [List.zip_nil_right, List.filterMap_nil, List.isEmpty_nil, if_true, pure_bind]
  exact h
end
end Mine
end
section
open PySem PySem.W PyProof.Rows PySem.Calls PySem.Spec
set_option maxRecDepth 100000
namespace Mine
/-! a loop over a range whose target is a cell -/
def LoopC (prog : Program) (w : World) (A : Around) (env : Env) (target : PySem.Expr) (body : List Stmt) (Q : Flow → Shared → Prop) (E : Value → Shared → Prop) (it : Value) (s₂ : Shared) : Prop :=
  codeAny (model prog w) A (.forLoop target it body [] env) (fun r s' => match r with | .ok f => Q f s' | .error e => cameBackBy (model prog w) A env E e s') s₂
def CrEnd (h₀ : Heap) (L : Addr) (stored : List Str) (m₀ : Str → Option Value) (kc : Addr) (need : List (Addr × Obj)) (P : Prop) (s₁ s₂ : Shared) : Prop :=
  ∃ h' tk m' led o v, s₂ = { s₁ with heap := h', toks := tk } ∧ Fr h₀ L h' m' ∧ (∀ z, stored.contains z = false → m' z = m₀ z) ∧ News h₀ L h' led ∧ (kc, o) ∈ led ∧ o.data = .cell v ∧ (∀ q ∈ need, q ∈ led) ∧ P
def CrPost (h₀ : Heap) (L : Addr) (stored : List Str) (m₀ : Str → Option Value) (kc : Addr) (need : List (Addr × Obj)) (P : Prop) (s₁ : Shared) (Q : Flow → Shared → Prop) (f : Flow) (s₂ : Shared) : Prop :=
  match f with
  | .ret v => Q (.ret v) s₂
  | .brk => Q .next s₂
  | _ => CrEnd h₀ L stored m₀ kc need P s₁ s₂
theorem crEnd {h₀ h' : Heap} {L : Addr} {stored : List Str} {m₀ m' : Str → Option Value} {kc : Addr} {need led : List (Addr × Obj)} {P : Prop} {s₁ : Shared} {tk : Nat} {o : Obj} {v : Option Value} (F : Fr h₀ L h' m') (hz : ∀ z, stored.contains z = false → m' z = m₀ z) (N : News h₀ L h' led) (hc : (kc, o) ∈ led) (hd : o.data = .cell v)
    (hn : ∀ q ∈ need, q ∈ led) (hP : P) : CrEnd h₀ L stored m₀ kc need P s₁ { s₁ with heap := h', toks := tk } := ⟨h', tk, m', led, o, v, rfl, F, hz, N, hc, hd, hn, hP⟩
section
variable {prog : Program} {w : World} {A : Around} {E : Value → Shared → Prop} {s : Shared} {env : Env} {h₀ : Heap} {x : Str} {px : Pos} {body : List Stmt} {Q : Flow → Shared → Prop}
theorem for_c {target iter : PySem.Expr} {pos : Pos}
    (h : wpAny (model prog w) A (eval iter env) (fun xv s₁ => wpAny (model prog w) A (pyIter xv) (fun it s₂ => LoopC prog w A env target body Q E it s₂) E s₁) E s)
    (hs : ∀ x, foldedSetIterable iter env x = pure x) :
    wpAny (model prog w) A (exec (.For target iter body [] pos) env) Q E s := wpAny_For h hs
theorem cell_range {r kc : Addr} {a₀ b₀ : Int} {t₀ u₀ v₀ : Tok} {n : Nat} {m₀ : Str → Option Value} {o₀ : Obj} {vk : Option Value} {led : List (Addr × Obj)} (stored : List Str) (P : Nat → Prop)
    (hh : A.handled = none) (hk : env.scope.kind = .function) (hx : env.kindOf x = some .cell) (hc : env.cells.lookup x = some kc)
    (hr : IsRange s.heap r a₀ b₀ 1 t₀ u₀ v₀) (hsmall : Builtin.Range.small a₀ b₀ 1 = true) (hn : Builtin.Range.rangeSize a₀ b₀ 1 = (n : Int))
    (F : Fr h₀ env.locals s.heap m₀) (N : News h₀ env.locals s.heap ((kc, o₀) :: led)) (ho : o₀.data = .cell vk) (hne : ∀ q ∈ led, q.1 ≠ kc) (hp : P 0)
    (turn : ∀ (i : Nat) (t : Tok) (u : Str → Option Value) h tk o own, i < n → P i → o.data = .cell (some (.int (a₀ + (i : Int)) t)) → (∀ q ∈ own, kc < q.1) → Fr h₀ env.locals h (fun z => if stored.contains z then u z else m₀ z) → News h₀ env.locals h ((kc, o) :: (led ++ own)) →
      wpAny (model prog w) A (execs body env) (CrPost h₀ env.locals stored m₀ kc (led ++ own) (P (i + 1)) { s with heap := h, toks := tk } Q) E { s with heap := h, toks := tk })
    (done : ∀ (u : Str → Option Value) h tk o v, P n → o.data = .cell v → Fr h₀ env.locals h (fun z => if stored.contains z then u z else m₀ z) → News h₀ env.locals h ((kc, o) :: led) → Q .next { s with heap := h, toks := tk })
    (hE : PassesOwn (model prog w) A env E := by passes_own) :
    wpAny (model prog w) A (pyIter (.ref r)) (fun it s₂ => LoopC prog w A env (.Name x px) body Q E it s₂) E s := by
  refine wpAny_pyIter_range hr hsmall ?_
  have W : Walks prog w A s.heap.objs.size [s.heap.objs.size] [s.heap.objs.size] n (fun i v => i < n ∧ ∃ t, v = .int (a₀ + i * 1) t)
      (fun i h => IsRangeIter h s.heap.objs.size (a₀ + (i : Nat) * 1) ((n : Int) - (i : Nat)) 1) := (Walks.range hh _ a₀ 1 n).bound
  generalize hI : s.heap.objs.size = I at W ⊢
  have hkI : kc < I := hI ▸ Heap.lt_size (N _ (.head _)).1
  have hLI : env.locals < I := hI ▸ F.ns.lt
  have hI0 : h₀.get? I = none := hI ▸ next_is_new F
  have hst : IsRangeIter (s.heap.push { cls := .type "range_iterator", data := .fields #[rawInt a₀, rawInt (Builtin.Range.rangeSize a₀ b₀ 1), rawInt 1] }) I (a₀ + (0 : Nat) * 1) ((n : Int) - (0 : Nat)) 1 := by
    show Heap.get? _ _ = _
    rw [hn, ← hI]; simpa using Heap.get?_push_size _ rfl
  unfold LoopC
  have hagree : ∀ {m' : Str → Option Value}, (∀ z, stored.contains z = false → m' z = m₀ z) → (fun z => if stored.contains z then m' z else m₀ z) = m' := fun {m'} hz => by
    funext z
    cases h3 : stored.contains z with
    | true => simp
    | false => simp only [Bool.false_eq_true, if_false]; exact (hz z h3).symm
  refine codeAny_forLoop (fun k s' => ∃ i h' tk m' o v, s' = { s with heap := h', toks := tk } ∧ i ≤ n ∧ k = n + 1 - i ∧ IsRangeIter h' I (a₀ + (i : Nat) * 1) ((n : Int) - (i : Nat)) 1 ∧ Fr h₀ env.locals h' m' ∧ (∀ z, stored.contains z = false → m' z = m₀ z) ∧
      News h₀ env.locals h' ((kc, o) :: led) ∧ o.data = .cell v ∧ P i) ?_ (n + 1)
    ⟨0, _, s.toks, m₀, o₀, vk, rfl, Nat.zero_le _, rfl, hst, F.push _, fun _ _ => rfl, fun p hp => ⟨Heap.get?_push_of_some _ (N p hp).1, (N p hp).2⟩, ho, hp⟩
  rintro k s' ⟨i, h', tk, m', o, v, rfl, hi, rfl, hst', F', hz', N', hd', hP'⟩
  have hnw : ∀ p ∈ (kc, o) :: led, p.1 ∉ [I] := fun p hp hI' => by
    have e1 := List.mem_singleton.mp hI'
    rcases List.mem_cons.mp hp with rfl | hp
    · exact absurd hkI (e1 ▸ Nat.lt_irrefl _)
    · exact absurd (Heap.lt_size (N p (.tail _ hp)).1) (by rw [e1, hI]; exact Nat.lt_irrefl _)
  have next : ∀ h₁ : Heap, (∀ b ob, b ∉ [I] → h'.get? b = some ob → h₁.get? b = some ob) → Fr h₀ env.locals h₁ m' ∧ News h₀ env.locals h₁ ((kc, o) :: led) := fun h₁ hk₁ =>
    ⟨⟨F'.ns.at' fun ob e => hk₁ _ ob (fun q => absurd hLI (List.mem_singleton.mp q ▸ Nat.lt_irrefl _)) e, fun b ob e => hk₁ b ob (fun q => by rw [List.mem_singleton.mp q, hI0] at e; cases e) (F'.keep b ob e), F'.above⟩, fun p hp => ⟨hk₁ _ _ (hnw p hp) (N' p hp).1, (N' p hp).2⟩⟩
  by_cases hlt : i < n
  · refine W.item i _ _ _ hlt hst' fun v₁ h₁ tk₁ hPv hst₁ hk₁ => ?_
    obtain ⟨_, t, rfl⟩ := hPv
    obtain ⟨F₁, N₁⟩ := next h₁ hk₁
    have hmc := N₁ (kc, o) (.head _)
    refine wpAny_assign_Name (wpAny_storeName_cell hk hx hc ⟨o, hmc.1, hd'⟩ fun h₂ hv₂ hs₂ => ?_)
    obtain ⟨o₂, ho₂, hd₂⟩ := hv₂
    have hkeep : ∀ b ob, b ≠ kc → h₁.get? b = some ob → h₂.get? b = some ob := fun b ob hb e => (hs₂.2 b hb).trans e
    obtain ⟨F₂, N₂⟩ := led_upd F₁ N₁ (.head _) hkeep ho₂
    have hst₂ : IsRangeIter h₂ I (a₀ + ((i + 1 : Nat) : Int) * 1) ((n : Int) - ((i + 1 : Nat) : Int)) 1 := hkeep _ _ (Ne.symm (Nat.ne_of_lt hkI)) hst₁
    have N₃ : News h₀ env.locals h₂ ((kc, o₂) :: (led ++ [(I, { cls := .type "range_iterator", data := .fields #[rawInt (a₀ + ((i + 1 : Nat) : Int) * 1), rawInt ((n : Int) - ((i + 1 : Nat) : Int)), rawInt 1] })])) := fun p hp => by
      rcases List.mem_cons.mp hp with rfl | hp
      · exact N₂ _ (.head _)
      · rcases List.mem_append.mp hp with hp | hp
        · exact N₂ p (.tail _ (List.mem_filter.mpr ⟨.tail _ hp, by simpa using hne p hp⟩))
        · rw [List.mem_singleton.mp hp]
          exact ⟨hst₂, Ne.symm (Nat.ne_of_lt hLI), hI0⟩
    rw [← hagree hz'] at F₂
    rw [show a₀ + (i : Int) * 1 = a₀ + (i : Int) by omega] at hd₂
    refine wpAny_passesOwn hE (wpAny_mono (turn i t m' h₂ tk₁ o₂ _ hlt hP' hd₂ (fun q hq => by rw [List.mem_singleton.mp hq]; exact hkI) F₂ N₃) (fun f s₃ h₃ => ?_) fun _ _ e => e)
    have fin : CrEnd h₀ env.locals stored m₀ kc (led ++ [(I, { cls := .type "range_iterator", data := .fields #[rawInt (a₀ + ((i + 1 : Nat) : Int) * 1), rawInt ((n : Int) - ((i + 1 : Nat) : Int)), rawInt 1] })]) (P (i + 1)) { s with heap := h₂, toks := tk₁ } s₃ →
        ∃ mm, mm < n + 1 - i ∧ ∃ i h' tk m' o v, s₃ = { s with heap := h', toks := tk } ∧ i ≤ n ∧ mm = n + 1 - i ∧ IsRangeIter h' I (a₀ + (i : Nat) * 1) ((n : Int) - (i : Nat)) 1 ∧ Fr h₀ env.locals h' m' ∧ (∀ z, stored.contains z = false → m' z = m₀ z) ∧
          News h₀ env.locals h' ((kc, o) :: led) ∧ o.data = .cell v ∧ P i := by
      rintro ⟨h₃', tk₃, m₃, led₃, o₃, v₃, rfl, F₃, hz₃, N₄, hc₃, hd₃, hn₃, hP₃⟩
      refine ⟨n + 1 - (i + 1), by omega, i + 1, h₃', tk₃, m₃, o₃, v₃, rfl, hlt, rfl, (N₄ _ (hn₃ _ (List.mem_append_right _ (.head _)))).1, F₃, hz₃, fun p hp => ?_, hd₃, hP₃⟩
      rcases List.mem_cons.mp hp with rfl | hp
      · exact N₄ _ hc₃
      · exact N₄ _ (hn₃ _ (List.mem_append_left _ hp))
    cases f with
    | ret v => exact h₃
    | brk => exact h₃
    | next => exact fin h₃
    | cont => exact fin h₃
  · have hin : i = n := by omega
    subst hin
    refine W.done _ _ _ hst' fun h₁ tk₁ hk₁ => wpAny_execs_nil ?_
    obtain ⟨F₁, N₁⟩ := next h₁ hk₁
    rw [← hagree hz'] at F₁
    exact done m' h₁ tk₁ o v hP' hd' F₁ N₁
end
end Mine
end
section
open PySem PySem.W PyProof.Rows PySem.Calls
set_option maxRecDepth 100000
namespace Mine
/-- the same, whatever the ledger becomes; the code of _law_prog and its table are known -/
def Gives (w : World) (f : Addr) (k : Nat) (vs : List Value) (news : List (Addr × Obj)) (Out : Value → List (Addr × Obj) → Prop) : Prop :=
  ∀ (loose : List Str) (mean : ExcName → Option Value) (mg mb : Str → Option Value) (dp un : Nat) (gd : Option (List Code)) (cn : Str) (cs : Scope) (a : Addr) (ccd : Value) (cl : List (Str × Addr)) (outer : List Env) (A₀ : Around) (base h₀ : Heap) (L : Addr) (m : Str → Option Value) (s : Shared) (Q E : Value → Shared → Prop),
    CodeHd base 69 65 → Below A₀ base outer h₀ → Fr h₀ L s.heap m → (Mine.hd.heap_39 w.params).In h₀ → News h₀ L s.heap news → Top topProg loose mean mg mb h₀ → cs.kind = .function → dp + k < recursionLimit → un + 200 * k < cLine →
    (∀ r led h' tk', Fr h₀ L h' m → News h₀ L h' led → Out r led → Q r { s with heap := h', toks := tk' }) →
    wpAny (model PySem.Challenge.rw_mr0025_01.prog w) (ktrTop dp un gd cn cs L a ccd cl outer) (call (.ref f) vs) Q E s
theorem Gives.use {w : World} {f : Addr} {k : Nat} {vs : List Value} {news : List (Addr × Obj)} {loose : List Str} {mean : ExcName → Option Value} {mg mb : Str → Option Value} {dp un : Nat} {gd : Option (List Code)} {cn : Str} {cs : Scope} {a : Addr} {ccd : Value} {cl : List (Str × Addr)} {outer : List Env} {A₀ : Around} {base h₀ : Heap} {L : Addr} {m : Str → Option Value} {s : Shared} {Q E : Value → Shared → Prop}
    {Out : Value → List (Addr × Obj) → Prop} (C : Gives w f k vs news Out) (D : CodeHd base 69 65) (B : Below A₀ base outer h₀) (F : Fr h₀ L s.heap m) (X : (Mine.hd.heap_39 w.params).In h₀) (N : News h₀ L s.heap news) (T : Top topProg loose mean mg mb h₀) (hk : cs.kind = .function) (hd : dp + k < recursionLimit) (hu : un + 200 * k < cLine)
    (ret : ∀ r led h' tk', Fr h₀ L h' m → News h₀ L h' led → Out r led → Q r { s with heap := h', toks := tk' }) :
    wpAny (model PySem.Challenge.rw_mr0025_01.prog w) (ktrTop dp un gd cn cs L a ccd cl outer) (call (.ref f) vs) Q E s := C _ _ _ _ _ _ _ _ _ _ _ _ _ _ _ _ _ _ _ _ _ D B F X N T hk hd hu ret
/-- the sign at a place -/
def cd (x : Str) (k : Nat) : Nat := x.cps.toList.getD k 0
/-- a pair stands at k -/
def PairAt (x : Str) (k : Nat) : Prop := k + 1 < x.length ∧ pairb (cd x k) (cd x (k + 1)) = true
/-- what a call of the span of a hit at i gives, wherever these objects stand -/
def SpanC (w : World) (f : Addr) (objs : List (Addr × Obj)) (i : Nat) : Prop :=
  ∀ news, (∀ p ∈ objs, p ∈ news) → Makes w f 3 [] news (fun v tl => ∃ t t1 t2, v = .ref t ∧ tl = [(t, { cls := .type "tuple", data := .seq #[.int (i : Int) t1, .int ((i : Int) + 2) t2] })])
/-- v is a hit at i -/
def HitOk (w : World) (led : List (Addr × Obj)) (v : Value) (i : Nat) : Prop :=
  ∃ hit d fd f hsh t fe objs, v = .ref hit ∧ (hit, ({ cls := .type "function", dict := some d, data := .func fd } : Obj)) ∈ led ∧ (d, dictOf [⟨hsh, .str (Str.ofString "span") t, .ref f⟩] 1) ∈ led ∧ (f, ({ cls := .type "function", data := .func fe } : Obj)) ∈ led ∧ (∀ p ∈ objs, p ∈ led) ∧ SpanC w f objs i
theorem HitOk.mono {w : World} {led led' : List (Addr × Obj)} {v : Value} {i : Nat} (h : HitOk w led v i) (hs : ∀ p ∈ led, p ∈ led') : HitOk w led' v i :=
  let ⟨hit, d, fd, f, hsh, t, fe, objs, a1, a2, a3, a6, a4, a5⟩ := h; ⟨hit, d, fd, f, hsh, t, fe, objs, a1, hs _ a2, hs _ a3, hs _ a6, fun p hp => hs _ (a4 p hp), a5⟩
def lamQ : Str := Str.ofString "_law_prog.<locals>.search.<locals>.<lambda>"
/-- the table of search's code: empty, or with the codes of its two lambdas -/
def TabOk (ps : Array Value) (led : List (Addr × Obj)) : Prop :=
  ps = #[] ∨ ∃ c1 o1 P1 c2 o2 P2, ps = #[rawInt 51, rawInt 22, .ref c1, rawInt 52, rawInt 27, .ref c2] ∧ (c1, o1) ∈ led ∧ CodeObj o1 P1 lamQ ∧ (c2, o2) ∈ led ∧ CodeObj o2 P2 lamQ
theorem TabOk.mono {ps : Array Value} {led led' : List (Addr × Obj)} (h : TabOk ps led) (hs : ∀ p ∈ led, p ∈ led') : TabOk ps led' := by
  rcases h with h | ⟨c1, o1, P1, c2, o2, P2, a1, a2, a3, a4, a5⟩
  · exact .inl h
  · exact .inr ⟨c1, o1, P1, c2, o2, P2, a1, hs _ a2, a3, hs _ a4, a5⟩
/-- the ledger of a call that may make hits: the table at P, the rest only grows -/
structure LedOk (P : Addr) (rest : List (Addr × Obj)) (ps' : Array Value) (rest' : List (Addr × Obj)) : Prop where
  sub : ∀ q ∈ rest, q ∈ rest'
  ne : ∀ q ∈ rest', q.1 ≠ P
  tab : TabOk ps' rest'
theorem LedOk.trans {P : Addr} {r1 r2 r3 : List (Addr × Obj)} {p2 p3 : Array Value} (h : LedOk P r1 p2 r2) (h' : LedOk P r2 p3 r3) : LedOk P r1 p3 r3 := ⟨fun q hq => h'.sub q (h.sub q hq), h'.ne, h'.tab⟩
def SearchOut (w : World) (P : Addr) (rest : List (Addr × Obj)) (x : Str) (start : Nat) (v : Value) (led : List (Addr × Obj)) : Prop :=
  ∃ ps' rest', led = (P, tabObj ps') :: rest' ∧ LedOk P rest ps' rest' ∧
    (v = .none ∧ (∀ k, start ≤ k → ¬ PairAt x k) ∨ ∃ i, start ≤ i ∧ PairAt x i ∧ (∀ k, start ≤ k → k < i → ¬ PairAt x k) ∧ HitOk w rest' v i)
/-- what a call of search gives, wherever these objects stand -/
def SearchC (w : World) (f P : Addr) (objs : List (Addr × Obj)) : Prop :=
  ∀ (x : Str) (tx : Tok) (args : List Value) (start : Nat) (ps : Array Value) (rest : List (Addr × Obj)),
    (args = [.str x tx] ∧ start = 0 ∨ ∃ ts, args = [.str x tx, .int (start : Int) ts]) → x.length ≤ 300 → start ≤ 300 → (∀ p ∈ objs, p ∈ rest) → (∀ q ∈ rest, q.1 ≠ P) → TabOk ps rest →
    Gives w f 10 args ((P, tabObj ps) :: rest) (SearchOut w P rest x start)
def ProgOk (w : World) (P : Addr) (led : List (Addr × Obj)) (v : Value) : Prop :=
  ∃ pr d fd f hsh t fe objs, v = .ref pr ∧ (pr, ({ cls := .type "function", dict := some d, data := .func fd } : Obj)) ∈ led ∧ (d, dictOf [⟨hsh, .str (Str.ofString "search") t, .ref f⟩] 1) ∈ led ∧ (f, ({ cls := .type "function", data := .func fe } : Obj)) ∈ led ∧ (∀ p ∈ objs, p ∈ led) ∧ SearchC w f P objs
theorem ProgOk.mono {w : World} {P : Addr} {led led' : List (Addr × Obj)} {v : Value} (h : ProgOk w P led v) (hs : ∀ p ∈ led, p ∈ led') : ProgOk w P led' v :=
  let ⟨hit, d, fd, f, hsh, t, fe, objs, a1, a2, a3, a6, a4, a5⟩ := h; ⟨hit, d, fd, f, hsh, t, fe, objs, a1, hs _ a2, hs _ a3, hs _ a6, fun p hp => hs _ (a4 p hp), a5⟩
theorem look_span (h : Int) (t : Tok) (v : Value) : PySem.nsLook (Str.ofString "span") (dictOf [⟨h, .str (Str.ofString "span") t, v⟩] 1) = pure (some v) := by kernel_rfl
theorem look_search (h : Int) (t : Tok) (v : Value) : PySem.nsLook (Str.ofString "search") (dictOf [⟨h, .str (Str.ofString "search") t, v⟩] 1) = pure (some v) := by kernel_rfl
theorem cd_item {x : Str} {i : Int} (h0 : 0 ≤ i) (h1 : i < x.length) : Txt.item x i = ⟨#[cd x i.toNat]⟩ := by
  have e : Txt.charAt x i = some (cd x i.toNat) := by
    have h2 : i.toNat < x.cps.size := by simp only [Str.length] at h1; omega
    have e1 : seqIndex? i x.length = some i.toNat := by
      have a : (if i < 0 then i + x.length else i) = i := if_neg (by omega)
      unfold seqIndex?
      simp only [a, show decide (0 ≤ i) = true from decide_eq_true h0, show decide (i < (x.length : Int)) = true from decide_eq_true h1, Bool.and_self, if_true]
    unfold Txt.charAt cd
    rw [e1, List.getD_eq_getElem?_getD, Array.getElem?_toList]
    simp [h2]
  unfold Txt.item
  rw [e]
  rfl
theorem sub_at {prog : Program} {w : World} {A : Around} {E : Value → Shared → Prop} {s : Shared} {value slice : PySem.Expr} {x : Str} {t u : Tok} {i : Int} {Q : Value → Shared → Prop} (h0 : 0 ≤ i) (h1 : i < x.length) (hn : x.length ≤ 16777216) (h : Q (.str ⟨#[cd x i.toNat]⟩ s.toks) { s with toks := s.toks + 1 })
    (hs : subscripted slice false (.str x t) (.int i u) = operate [.str x t, .int i u] (getItem (.str x t) (.int i u)) := by with_unfolding_all rfl)
    (ht : ∀ r, letTemporaryGo value (.str x t) r = pure () := by intro _; with_unfolding_all rfl) :
    wpAny (model prog w) A (subscriptTail value slice (.str x t) (.int i u)) Q E s :=
  KXi.item rfl (by omega) h1 hn (fun _ => by rw [cd_item h0 h1]; exact h) hs ht
end Mine
end
section
open PySem PySem.W PyProof.Rows PySem.Calls
set_option maxRecDepth 100000
set_option maxHeartbeats 8000000
namespace Mine
local macro_rules | `(tactic| k_room) => `(tactic| ktr_room)
local macro_rules | `(tactic| k_units) => `(tactic| ktr_units)
local macro_rules | `(tactic| ke_room) => `(tactic| ktr_units)
local macro_rules | `(tactic| walk_at "eval Name") => `(tactic| (k_here; k_dflt ((show wpAny _ _ (eval (PySem.Expr.Name (Str.ofString "k") _) (envX _ { kind := ScopeKind.function, names := [(Str.ofString "k", NameKind.free)], isGenerator := false, isCoroutine := false } _ _ _ _)) _ _ _); refine' nameX_F ?N ?c ?m ?d ?_ ?a ?b; (case N => k_asm); (case c => rfl); (case m => assumption); (case d => assumption); (case a => rfl); (case b => rfl))))
theorem span_ok {w : World} {f c kc P : Addr} {i : Nat} {t : Tok} {qual : Str} {doc pm ctv : Value} {oc o : Obj} {p1 p2 p3 p4 p5 : Pos} (hco : CodeObj oc P qual) (hd : o.data = .cell (some (.int (i : Int) t))) :
    SpanC w f [(f, kdv_obj (Str.ofString "<lambda>") qual { posonlyargs := [], args := [], vararg := none, kwonlyargs := [], kw_defaults := [], kwarg := none, defaults := [] }
      (.expr (.Tuple [.Name (Str.ofString "k") p1, .BinOp (.Name (Str.ofString "k") p2) .Add (.Constant (.int 2) 0 p3) p4] 0 p5)) { kind := .function, names := [(Str.ofString "k", .free)], isGenerator := false, isCoroutine := false } [(Str.ofString "k", kc)] .none doc pm c ctv), (c, oc), (kc, o)] i := by
  unfold SpanC
  intro news hsub
  unfold Makes
  k_fill
  intro loose mean mg mb dp un gd cn cs a ccd cl outer A₀ base h₀ L m sh Q E B F X N T hk hdp hu hret
  w_on
  k_with_none
  have mSp := hsub _ (.head _)
  have mCd := hsub _ (.tail _ (.head _))
  have mK := hsub _ (.tail _ (.tail _ (.head _)))
  have hcr := hco.rcd (N _ mCd).1
  clear hsub hco mCd
  refine wpAny_call ?_
  k_dflt (refine' kdv_codeE B F X N T rfl rfl hk mSp hcr ?kr (BindsTo.of_eq rfl) (fun _ h => nomatch h) ?_ rfl rfl rfl ?hc; (case kr => ktr_room); (case hc => decide))
  intro g3 L3 h3 FG3 F3 N3 B3 X3 T3
  clear mSp hcr
  (try dsimp only)
  (try k_lift B3)
  (try k_fold)
  w_strict (k_steps)
  refine hret _ _ _ _ (by assumption) (made_one (by assumption) (fun _ h => h)) (ord_one (allLt_of (by assumption))) ⟨_, _, _, rfl, rfl⟩
end Mine
end
section
open PySem PySem.W PyProof.Rows PySem.Calls
set_option maxRecDepth 100000
set_option maxHeartbeats 8000000
namespace Mine
local macro_rules | `(tactic| k_room) => `(tactic| ktr_room)
local macro_rules | `(tactic| k_units) => `(tactic| ktr_units)
local macro_rules | `(tactic| ke_room) => `(tactic| ktr_units)
theorem led_pick {h₀ h : Heap} {L : Addr} {a b c d e f g i j : Addr × Obj} {l : List (Addr × Obj)} (N : News h₀ L h (a :: b :: c :: d :: e :: f :: g :: i :: j :: l)) : News h₀ L h (g :: a :: b :: c :: e :: f :: i :: j :: l) := fun p hp => N p (by
  simp only [List.mem_cons] at hp ⊢
  rcases hp with h | h | h | h | h | h | h | h | h <;> simp [h])
theorem pick3 {a b c : Addr × Obj} {l : List (Addr × Obj)} (h1 : a ∈ l) (h2 : b ∈ l) (h3 : c ∈ l) : ∀ p ∈ [a, b, c], p ∈ l := List.forall_mem_cons.mpr ⟨h1, List.forall_mem_cons.mpr ⟨h2, List.forall_mem_cons.mpr ⟨h3, fun _ h => nomatch h⟩⟩⟩
theorem bind_search {h₀ : Heap} {L fS T₀ : Addr} {s : Shared} {news : List (Addr × Obj)} {name qual : Str} {p1 p2 : Pos} {e : PySem.Expr} {body : FuncBody} {scope : Scope} {clos : List (Str × Addr)} {doc pm ctv : Value} {c' : Addr} {t0 tx : Tok} {x : Str} {args : List Value} {start : Nat}
    (N : News h₀ L s.heap news)
    (_hS : (fS, kdv_obj name qual { posonlyargs := [], args := [{ arg := "chars", annotation := none, pos := p1 }, { arg := "start", annotation := none, pos := p2 }], vararg := none, kwonlyargs := [], kw_defaults := [], kwarg := none, defaults := [e] } body scope clos (.ref T₀) doc pm c' ctv) ∈ news)
    (hT : (T₀, kdv_tup [.int 0 t0]) ∈ news) (hargs : args = [.str x tx] ∧ start = 0 ∨ ∃ ts, args = [.str x tx, .int (start : Int) ts]) :
    ∃ ts, BindsTo s (kdv_fn name qual { posonlyargs := [], args := [{ arg := "chars", annotation := none, pos := p1 }, { arg := "start", annotation := none, pos := p2 }], vararg := none, kwonlyargs := [], kw_defaults := [], kwarg := none, defaults := [e] } body scope clos (.ref T₀) doc pm (.ref c') ctv) ⟨args, []⟩
      [(Str.ofString "chars", .str x tx), (Str.ofString "start", .int (start : Int) ts)] := by
  rcases hargs with ⟨rfl, rfl⟩ | ⟨ts, rfl⟩
  · exact ⟨t0, kdv_binds N hT rfl rfl rfl⟩
  · exact ⟨ts, kdv_binds N hT rfl rfl rfl⟩
theorem ne_kc {P L : Addr} {ps : Array Value} {rest : List (Addr × Obj)} (h : P < L) (h' : ∀ q ∈ rest, q.1 < L) : ∀ q ∈ (P, tabObj ps) :: rest, q.1 ≠ L + 1 :=
  List.forall_mem_cons.mpr ⟨Nat.ne_of_lt (Nat.lt_succ_of_lt h), fun q hq => Nat.ne_of_lt (Nat.lt_succ_of_lt (h' q hq))⟩
theorem ne_app {P L : Addr} {rest own : List (Addr × Obj)} (h : ∀ q ∈ rest, q.1 ≠ P) (h1 : P < L) (h2 : ∀ q ∈ own, L + 1 < q.1) : ∀ q ∈ rest ++ own, q.1 ≠ P := fun q hq => (List.mem_append.mp hq).elim (h q) fun hq => Nat.ne_of_gt (Nat.lt_trans (Nat.lt_succ_of_lt h1) (h2 q hq))
theorem led_new {h₀ h : Heap} {L : Addr} {a b c d e f g i j k : Addr × Obj} {r o : List (Addr × Obj)} (N : News h₀ L h (a :: b :: c :: d :: e :: f :: g :: i :: j :: k :: (r ++ o))) : News h₀ L h (k :: a :: b :: c :: e :: f :: j :: r) := fun p hp => N p (by
  simp only [List.mem_cons, List.mem_append] at hp ⊢
  rcases hp with h | h | h | h | h | h | h | h <;> simp [h])
theorem led_old {h₀ h : Heap} {L : Addr} {a b e i j k : Addr × Obj} {r o : List (Addr × Obj)} (N : News h₀ L h (a :: b :: e :: i :: j :: k :: (r ++ o))) : News h₀ L h (k :: a :: b :: e :: j :: r) := fun p hp => N p (by
  simp only [List.mem_cons, List.mem_append] at hp ⊢
  rcases hp with h | h | h | h | h | h <;> simp [h])
theorem CodeObj.cast {oc : Obj} {P : Addr} {q q' : Str} (h : CodeObj oc P q) (e : q = q') : CodeObj oc P q' := e ▸ h
theorem pair_of {a b : Nat} (h : (({ cps := #[a % 32] } : Str) == { cps := #[b % 32] }) = true) (h2 : isUp a = true ∧ isLow b = true ∨ isLow a = true ∧ isUp b = true) : pairb a b = true := by
  have e : a % 32 = b % 32 := by simpa using h
  rcases h2 with ⟨h1, h2⟩ | ⟨h1, h2⟩ <;> simp [pairb, e, h1, h2]
theorem ch_cd {x : Str} {k : Nat} {i : Int} (hi : i = (k : Int)) (h : k < x.length) : (Txt.charAt x i).getD 0 = cd x k := by
  have := cd_item (x := x) (i := i) (by omega) (by omega)
  unfold Txt.item at this
  have e := congrArg (fun s : Str => s.cps.toList) this
  simp only [List.cons.injEq, and_true] at e
  rw [e, hi, Int.toNat_natCast]
theorem pair_at {x : Str} {start kI : Nat} (h : kI < ((x.length : Int) - 1 - start).toNat) (hp : pairb ((Txt.charAt x ((start : Int) + (kI : Int))).getD 0) ((Txt.charAt x ((start : Int) + (kI : Int) + 1)).getD 0) = true) : PairAt x (start + kI) := by
  refine ⟨by omega, ?_⟩
  rw [ch_cd (k := start + kI) (by omega) (by omega), ch_cd (k := start + kI + 1) (by omega) (by omega)] at hp
  exact hp
theorem tab_eq {a b : Addr} : (#[] ++ #[rawInt ((51 : Nat) : Int), rawInt ((22 : Nat) : Int), Value.ref a] ++ #[rawInt ((52 : Nat) : Int), rawInt ((27 : Nat) : Int), Value.ref b] : Array Value) = #[rawInt 51, rawInt 22, .ref a, rawInt 52, rawInt 27, .ref b] := by simp
theorem np_ctrl {a b : Nat} (h : (({ cps := #[a % 32] } : Str) == { cps := #[b % 32] }) = false) : pairb a b = false := by
  have e : ¬ a % 32 = b % 32 := by simpa using h
  simp [pairb, e]
theorem np_case {a b : Nat} (h1 : isUp a = false ∨ isLow b = false) (h2 : isLow a = false ∨ isUp b = false) : pairb a b = false := by
  rcases h1 with h1 | h1 <;> rcases h2 with h2 | h2 <;> simp [pairb, h1, h2]
theorem no_more {x : Str} {start kI : Nat} (h : kI < ((x.length : Int) - 1 - start).toNat) (kP : ∀ k, start ≤ k → k < start + kI → ¬ PairAt x k) (hp : pairb ((Txt.charAt x ((start : Int) + (kI : Int))).getD 0) ((Txt.charAt x ((start : Int) + (kI : Int) + 1)).getD 0) = false) :
    ∀ k, start ≤ k → k < start + (kI + 1) → ¬ PairAt x k := by
  intro k h1 h2 hk
  by_cases h3 : k < start + kI
  · exact kP k h1 h3 hk
  · have e : k = start + kI := by omega
    subst e
    rw [ch_cd (k := start + kI) (by omega) (by omega), ch_cd (k := start + kI + 1) (by omega) (by omega), hk.2] at hp
    cases hp
theorem none_left {x : Str} {start : Nat} (kP : ∀ k, start ≤ k → k < start + ((x.length : Int) - 1 - start).toNat → ¬ PairAt x k) : ∀ k, start ≤ k → ¬ PairAt x k := fun k h1 hk => kP k h1 (by have := hk.1; omega) hk
def ProgOut (w : World) (news : List (Addr × Obj)) (v : Value) (led : List (Addr × Obj)) : Prop :=
  ∃ P ps65 rest, led = (P, tabObj #[]) :: rest ∧ (65, tabObj ps65) ∈ rest ∧ LedOk P news #[] rest ∧ ProgOk w P rest v
theorem prog_ok (w : World) (news : List (Addr × Obj)) (h65 : ∀ q ∈ news, q.1 ≠ 65) : Gives w 70 5 [] ((65, tabObj #[]) :: news) (ProgOut w news) := by
  unfold Gives
  k_fill
  intro loose mean mg mb dp un gd cn cs a ccd cl outer A₀ base h₀ L m sh Q E C B F X N T hk hd hu hret
  w_on
  k_with_none
  have C₀ : CodeHd h₀ 69 65 := C.keeps B.stays
  refine wpAny_call ?_
  k_dflt cell_enter
  k_with_none
  k_with "makeTail" => (k_here; (rename _ ∧ AllLt _ _ => lt0); k_dflt (refine' nest_newU ?F ?N ?T ?C ?cd ?U ?t ?n ?cl ?_; (case F => k_asm); (case N => k_asm); (case U => exact UpdF.tail (Nat.ne_of_gt lt0.1) (UpdF.head h65)); (case T => k_asm); (case cd => exact rfl); (case C => exact C₀.keeps (fun b o e => Fr.keep (by k_asm) b o (Fr.keep (by k_asm) b o e))); (case t => kn_triples); (case n => kn_among); (case cl => exact rfl); k_whole); intro fS cS PS oS ctS dS hS tkS FS NS coS neS lcS lPS lf1 lf2; dsimp only at NS)
  k_with "eval Lambda" => (k_here; (refine lam_tail rfl ?_); k_dflt (refine' nest_newU ?F ?N ?T ?C ?cd ?U ?t ?n ?cl ?_; (case F => k_asm); (case N => k_asm); (case U => exact UpdF.tail (Nat.ne_of_gt (Nat.lt_trans lcS.2.1 lf1)) (UpdF.tail (Nat.ne_of_gt lcS.2.1) (UpdF.tail (Nat.ne_of_gt lPS.2.1) (UpdF.tail (Nat.ne_of_gt lt0.1) (UpdF.head h65))))); (case T => k_asm); (case cd => exact rfl); (case C => exact C₀.keeps (fun b o e => Fr.keep (by k_asm) b o (Fr.keep (by k_asm) b o e))); (case t => kn_triples); (case n => kn_among); (case cl => exact rfl); k_whole); intro fP cP PP oP ctP dP hP tkP FP NP coP neP lcP lPP lg1 lg2; dsimp only at NP)
  k_with "setAttr ref" => (k_here; k_dflt (refine' set_fnU ?F ?N ?U lk_search ?_; (case F => k_asm); (case N => k_asm); (case U => exact UpdF.head (tbn_neAll (d := fP) ⟨lg1, lg2, tbn_up lg1 lcP⟩)); k_whole); intro dd hsh td hD tkD FD ND ld)
  w_strict (k_steps)
  refine hret _ _ _ _ (by assumption) (led_pick (by assumption)) ⟨PS, _, _, rfl, .tail _ (.tail _ (.tail _ (.tail _ (.tail _ (.tail _ (.head _)))))), ⟨fun q hq => .tail _ (.tail _ (.tail _ (.tail _ (.tail _ (.tail _ (.tail _ hq)))))), ?_, .inl rfl⟩,
    ⟨fP, dd, _, fS, hsh, td, _, [_, _, _], rfl, .tail _ (.head _), .head _, .tail _ (.tail _ (.tail _ (.head _))), pick3 (.tail _ (.tail _ (.tail _ (.head _)))) (.tail _ (.tail _ (.tail _ (.tail _ (.head _))))) (.tail _ (.tail _ (.tail _ (.tail _ (.tail _ (.head _)))))), ?_⟩⟩
  · have e1 : dd ≠ PS := Nat.ne_of_gt ld.2.2.2.2.2.1
    have e2 : fP ≠ PS := Nat.ne_of_gt (Nat.lt_trans lcP.2.2.1 lg1)
    exact List.forall_mem_cons.mpr ⟨e1, List.forall_mem_cons.mpr ⟨e2, List.forall_mem_cons.mpr ⟨Nat.ne_of_gt lcP.2.2.1, List.forall_mem_cons.mpr ⟨Nat.ne_of_gt lf2, List.forall_mem_cons.mpr ⟨neS, List.forall_mem_cons.mpr ⟨Nat.ne_of_lt lPS.1, List.forall_mem_cons.mpr ⟨Nat.ne_of_lt lPS.2.1, tbn_neAll lPS.2.2⟩⟩⟩⟩⟩⟩⟩
  · clear hret B F X N T C C₀ ld lcP lPP neP coP
    unfold SearchC
    intro x tx args start ps rest hargs hx hs hsub hne htab
    unfold Gives
    intro loose mean mg' mb dp un gd cn cs a ccd cl outer A₀ base h₀ L m sh Q E C B F X N T hk hd hu hret
    have mS := hsub _ (.head _)
    have mC := hsub _ (.tail _ (.head _))
    have mT := hsub _ (.tail _ (.tail _ (.head _)))
    obtain ⟨ts, hb⟩ := bind_search N (.tail _ mS) (.tail _ mT) hargs
    have hcr := coS.rcd (N _ (.tail _ mC)).1
    have hfo := (N _ (.tail _ mS)).1
    k_with_none
    refine wpAny_call ?_
    k_dflt (refine' callX_cells B F N T.nolimit rfl rfl hk hfo rfl hcr ?kr hb ?kB ?kD ?_ rfl rfl rfl; (case kr => ktr_room); (case kB => exact kindsX rfl); (case kD => decide +kernel))
    intro g' L' h' tk' cells' FG' F' N' Y' B' st' l1
    have X' := X.keeps st'
    have T' := T.keeps st'
    clear hfo hcr hb hargs hsub
    obtain ⟨oK, hE, dK⟩ := CellsAre.one Y'
    subst hE
    clear Y'
    (try simp only [List.cons_append, List.nil_append] at N')
    (try dsimp only)
    (try k_lift B')
    (try k_fold)
    have hPL : PS < L' := l1 _ (.head _)
    have hrL : ∀ q ∈ rest, q.1 < L' := fun q hq => l1 q (.tail _ hq)
    k_with "exec For Name Call cons nil" => (k_here; (with_unfolding_all refine' for_c ?_ ?hs; (case hs => exact fun _ => rfl)))
    k_with "pyIter ref" => (k_here; (rename IsRange _ _ _ _ _ _ _ _ => R'); (rename Fr _ _ _ _ => lF'); (rename News _ _ _ _ => lN'); (with_unfolding_all refine' cell_range (kc := L' + 1) (led := (PS, tabObj ps) :: rest) (n := ((x.length : Int) - 1 - start).toNat) [Str.ofString "one", Str.ofString "other", Str.ofString "hit"] (fun i => ∀ k, start ≤ k → k < start + i → ¬ PairAt x k) (by rfl) (by rfl) (by rfl) (by rfl) R' ?ks ?kz lF' lN' dK ?ke ?kp ?_ ?_); (case ks => exact small_one (by omega) (by omega) (by omega) (by omega)); (case kz => exact rangeSize_nat _ _); (case ke => exact ne_kc hPL hrL); (case kp => exact fun k h1 h2 => absurd h2 (by omega)); (clear lF' lN' R' dK); (all_goals first | (intro kI kT kU kH kTk kO kOwn kLt kP kD kOff kFr kNews; (simp only [List.cons_append] at kNews)) | (intro kU kH kTk kO kV kP kD kFr kNews)))
    k_with "subscriptTail" => (k_here; (with_reducible show wpAny _ _ (subscriptTail _ _ (Value.str _ _) (Value.int _ _)) _ _ _); (with_unfolding_all refine' sub_at ?k1 ?k2 ?k3 ?_ ?k5 ?k6; (case k1 => omega); (case k2 => omega); (case k3 => omega); (case k5 => rfl); (case k6 => exact fun _ => rfl)))
    k_with "call ref" => (k_dflt ((with_reducible show wpAny _ _ (call (Value.ref 49) _) _ _ _); (refine' Calls.use (ctrl_ok _ _ _ _) ?B ?F ?X ?N ?T ?hk ?hd ?hu ?_); (case B => k_asm); (case F => k_asm); (case X => k_asm); (case N => k_asm); (case T => k_asm); (case hk => rfl); (case hd => ktr_room); (case hu => ktr_units)); intro r9 h9 tk9 F9 N9 hO9; obtain ⟨t9, e9⟩ := hO9; subst e9; (try dsimp only); (try k_fold))
    k_with "call ref" => (k_dflt ((with_reducible show wpAny _ _ (call (Value.ref 42) _) _ _ _); (refine' Calls.use (up_ok _ _ _ _) ?B ?F ?X ?N ?T ?hk ?hd ?hu ?_); (case B => k_asm); (case F => k_asm); (case X => k_asm); (case N => k_asm); (case T => k_asm); (case hk => rfl); (case hd => ktr_room); (case hu => ktr_units)); intro r9 h9 tk9 F9 N9 hO9; subst hO9; (try dsimp only); (try k_fold))
    k_with "call ref" => (k_dflt ((with_reducible show wpAny _ _ (call (Value.ref 35) _) _ _ _); (refine' Calls.use (low_ok _ _ _ _) ?B ?F ?X ?N ?T ?hk ?hd ?hu ?_); (case B => k_asm); (case F => k_asm); (case X => k_asm); (case N => k_asm); (case T => k_asm); (case hk => rfl); (case hd => ktr_room); (case hu => ktr_units)); intro r9 h9 tk9 F9 N9 hO9; subst hO9; (try dsimp only); (try k_fold))
    k_with "eval Lambda" => (k_here; (rename _ ∧ _ ∧ AllLt _ (rest ++ kOwn) => lD); (have hR : ∀ q ∈ rest ++ kOwn, q.1 ≠ PS := ne_app hne hPL kOff); (have mC' : (cS, oS) ∈ (rest ++ kOwn) := List.mem_append_left _ mC); (refine lam_tail rfl ?_); ((rcases htab with e | ⟨c1, o1, P1, c2, o2, P2, e, m1, q1, m2, q2⟩) <;> subst e <;> first
      | (k_dflt (refine' nest_newU ?F ?N ?T ?C ?cd ?U ?t ?n ?cl ?_; (case F => k_asm); (case N => k_asm); (case T => k_asm); (case cd => exact rfl); (case U => exact UpdF.tail (Nat.ne_of_gt lD.2.1) (UpdF.tail (Nat.ne_of_gt (Nat.lt_succ_of_lt hPL)) (UpdF.head hR))); (case C => exact coS.hd (News.get (by k_asm) (.tail _ (.tail _ (.tail _ mC')))) neS); (case t => kn_triples); (case n => kn_among); (case cl => exact rfl); k_whole); intro hit cA PA oA ctA dA hA tkA FA NA coA neA lcA lPA lhA lhA'; dsimp only at NA)
      | (k_dflt (refine' nest_old (c' := c1) ?F ?N ?T ?C ?cd ?mem ?t ?n ?cl ?_; (case F => k_asm); (case N => k_asm); (case T => k_asm); (case cd => exact rfl); (case mem => exact .tail _ (.tail _ (.head _))); (case C => exact coS.hd (News.get (by k_asm) (.tail _ (.tail _ (.tail _ mC')))) neS); (case t => kn_triples); (case n => kn_hit); (case cl => exact rfl); k_whole); intro hit ctA dA hA tkA FA NA lA)))
    k_with "eval Lambda" => (k_here; (refine lam_tail rfl ?_); first
      | (k_dflt (refine' nest_newU ?F ?N ?T ?C ?cd ?U ?t ?n ?cl ?_; (case F => k_asm); (case N => k_asm); (case T => k_asm); (case cd => exact rfl); (case U => exact UpdF.tail (Nat.ne_of_gt (Nat.lt_trans lcA.2.2.1 lhA)) (UpdF.tail (Nat.ne_of_gt lcA.2.2.1) (UpdF.tail (Nat.ne_of_gt lPA.2.2.1) (UpdF.tail (Nat.ne_of_gt lD.2.1) (UpdF.tail (Nat.ne_of_gt (Nat.lt_succ_of_lt hPL)) (UpdF.head hR)))))); (case C => exact coS.hd (News.get (by k_asm) (.tail _ (.tail _ (.tail _ (.tail _ (.tail _ (.tail _ mC'))))))) neS); (case t => kn_triples); (case n => kn_among); (case cl => exact rfl); k_whole); intro sp cB PB oB ctB dB hB tkB FB NB coB neB lcB lPB lhB lhB'; dsimp only at NB)
      | (k_dflt (refine' nest_old (c' := c2) ?F ?N ?T ?C ?cd ?mem ?t ?n ?cl ?_; (case F => k_asm); (case N => k_asm); (case T => k_asm); (case cd => exact rfl); (case mem => exact .tail _ (.tail _ (.tail _ (.head _)))); (case C => exact coS.hd (News.get (by k_asm) (.tail _ (.tail _ (.tail _ (.tail _ mC'))))) neS); (case t => kn_triples); (case n => kn_hit); (case cl => exact rfl); k_whole); intro sp ctB dB hB tkB FB NB lB))
    k_with "setAttr ref" => (k_here; k_dflt (refine' set_fnU ?F ?N ?U lk_span ?_; (case F => k_asm); (case N => k_asm); (case U => first | exact UpdF.tail (Nat.ne_of_gt (Nat.lt_trans lcB.1 lhB)) (UpdF.tail (Nat.ne_of_gt lcB.1) (UpdF.tail (Nat.ne_of_gt lPB.1) (UpdF.head (tbn_neAll (d := hit) ⟨lhA, lhA', tbn_up lhA lcA⟩)))) | exact UpdF.tail (Nat.ne_of_gt lB.1) (UpdF.head (tbn_neAll lA))); k_whole); intro dd hsh td hD tkD FD ND ld)
    w_strict (k_steps)
    all_goals first
      | (refine hret _ _ _ _ (by assumption) (cb_drop (by assumption) (fun q hq => .tail _ hq)) ⟨ps, rest, rfl, ⟨fun _ h => h, hne, htab⟩, .inl ⟨rfl, none_left kP⟩⟩)
      | (dsimp only [CrPost]
         refine crEnd (by k_asm) ?_ (by k_asm) (.tail _ (.head _)) kD (fun q hq => .tail _ (.tail _ hq)) (no_more kLt kP (by first | exact np_ctrl (by assumption) | exact np_case (by first | exact .inl (by assumption) | exact .inr (by assumption)) (by first | exact .inl (by assumption) | exact .inr (by assumption))))
         intro z h3
         simp only [List.contains_cons, List.contains_nil, Bool.or_false, Bool.or_eq_false_iff, beq_eq_false_iff_ne, ne_eq] at h3
         simp [h3])
      | (dsimp only [CrPost]
         refine' leaveK_ ?k1 ?k2 ?_
         (case k1 => k_asm)
         (case k2 => k_asm)
         intro kF kN
         dsimp only
         have hpair : PairAt x (start + kI) := pair_at kLt (pair_of (by assumption) (by first | exact .inl ⟨by assumption, by assumption⟩ | exact .inr ⟨by assumption, by assumption⟩))
         refine hret _ _ _ _ kF (led_new kN) ⟨_, _, rfl, ⟨fun q hq => .tail _ (.tail _ (.tail _ (.tail _ (.tail _ (.tail _ hq))))), ?_, .inr ⟨cA, oA, PA, cB, oB, PB, tab_eq, .tail _ (.tail _ (.tail _ (.tail _ (.head _)))), coA.cast (by kernel_rfl), .tail _ (.tail _ (.head _)), coB.cast (by kernel_rfl)⟩⟩,
           .inr ⟨start + kI, Nat.le_add_right _ _, hpair, kP, ⟨hit, dd, _, sp, hsh, td, _, [_, _, _], rfl, .tail _ (.tail _ (.tail _ (.head _))), .head _, .tail _ (.head _), pick3 (.tail _ (.head _)) (.tail _ (.tail _ (.head _))) (.tail _ (.tail _ (.tail _ (.tail _ (.tail _ (.head _)))))), span_ok coB (kD.trans (by rw [Int.natCast_add]))⟩⟩⟩
         have e1 : PS < cB := lcB.2.2.2.2.2.1
         have e2 : PS < sp := Nat.lt_trans e1 lhB
         exact List.forall_mem_cons.mpr ⟨Nat.ne_of_gt (Nat.lt_trans e2 ld.1), List.forall_mem_cons.mpr ⟨Nat.ne_of_gt e2, List.forall_mem_cons.mpr ⟨Nat.ne_of_gt e1, List.forall_mem_cons.mpr ⟨Nat.ne_of_gt (Nat.lt_trans lcA.2.2.1 lhA), List.forall_mem_cons.mpr ⟨Nat.ne_of_gt lcA.2.2.1, List.forall_mem_cons.mpr ⟨Nat.ne_of_gt (Nat.lt_succ_of_lt hPL), hne⟩⟩⟩⟩⟩⟩)
      | (dsimp only [CrPost]
         refine' leaveK_ ?k1 ?k2 ?_
         (case k1 => k_asm)
         (case k2 => k_asm)
         intro kF kN
         dsimp only
         have hpair : PairAt x (start + kI) := pair_at kLt (pair_of (by assumption) (by first | exact .inl ⟨by assumption, by assumption⟩ | exact .inr ⟨by assumption, by assumption⟩))
         refine hret _ _ _ _ kF (led_old kN) ⟨_, _, rfl, ⟨fun q hq => .tail _ (.tail _ (.tail _ (.tail _ hq))), ?_, .inr ⟨c1, o1, P1, c2, o2, P2, rfl, .tail _ (.tail _ (.tail _ (.tail _ m1))), q1, .tail _ (.tail _ (.tail _ (.tail _ m2))), q2⟩⟩,
           .inr ⟨start + kI, Nat.le_add_right _ _, hpair, kP, ⟨hit, dd, _, sp, hsh, td, _, [_, (c2, o2), _], rfl, .tail _ (.tail _ (.head _)), .head _, .tail _ (.head _), pick3 (.tail _ (.head _)) (.tail _ (.tail _ (.tail _ (.tail _ m2)))) (.tail _ (.tail _ (.tail _ (.head _)))), span_ok (q2.cast (by kernel_rfl)) (kD.trans (by rw [Int.natCast_add]))⟩⟩⟩
         have e1 : PS < hit := lA.2.2.1
         have e2 : PS < sp := Nat.lt_trans e1 lB.1
         exact List.forall_mem_cons.mpr ⟨Nat.ne_of_gt (Nat.lt_trans e2 ld.1), List.forall_mem_cons.mpr ⟨Nat.ne_of_gt e2, List.forall_mem_cons.mpr ⟨Nat.ne_of_gt e1, List.forall_mem_cons.mpr ⟨Nat.ne_of_gt (Nat.lt_succ_of_lt hPL), hne⟩⟩⟩⟩)
end Mine
end
section
open PySem PySem.W PyProof.Rows PySem.Calls
set_option maxRecDepth 100000
set_option maxHeartbeats 8000000
namespace Mine
local macro_rules | `(tactic| k_room) => `(tactic| ktr_room)
local macro_rules | `(tactic| k_units) => `(tactic| ktr_units)
local macro_rules | `(tactic| ke_room) => `(tactic| ktr_units)
theorem HitOk.out {w : World} {led : List (Addr × Obj)} {v : Value} {i : Nat} (h : HitOk w led v i) : ∃ hit d fd f hsh t fe objs, v = .ref hit ∧ (hit, ({ cls := .type "function", dict := some d, data := .func fd } : Obj)) ∈ led ∧ (d, dictOf [⟨hsh, .str (Str.ofString "span") t, .ref f⟩] 1) ∈ led ∧ (f, ({ cls := .type "function", data := .func fe } : Obj)) ∈ led ∧ (∀ p ∈ objs, p ∈ led) ∧ SpanC w f objs i := h
theorem SearchOut.out {w : World} {P : Addr} {rest led : List (Addr × Obj)} {x : Str} {start : Nat} {v : Value} (h : SearchOut w P rest x start v led) : ∃ ps' rest', led = (P, tabObj ps') :: rest' ∧ LedOk P rest ps' rest' ∧
    (v = .none ∧ (∀ k, start ≤ k → ¬ PairAt x k) ∨ ∃ i, start ≤ i ∧ PairAt x i ∧ (∀ k, start ≤ k → k < i → ¬ PairAt x k) ∧ HitOk w rest' v i) := h
theorem pair_le {x : Str} {i n : Nat} (h : PairAt x i) (hx : x.length ≤ n) : i + 2 ≤ n := Nat.le_trans h.1 hx
def RevOut (w : World) (P : Addr) (rest : List (Addr × Obj)) (x : Str) (col : Nat) (v : Value) (led : List (Addr × Obj)) : Prop :=
  ∃ ps' rest', led = (P, tabObj ps') :: rest' ∧ LedOk P rest ps' rest' ∧ (v = .none ∧ (∀ k, PairAt x k → col < k + 2) ∨ ∃ i, i + 2 ≤ col ∧ PairAt x i ∧ HitOk w rest' v i)
structure RS where
  ps : Array Value
  rest : List (Addr × Obj)
  im : Nat
  m : Value
  found : Value
  ti : Tok
  tj : Tok
abbrev RSps (c : RS) : List (Str × Value) := [(Str.ofString "m", c.m), (Str.ofString "found", c.found), (Str.ofString "i", .int (c.im : Int) c.ti), (Str.ofString "j", .int ((c.im : Int) + 2) c.tj)]
structure RSP (w : World) (P : Addr) (rest₀ : List (Addr × Obj)) (x : Str) (col : Nat) (c : RS) : Prop where
  led : LedOk P rest₀ c.ps c.rest
  pair : PairAt x c.im
  hit : HitOk w c.rest c.m c.im
  found : c.found = .none ∧ (∀ k, PairAt x k → c.im ≤ k) ∨ ∃ i, i + 2 ≤ col ∧ PairAt x i ∧ HitOk w c.rest c.found i
theorem rsp_start {w : World} {P : Addr} {rest rest' : List (Addr × Obj)} {x : Str} {col i : Nat} {ps' : Array Value} {v : Value} {ti tj : Tok} (h1 : LedOk P rest ps' rest') (h2 : PairAt x i) (h3 : HitOk w rest' v i) (h4 : ∀ k, 0 ≤ k → k < i → ¬ PairAt x k) :
    RSP w P rest x col ⟨ps', rest', i, v, .none, ti, tj⟩ := ⟨h1, h2, h3, .inl ⟨rfl, fun k hk => Nat.le_of_not_lt fun h => h4 k (Nat.zero_le _) h hk⟩⟩
theorem rev_ok (w : World) (P : Addr) (ps : Array Value) (rest : List (Addr × Obj)) (vp : Value) (x : Str) (tx tc : Tok) (col : Nat) (hx : x.length ≤ 300) (hc : col ≤ 300) (hp : ProgOk w P rest vp) (hne : ∀ q ∈ rest, q.1 ≠ P) (ht : TabOk ps rest) :
    Gives w 21 20 [vp, .str x tx, .int (col : Int) tc] ((P, tabObj ps) :: rest) (RevOut w P rest x col) := by
  obtain ⟨pr, dp', fdp, fS, hsp, tsp, feS, objS, rfl, mp1, mp2, mp3, mp4, hSC⟩ := hp
  unfold Gives
  k_fill
  intro loose mean mg mb dp un gd cn cs a ccd cl outer A₀ base h₀ L m sh Q E C B F X N T hk hd hu hret
  w_on
  k_with_none
  refine wpAny_call ?_
  k_dflt cell_enter
  k_with "getMethod ref" => (k_here; k_dflt (refine' method_own ?g1 ?c1 ?c2 ?c3 ?g2 ?l1 ?l2 ?_; (case g1 => exact News.get (by k_asm) (by first | exact .tail _ (by assumption) | exact .tail _ (.tail _ (by assumption)) | exact .tail _ (.tail _ (.tail _ (by assumption))))); (case c1 => exact rfl); (case c2 => exact rfl); (case c3 => exact rfl); (case g2 => exact News.get (by k_asm) (by first | exact .tail _ (by assumption) | exact .tail _ (.tail _ (by assumption)) | exact .tail _ (.tail _ (.tail _ (by assumption))))); (case l1 => first | exact look_search _ _ _ | exact look_span _ _ _); (case l2 => first | exact lk_search | exact lk_span)))
  k_with "callWith ref" => (k_here; k_dflt (first
    | (refine' callWith_F ?k1 ?_; (case k1 => exact FnAt.of (by k_asm) (by first | exact .tail _ (by assumption) | exact .tail _ (.tail _ (by assumption)) | exact .tail _ (.tail _ (.tail _ (by assumption))))); k_whole)
    | (refine' callWith_F0 ?k1 ?_; (case k1 => exact FnAt.of (by k_asm) (by first | exact .tail _ (by assumption) | exact .tail _ (.tail _ (by assumption)) | exact .tail _ (.tail _ (.tail _ (by assumption))))); k_whole; try dsimp only [List.nil_append, List.cons_append])))
  k_with "FnAt" => (k_dflt (exact FnAt.of (by k_asm) (by first | exact .tail _ (by assumption) | exact .tail _ (.tail _ (by assumption)) | exact .tail _ (.tail _ (.tail _ (by assumption))))))
  k_with "truthy ref" => (k_here; k_dflt (refine' truthy_fn ?g1 ?c1 ?_; (case g1 => exact News.get (by k_asm) (by first | exact .tail _ (by assumption) | exact .tail _ (.tail _ (by assumption)) | exact .tail _ (.tail _ (.tail _ (by assumption))))); (case c1 => exact rfl)))
  k_with "call ref" => (k_dflt ((with_reducible show wpAny _ _ (call (Value.ref fS) _) _ _ _); (refine' Gives.use (hSC x tx _ 0 ps rest (.inl ⟨rfl, rfl⟩) hx (by omega) mp4 hne ht) C ?B ?F ?X ?N ?T ?hk ?hd ?hu ?_); (case B => k_asm); (case F => k_asm); (case X => k_asm); (case N => k_asm); (case T => k_asm); (case hk => rfl); (case hd => ktr_room); (case hu => ktr_units)); intro r9 led9 h9 tk9 F9 N9 hO9; (obtain ⟨ps9, rest9, e9, hl9, hc9⟩ := SearchOut.out hO9); subst e9; ((rcases hc9 with ⟨e9, hno9⟩ | ⟨i9, hi9, hp9, hb9, hit9⟩) <;> first | (subst e9) | (obtain ⟨hit, dh, fdh, fsp, hsh, th, feh, objh, e9, mh1, mh2, mh3, mh4, hSp⟩ := HitOk.out hit9; subst e9)); (all_goals ((have mq1 := hl9.sub _ mp1); (have mq2 := hl9.sub _ mp2); (have mq3 := hl9.sub _ mp3); (try dsimp only); (try k_fold))))
  k_with "call ref" => (k_dflt ((with_reducible show wpAny _ _ (call (Value.ref fS) _) _ _ _); (refine' Gives.use (hSC x tx _ (cim + 2) cps crest (.inr ⟨_, rfl⟩) hx cs2 mr4 kP.led.ne kP.led.tab) C ?B ?F ?X ?N ?T ?hk ?hd ?hu ?_); (case B => k_asm); (case F => k_asm); (case X => k_asm); (case N => k_asm); (case T => k_asm); (case hk => rfl); (case hd => ktr_room); (case hu => ktr_units)); intro r9 led9 h9 tk9 F9 N9 hO9; (obtain ⟨ps9, rest9, e9, hl9, hc9⟩ := SearchOut.out hO9); subst e9; ((rcases hc9 with ⟨e9, hno9⟩ | ⟨i9, hi9, hp9, hb9, hit9⟩) <;> first | (subst e9) | (obtain ⟨hit', dh', fdh', fsp, hsh', th', feh', objh', e9, mh1', mh2', mh3', mh4, hSp⟩ := HitOk.out hit9; subst e9)); (all_goals ((have mq1 := hl9.sub _ mr1); (have mq2 := hl9.sub _ mr2); (have mq3 := hl9.sub _ mr3); (try dsimp only); (try k_fold))))
  k_with "call ref" => (k_dflt ((with_reducible show wpAny _ _ (call (Value.ref fsp) _) _ _ _); (refine' Makes.use (hSp _ ?sub) ?B ?F ?X ?N ?T ?hk ?hd ?hu ?_); (case B => k_asm); (case F => k_asm); (case X => k_asm); (case N => k_asm); (case T => k_asm); (case hk => rfl); (case hd => ktr_room); (case hu => ktr_units); (case sub => exact fun p hp => .tail _ (mh4 p hp))); intro r9 tl9 h9 tk9 F9 N9 hlt9 hO9; (obtain ⟨tt, k1, k2, e9, e9'⟩ := hO9); subst e9 e9'; (simp only [List.cons_append, List.nil_append] at N9); (try dsimp only); (try k_fold))
  k_with "exec" => (k_here; (rename Fr _ _ _ _ => lF'); (rename News _ _ _ _ => lN'); (with_unfolding_all refine' ksw_while (σ := RS) (fun c => (P, tabObj c.ps) :: c.rest) RSps (fun _ => True) [] (RSP w P rest x col) (fun c => x.length - c.im) ⟨ps9, rest9, i9, .ref hit, .none, _, _⟩ lF' (cb_drop lN' (fun q hq => .tail _ hq)) True.intro ?kk ?kp ?_); (case kk => kst_all); (case kp => exact rsp_start hl9 hp9 hit9 hb9); (clear lF' lN' hit9 hb9 hp9 hi9 mh1 mh2 mh3 mh4 hSp mq1 mq2 mq3); (rintro ⟨cps, crest, cim, cm, cfound, cti, ctj⟩ kU kH kTk kFacts kP kFr kNews); (obtain ⟨hit, dh, fdh, fsp, hsh, th, feh, objh, e9, mh1, mh2, mh3, mh4, hSp⟩ := HitOk.out kP.hit); dsimp only at e9; subst e9; (have mr1 := kP.led.sub _ mp1); (have mr2 := kP.led.sub _ mp2); (have mr3 := kP.led.sub _ mp3); (have mr4 := fun p hp => kP.led.sub p (mp4 p hp)); (have cs2 : cim + 2 ≤ 300 := pair_le kP.pair hx); dsimp only [RSps, kstB] at kFr kNews mr1 mr2 mr3 mr4)
  w_strict (k_steps)
  · refine hret _ _ _ _ (by assumption) (by assumption) ⟨_, _, rfl, hl9, .inl ⟨rfl, fun k hk => absurd hk (hno9 k (Nat.zero_le _))⟩⟩
  · exfalso
    omega
  · refine hret _ _ _ _ (by assumption) (by assumption) ⟨_, _, rfl, kP.led.trans hl9, .inr ⟨cim, by omega, kP.pair, kP.hit.mono hl9.sub⟩⟩
  · (rename News _ _ _ _ => nE')
    have hq := hp9.1
    refine ksw_end ⟨ps9, rest9, i9, _, _, _, _⟩ (by assumption) nE' (fun p hp => .tail _ hp) True.intro (by kst_all) (by ksw_same) ⟨kP.led.trans hl9, hp9, hit9, .inr ⟨cim, by omega, kP.pair, kP.hit.mono hl9.sub⟩⟩ (show x.length - i9 < x.length - cim by omega)
  all_goals
    refine hret _ _ _ _ (by assumption) (by assumption) ⟨_, _, rfl, kP.led, ?_⟩
    rcases kP.found with ⟨e, h⟩ | ⟨i, h1, h2, h3⟩
    · exact .inl ⟨e, fun k hk => by have := h k hk; dsimp only at this; omega⟩
    · exact .inr ⟨i, h1, h2, h3⟩
end Mine
end
section
open PySem PySem.W PyProof.Rows PySem.Calls
set_option maxRecDepth 100000
set_option maxHeartbeats 8000000
namespace Mine
local macro_rules | `(tactic| k_room) => `(tactic| ktr_room)
local macro_rules | `(tactic| k_units) => `(tactic| ktr_units)
local macro_rules | `(tactic| ke_room) => `(tactic| ktr_units)
theorem slice_to {x : Str} {j : Int} (h0 : 0 ≤ j) (h1 : j ≤ x.length) : Txt.slice x none (some j) = ⟨(x.cps.toList.take j.toNat).toArray⟩ := by
  have := eq_of_beq (slice_closes_to (x := x) (j := j) ⟨h0, by rw [Array.length_toList]; exact h1⟩)
  simpa using this
theorem slice_from {x : Str} {i : Int} (h0 : 0 ≤ i) (h1 : i ≤ x.length) : Txt.slice x (some i) none = ⟨(x.cps.toList.drop i.toNat).toArray⟩ := by
  rw [slice_from_eq h0 h1 rfl]
  congr 2
  apply List.take_of_length_le
  simp only [List.length_drop, Array.length_toList, Str.length] at *
  omega
theorem split_at {l : List Nat} {i : Nat} (h : i + 1 < l.length) : l = l.take i ++ l.getD i 0 :: l.getD (i + 1) 0 :: l.drop (i + 2) := by
  have e1 : l.drop i = l.getD i 0 :: l.drop (i + 1) := by
    rw [List.getD_eq_getElem?_getD, List.getElem?_eq_getElem (by omega), Option.getD_some]
    exact List.drop_eq_getElem_cons (by omega)
  have e2 : l.drop (i + 1) = l.getD (i + 1) 0 :: l.drop (i + 2) := by
    rw [List.getD_eq_getElem?_getD, List.getElem?_eq_getElem (by omega), Option.getD_some]
    exact List.drop_eq_getElem_cons (by omega)
  rw [← e2, ← e1, List.take_append_drop]
theorem take_more (u v : List Nat) (k : Nat) : (u ++ v).take (u.length + k) = u ++ v.take k := by
  rw [List.take_append, List.take_of_length_le (Nat.le_add_right _ _), Nat.add_sub_cancel_left]
theorem drop_more (u v : List Nat) (k : Nat) : (u ++ v).drop (u.length + k) = v.drop k := by
  rw [List.drop_append, List.drop_of_length_le (Nat.le_add_right _ _), Nat.add_sub_cancel_left, List.nil_append]
theorem cut_eq {line : Str} {i : Nat} (h : i + 2 ≤ line.length) : (Txt.slice line none (some (i : Int)) ++ Txt.slice line (some ((i : Int) + 2)) none).cps.toList = line.cps.toList.take i ++ line.cps.toList.drop (i + 2) := by
  rw [slice_to (by omega) (by omega), slice_from (by omega) (by omega), Str.cps_append, Array.toList_append, Int.toNat_natCast, show ((i : Int) + 2).toNat = i + 2 by omega]
theorem cut_len {line : Str} {i : Nat} (h : i + 2 ≤ line.length) : (Txt.slice line none (some (i : Int)) ++ Txt.slice line (some ((i : Int) + 2)) none).length < line.length := by
  have := congrArg List.length (cut_eq h)
  simp only [List.length_append, List.length_take, List.length_drop, Array.length_toList] at this
  simp only [Str.length] at *
  omega
theorem strike {l : List Nat} {i col : Nat} (hi : i + 2 ≤ col) (hc : col ≤ l.length) (hp : pairb (l.getD i 0) (l.getD (i + 1) 0) = true) :
    red ((l.take i ++ l.drop (i + 2)).take (col - 2)) = red (l.take col) ∧ (l.take i ++ l.drop (i + 2)).drop (col - 2) = l.drop col ∧ (l.take i ++ l.drop (i + 2)).length + 2 = l.length := by
  have hl := split_at (l := l) (i := i) (by omega)
  have hu : (l.take i).length = i := by rw [List.length_take]; omega
  generalize l.getD i 0 = y at *
  generalize l.getD (i + 1) 0 = z at *
  generalize l.take i = u at *
  generalize l.drop (i + 2) = v at *
  subst hl
  obtain ⟨k, rfl⟩ : ∃ k, col = u.length + 2 + k := ⟨col - (u.length + 2), by omega⟩
  refine ⟨?_, ?_, by simp only [List.length_append, List.length_cons]; omega⟩
  · rw [show u.length + 2 + k - 2 = u.length + k by omega, show u.length + 2 + k = u.length + (k + 2) by omega, take_more, take_more]
    unfold red
    rw [List.take_succ_cons, List.take_succ_cons, redR_strike _ _ hp]
  · rw [show u.length + 2 + k - 2 = u.length + k by omega, show u.length + 2 + k = u.length + (k + 2) by omega, drop_more, drop_more, List.drop_succ_cons, List.drop_succ_cons]
structure SS where
  ps : Array Value
  rest : List (Addr × Obj)
  line : Str
  tl : Tok
  col : Nat
  tc : Tok
abbrev SSps (c : SS) : List (Str × Value) := [(Str.ofString "line", .str c.line c.tl), (Str.ofString "col", .int (c.col : Int) c.tc)]
structure SSP (P : Addr) (rest₀ : List (Addr × Obj)) (r1 r2 : List Nat) (c : SS) : Prop where
  led : LedOk P rest₀ c.ps c.rest
  hcol : c.col ≤ c.line.length
  hlen : c.line.length ≤ 300
  h1 : red (c.line.cps.toList.take c.col) = r1
  h2 : c.line.cps.toList.drop c.col = r2
theorem ssp_end {P : Addr} {rest₀ : List (Addr × Obj)} {r1 r2 : List Nat} {c : SS} (h : SSP P rest₀ r1 r2 c) (hn : ∀ k, PairAt c.line k → c.col < k + 2) : c.line = ⟨(r1 ++ r2).toArray⟩ := by
  have hnp : NoPair (c.line.cps.toList.take c.col) := by
    intro u y x v e
    cases hp : pairb y x with
    | false => rfl
    | true =>
      exfalso
      have hl := congrArg List.length e
      simp only [List.length_take, List.length_append, List.length_cons, Array.length_toList] at hl
      have e2 : c.line.cps.toList = u ++ y :: x :: (v ++ c.line.cps.toList.drop c.col) := by
        have := List.take_append_drop c.col c.line.cps.toList
        rw [e] at this
        simpa using this.symm
      have hk : PairAt c.line u.length := by
        have hl2 := congrArg List.length e2
        simp only [List.length_append, List.length_cons, Array.length_toList] at hl2
        refine ⟨by simp only [Str.length]; omega, ?_⟩
        unfold cd
        rw [e2]
        simpa using hp
      have := hn _ hk
      omega
  have e := red_noPair hnp
  refine Str.ext' (Array.toList_inj.mp ?_)
  show c.line.cps.toList = r1 ++ r2
  rw [← h.h1, e, ← h.h2, List.take_append_drop]
theorem ssp_next {P : Addr} {rest₀ rest' : List (Addr × Obj)} {r1 r2 : List Nat} {ps ps' : Array Value} {rest : List (Addr × Obj)} {line line' : Str} {tl tc tl' tc' : Tok} {col i : Nat} (h : SSP P rest₀ r1 r2 ⟨ps, rest, line, tl, col, tc⟩) (hl : LedOk P rest ps' rest') (hi : i + 2 ≤ col) (hp : PairAt line i)
    (e : line'.cps.toList = line.cps.toList.take i ++ line.cps.toList.drop (i + 2)) : SSP P rest₀ r1 r2 ⟨ps', rest', line', tl', col - 2, tc'⟩ := by
  have hc := h.hcol
  have hlen := h.hlen
  obtain ⟨s1, s2, s3⟩ := strike (l := line.cps.toList) hi (by rw [Array.length_toList]; exact hc) hp.2
  have hl' : line'.length + 2 = line.length := by
    have := congrArg List.length e
    simp only [Array.length_toList] at this s3
    simp only [Str.length]
    omega
  refine ⟨h.led.trans hl, ?_, ?_, ?_, ?_⟩
  · show col - 2 ≤ line'.length
    dsimp only at hc; omega
  · show line'.length ≤ 300
    dsimp only at hlen; omega
  · show red (line'.cps.toList.take (col - 2)) = r1
    rw [e, s1]; exact h.h1
  · show line'.cps.toList.drop (col - 2) = r2
    rw [e, s2]; exact h.h2
def StruckOut (news : List (Addr × Obj)) (x : Str) (col : Nat) (v : Value) (led : List (Addr × Obj)) : Prop :=
  (∃ tk, v = .str ⟨(red (x.cps.toList.take col) ++ x.cps.toList.drop col).toArray⟩ tk) ∧ (∃ p65, (65, tabObj p65) ∈ led) ∧ ∀ q ∈ news, q ∈ led
theorem ProgOut.out {w : World} {news : List (Addr × Obj)} {v : Value} {led : List (Addr × Obj)} (h : ProgOut w news v led) : ∃ P ps65 rest, led = (P, tabObj #[]) :: rest ∧ (65, tabObj ps65) ∈ rest ∧ LedOk P news #[] rest ∧ ProgOk w P rest v := h
theorem RevOut.out {w : World} {P : Addr} {rest : List (Addr × Obj)} {x : Str} {col : Nat} {v : Value} {led : List (Addr × Obj)} (h : RevOut w P rest x col v led) : ∃ ps' rest', led = (P, tabObj ps') :: rest' ∧ LedOk P rest ps' rest' ∧ (v = .none ∧ (∀ k, PairAt x k → col < k + 2) ∨ ∃ i, i + 2 ≤ col ∧ PairAt x i ∧ HitOk w rest' v i) := h
theorem led_refl {P : Addr} {rest : List (Addr × Obj)} {ps : Array Value} {r₀ : List (Addr × Obj)} (h : LedOk P r₀ ps rest) : LedOk P rest ps rest := ⟨fun _ h => h, h.ne, h.tab⟩
theorem struck_ok (w : World) (x : Str) (tx tc : Tok) (col : Nat) (news : List (Addr × Obj)) (h65 : ∀ q ∈ news, q.1 ≠ 65) (hx : x.length ≤ 300) (hc : col ≤ x.length) : Gives w 77 40 [.str x tx, .int (col : Int) tc] ((65, tabObj #[]) :: news) (StruckOut news x col) := by
  unfold Gives
  k_fill
  intro loose mean mg mb dp un gd cn cs a ccd cl outer A₀ base h₀ L m sh Q E C B F X N T hk hd hu hret
  w_on
  k_with_none
  refine wpAny_call ?_
  k_dflt cell_enter
  k_with "getMethod ref" => (k_here; k_dflt (refine' method_own ?g1 ?c1 ?c2 ?c3 ?g2 ?l1 ?l2 ?_; (case g1 => exact News.get (by k_asm) (by exact .tail _ (by assumption))); (case c1 => exact rfl); (case c2 => exact rfl); (case c3 => exact rfl); (case g2 => exact News.get (by k_asm) (by exact .tail _ (by assumption))); (case l1 => exact look_span _ _ _); (case l2 => exact lk_span)))
  k_with "callWith ref" => (k_here; k_dflt (refine' callWith_F0 ?k1 ?_; (case k1 => exact FnAt.of (by k_asm) (by exact .tail _ (by assumption))); k_whole; try dsimp only [List.nil_append, List.cons_append]))
  k_with "call ref" => (k_dflt ((with_reducible show wpAny _ _ (call (Value.ref 70) _) _ _ _); (refine' Gives.use (prog_ok _ news h65) C ?B ?F ?X ?N ?T ?hk ?hd ?hu ?_); (case B => k_asm); (case F => k_asm); (case X => k_asm); (case N => k_asm); (case T => k_asm); (case hk => rfl); (case hd => ktr_room); (case hu => ktr_units)); intro r9 led9 h9 tk9 F9 N9 hO9; (obtain ⟨P, ps65, rest, e9, m65, hl0, hpr⟩ := ProgOut.out hO9); subst e9; (try dsimp only); (try k_fold))
  k_with "exec" => ((show wpAny _ _ (exec (PySem.Stmt.While _ _ _ _) _) _ _ _); k_here; (rename Fr _ _ _ _ => lF'); (rename News _ _ _ _ => lN'); (with_unfolding_all refine' ksw_while (σ := SS) (fun c => (P, tabObj c.ps) :: c.rest) SSps (fun _ => True) [Str.ofString "hit", Str.ofString "first", Str.ofString "behind"] (SSP P rest (red (x.cps.toList.take col)) (x.cps.toList.drop col)) (fun c => c.line.length) ⟨#[], rest, x, _, col, _⟩ lF' lN' True.intro ?kk ?kp ?_); (case kk => kst_all); (case kp => exact ⟨led_refl hl0, hc, hx, rfl, rfl⟩); (clear lF' lN'); (rintro ⟨cps, crest, line, ctl, ccol, ctc⟩ kU kH kTk kFacts kP kFr kNews); (have kC : ccol ≤ line.length := kP.hcol); (have kL : line.length ≤ 300 := kP.hlen); dsimp only [SSps, kstB] at kFr kNews)
  k_with "call ref" => (k_dflt ((with_reducible show wpAny _ _ (call (Value.ref 21) _) _ _ _); (refine' Gives.use (rev_ok _ P cps crest _ line _ _ ccol kL (Nat.le_trans kC kL) (hpr.mono kP.led.sub) kP.led.ne kP.led.tab) C ?B ?F ?X ?N ?T ?hk ?hd ?hu ?_); (case B => k_asm); (case F => k_asm); (case X => k_asm); (case N => k_asm); (case T => k_asm); (case hk => rfl); (case hd => ktr_room); (case hu => ktr_units)); intro r9 led9 h9 tk9 F9 N9 hO9; (obtain ⟨ps9, rest9, e9, hl9, hc9⟩ := RevOut.out hO9); subst e9; ((rcases hc9 with ⟨e9, hno9⟩ | ⟨i9, hi9, hp9, hit9⟩) <;> first | (subst e9) | (obtain ⟨hit, dh, fdh, fsp, hsh, th, feh, objh, e9, mh1, mh2, mh3, mh4, hSp⟩ := HitOk.out hit9; subst e9; have hpl := pair_le hp9 (Nat.le_refl _))); (all_goals ((try dsimp only); (try k_fold))))
  k_with "call ref" => (k_dflt ((with_reducible show wpAny _ _ (call (Value.ref fsp) _) _ _ _); (refine' Makes.use (hSp _ ?sub) ?B ?F ?X ?N ?T ?hk ?hd ?hu ?_); (case B => k_asm); (case F => k_asm); (case X => k_asm); (case N => k_asm); (case T => k_asm); (case hk => rfl); (case hd => ktr_room); (case hu => ktr_units); (case sub => exact fun p hp => .tail _ (mh4 p hp))); intro r9 tl9 h9 tk9 F9 N9 hlt9 hO9; (obtain ⟨tt, k1, k2, e9, e9'⟩ := hO9); subst e9 e9'; (simp only [List.cons_append, List.nil_append] at N9); (try dsimp only); (try k_fold))
  w_strict (k_steps)
  · refine hret _ _ _ _ (by assumption) (by assumption) ⟨⟨_, congrArg (fun z => Value.str z _) (ssp_end kP hno9)⟩, ⟨ps65, .tail _ (hl9.sub _ (kP.led.sub _ m65))⟩, fun q hq => .tail _ (hl9.sub _ (kP.led.sub _ (hl0.sub _ hq)))⟩
  · (rename News _ _ _ _ => nE')
    (rename Fr _ _ _ _ => fE')
    have ec : ((ccol : Int) - 2) = ((ccol - 2 : Nat) : Int) := by omega
    rw [ec] at fE'
    refine ksw_end ⟨ps9, rest9, _, _, ccol - 2, _⟩ fE' nE' (fun p hp => .tail _ hp) True.intro (by kst_all) (by ksw_same) (ssp_next kP hl9 hi9 hp9 (cut_eq hpl)) (cut_len hpl)
end Mine
end
section
open PySem PySem.W PyProof.Rows PySem.Calls
set_option maxRecDepth 100000
set_option maxHeartbeats 8000000
namespace Mine
local macro_rules | `(tactic| k_room) => `(tactic| ktr_room)
local macro_rules | `(tactic| k_units) => `(tactic| ktr_units)
local macro_rules | `(tactic| ke_room) => `(tactic| ktr_units)
theorem item4 {prog : Program} {w : World} {A : Around} {E : Value → Shared → Prop} {s : Shared} {value slice : PySem.Expr} {l : Addr} {a0 a1 a2 a3 : Nat} {t0 t1 t2 t3 : Tok} {i : Int} {u : Tok} {Q : Value → Shared → Prop}
    (hl : s.heap.IsList l #[.str ⟨#[a0]⟩ t0, .str ⟨#[a1]⟩ t1, .str ⟨#[a2]⟩ t2, .str ⟨#[a3]⟩ t3]) (h0 : 0 ≤ i) (h1 : i < 4) (h : ∀ c t, Q (.str ⟨#[c]⟩ t) s)
    (hs : subscripted slice false (.ref l) (.int i u) = operate [.ref l, .int i u] (getItem (.ref l) (.int i u)) := by with_unfolding_all rfl) :
    wpAny (model prog w) A (subscriptTail value slice (.ref l) (.int i u)) Q E s := by
  have hx : ∃ c t, (#[.str ⟨#[a0]⟩ t0, .str ⟨#[a1]⟩ t1, .str ⟨#[a2]⟩ t2, .str ⟨#[a3]⟩ t3] : Array Value)[i.toNat]? = some (.str ⟨#[c]⟩ t) := by
    have : i = 0 ∨ i = 1 ∨ i = 2 ∨ i = 3 := by omega
    rcases this with rfl | rfl | rfl | rfl
    · exact ⟨a0, t0, by simp⟩
    · exact ⟨a1, t1, by simp⟩
    · exact ⟨a2, t2, by simp⟩
    · exact ⟨a3, t3, by simp⟩
  obtain ⟨c, t, hx⟩ := hx
  exact tail_any hl.typeIs slot_list_getitem.lookup (wpAny_getItem_list hl h0 (by omega) hx (h c t)) hs
theorem item6 {prog : Program} {w : World} {A : Around} {E : Value → Shared → Prop} {s : Shared} {value slice : PySem.Expr} {l : Addr} {t0 t1 t2 t3 t4 t5 : Tok} {i : Int} {u : Tok} {Q : Value → Shared → Prop}
    (hl : s.heap.IsList l #[.int 32 t0, .int 128 t1, .int 160 t2, .int 192 t3, .int 224 t4, .int 320 t5]) (h0 : 0 ≤ i) (h1 : i < 6) (h : ∀ v t, 0 ≤ v ∧ v ≤ 320 → Q (.int v t) s)
    (hs : subscripted slice false (.ref l) (.int i u) = operate [.ref l, .int i u] (getItem (.ref l) (.int i u)) := by with_unfolding_all rfl) :
    wpAny (model prog w) A (subscriptTail value slice (.ref l) (.int i u)) Q E s := by
  have hx : ∃ v t, (0 ≤ v ∧ v ≤ 320) ∧ (#[.int 32 t0, .int 128 t1, .int 160 t2, .int 192 t3, .int 224 t4, .int 320 t5] : Array Value)[i.toNat]? = some (.int v t) := by
    have : i = 0 ∨ i = 1 ∨ i = 2 ∨ i = 3 ∨ i = 4 ∨ i = 5 := by omega
    rcases this with rfl | rfl | rfl | rfl | rfl | rfl
    · exact ⟨32, t0, by decide, by simp⟩
    · exact ⟨128, t1, by decide, by simp⟩
    · exact ⟨160, t2, by decide, by simp⟩
    · exact ⟨192, t3, by decide, by simp⟩
    · exact ⟨224, t4, by decide, by simp⟩
    · exact ⟨320, t5, by decide, by simp⟩
  obtain ⟨v, t, hv, hx⟩ := hx
  exact tail_any hl.typeIs slot_list_getitem.lookup (wpAny_getItem_list hl h0 (by omega) hx (h v t hv)) hs
theorem fm6 (x : Int) : 0 ≤ x.fmod 6 ∧ x.fmod 6 < 6 := ⟨fmod_lo _ (by decide), fmod_hi _ (by decide)⟩
theorem chr_lo (a : Int) {v : Int} (h : 0 ≤ v ∧ v ≤ 320) : 0 ≤ a.fmod 32 + v := by
  have := fmod_lo a (show (0 : Int) < 32 by decide)
  omega
theorem chr_hi (a : Int) {v : Int} (h : 0 ≤ v ∧ v ≤ 320) : a.fmod 32 + v ≤ 1114111 := by
  have := fmod_hi a (show (0 : Int) < 32 by decide)
  omega
theorem fm4 (x : Int) : 0 ≤ x.fmod 4 ∧ x.fmod 4 < 4 := ⟨Int.fmod_nonneg_of_pos _ (by decide), Int.fmod_lt_of_pos _ (by decide)⟩
theorem fm2 (x : Int) : 0 ≤ x.fmod 2 * 2 ∧ x.fmod 2 * 2 < 4 := by
  have h1 := Int.fmod_nonneg_of_pos x (show (0 : Int) < 2 by decide)
  have h2 := Int.fmod_lt_of_pos x (show (0 : Int) < 2 by decide)
  omega
local macro_rules | `(tactic| walk_at "subscriptTail") => `(tactic| (k_here; k_dflt ((show wpAny _ _ (subscriptTail (PySem.Expr.List _ _) _ (Value.ref _) (Value.int _ _)) _ _ _); (refine' item6 ?g1 ?h0 ?h1 ?_ ?hs; (case g1 => exact News.isList (by k_asm) (.head _)); (case h0 => exact (fm6 _).1); (case h1 => exact (fm6 _).2); (case hs => with_unfolding_all rfl))); intro v6 t6 hv6))
theorem sign_ok (w : World) (x : Int) (t : Tok) (lt : Addr) (a0 a1 a2 a3 : Nat) (t0 t1 t2 t3 : Tok) (n : Nat) (news : List (Addr × Obj)) (hm : (lt, listOf #[.str ⟨#[a0]⟩ t0, .str ⟨#[a1]⟩ t1, .str ⟨#[a2]⟩ t2, .str ⟨#[a3]⟩ t3] n) ∈ news) :
    Calls w 63 5 [.int x t, .ref lt] news (fun v => ∃ c tk, v = .str ⟨#[c]⟩ tk) := by
  unfold Calls
  k_fill
  intro loose mean mg mb dp un gd cn cs a ccd cl outer A₀ base h₀ L m sh Q E B F X N T hk hd hu hret
  w_on
  k_with_none
  refine wpAny_call ?_
  k_dflt cell_enter
  k_with "subscriptTail" => (k_here; (with_reducible show wpAny _ _ (subscriptTail _ _ (Value.ref lt) (Value.int _ _)) _ _ _); (with_unfolding_all refine' item4 ?g1 ?h0 ?h1 ?_ ?hs; (case g1 => exact News.isList (by k_asm) hm); (case h0 => first | exact (fm4 _).1 | exact (fm2 _).1); (case h1 => first | exact (fm4 _).2 | exact (fm2 _).2); (case hs => rfl)); intro c4 t4)
  k_with "call builtin:chr" => (refine chr_of_range (chr_lo _ (by assumption)) (chr_hi _ (by assumption)) ?_)
  w_strict (k_steps)
  all_goals first
    | (refine hret _ _ _ (by assumption) (by assumption) ⟨_, _, rfl⟩)
    | (refine hret _ _ _ (by assumption) (cb_drop (by assumption) (by kcj_all)) ⟨_, _, rfl⟩)

end Mine
end
section
open PySem PySem.W PyProof.Rows PySem.Calls
set_option maxRecDepth 100000
namespace Mine
def SgEl (news : List (Addr × Obj)) (y : Value) (news' : List (Addr × Obj)) : Prop := news' = news ∧ ∃ c t, y = .str ⟨#[c]⟩ t
/-- texts of one sign each: their signs -/
theorem signs_of : ∀ {ys : List Value}, (∀ y ∈ ys, ∃ c t, y = .str ⟨#[c]⟩ t) → ∃ cs : List Nat, cs.length = ys.length ∧ StrsAre ys (cs.map fun c => (⟨#[c]⟩ : Str))
  | [], _ => ⟨[], rfl, .nil⟩
  | _ :: ys, h => by
    obtain ⟨⟨c, t, rfl⟩, tl⟩ := List.forall_mem_cons.mp h
    obtain ⟨cs, hl, hs⟩ := signs_of tl
    exact ⟨c :: cs, by simp [hl], .cons _ _ hs⟩
section
variable {prog : Program} {w : World} {A : Around} {h₀ : Heap} {L : Addr} {m : Str → Option Value} {env : Env} {elt : PySem.Expr} {x : Str} {scope : Scope} {cl : List (Str × Addr)} {s : Shared} {S : List (Addr × Obj) → Prop} {Fin : List Value → List (Addr × Obj) → Prop} {news : List (Addr × Obj)}
/-- a comprehension whose elements leave the ledger as it stood, and of each of which Ok holds -/
theorem comp_each {n : Nat} {V : Nat → Value → Prop} (Ok : Value → Prop)
    (turn : ∀ i v I oI C oC D m₂ ys h tk (E' : Value → Shared → Prop), i < n → V i v → LCg.NsObj oC m₂ → m₂ x = some v → Fr h₀ L h m → News h₀ L h ((I, oI) :: (C, oC) :: (D, LCg.lst ys) :: news) → LCg.Off3 I C D news → ((@Ne Nat I C) ∧ (@Ne Nat I D) ∧ (@Ne Nat C D)) →
      wpAny (model prog w) A (eval elt (compEnvC scope cl C env)) (LCg.CompEnd h₀ L m { s with heap := h, toks := tk } I oI C oC D (LCg.lst ys) S (fun y news' => news' = news ∧ Ok y)) E' { s with heap := h, toks := tk })
    (fin : ∀ ys, ys.length = n → (∀ y ∈ ys, Ok y) → Fin ys news) : ∀ (j : Nat) (ys : List Value), ys.length + j = n → (∀ y ∈ ys, Ok y) → LCg.CompRest prog w A h₀ L m env elt x scope cl s S V Fin j ys.length ys news
  | 0, ys, hl, ok => .zero (fin ys hl ok)
  | j + 1, ys, hl, ok => .succ fun v I oI C oC D m₂ h tk E' hv hC hx F N off ne =>
    wpAny_mono (turn ys.length v I oI C oC D m₂ ys h tk E' (by omega) hv hC hx F N off ne) (fun y _ ⟨h', tk', nw, e, F', N', off', hS, same, hy⟩ => by
      have more := comp_each Ok turn fin j (ys ++ [y]) (by rw [List.length_append, List.length_singleton]; omega) fun z hz => (List.mem_append.mp hz).elim (ok z) fun hz => List.mem_singleton.mp hz ▸ hy
      rw [List.length_append, List.length_singleton] at more
      exact ⟨h', tk', nw, e, F', N', off', hS, same.symm ▸ more⟩) fun _ _ e => e
theorem comp_any {vs : List Value} {ns : List Int} (hi : IntsAre vs ns)
    (turn : ∀ k t I oI C oC D m₂ ys h tk (E' : Value → Shared → Prop), LCg.NsObj oC m₂ → m₂ x = some (.int k t) → Fr h₀ L h m → News h₀ L h ((I, oI) :: (C, oC) :: (D, LCg.lst ys) :: news) → LCg.Off3 I C D news → ((@Ne Nat I C) ∧ (@Ne Nat I D) ∧ (@Ne Nat C D)) →
      wpAny (model prog w) A (eval elt (compEnvC scope cl C env)) (LCg.CompEnd h₀ L m { s with heap := h, toks := tk } I oI C oC D (LCg.lst ys) S (fun y news' => SgEl news y news')) E' { s with heap := h, toks := tk })
    (fin : ∀ ys (cs : List Nat), CarriedAll ys (cs.map fun c => PyData.str ⟨#[c]⟩) → cs.length = ns.length → Fin ys news) : LCg.CompRest prog w A h₀ L m env elt x scope cl s S (fun i v => vs.toArray[i]? = some v) Fin vs.toArray.size 0 [] news := by
  refine comp_each (n := vs.toArray.size) (fun y => ∃ c t, y = .str ⟨#[c]⟩ t) ?_ ?_ _ [] (Nat.zero_add _) (fun _ h => nomatch h)
  · intro i v I oI C oC D m₂ ys h tk E' _ hv hC hx F N off ne
    obtain ⟨k, t, rfl, _⟩ := IntsAre.at hi i v (by simpa using hv)
    exact turn k t I oI C oC D m₂ ys h tk E' hC hx F N off ne
  · intro ys hl ok
    obtain ⟨cs, hc, hs⟩ := signs_of ok
    have car := hs.carried
    rw [List.map_map] at car
    exact fin ys cs car (by rw [hc, hl, List.size_toArray]; exact hi.length)
end
theorem col_ok (n : Nat) (s : Int) : 0 ≤ (n : Int) - s.fmod ((n : Int) + 1) ∧ (n : Int) - s.fmod ((n : Int) + 1) ≤ n := by
  have h1 := fmod_lo s (show (0 : Int) < (n : Int) + 1 by omega)
  have h2 := fmod_hi s (show (0 : Int) < (n : Int) + 1 by omega)
  omega
theorem struck_int {w : World} {x : Str} {tx tc : Tok} {col : Int} (h0 : 0 ≤ col) (h1 : col ≤ x.length) (hx : x.length ≤ 300) : Gives w 77 40 [.str x tx, .int col tc] [(65, tabObj #[])] (StruckOut [] x col.toNat) := by
  have := struck_ok w x tx tc col.toNat [] (fun _ h => nomatch h) hx (by omega)
  rwa [Int.toNat_of_nonneg h0] at this
end Mine
end
section
open PySem PySem.W PyProof.Rows PySem.Calls
set_option maxRecDepth 100000
namespace Mine
theorem item_int {prog : Program} {w : World} {A : Around} {E : Value → Shared → Prop} {s : Shared} {value slice : PySem.Expr} {l : Addr} {vs : List Value} {ns : List Int} {u : Tok} {Q : Value → Shared → Prop}
    (hl : s.heap.IsList l vs.toArray) (hi : IntsAre vs ns) (hne : 0 < ns.length) (h : ∀ k t, Q (.int k t) s)
    (hs : subscripted slice false (.ref l) (.int 0 u) = operate [.ref l, .int 0 u] (getItem (.ref l) (.int 0 u)) := by with_unfolding_all rfl) :
    wpAny (model prog w) A (subscriptTail value slice (.ref l) (.int 0 u)) Q E s := by
  have hx : ∃ k t, vs.toArray[(0 : Int).toNat]? = some (.int k t) := by
    have hlen := hi.length
    have hl0 : 0 < vs.length := by omega
    obtain ⟨k, t, e, _⟩ := IntsAre.at hi 0 (vs[0]'hl0) (by simp)
    exact ⟨k, t, by simp [hl0, e]⟩
  obtain ⟨k, t, hx⟩ := hx
  exact tail_any hl.typeIs slot_list_getitem.lookup (wpAny_getItem_list hl (by decide) (by decide) hx (h k t)) hs
theorem take_ne {w : List Int} (h : decide (w = []) = false) : 0 < (List.take 10 w).length := by
  cases w with
  | nil => simp at h
  | cons a t => simp
end Mine
end
open PySem PySem.W PyProof.Rows PySem.Calls
set_option maxRecDepth 100000
set_option maxHeartbeats 8000000
namespace Mine
theorem sign_any {w : World} {x : Int} {t : Tok} {lt : Addr} {s0 s1 s2 s3 : Str} {t0 t1 t2 t3 : Tok} {n : Nat} {news : List (Addr × Obj)} (hm : (lt, listOf #[.str s0 t0, .str s1 t1, .str s2 t2, .str s3 t3] n) ∈ news) (h0 : ∃ a, s0 = ⟨#[a]⟩) (h1 : ∃ a, s1 = ⟨#[a]⟩) (h2 : ∃ a, s2 = ⟨#[a]⟩) (h3 : ∃ a, s3 = ⟨#[a]⟩) :
    Calls w 63 5 [.int x t, .ref lt] news (fun v => ∃ c tk, v = .str ⟨#[c]⟩ tk) := by
  obtain ⟨a0, rfl⟩ := h0
  obtain ⟨a1, rfl⟩ := h1
  obtain ⟨a2, rfl⟩ := h2
  obtain ⟨a3, rfl⟩ := h3
  exact sign_ok w x t lt a0 a1 a2 a3 t0 t1 t2 t3 n news hm
theorem one_A : ∃ a, Str.ofString "A" = ⟨#[a]⟩ := ⟨65, by decide +kernel⟩
theorem one_a : ∃ a, Str.ofString "a" = ⟨#[a]⟩ := ⟨97, by decide +kernel⟩
theorem one_B : ∃ a, Str.ofString "B" = ⟨#[a]⟩ := ⟨66, by decide +kernel⟩
theorem one_b : ∃ a, Str.ofString "b" = ⟨#[a]⟩ := ⟨98, by decide +kernel⟩
theorem one_c {c : Nat} : ∃ a, (⟨#[c]⟩ : Str) = ⟨#[a]⟩ := ⟨c, rfl⟩
theorem news_one {h₀ h : Heap} {L : Addr} {led : List (Addr × Obj)} {p : Addr × Obj} (N : News h₀ L h led) (hm : p ∈ led) : News h₀ L h [p] :=
  fun q hq => by
    rcases List.mem_cons.mp hq with rfl | hq
    · exact N _ hm
    · exact nomatch hq
theorem push_len : ∀ (l st : List Nat), (l.foldl pushR st).length ≤ st.length + l.length
  | [], st => by simp
  | x :: l, st => by
    have h1 := push_len l (pushR st x)
    have h2 := pushR_length st x
    simp only [List.foldl_cons, List.length_cons]
    omega
theorem red_len (l : List Nat) : (red l).length ≤ l.length := by
  have := push_len l []
  simp only [List.length_nil, Nat.zero_add] at this
  rw [red, List.length_reverse]
  exact this
/-- what struck gives, told of a text -/
def StruckT (x : Str) (col : Int) (v : Value) (led : List (Addr × Obj)) : Prop :=
  ∃ z tk p65, (65, tabObj p65) ∈ led ∧ v = .str z tk ∧ z.cps.toList = red (x.cps.toList.take col.toNat) ++ x.cps.toList.drop col.toNat ∧ x.length ≤ 300 ∧ 0 ≤ col ∧ col ≤ x.length
theorem struck_col {w : World} {x : Str} {tx tc : Tok} {s : Int} (hx : x.length ≤ 300) :
    Gives w 77 40 [.str x tx, .int ((x.length : Int) - s.fmod ((x.length : Int) + 1)) tc] [(65, tabObj #[])] (StruckT x ((x.length : Int) - s.fmod ((x.length : Int) + 1))) := by
  have h := struck_int (w := w) (x := x) (tx := tx) (tc := tc) (col_ok x.length s).1 (col_ok x.length s).2 hx
  intro a1 a2 a3 a4 a5 a6 a7 a8 a9 a10 a11 a12 a13 a14 a15 a16 a17 a18 a19 a20 a21 b1 b2 b3 b4 b5 b6 b7 b8 b9 ret
  refine h a1 a2 a3 a4 a5 a6 a7 a8 a9 a10 a11 a12 a13 a14 a15 a16 a17 a18 a19 a20 a21 b1 b2 b3 b4 b5 b6 b7 b8 b9 fun r led h' tk' F N hO => ret r led h' tk' F N ?_
  obtain ⟨⟨tk, e⟩, ⟨p65, m65⟩, _⟩ := hO
  exact ⟨_, tk, p65, m65, e, by simp, hx, (col_ok x.length s).1, (col_ok x.length s).2⟩
theorem StruckT.out {x : Str} {col : Int} {v : Value} {led : List (Addr × Obj)} (h : StruckT x col v led) : ∃ z tk p65, (65, tabObj p65) ∈ led ∧ v = .str z tk ∧ z.cps.toList = red (x.cps.toList.take col.toNat) ++ x.cps.toList.drop col.toNat ∧ x.length ≤ 300 ∧ 0 ≤ col ∧ col ≤ x.length := h
/-- what left gives, told of a text -/
theorem left_any {w : World} {xt : Str} {tx : Tok} {news : List (Addr × Obj)} (hlen : xt.length ≤ 300) :
    Calls w 98 10 [.str xt tx] news (fun v => ∃ y tk, v = .str y tk ∧ y.cps.toList = red xt.cps.toList ∧ y.length ≤ 300) := by
  have h := left_ok w xt tx news hlen
  intro a1 a2 a3 a4 a5 a6 a7 a8 a9 a10 a11 a12 a13 a14 a15 a16 a17 a18 a19 a20 a21 b2 b3 b4 b5 b6 b7 b8 b9 ret
  refine h a1 a2 a3 a4 a5 a6 a7 a8 a9 a10 a11 a12 a13 a14 a15 a16 a17 a18 a19 a20 a21 b2 b3 b4 b5 b6 b7 b8 b9 fun r h' tk' F N hO => ret r h' tk' F N ?_
  obtain ⟨tk, e⟩ := hO
  have hl := red_len xt.cps.toList
  refine ⟨_, tk, e, by simp, ?_⟩
  simp only [Str.length, List.size_toArray, Array.length_toList] at *
  omega
theorem slice_to_len {x : Str} {j : Int} {n : Nat} (h0 : 0 ≤ j) (h1 : j ≤ x.length) (hx : x.length ≤ n) : (Txt.slice x none (some j)).length ≤ n := by
  rw [slice_to h0 h1]
  simp only [Str.length, List.size_toArray, List.length_take, Array.length_toList] at *
  omega
theorem law_eq {x y z : Str} {j : Int} (h0 : 0 ≤ j) (h1 : j ≤ x.length) (hz : z.cps.toList = red (x.cps.toList.take j.toNat) ++ x.cps.toList.drop j.toNat) (hy : y.cps.toList = red (Txt.slice x none (some j)).cps.toList) :
    z = y ++ Txt.slice x (some j) none := by
  refine Str.ext' (Array.toList_inj.mp ?_)
  rw [Str.cps_append, Array.toList_append, hz, hy, slice_to h0 h1, slice_from h0 h1]
theorem law_true {x y z : Str} {j : Int} (h0 : 0 ≤ j) (h1 : j ≤ x.length) (hz : z.cps.toList = red (x.cps.toList.take j.toNat) ++ x.cps.toList.drop j.toNat) (hy : y.cps.toList = red (Txt.slice x none (some j)).cps.toList) :
    (z == y ++ Txt.slice x (some j) none) = true := beq_iff_eq.mpr (law_eq h0 h1 hz hy)
end Mine
open Mine
local macro_rules | `(tactic| walk_at "CompSrc") => `(tactic| (k_here; k_dflt (first
  | (refine LCg.CompSrc.ledger (by rfl) (by k_asm) (by k_asm) (by k_mem) (by kcf_size) ?_; intro g'; (refine' comp_any (by first | assumption | l_ints) (fun k' t' I' oI' C' oC' D' m' ys' h' tk' E' hC' hx' F' N' off' ne' => ?_) (fun ys' cs' hys' hcs' => ?_)); (all_goals (try (simp only [LCg.Off3, and_true] at off'))); (all_goals (try (simp only [List.length_cons, List.length_nil, Nat.zero_add, Nat.reduceAdd] at hcs'))); kcf_last))))
local macro_rules | `(tactic| walk_at "subscriptTail") => `(tactic| (k_here; k_dflt ((show wpAny _ _ (subscriptTail (PySem.Expr.Name _ _) _ (Value.ref _) (Value.int 0 _)) _ _ _); (refine' item_int ?g1 ?hi ?hne ?_ ?hs; (case g1 => exact News.isList (by k_asm) (by k_mem)); (case hi => first | assumption | l_ints); (case hne => first | exact take_ne (by assumption) | decide); (case hs => with_unfolding_all rfl))); intro v6 t6))
local macro_rules | `(tactic| k_room) => `(tactic| ktr_room)
local macro_rules | `(tactic| k_units) => `(tactic| ktr_units)
local macro_rules | `(tactic| ke_room) => `(tactic| ktr_units)
theorem PySem.Challenge.cw_mr0025_01_holds : PySem.Challenge.rw_mr0025_01.Holds := by
  refine Mine.hd ?_
  w_on
  k_with_none
  k_with "call ref" => (k_dflt ((with_reducible show wpAny _ _ (call (Value.ref 63) _) _ _ _); (refine' Calls.use (sign_any ?hm ?a0 ?a1 ?a2 ?a3) ?B ?F ?X ?N ?T ?hk ?hd ?hu ?_); (case B => k_asm); (case F => k_asm); (case X => k_asm); (case N => k_asm); (case T => k_asm); (case hk => rfl); (case hm => k_mem); (case hd => ktr_room); (case hu => ktr_units); (case a0 => first | exact one_c | exact one_a); (case a1 => first | exact one_c | exact one_A); (case a2 => first | exact one_c | exact one_b); (case a3 => first | exact one_c | exact one_B)); intro r9 h9 tk9 F9 N9 hO9; obtain ⟨c9, t9, e9⟩ := hO9; subst e9; (try dsimp only); (try k_fold))
  k_with "call ref" => (k_dflt ((with_reducible show wpAny _ _ (call (Value.ref 77) _) _ _ _); ((refine' Gives.use (struck_col ?hx) ?C ?B ?F ?X ?N ?T ?hk ?hd ?hu ?_); (case hx => first | omega | (simp only [List.length_take] at *; omega)); (case B => k_asm); (case C => assumption); (case F => k_asm); (case X => k_asm); (case N => exact news_one (by k_asm) (by k_mem)); (case T => k_asm); (case hk => rfl); (case hd => ktr_room); (case hu => ktr_units))); intro r9 led9 h9 tk9 F9 N9 hO9; (obtain ⟨z9, t9, p65, m65, e9, hz9, hx9, hc9, hd9⟩ := StruckT.out hO9); subst e9; (try dsimp only); (try k_fold))
  k_with "call ref" => (k_dflt ((with_reducible show wpAny _ _ (call (Value.ref 98) _) _ _ _); ((refine' Calls.use (left_any ?hx) ?B ?F ?X ?N ?T ?hk ?hd ?hu ?_); (case hx => exact slice_to_len hc9 hd9 hx9); (case B => k_asm); (case F => k_asm); (case X => k_asm); (case N => k_asm); (case T => k_asm); (case hk => rfl); (case hd => ktr_room); (case hu => ktr_units))); intro r8 h8 tk8 F8 N8 hO8; (obtain ⟨y9, t8, e8, hy9, hl9⟩ := hO8); subst e8; (try dsimp only); (try k_fold))
  w_strict (k_go0; (all_goals try k_fold); (repeat' ((fail_if_success (with_reducible show GrownAll _ _)); (fail_if_success (with_reducible show GoodW _ _ _ _ _ _ _)); first | (k_unfold; (try dsimp only)) | (k_end; wrow_close) | walk1 | (dsimp only; walk1) | (leave1; try dsimp only) | fail "no step")))
  all_goals first
    | exact ⟨rfl, _, _, rfl⟩
    | exact ⟨GrownAt.of (by k_asm) m65, True.intro⟩
    | (rw [law_true hc9 hd9 hz9 hy9]; w_strict (k_steps))
