import PyProof.Rows.All
import Wide.All
import OpenK.AllK
import Wide.FinOn
import Lean
import PySem.Challenge.RW_jy0031_01
set_option Elab.async false
set_option maxRecDepth 100000
set_option linter.all false
set_option compiler.extract_closed false
section
namespace Ed
open Lean.Grind
structure Fld (F : Type) [CommRing F] where
  inv : F → F
  d : F
  i : F
  hi : i * i = -1
  nz : ∀ a b : F, a * b = 0 → a = 0 ∨ b = 0
  hinv : ∀ a : F, a ≠ 0 → a * inv a = 1
  one_ne : (1:F) ≠ 0
  two_ne : (2:F) ≠ 0
  nsq : ∀ a b : F, a * a = d * (b * b) → b = 0

section
variable {F : Type} [CommRing F] (K : Fld F)
def On (P : F × F) : Prop := P.2*P.2 - P.1*P.1 = 1 + K.d*(P.1*P.1)*(P.2*P.2)
def tt (P R : F × F) : F := K.d*P.1*R.1*P.2*R.2
def add (P R : F × F) : F × F :=
  ((P.1*R.2 + R.1*P.2) * K.inv (1 + tt K P R), (P.2*R.2 + P.1*R.1) * K.inv (1 - tt K P R))

include K in
theorem mul_ne {a b : F} (ha : a ≠ 0) (hb : b ≠ 0) : a * b ≠ 0 := fun h => (K.nz a b h).elim ha hb
include K in
theorem cancel {a b c : F} (ha : a ≠ 0) (h : a * b = a * c) : b = c := by
  have : a * (b - c) = 0 := by grind
  have := (K.nz _ _ this).resolve_left ha
  grind

theorem complete_aux {x1 y1 x2 y2 t : F} (h1 : y1*y1 - x1*x1 = 1 + K.d*(x1*x1)*(y1*y1)) (h2 : y2*y2 - x2*x2 = 1 + K.d*(x2*x2)*(y2*y2))
    (ht : t = K.d*x1*x2*y1*y2) : t * t ≠ 1 := by
  intro htt
  have hi := K.hi
  have e1 : (K.i*x1+t*y1)*(K.i*x1+t*y1) = K.d*((x1*y1*(K.i*x2+y2))*(x1*y1*(K.i*x2+y2))) := by grind
  have e2 : (K.i*x1-t*y1)*(K.i*x1-t*y1) = K.d*((x1*y1*(K.i*x2-y2))*(x1*y1*(K.i*x2-y2))) := by grind
  have f1 := K.nsq _ _ e1
  have f2 := K.nsq _ _ e2
  have g : 2 * t = 0 := by
    have : 2 * (x1*y1*y2) = 0 := by grind
    have : 2 * t = K.d*x2*(2 * (x1*y1*y2)) := by rw [ht]; grind
    grind
  have := (K.nz _ _ g).resolve_left K.two_ne
  have o := K.one_ne
  rw [this] at htt
  grind

theorem complete {P R : F × F} (hP : On K P) (hR : On K R) : 1 + tt K P R ≠ 0 ∧ 1 - tt K P R ≠ 0 := by
  have h := complete_aux K (t := tt K P R) hP hR rfl
  constructor
  · intro e; apply h; have : tt K P R = -1 := by grind
    rw [this]; grind
  · intro e; apply h; have : tt K P R = 1 := by grind
    rw [this]; grind

theorem tt_comm (P R : F × F) : tt K P R = tt K R P := by simp only [tt]; grind

theorem add_comm (P R : F × F) : add K P R = add K R P := by
  simp only [add, tt_comm K P R]
  congr 1 <;> grind

theorem on_add {P R : F × F} (hP : On K P) (hR : On K R) : On K (add K P R) := by
  obtain ⟨c1, c2⟩ := complete K hP hR
  have i1 := K.hinv _ c1
  have i2 := K.hinv _ c2
  generalize hu : K.inv (1 + tt K P R) = u at i1
  generalize hv : K.inv (1 - tt K P R) = v at i2
  unfold On at *
  simp only [add, hu, hv]
  simp only [tt] at *
  obtain ⟨x1, y1⟩ := P
  obtain ⟨x2, y2⟩ := R
  simp only at *
  clear c1 c2 hu hv
  grind

theorem inv_one : K.inv 1 = 1 := by
  have := K.hinv 1 K.one_ne
  grind

def O : F × F := (0, 1)
theorem on_O : On K (O : F × F) := by unfold On O; grind
theorem add_O (P : F × F) : add K P O = P := by
  obtain ⟨x, y⟩ := P
  have h1 : tt K (x, y) O = 0 := by simp only [tt, O]; grind
  have a1 : (1 + 0 : F) = 1 := by grind
  have a2 : (1 - 0 : F) = 1 := by grind
  simp only [add, h1, a1, a2, inv_one]
  simp only [O]
  congr 1 <;> grind
theorem O_add (P : F × F) : add K O P = P := by rw [add_comm, add_O]

def neg (P : F × F) : F × F := (-P.1, P.2)
theorem on_neg {P : F × F} (h : On K P) : On K (neg P) := by
  unfold On neg at *; simp only; grind
theorem add_neg {P : F × F} (h : On K P) : add K P (neg P) = O := by
  obtain ⟨c1, c2⟩ := complete K h (on_neg K h)
  have i2 := K.hinv _ c2
  simp only [add, O]
  generalize K.inv (1 - tt K P (neg P)) = v at i2 ⊢
  unfold On at h
  simp only [tt, neg] at i2 ⊢
  congr 1
  · grind
  · clear c1 c2; grind

theorem assoc_x {d x1 y1 x2 y2 x3 y3 A B C D A' B' C' D' : F} (h1 : y1*y1 - x1*x1 = 1 + d*(x1*x1)*(y1*y1)) (h2 : y2*y2 - x2*x2 = 1 + d*(x2*x2)*(y2*y2)) (h3 : y3*y3 - x3*x3 = 1 + d*(x3*x3)*(y3*y3))
  (hA : A = x1*y2+x2*y1) (hB : B = 1 + d*x1*x2*y1*y2) (hC : C = y1*y2+x1*x2) (hD : D = 1 - d*x1*x2*y1*y2)
  (hA' : A' = x2*y3+x3*y2) (hB' : B' = 1 + d*x2*x3*y2*y3) (hC' : C' = y2*y3+x2*x3) (hD' : D' = 1 - d*x2*x3*y2*y3) :
  (A*D*y3 + x3*C*B)*(B'*D' + d*A'*C'*x1*y1) = (A'*D'*y1 + x1*C'*B')*(B*D + d*A*C*x3*y3) := by
  subst hA hB hC hD hA' hB' hC' hD'
  grind

theorem assoc_y {d x1 y1 x2 y2 x3 y3 A B C D A' B' C' D' : F} (h1 : y1*y1 - x1*x1 = 1 + d*(x1*x1)*(y1*y1)) (h2 : y2*y2 - x2*x2 = 1 + d*(x2*x2)*(y2*y2)) (h3 : y3*y3 - x3*x3 = 1 + d*(x3*x3)*(y3*y3))
  (hA : A = x1*y2+x2*y1) (hB : B = 1 + d*x1*x2*y1*y2) (hC : C = y1*y2+x1*x2) (hD : D = 1 - d*x1*x2*y1*y2)
  (hA' : A' = x2*y3+x3*y2) (hB' : B' = 1 + d*x2*x3*y2*y3) (hC' : C' = y2*y3+x2*x3) (hD' : D' = 1 - d*x2*x3*y2*y3) :
  (C*B*y3 + A*D*x3)*(B'*D' - d*A'*C'*x1*y1) = (y1*(C'*B') + x1*(A'*D'))*(B*D - d*A*C*x3*y3) := by
  subst hA hB hC hD hA' hB' hC' hD'
  grind

include K in
theorem frac {n1 m1 n2 m2 u1 u2 s1 s2 W1 W2 : F} (e : n1 * m2 = n2 * m1)
    (w1 : W1 = m1 * s1) (w2 : W2 = m2 * s2) (i1 : W1 * u1 = 1) (i2 : W2 * u2 = 1) : n1 * s1 * u1 = n2 * s2 * u2 := by
  subst w1 w2
  have a : m1 ≠ 0 := by intro h; rw [h] at i1; have := K.one_ne; grind
  have b : m2 ≠ 0 := by intro h; rw [h] at i2; have := K.one_ne; grind
  refine cancel K (mul_ne K a b) ?_
  grind

theorem q_num {x3 y3 A B C D a b j5 j6 : F} (e1 : A * j5 = a) (e2 : C * j6 = b) (i5 : B * j5 = 1) (i6 : D * j6 = 1) :
    a * y3 + x3 * b = (A*D*y3 + x3*C*B) * (j5 * j6) := by subst e1 e2; grind
theorem q_num' {x3 y3 A B C D a b j5 j6 : F} (e1 : A * j5 = a) (e2 : C * j6 = b) (i5 : B * j5 = 1) (i6 : D * j6 = 1) :
    x3 * b + a * y3 = (A*D*y3 + x3*C*B) * (j5 * j6) := by subst e1 e2; grind
theorem q_nuy {x3 y3 A B C D a b j5 j6 : F} (e1 : A * j5 = a) (e2 : C * j6 = b) (i5 : B * j5 = 1) (i6 : D * j6 = 1) :
    b * y3 + a * x3 = (C*B*y3 + A*D*x3) * (j5 * j6) := by subst e1 e2; grind
theorem q_nuy' {x3 y3 A B C D a b j5 j6 : F} (e1 : A * j5 = a) (e2 : C * j6 = b) (i5 : B * j5 = 1) (i6 : D * j6 = 1) :
    y3 * b + x3 * a = (y3*(C*B) + x3*(A*D)) * (j5 * j6) := by subst e1 e2; grind
theorem q_den {d x3 y3 A B C D a b j5 j6 : F} (e1 : A * j5 = a) (e2 : C * j6 = b) (i5 : B * j5 = 1) (i6 : D * j6 = 1) :
    1 + d*a*x3*b*y3 = (B*D + d*A*C*x3*y3) * (j5 * j6) := by subst e1 e2; grind
theorem q_den' {d x3 y3 A B C D a b j5 j6 : F} (e1 : A * j5 = a) (e2 : C * j6 = b) (i5 : B * j5 = 1) (i6 : D * j6 = 1) :
    1 + d*x3*a*y3*b = (B*D + d*A*C*x3*y3) * (j5 * j6) := by subst e1 e2; grind
theorem q_dey {d x3 y3 A B C D a b j5 j6 : F} (e1 : A * j5 = a) (e2 : C * j6 = b) (i5 : B * j5 = 1) (i6 : D * j6 = 1) :
    1 - d*a*x3*b*y3 = (B*D - d*A*C*x3*y3) * (j5 * j6) := by subst e1 e2; grind
theorem q_dey' {d x3 y3 A B C D a b j5 j6 : F} (e1 : A * j5 = a) (e2 : C * j6 = b) (i5 : B * j5 = 1) (i6 : D * j6 = 1) :
    1 - d*x3*a*y3*b = (B*D - d*A*C*x3*y3) * (j5 * j6) := by subst e1 e2; grind
include K in
theorem ne_of_inv {a b : F} (h : a * b = 1) : b ≠ 0 := by intro e; rw [e] at h; have := K.one_ne; grind
theorem add_assoc {P1 P2 P3 : F × F} (h1 : On K P1) (h2 : On K P2) (h3 : On K P3) : add K (add K P1 P2) P3 = add K P1 (add K P2 P3) := by
  have g12 := on_add K h1 h2
  have g23 := on_add K h2 h3
  obtain ⟨c1, c2⟩ := complete K g12 h3
  obtain ⟨c3, c4⟩ := complete K h1 g23
  obtain ⟨c5, c6⟩ := complete K h1 h2
  obtain ⟨c7, c8⟩ := complete K h2 h3
  have i1 := K.hinv _ c1
  have i2 := K.hinv _ c2
  have i3 := K.hinv _ c3
  have i4 := K.hinv _ c4
  have i5 := K.hinv _ c5
  have i6 := K.hinv _ c6
  have i7 := K.hinv _ c7
  have i8 := K.hinv _ c8
  clear c1 c2 c3 c4 g12 g23
  obtain ⟨x1, y1⟩ := P1
  obtain ⟨x2, y2⟩ := P2
  obtain ⟨x3, y3⟩ := P3
  generalize e12 : add K (x1, y1) (x2, y2) = P12 at *
  generalize e23 : add K (x2, y2) (x3, y3) = P23 at *
  obtain ⟨a12, b12⟩ := P12
  obtain ⟨a23, b23⟩ := P23
  simp only [add, Prod.mk.injEq] at e12 e23 ⊢
  generalize K.inv (1 + tt K (a12, b12) (x3, y3)) = j1 at *
  generalize K.inv (1 - tt K (a12, b12) (x3, y3)) = j2 at *
  generalize K.inv (1 + tt K (x1, y1) (a23, b23)) = j3 at *
  generalize K.inv (1 - tt K (x1, y1) (a23, b23)) = j4 at *
  generalize K.inv (1 + tt K (x1, y1) (x2, y2)) = j5 at *
  generalize K.inv (1 - tt K (x1, y1) (x2, y2)) = j6 at *
  generalize K.inv (1 + tt K (x2, y2) (x3, y3)) = j7 at *
  generalize K.inv (1 - tt K (x2, y2) (x3, y3)) = j8 at *
  unfold On at h1 h2 h3
  simp only [tt] at *
  have ax := assoc_x h1 h2 h3 rfl rfl rfl rfl rfl rfl rfl rfl
  have ay := assoc_y h1 h2 h3 rfl rfl rfl rfl rfl rfl rfl rfl
  obtain ⟨e1, e2⟩ := e12
  obtain ⟨e3, e4⟩ := e23
  generalize hA : x1*y2+x2*y1 = A at *
  generalize hC : y1*y2+x1*x2 = C at *
  generalize hA' : x2*y3+x3*y2 = A' at *
  generalize hC' : y2*y3+x2*x3 = C' at *
  generalize hB : 1 + K.d*x1*x2*y1*y2 = B at *
  generalize hD : 1 - K.d*x1*x2*y1*y2 = D at *
  generalize hB' : 1 + K.d*x2*x3*y2*y3 = B' at *
  generalize hD' : 1 - K.d*x2*x3*y2*y3 = D' at *
  clear hA hC hA' hC' hB hD hB' hD' h1 h2 h3
  have s5 := ne_of_inv K i5
  have s6 := ne_of_inv K i6
  have s7 := ne_of_inv K i7
  have s8 := ne_of_inv K i8
  constructor
  · have q1 : a12 * y3 + x3 * b12 = (A*D*y3 + x3*C*B) * (j5 * j6) := q_num e1 e2 i5 i6
    have q2 : x1 * b23 + a23 * y1 = (A'*D'*y1 + x1*C'*B') * (j7 * j8) := q_num' e3 e4 i7 i8
    rw [q1, q2]
    refine frac K (m1 := B*D + K.d*A*C*x3*y3) (m2 := B'*D' + K.d*A'*C'*x1*y1) ax (q_den e1 e2 i5 i6) (q_den' e3 e4 i7 i8) i1 i3
  · have q1 : b12 * y3 + a12 * x3 = (C*B*y3 + A*D*x3) * (j5 * j6) := q_nuy e1 e2 i5 i6
    have q2 : y1 * b23 + x1 * a23 = (y1*(C'*B') + x1*(A'*D')) * (j7 * j8) := q_nuy' e3 e4 i7 i8
    rw [q1, q2]
    refine frac K (m1 := B*D - K.d*A*C*x3*y3) (m2 := B'*D' - K.d*A'*C'*x1*y1) ay (q_dey e1 e2 i5 i6) (q_dey' e3 e4 i7 i8) i2 i4
end
end Ed
end
section
namespace Ed
open Lean.Grind
section
variable {F : Type} [CommRing F] (K : Fld F)

def sm : Nat → F × F → F × F
  | 0, _ => O
  | k + 1, P => add K P (sm k P)
theorem on_sm {P : F × F} (h : On K P) : ∀ k, On K (sm K k P)
  | 0 => on_O K
  | k + 1 => on_add K h (on_sm h k)
theorem sm_add {P : F × F} (h : On K P) (b : Nat) : ∀ a, sm K (a + b) P = add K (sm K a P) (sm K b P)
  | 0 => by rw [Nat.zero_add]; exact (O_add K _).symm
  | a + 1 => by
    have e : a + 1 + b = (a + b) + 1 := by omega
    rw [e, sm, sm, sm_add h b a, add_assoc K h (on_sm K h a) (on_sm K h b)]
theorem sm_one (P : F × F) : sm K 1 P = P := add_O K P
theorem sm_two (P : F × F) : sm K 2 P = add K P P := by show add K P (sm K 1 P) = _; rw [sm_one]
theorem sm_O : ∀ k, sm K k (O : F × F) = O
  | 0 => rfl
  | k + 1 => by rw [sm, sm_O k, add_O]
theorem sm_mul {P : F × F} (h : On K P) (b : Nat) : ∀ a, sm K (a * b) P = sm K a (sm K b P)
  | 0 => by rw [Nat.zero_mul]; rfl
  | a + 1 => by
    have e : (a + 1) * b = b + a * b := by rw [Nat.add_mul, Nat.one_mul, Nat.add_comm]
    rw [e, sm, sm_add K h, sm_mul h b a]
theorem sm_comm {P : F × F} (h : On K P) (a b : Nat) : sm K a (sm K b P) = sm K b (sm K a P) := by
  rw [← sm_mul K h, ← sm_mul K h, Nat.mul_comm]
theorem add_add {P R S T : F × F} (h1 : On K P) (h2 : On K R) (h3 : On K S) (h4 : On K T) : add K (add K P R) (add K S T) = add K (add K P S) (add K R T) := by
  rw [add_assoc K h1 h2 (on_add K h3 h4), ← add_assoc K h2 h3 h4, add_comm K R S, add_assoc K h3 h2 h4, ← add_assoc K h1 h3 (on_add K h2 h4)]
theorem sm_sum {P R : F × F} (h1 : On K P) (h2 : On K R) : ∀ k, sm K k (add K P R) = add K (sm K k P) (sm K k R)
  | 0 => (O_add K _).symm
  | k + 1 => by rw [sm, sm_sum h1 h2 k, sm, sm, add_add K h1 h2 (on_sm K h1 k) (on_sm K h2 k)]
theorem add_left_cancel {P R S : F × F} (h1 : On K P) (h2 : On K R) (h3 : On K S) (e : add K P R = add K P S) : R = S := by
  have : add K (neg P) (add K P R) = add K (neg P) (add K P S) := by rw [e]
  rw [← add_assoc K (on_neg K h1) h1 h2, ← add_assoc K (on_neg K h1) h1 h3, add_comm K (neg P) P, add_neg K h1, O_add, O_add] at this
  exact this
/-- a multiple that vanishes twice vanishes at the gcd -/
theorem sm_gcd {P : F × F} (h : On K P) : ∀ a b : Nat, sm K a P = O → sm K b P = O → sm K (Nat.gcd a b) P = O := by
  intro a b
  induction a, b using Nat.gcd.induction with
  | H0 n => intro _ hb; rw [Nat.gcd_zero_left]; exact hb
  | H1 m n hm ih =>
    intro ha hb
    rw [Nat.gcd_rec]
    refine ih ?_ ha
    have e : n = n % m + m * (n / m) := (Nat.mod_add_div n m).symm
    rw [e, sm_add K h, Nat.mul_comm, sm_mul K h, ha, sm_O, add_O] at hb
    exact hb
theorem sm_sub {P : F × F} (h : On K P) {a b : Nat} (hab : a ≤ b) (e : sm K a P = sm K b P) : sm K (b - a) P = O := by
  have q : b = a + (b - a) := by omega
  have : add K (sm K a P) (sm K (b - a) P) = add K (sm K a P) O := by
    rw [← sm_add K h, ← q, add_O, e]
  exact add_left_cancel K (on_sm K h a) (on_sm K h _) (on_O K) this

/-- two points with one y: the same or opposite x -/
theorem same_y {x x' y : F} (h : On K (x, y)) (h' : On K (x', y)) : x' = x ∨ x' = -x := by
  have c := (complete K h h).1
  unfold On at h h'
  simp only [tt] at *
  have e : (1 + K.d * (y * y)) * ((x' - x) * (x' + x)) = 0 := by grind
  have n : 1 + K.d * (y * y) ≠ 0 := by
    intro z
    have hi := K.hi
    have : (K.i * 1) * (K.i * 1) = K.d * (y * y) := by grind
    have := K.nsq _ _ this
    rw [this] at z
    have := K.one_ne
    grind
  rcases K.nz _ _ ((K.nz _ _ e).resolve_left n) with z | z
  · left; grind
  · right; grind
end

/-! counting -/
theorem pigeon : ∀ (m n : Nat) (f : Nat → Nat), (∀ i < n, f i < m) → (∀ i < n, ∀ j < n, f i = f j → i = j) → n ≤ m := by
  intro m
  induction m with
  | zero => intro n f h _; rcases n with _ | n; exact Nat.le_refl _; exact absurd (h 0 (by omega)) (by omega)
  | succ m ih =>
    intro n f h inj
    by_cases q : ∃ k < n, f k = m
    · obtain ⟨k, hk, e⟩ := q
      have := ih (n - 1) (fun i => f (if i < k then i else i + 1)) (fun i hi => by
          have a : (if i < k then i else i + 1) < n := by split <;> omega
          have b := h _ a
          have c : f (if i < k then i else i + 1) ≠ m := fun z => by
            have := inj _ a _ hk (z.trans e.symm); split at this <;> omega
          show f (if i < k then i else i + 1) < m
          omega) (fun i hi j hj z => by
          have a : (if i < k then i else i + 1) < n := by split <;> omega
          have b : (if j < k then j else j + 1) < n := by split <;> omega
          have := inj _ a _ b z
          split at this <;> split at this <;> omega)
      omega
    · have := ih n f (fun i hi => by
        have b := h i hi
        have c : f i ≠ m := fun z => q ⟨i, hi, z⟩
        omega) inj
      omega
end Ed
namespace Ed
open Lean.Grind
section
variable {F : Type} [CommRing F] (K : Fld F)
/-- a cyclic group of M points, more than half of what there can be: M kills every point -/
theorem killed {M N : Nat} (code : F × F → Nat) (hc : ∀ P, On K P → code P < N) (hinj : ∀ P R, On K P → On K R → code P = code R → P = R)
    {G : F × F} (hG : On K G) (hM : sm K M G = O) (hord : ∀ k, 0 < k → k < M → sm K k G ≠ O) (big : N < 2 * M) {P : F × F} (hP : On K P) : sm K M P = O := by
  apply Classical.byContradiction
  intro hne
  have key : ∀ i j, sm K i G ≠ add K P (sm K j G) := by
    intro i j e
    have := congrArg (sm K M) e
    rw [sm_comm K hG, hM, sm_O, sm_sum K hP (on_sm K hG j), sm_comm K hG, hM, sm_O, add_O] at this
    exact hne this.symm
  have inj : ∀ i < M, ∀ j < M, sm K i G = sm K j G → i = j := by
    intro i hi j hj e
    rcases Nat.lt_trichotomy i j with l | l | l
    · exact absurd (sm_sub K hG (Nat.le_of_lt l) e) (hord _ (by omega) (by omega))
    · exact l
    · exact absurd (sm_sub K hG (Nat.le_of_lt l) e.symm) (hord _ (by omega) (by omega))
  have on : ∀ i, On K (if i < M then sm K i G else add K P (sm K (i - M) G)) := by
    intro i
    split
    · exact on_sm K hG i
    · exact on_add K hP (on_sm K hG _)
  have := pigeon N (2 * M) (fun i => code (if i < M then sm K i G else add K P (sm K (i - M) G))) (fun i _ => hc _ (on i)) (fun i hi j hj e => by
    have e := hinj _ _ (on i) (on j) e
    split at e <;> split at e
    · exact inj i (by omega) j (by omega) e
    · exact absurd e (key _ _)
    · exact absurd e.symm (key _ _)
    · have := inj (i - M) (by omega) (j - M) (by omega) (add_left_cancel K hP (on_sm K hG _) (on_sm K hG _) e)
      omega)
  omega
end
end Ed
end
section
namespace Ed
def Prm (n : Nat) : Prop := 1 < n ∧ ∀ m, m ∣ n → m = 1 ∨ m = n
theorem Prm.cop {p : Nat} (h : Prm p) {a : Nat} (ha : ¬ p ∣ a) : Nat.Coprime p a := by
  rcases h.2 _ (Nat.gcd_dvd_left p a) with e | e
  · exact e
  · exact absurd (e ▸ Nat.gcd_dvd_right p a) ha
theorem Prm.mul {p a b : Nat} (h : Prm p) (hd : p ∣ a * b) : p ∣ a ∨ p ∣ b := by
  by_cases q : p ∣ a
  · exact .inl q
  · exact .inr ((h.cop q).dvd_of_dvd_mul_left hd)

def ch : Nat → Nat → Nat
  | _, 0 => 1
  | 0, _ + 1 => 0
  | n + 1, k + 1 => ch n k + ch n (k + 1)
theorem ch_zero (n : Nat) : ch n 0 = 1 := by cases n <;> rfl
theorem ch_over : ∀ n k, n < k → ch n k = 0
  | 0, 0, h => absurd h (by omega)
  | 0, k + 1, _ => rfl
  | n + 1, 0, h => absurd h (by omega)
  | n + 1, k + 1, h => by rw [ch, ch_over n k (by omega), ch_over n (k + 1) (by omega)]
theorem ch_self : ∀ n, ch n n = 1
  | 0 => rfl
  | n + 1 => by rw [ch, ch_self n, ch_over n (n + 1) (by omega)]
theorem ch_mul : ∀ n k, (k + 1) * ch (n + 1) (k + 1) = (n + 1) * ch n k
  | 0, 0 => rfl
  | 0, k + 1 => by rw [ch, ch, ch]; rfl
  | n + 1, 0 => by
    have h := ch_mul n 0
    have e : ch (n + 1 + 1) (0 + 1) = ch (n + 1) 0 + ch (n + 1) (0 + 1) := rfl
    rw [e]
    rw [ch_zero] at *
    omega
  | n + 1, k + 1 => by
    have h1 := ch_mul n k
    have h2 := ch_mul n (k + 1)
    rw [ch]
    have e : ch (n + 1) (k + 1) = ch n k + ch n (k + 1) := rfl
    have : (k + 1 + 1) * (ch (n + 1) (k + 1) + ch (n + 1) (k + 1 + 1)) = (k + 1) * ch (n + 1) (k + 1) + ch (n + 1) (k + 1) + (k + 1 + 1) * ch (n + 1) (k + 1 + 1) := by grind
    rw [this, h1, h2, e]
    grind
def S (n a : Nat) : Nat → Nat
  | 0 => 0
  | m + 1 => S n a m + ch n m * a ^ m
theorem S_succ (n a : Nat) : ∀ m, S (n + 1) a (m + 1) = a * S n a m + S n a (m + 1)
  | 0 => by simp [S, ch_zero]
  | m + 1 => by
    rw [S, S_succ n a m]
    have e : ch (n + 1) (m + 1) = ch n m + ch n (m + 1) := rfl
    rw [e]
    simp only [S, Nat.pow_succ]
    grind
theorem S_all (a : Nat) : ∀ n, S n a (n + 1) = (a + 1) ^ n
  | 0 => by simp [S, ch_zero]
  | n + 1 => by
    rw [S_succ]
    have e : S n a (n + 1 + 1) = S n a (n + 1) + ch n (n + 1) * a ^ (n + 1) := rfl
    rw [e, ch_over n (n + 1) (by omega), S_all a n, Nat.pow_succ]
    grind
theorem S_mod {p : Nat} (hp : Prm p) (a : Nat) : ∀ m, m < p → S p a (m + 1) % p = 1 % p
  | 0, _ => by simp [S, ch_zero]
  | m + 1, h => by
    rw [S, Nat.add_mod, S_mod hp a m (by omega)]
    have d : p ∣ ch p (m + 1) := by
      obtain ⟨q, rfl⟩ : ∃ q, p = q + 1 := ⟨p - 1, by omega⟩
      have := ch_mul q m
      refine (hp.mul (a := m + 1) ⟨_, this⟩).resolve_left fun z => ?_
      have := Nat.le_of_dvd (by omega) z
      omega
    obtain ⟨c, e⟩ := d
    rw [e, Nat.mul_assoc, Nat.mul_mod_right, Nat.add_zero, Nat.mod_mod]
theorem fermat_succ {p : Nat} (hp : Prm p) (a : Nat) : (a + 1) ^ p % p = (a ^ p + 1) % p := by
  have h := S_all a p
  rw [S, ch_self, Nat.one_mul] at h
  rw [← h]
  have q := S_mod hp a (p - 1) (by have := hp.1; omega)
  have e : p - 1 + 1 = p := by have := hp.1; omega
  rw [e] at q
  rw [Nat.add_mod, q, ← Nat.add_mod, Nat.add_comm]
theorem fermat {p : Nat} (hp : Prm p) : ∀ a, a ^ p % p = a % p
  | 0 => by rw [Nat.zero_pow (by have := hp.1; omega)]
  | a + 1 => by rw [fermat_succ hp, Nat.add_mod, fermat hp a, ← Nat.add_mod]
theorem fermat1 {p : Nat} (hp : Prm p) {a : Nat} (ha : ¬ p ∣ a) : a ^ (p - 1) % p = 1 % p := by
  have h := fermat hp a
  obtain ⟨q, rfl⟩ : ∃ q, p = q + 1 := ⟨p - 1, by have := hp.1; omega⟩
  rw [Nat.pow_succ] at h
  have a0 : 0 < a := Nat.pos_of_ne_zero fun z => ha (z ▸ Nat.dvd_zero _)
  have g : 1 ≤ a ^ q := Nat.one_le_pow _ _ a0
  have d : (q + 1) ∣ a * (a ^ q - 1) := by
    rw [Nat.mul_sub, Nat.mul_one, Nat.mul_comm]
    exact Nat.dvd_of_mod_eq_zero (Nat.sub_mod_eq_zero_of_mod_eq h)
  have d := (hp.mul d).resolve_left ha
  obtain ⟨c, e⟩ := d
  have : a ^ q = 1 + (q + 1) * c := by omega
  rw [Nat.add_sub_cancel, this, Nat.add_mul_mod_self_left]

theorem pow_gcd (b r : Nat) : ∀ m n, b ^ m % r = 1 % r → b ^ n % r = 1 % r → b ^ (Nat.gcd m n) % r = 1 % r := by
  intro m n
  induction m, n using Nat.gcd.induction with
  | H0 n => intro _ h; rwa [Nat.gcd_zero_left]
  | H1 m n hm ih =>
    intro h1 h2
    rw [Nat.gcd_rec]
    refine ih ?_ h1
    have e : n = n % m + m * (n / m) := (Nat.mod_add_div n m).symm
    have g : (b ^ m) ^ (n / m) % r = 1 % r := by rw [Nat.pow_mod, h1, ← Nat.pow_mod, Nat.one_pow]
    rw [e, Nat.pow_add, Nat.pow_mul, Nat.mul_mod, g, ← Nat.mul_mod, Nat.mul_one] at h2
    exact h2
theorem prime_factor : ∀ m, 1 < m → ∃ r, Prm r ∧ r ∣ m := by
  intro m
  induction m using Nat.strongRecOn with
  | ind m ih =>
    intro h
    by_cases q : Prm m
    · exact ⟨m, q, Nat.dvd_refl _⟩
    · have : ∃ k, k ∣ m ∧ k ≠ 1 ∧ k ≠ m := by
        apply Classical.byContradiction
        intro z
        refine q ⟨h, fun k hk => ?_⟩
        apply Classical.byContradiction
        intro y
        exact z ⟨k, hk, fun e => y (.inl e), fun e => y (.inr e)⟩
      obtain ⟨k, hk, h1, h2⟩ := this
      have : k ≤ m := Nat.le_of_dvd (by omega) hk
      have : k ≠ 0 := by rintro rfl; rw [Nat.zero_dvd] at hk; omega
      obtain ⟨r, hr, hd⟩ := ih k (by omega) (by omega)
      exact ⟨r, hr, Nat.dvd_trans hd hk⟩
theorem prm_of {n : Nat} (h : 1 < n) (hf : ∀ r, Prm r → r ∣ n → n < r * r) : Prm n := by
  refine ⟨h, fun m hm => ?_⟩
  apply Classical.byContradiction
  intro z
  have z1 : m ≠ 1 := fun e => z (.inl e)
  have z2 : m ≠ n := fun e => z (.inr e)
  obtain ⟨k, e⟩ := hm
  have m0 : m ≠ 0 := by rintro rfl; omega
  have k0 : k ≠ 0 := by rintro rfl; omega
  have k1 : k ≠ 1 := by rintro rfl; omega
  have small : ∀ m k, n = m * k → 1 < m → m ≤ k → False := by
    intro m k e h1 hle
    obtain ⟨r, hr, hd⟩ := prime_factor m h1
    have := hf r hr (Nat.dvd_trans hd ⟨k, e⟩)
    have a := Nat.le_of_dvd (by omega) hd
    have := Nat.mul_le_mul a (Nat.le_trans a hle)
    omega
  rcases Nat.le_total m k with l | l
  · exact small m k e (by omega) l
  · exact small k m (by rw [e, Nat.mul_comm]) (by omega) l

/-- q divides r - 1 -/
theorem pock_one {n q a r : Nat} (hq : Prm q) (hqn : q ∣ n - 1) (h1 : a ^ (n - 1) % n = 1 % n) (hg : Nat.gcd (a ^ ((n - 1) / q) % n + n - 1) n = 1) (hr : Prm r) (hrn : r ∣ n) (hn : 1 < n) : q ∣ r - 1 := by
  apply Classical.byContradiction
  intro z
  have hc : Nat.gcd q (r - 1) = 1 := hq.cop z
  have b1 : (a ^ ((n - 1) / q)) ^ q % r = 1 % r := by
    rw [← Nat.pow_mul, Nat.div_mul_cancel hqn]
    have := congrArg (· % r) h1
    simp only [Nat.mod_mod_of_dvd _ hrn] at this
    exact this
  generalize hb : a ^ ((n - 1) / q) = b at *
  have nr : ¬ r ∣ b := by
    intro d
    obtain ⟨c, e⟩ := d
    have q0 : q = (q - 1) + 1 := by have := hq.1; omega
    rw [q0, Nat.pow_succ, e, Nat.mul_comm, Nat.mul_assoc, Nat.mul_mod_right, Nat.mod_eq_of_lt hr.1] at b1
    omega
  have b2 := pow_gcd b r _ _ b1 (fermat1 hr nr)
  rw [hc, Nat.pow_one] at b2
  have d1 : r ∣ b % n + n - 1 := by
    have : (b % n + n) % r = 1 % r := by
      obtain ⟨c, rfl⟩ := hrn
      rw [Nat.add_mul_mod_self_left, Nat.mod_mod_of_dvd _ ⟨c, rfl⟩, b2]
    exact Nat.dvd_of_mod_eq_zero (Nat.sub_mod_eq_zero_of_mod_eq this)
  have := Nat.dvd_gcd d1 hrn
  rw [hg] at this
  have := Nat.le_of_dvd (by omega) this
  have := hr.1
  omega
def prods : List Nat → Nat
  | [] => 1
  | q :: r => q * prods r
theorem prods_dvd {x : Nat} : ∀ l : List Nat, (∀ q ∈ l, Prm q ∧ q ∣ x) → l.Nodup → prods l ∣ x
  | [], _, _ => Nat.one_dvd _
  | q :: l, h, nd => by
    have ih := prods_dvd l (fun y hy => h y (.tail _ hy)) (List.nodup_cons.mp nd).2
    refine Nat.Coprime.mul_dvd_of_dvd_of_dvd ?_ (h q (.head _)).2 ih
    refine (h q (.head _)).1.cop fun d => ?_
    have : ∀ l : List Nat, (∀ y ∈ l, Prm y) → q ∣ prods l → q ∈ l := by
      intro l
      induction l with
      | nil => intro _ d; have := Nat.le_of_dvd (by decide) d; have := (h q (.head _)).1.1; simp [prods] at *; omega
      | cons y l ih =>
        intro hl d
        rcases (h q (.head _)).1.mul d with d | d
        · rcases (hl y (.head _)).2 _ d with e | e
          · have := (h q (.head _)).1.1; omega
          · rw [e]; exact .head _
        · exact .tail _ (ih (fun z hz => hl z (.tail _ hz)) d)
    exact (List.nodup_cons.mp nd).1 (this l (fun y hy => (h y (.tail _ hy)).1) d)
theorem pock {n : Nat} (hn : 1 < n) (l : List Nat) (nd : l.Nodup) (hl : ∀ q ∈ l, Prm q ∧ q ∣ n - 1 ∧ ∃ a, a ^ (n - 1) % n = 1 % n ∧ Nat.gcd (a ^ ((n - 1) / q) % n + n - 1) n = 1) (big : n ≤ prods l * prods l) : Prm n := by
  refine prm_of hn fun r hr hd => ?_
  have : prods l ∣ r - 1 := prods_dvd l (fun q hq => by
    obtain ⟨h1, h2, a, h3, h4⟩ := hl q hq
    exact ⟨h1, pock_one h1 h2 h3 h4 hr hd hn⟩) nd
  have r1 := hr.1
  have := Nat.le_of_dvd (by omega) this
  have : prods l < r := by omega
  exact Nat.lt_of_le_of_lt big (Nat.mul_lt_mul_of_lt_of_le this (Nat.le_of_lt this) (by omega))

/-! powers modulo, reckoned -/
def pmF (m : Nat) : Nat → Nat → Nat → Nat → Nat
  | 0, _, _, acc => acc
  | f + 1, b, e, acc => if e = 0 then acc else pmF m f (b * b % m) (e / 2) (if e % 2 = 1 then acc * b % m else acc)
theorem pmF_eq (m : Nat) : ∀ f b e acc, e < 2 ^ f → pmF m f b e acc % m = acc * b ^ e % m
  | 0, b, e, acc, h => by
    have : e = 0 := by simpa using h
    subst this
    simp [pmF]
  | f + 1, b, e, acc, h => by
    rw [pmF]
    split
    · rename_i z; subst z; simp
    · rw [pmF_eq m f _ _ _ (by rw [Nat.pow_succ] at h; omega)]
      have he : e = 2 * (e / 2) + e % 2 := by omega
      rw [Nat.mul_mod, ← Nat.pow_mod, ← Nat.mul_mod]
      conv => rhs; rw [he, Nat.pow_add, Nat.pow_mul, Nat.pow_two]
      have := Nat.mod_two_eq_zero_or_one e
      split
      · rename_i q
        rw [q, Nat.pow_one, Nat.mul_mod, Nat.mod_mod, ← Nat.mul_mod]
        congr 1
        rw [Nat.mul_comm ((b*b)^(e/2)) b, Nat.mul_assoc]
      · rename_i q
        have : e % 2 = 0 := by omega
        rw [this]; simp
theorem pm_of {m b e r : Nat} (f : Nat) (h : (decide (e < 2 ^ f) && pmF m f b e 1 % m == r) = true) : b ^ e % m = r := by
  simp only [Bool.and_eq_true, decide_eq_true_eq, beq_iff_eq] at h
  have := pmF_eq m f b e 1 h.1
  rw [Nat.one_mul] at this
  rw [← this]; exact h.2
/-- trial division -/
def noDiv (n : Nat) : Nat → Nat → Bool
  | 0, _ => true
  | f + 1, k => n % k != 0 && noDiv n f (k + 1)
theorem noDiv_eq {n : Nat} : ∀ f k, noDiv n f k = true → ∀ j, k ≤ j → j < k + f → ¬ j ∣ n
  | 0, k, _, j, h1, h2 => by omega
  | f + 1, k, h, j, h1, h2 => by
    simp only [noDiv, Bool.and_eq_true, bne_iff_ne, ne_eq] at h
    by_cases q : j = k
    · subst q; exact fun d => h.1 (Nat.mod_eq_zero_of_dvd d)
    · exact noDiv_eq f (k + 1) h.2 j (by omega) (by omega)
theorem prm_small {n : Nat} (f : Nat) (h : (decide (1 < n) && decide (n < (f + 2) * (f + 2)) && noDiv n f 2) = true) : Prm n := by
  simp only [Bool.and_eq_true, decide_eq_true_eq] at h
  refine prm_of h.1.1 fun r hr hd => ?_
  have := noDiv_eq f 2 h.2 r hr.1
  have g : 2 + f ≤ r := Nat.le_of_not_lt fun z => this z hd
  exact Nat.lt_of_lt_of_le h.1.2 (Nat.mul_le_mul (by omega) (by omega))
end Ed
end
section
namespace Ed
open Lean.Grind

/-! the field Fin p -/
section
variable (p : Nat) [NeZero p]
/-- an int in the field -/
def fi (a : Int) : Fin p := @Int.cast (Fin p) (Ring.intCast) a
theorem fi_add (a b : Int) : fi p (a + b) = fi p a + fi p b := Ring.intCast_add a b
theorem fi_mul (a b : Int) : fi p (a * b) = fi p a * fi p b := Ring.intCast_mul a b
theorem fi_sub (a b : Int) : fi p (a - b) = fi p a - fi p b := Ring.intCast_sub a b
theorem fi_neg (a : Int) : fi p (-a) = - fi p a := Ring.intCast_neg a
theorem fi_one : fi p 1 = 1 := Ring.intCast_one
theorem fi_zero : fi p 0 = 0 := Ring.intCast_zero
theorem fi_two : fi p 2 = 2 := by
  have : (2 : Int) = 1 + 1 := rfl
  rw [this, fi_add, fi_one]; grind
theorem fi_pow (a : Int) : ∀ n : Nat, fi p (a ^ n) = fi p a ^ n
  | 0 => by rw [Int.pow_zero, Semiring.pow_zero, fi_one]
  | n + 1 => by rw [Int.pow_succ, Semiring.pow_succ, fi_mul, fi_pow a n]
theorem fi_ext {a b : Int} : fi p a = fi p b ↔ a % p = b % p := IsCharP.intCast_ext_iff p
theorem fi_mod (a : Int) : fi p (a % p) = fi p a := (fi_ext p).mpr (Int.emod_emod_of_dvd _ (Int.dvd_refl _))
theorem fi_val (x : Fin p) : fi p (x.val : Int) = x := by
  have e : fi p (x.val : Int) = Fin.intCast (x.val : Int) := rfl
  rw [e]
  unfold Fin.intCast
  rw [if_pos (Int.natCast_nonneg _)]
  apply Fin.ext
  simp [Fin.ofNat, Nat.mod_eq_of_lt x.isLt]
theorem fi_eq_zero {a : Int} : fi p a = 0 ↔ a % p = 0 := by
  rw [← fi_zero, fi_ext, Int.zero_emod]
end

section
variable {p : Nat} [NeZero p] (hp : Prm p)
include hp
theorem fi_nz (a b : Fin p) (h : a * b = 0) : a = 0 ∨ b = 0 := by
  rw [← fi_val p a, ← fi_val p b, ← fi_mul, fi_eq_zero] at h
  have h : p ∣ a.val * b.val := by
    have := Int.dvd_of_emod_eq_zero h
    exact_mod_cast this
  rcases hp.mul h with d | d
  · left; rw [← fi_val p a, fi_eq_zero]; exact_mod_cast Nat.mod_eq_zero_of_dvd d
  · right; rw [← fi_val p b, fi_eq_zero]; exact_mod_cast Nat.mod_eq_zero_of_dvd d
theorem fi_fermat (a : Fin p) (h : a ≠ 0) : a ^ (p - 1) = 1 := by
  have n : ¬ p ∣ a.val := fun d => h (by rw [← fi_val p a, fi_eq_zero]; exact_mod_cast Nat.mod_eq_zero_of_dvd d)
  rw [← fi_val p a, ← fi_pow, ← fi_one, fi_ext]
  exact_mod_cast fermat1 hp n
theorem fi_inv (h2 : 2 < p) (a : Fin p) (h : a ≠ 0) : a * a ^ (p - 2) = 1 := by
  have e : p - 1 = (p - 2) + 1 := by omega
  have := fi_fermat hp a h
  rw [e, Semiring.pow_succ] at this
  rw [CommSemiring.mul_comm]; exact this
end
theorem pow_mul' {F : Type} [CommRing F] (a b : F) : ∀ n : Nat, (a * b) ^ n = a ^ n * b ^ n
  | 0 => by rw [Semiring.pow_zero, Semiring.pow_zero, Semiring.pow_zero]; grind
  | n + 1 => by rw [Semiring.pow_succ, Semiring.pow_succ, Semiring.pow_succ, pow_mul' a b n]; grind
theorem pow_pow' {F : Type} [CommRing F] (a : F) (m : Nat) : ∀ n : Nat, (a ^ m) ^ n = a ^ (m * n)
  | 0 => by rw [Semiring.pow_zero, Nat.mul_zero, Semiring.pow_zero]
  | n + 1 => by rw [Semiring.pow_succ, pow_pow' a m n, Nat.mul_succ, Semiring.pow_add]
theorem one_pow' {F : Type} [CommRing F] : ∀ n : Nat, (1 : F) ^ n = 1
  | 0 => Semiring.pow_zero _
  | n + 1 => by rw [Semiring.pow_succ, one_pow' n]; grind

/-- all that is asked of the numbers -/
structure Nums (p : Nat) (d i : Int) : Prop where
  pr : Prm p
  odd : p % 8 = 5
  hi : i * i % p = (-1) % p
  hd : d ^ ((p - 1) / 2) % p = (-1) % p
section
variable {p : Nat} [NeZero p] {d i : Int} (H : Nums p d i)
include H
theorem two_lt : 2 < p := by have := H.odd; have := H.pr.1; omega
theorem one_ne' : (1 : Fin p) ≠ 0 := by
  rw [← fi_one, ne_eq, fi_eq_zero]
  have := two_lt H
  have e : (1 : Int) % p = 1 := Int.emod_eq_of_lt (by omega) (by omega)
  omega
theorem two_ne' : (2 : Fin p) ≠ 0 := by
  rw [← fi_two, ne_eq, fi_eq_zero]
  have := two_lt H
  have e : (2 : Int) % p = 2 := Int.emod_eq_of_lt (by omega) (by omega)
  omega
theorem fi_m1 : fi p (-1) = -1 := by rw [fi_neg, fi_one]
theorem nonres {z : Fin p} (hz : z ^ ((p - 1) / 2) = -1) (a b : Fin p) (e : a * a = z * (b * b)) : b = 0 := by
  apply Classical.byContradiction
  intro hb
  have e2 : p - 1 = 2 * ((p - 1) / 2) := by have := H.odd; omega
  have hbb := fi_fermat H.pr b hb
  have h := congrArg (· ^ ((p - 1) / 2)) e
  simp only [pow_mul'] at h
  rw [← Semiring.pow_add, ← Semiring.pow_add, ← Nat.two_mul, ← e2, hz, hbb] at h
  have o := one_ne' H
  have t := two_ne' H
  by_cases ha : a = 0
  · rw [ha] at h
    have hp := two_lt H
    have z0 : (0 : Fin p) ^ (p - 1) = 0 := by
      obtain ⟨q, hq⟩ : ∃ q, p - 1 = q + 1 := ⟨p - 2, by omega⟩
      rw [hq, Semiring.pow_succ]; exact Semiring.mul_zero _
    rw [z0] at h
    apply o
    have : (-1 : Fin p) * 1 = 0 := h.symm
    grind
  · rw [fi_fermat H.pr a ha] at h
    apply t
    grind
def KF : Fld (Fin p) where
  inv := fun a => a ^ (p - 2)
  d := fi p d
  i := fi p i
  hi := by rw [← fi_mul, ← fi_m1 H]; exact (fi_ext p).mpr H.hi
  nz := fi_nz H.pr
  hinv := fi_inv H.pr (two_lt H)
  one_ne := one_ne' H
  two_ne := two_ne' H
  nsq := nonres H (by rw [← fi_pow, ← fi_m1 H]; exact (fi_ext p).mpr H.hd)
end
end Ed
end
section
namespace Ed
open Lean.Grind
/-! extended coordinates -/
section
variable {F : Type} [CommRing F] (K : Fld F)
/-- X, Y, Z, T stand for the point P -/
def Rep (X Y Z T : F) (P : F × F) : Prop := Z ≠ 0 ∧ X = P.1 * Z ∧ Y = P.2 * Z ∧ T = P.1 * P.2 * Z
theorem rep_affine (x y : F) : Rep x y 1 (x * y) (x, y) ∨ (1 : F) = 0 := by
  by_cases h : (1 : F) = 0
  · exact .inr h
  · refine .inl ⟨h, ?_, ?_, ?_⟩ <;> grind

include K in
theorem rep_sum {E FF G H x3n x3d y3n y3d u v : F} (hu : x3d * u = 1) (hv : y3d * v = 1) (hx : E * x3d = x3n * G) (hy : H * y3d = y3n * FF) (hF : FF ≠ 0) (hG : G ≠ 0) :
    Rep (E * FF) (G * H) (FF * G) (E * H) (x3n * u, y3n * v) := by
  have e : E = x3n * u * G := by
    have : E * x3d * u = x3n * G * u := by rw [hx]
    grind
  have h : H = y3n * v * FF := by
    have : H * y3d * v = y3n * FF * v := by rw [hy]
    grind
  refine ⟨mul_ne K hF hG, ?_, ?_, ?_⟩
  · rw [e]; grind
  · rw [h]; grind
  · rw [e, h]; grind

theorem rep_double {X Y Z T : F} {P : F × F} (hP : On K P) (R : Rep X Y Z T P) {A B C D E G FF H : F} (hA : A = X * X) (hB : B = Y * Y) (hC : C = 2 * Z * Z) (hD : D = -A)
    (hE : E = (X + Y) * (X + Y) - A - B) (hG : G = D + B) (hF : FF = G - C) (hH : H = D - B) : Rep (E * FF) (G * H) (FF * G) (E * H) (add K P P) := by
  obtain ⟨hZ, hX, hY, hT⟩ := R
  obtain ⟨c1, c2⟩ := complete K hP hP
  have i1 := K.hinv _ c1
  have i2 := K.hinv _ c2
  obtain ⟨x, y⟩ := P
  unfold On at hP
  simp only [add, tt] at *
  have g : G = Z * Z * (1 + K.d * x * x * y * y) := by subst hX hY hA hB hC hD hG; grind
  have f : FF = -(Z * Z * (1 - K.d * x * x * y * y)) := by subst hF hC; rw [g]; grind
  refine rep_sum K i1 i2 ?_ ?_ ?_ ?_
  · rw [g]; subst hE hA hB hX hY; grind
  · rw [f]; subst hH hD hA hB hX hY; grind
  · rw [f]; intro z; exact mul_ne K (mul_ne K hZ hZ) c2 (by grind)
  · rw [g]; exact mul_ne K (mul_ne K hZ hZ) c1

theorem rep_add {X1 Y1 Z1 T1 X2 Y2 Z2 T2 : F} {P R : F × F} (hP : On K P) (hR : On K R) (R1 : Rep X1 Y1 Z1 T1 P) (R2 : Rep X2 Y2 Z2 T2 R) {A B C D E G FF H : F}
    (hA : A = (Y1 - X1) * (Y2 - X2)) (hB : B = (Y1 + X1) * (Y2 + X2)) (hC : C = T1 * (2 * K.d) * T2) (hD : D = Z1 * 2 * Z2)
    (hE : E = B - A) (hF : FF = D - C) (hG : G = D + C) (hH : H = B + A) : Rep (E * FF) (G * H) (FF * G) (E * H) (add K P R) := by
  obtain ⟨hZ, hX, hY, hT⟩ := R1
  obtain ⟨hZ', hX', hY', hT'⟩ := R2
  obtain ⟨c1, c2⟩ := complete K hP hR
  have i1 := K.hinv _ c1
  have i2 := K.hinv _ c2
  obtain ⟨x1, y1⟩ := P
  obtain ⟨x2, y2⟩ := R
  simp only [add, tt] at *
  have g : G = 2 * (Z1 * Z2) * (1 + K.d * x1 * x2 * y1 * y2) := by subst hG hD hC hT hT'; grind
  have f : FF = 2 * (Z1 * Z2) * (1 - K.d * x1 * x2 * y1 * y2) := by subst hF hD hC hT hT'; grind
  refine rep_sum K i1 i2 ?_ ?_ ?_ ?_
  · rw [g]; subst hE hA hB hX hY hX' hY'; grind
  · rw [f]; subst hH hA hB hX hY hX' hY'; grind
  · rw [f]; exact mul_ne K (mul_ne K K.two_ne (mul_ne K hZ hZ')) c2
  · rw [g]; exact mul_ne K (mul_ne K K.two_ne (mul_ne K hZ hZ')) c1

/-- the sum that fails on points that differ by one of order 1, 2, 4 -/
theorem bad_x {P R : F × F} (hP : On K P) (hR : On K R) (e : P.1 * R.2 - R.1 * P.2 = 0) : sm K 4 P = sm K 4 R := by
  have hN := on_neg K hR
  have hS := on_add K hP hN
  have x0 : (add K P (neg R)).1 = 0 := by
    have : (P.1 * (neg R).2 + (neg R).1 * P.2) = 0 := by simp only [neg]; grind
    simp only [add, this]; grind
  have d2 : sm K 2 (add K P (neg R)) = O := by
    rw [sm_two]
    generalize add K P (neg R) = S at *
    obtain ⟨x, y⟩ := S
    simp only at x0
    subst x0
    unfold On at hS
    have t0 : tt K (0, y) (0, y) = 0 := by simp only [tt]; grind
    have a1 : (1 + 0 : F) = 1 := by grind
    have a2 : (1 - 0 : F) = 1 := by grind
    simp only [add, t0, a1, a2, inv_one, O]
    simp only at hS
    congr 1 <;> grind
  have d4 : sm K 4 (add K P (neg R)) = O := by
    have : sm K (2 * 2) (add K P (neg R)) = O := by rw [sm_mul K hS, d2, sm_O]
    exact this
  have n4 : sm K 4 (neg R) = neg (sm K 4 R) ∨ True := .inr trivial
  rw [sm_sum K hP hN] at d4
  have z : add K (sm K 4 R) (sm K 4 (neg R)) = O := by rw [← sm_sum K hR hN, add_neg K hR, sm_O]
  rw [add_comm] at d4 z
  exact add_left_cancel K (on_sm K hN 4) (on_sm K hP 4) (on_sm K hR 4) (d4.trans z.symm)
theorem bad_y {P R : F × F} (hP : On K P) (hR : On K R) (e : P.2 * R.2 - P.1 * R.1 = 0) : sm K 4 P = sm K 4 R := by
  have hN := on_neg K hR
  have hS := on_add K hP hN
  have y0 : (add K P (neg R)).2 = 0 := by
    have : (P.2 * (neg R).2 + P.1 * (neg R).1) = 0 := by simp only [neg]; grind
    simp only [add, this]; grind
  have d4 : sm K 4 (add K P (neg R)) = O := by
    have : sm K (2 * 2) (add K P (neg R)) = O := by
      rw [sm_mul K hS, sm_two, sm_two]
      generalize add K P (neg R) = S at *
      obtain ⟨x, y⟩ := S
      simp only at y0
      subst y0
      unfold On at hS
      simp only at hS
      have t0 : tt K (x, 0) (x, 0) = 0 := by simp only [tt]; grind
      have a1 : (1 + 0 : F) = 1 := by grind
      have a2 : (1 - 0 : F) = 1 := by grind
      have e1 : add K (x, 0) (x, 0) = (0, -1) := by
        simp only [add, t0, a1, a2, inv_one]
        congr 1 <;> grind
      rw [e1]
      have t0 : tt K (0, -1) (0, -1) = 0 := by simp only [tt]; grind
      simp only [add, t0, a1, a2, inv_one, O]
      congr 1 <;> grind
    exact this
  rw [sm_sum K hP hN] at d4
  have z : add K (sm K 4 R) (sm K 4 (neg R)) = O := by rw [← sm_sum K hR hN, add_neg K hR, sm_O]
  rw [add_comm] at d4 z
  exact add_left_cancel K (on_sm K hN 4) (on_sm K hP 4) (on_sm K hR 4) (d4.trans z.symm)

theorem rep_nonu {X1 Y1 Z1 T1 X2 Y2 Z2 T2 : F} {P R : F × F} (hP : On K P) (hR : On K R) (ne : sm K 4 P ≠ sm K 4 R) (R1 : Rep X1 Y1 Z1 T1 P) (R2 : Rep X2 Y2 Z2 T2 R) {A B C D E G FF H : F}
    (hA : A = (Y1 - X1) * (Y2 + X2)) (hB : B = (Y1 + X1) * (Y2 - X2)) (hC : C = Z1 * 2 * T2) (hD : D = T1 * 2 * Z2)
    (hE : E = D + C) (hF : FF = B - A) (hG : G = B + A) (hH : H = D - C) : Rep (E * FF) (G * H) (FF * G) (E * H) (add K P R) := by
  have b1 : P.1 * R.2 - R.1 * P.2 ≠ 0 := fun e => ne (bad_x K hP hR e)
  have b2 : P.2 * R.2 - P.1 * R.1 ≠ 0 := fun e => ne (bad_y K hP hR e)
  obtain ⟨hZ, hX, hY, hT⟩ := R1
  obtain ⟨hZ', hX', hY', hT'⟩ := R2
  obtain ⟨c1, c2⟩ := complete K hP hR
  have i1 := K.hinv _ c1
  have i2 := K.hinv _ c2
  obtain ⟨x1, y1⟩ := P
  obtain ⟨x2, y2⟩ := R
  unfold On at hP hR
  simp only [add, tt] at *
  have g : G = 2 * (Z1 * Z2) * (y1 * y2 - x1 * x2) := by subst hG hB hA hX hX' hY hY'; grind
  have f : FF = 2 * (Z1 * Z2) * (x1 * y2 - x2 * y1) := by subst hF hB hA hX hX' hY hY'; grind
  have e : E = 2 * (Z1 * Z2) * (x1 * y1 + x2 * y2) := by subst hE hC hD hT hT'; grind
  have h : H = 2 * (Z1 * Z2) * (x1 * y1 - x2 * y2) := by subst hH hC hD hT hT'; grind
  refine rep_sum K i1 i2 ?_ ?_ ?_ ?_
  · rw [g, e]; clear g e f h hX hX' hY hY' hT hT' hA hB hC hD hE hF hG hH i1 i2 c1 c2 b1 b2 ne; grind
  · rw [f, h]; clear g e f h hX hX' hY hY' hT hT' hA hB hC hD hE hF hG hH i1 i2 c1 c2 b1 b2 ne; grind
  · rw [f]; exact mul_ne K (mul_ne K K.two_ne (mul_ne K hZ hZ')) b1
  · rw [g]; exact mul_ne K (mul_ne K K.two_ne (mul_ne K hZ hZ')) b2
end
end Ed
end
section
namespace Ed
theorem pockw {n q : Nat} (f a : Nat) (hq : Prm q) (h : (decide ((n - 1) % q = 0) && (decide (n - 1 < 2 ^ f) && ((pmF n f a (n - 1) 1 % n == 1 % n) && (decide ((n - 1) / q < 2 ^ f) && (Nat.gcd (pmF n f a ((n - 1) / q) 1 % n + n - 1) n == 1))))) = true) :
    Prm q ∧ q ∣ n - 1 ∧ ∃ a, a ^ (n - 1) % n = 1 % n ∧ Nat.gcd (a ^ ((n - 1) / q) % n + n - 1) n = 1 := by
  simp only [Bool.and_eq_true, decide_eq_true_eq, beq_iff_eq] at h
  obtain ⟨h1, h2, h3, h4, h5⟩ := h
  refine ⟨hq, Nat.dvd_of_mod_eq_zero h1, a, ?_, ?_⟩
  · rw [← h3, pmF_eq n f _ _ _ h2, Nat.one_mul]
  · rw [pmF_eq n f _ _ _ h4, Nat.one_mul] at h5; exact h5
theorem pr991 : Prm 991 := prm_small 30 (by decide +kernel)
theorem pr103 : Prm 103 := prm_small 9 (by decide +kernel)
theorem pr8574133 : Prm 8574133 := pock (by decide +kernel) [991, 103] (by decide +kernel) (List.forall_mem_cons.mpr ⟨pockw 24 2 pr991 (by decide +kernel), (List.forall_mem_cons.mpr ⟨pockw 24 2 pr103 (by decide +kernel), (fun _ h => nomatch h)⟩)⟩) (by decide +kernel)
theorem pr127 : Prm 127 := prm_small 10 (by decide +kernel)
theorem pr1919519569386763 : Prm 1919519569386763 := pock (by decide +kernel) [8574133, 127] (by decide +kernel) (List.forall_mem_cons.mpr ⟨pockw 51 2 pr8574133 (by decide +kernel), (List.forall_mem_cons.mpr ⟨pockw 51 2 pr127 (by decide +kernel), (fun _ h => nomatch h)⟩)⟩) (by decide +kernel)
theorem pr569003 : Prm 569003 := prm_small 753 (by decide +kernel)
theorem pr2773320623 : Prm 2773320623 := pock (by decide +kernel) [569003] (by decide +kernel) (List.forall_mem_cons.mpr ⟨pockw 32 2 pr569003 (by decide +kernel), (fun _ h => nomatch h)⟩) (by decide +kernel)
theorem pr72106336199 : Prm 72106336199 := pock (by decide +kernel) [2773320623] (by decide +kernel) (List.forall_mem_cons.mpr ⟨pockw 37 2 pr2773320623 (by decide +kernel), (fun _ h => nomatch h)⟩) (by decide +kernel)
theorem pr75445702479781427272750846543864801 : Prm 75445702479781427272750846543864801 := pock (by decide +kernel) [1919519569386763, 72106336199] (by decide +kernel) (List.forall_mem_cons.mpr ⟨pockw 116 2 pr1919519569386763 (by decide +kernel), (List.forall_mem_cons.mpr ⟨pockw 116 2 pr72106336199 (by decide +kernel), (fun _ h => nomatch h)⟩)⟩) (by decide +kernel)
theorem pr430751 : Prm 430751 := prm_small 655 (by decide +kernel)
theorem pr4153 : Prm 4153 := prm_small 63 (by decide +kernel)
theorem pr31757755568855353 : Prm 31757755568855353 := pock (by decide +kernel) [430751, 4153] (by decide +kernel) (List.forall_mem_cons.mpr ⟨pockw 55 2 pr430751 (by decide +kernel), (List.forall_mem_cons.mpr ⟨pockw 55 2 pr4153 (by decide +kernel), (fun _ h => nomatch h)⟩)⟩) (by decide +kernel)
theorem pr74058212732561358302231226437062788676166966415465897661863160754340907 : Prm 74058212732561358302231226437062788676166966415465897661863160754340907 := pock (by decide +kernel) [75445702479781427272750846543864801, 31757755568855353] (by decide +kernel) (List.forall_mem_cons.mpr ⟨pockw 236 2 pr75445702479781427272750846543864801 (by decide +kernel), (List.forall_mem_cons.mpr ⟨pockw 236 2 pr31757755568855353 (by decide +kernel), (fun _ h => nomatch h)⟩)⟩) (by decide +kernel)
theorem pr57896044618658097711785492504343953926634992332820282019728792003956564819949 : Prm 57896044618658097711785492504343953926634992332820282019728792003956564819949 := pock (by decide +kernel) [74058212732561358302231226437062788676166966415465897661863160754340907] (by decide +kernel) (List.forall_mem_cons.mpr ⟨pockw 255 2 pr74058212732561358302231226437062788676166966415465897661863160754340907 (by decide +kernel), (fun _ h => nomatch h)⟩) (by decide +kernel)
theorem pr2551 : Prm 2551 := prm_small 49 (by decide +kernel)
theorem pr1224481 : Prm 1224481 := pock (by decide +kernel) [2551] (by decide +kernel) (List.forall_mem_cons.mpr ⟨pockw 21 2 pr2551 (by decide +kernel), (fun _ h => nomatch h)⟩) (by decide +kernel)
theorem pr531581 : Prm 531581 := prm_small 728 (by decide +kernel)
theorem pr1257559732178653 : Prm 1257559732178653 := pock (by decide +kernel) [1224481, 531581] (by decide +kernel) (List.forall_mem_cons.mpr ⟨pockw 51 2 pr1224481 (by decide +kernel), (List.forall_mem_cons.mpr ⟨pockw 51 2 pr531581 (by decide +kernel), (fun _ h => nomatch h)⟩)⟩) (by decide +kernel)
theorem pr4434155615661930479 : Prm 4434155615661930479 := pock (by decide +kernel) [1257559732178653] (by decide +kernel) (List.forall_mem_cons.mpr ⟨pockw 62 2 pr1257559732178653 (by decide +kernel), (fun _ h => nomatch h)⟩) (by decide +kernel)
theorem pr172054593956031949258510691 : Prm 172054593956031949258510691 := pock (by decide +kernel) [4434155615661930479] (by decide +kernel) (List.forall_mem_cons.mpr ⟨pockw 88 2 pr4434155615661930479 (by decide +kernel), (fun _ h => nomatch h)⟩) (by decide +kernel)
theorem pr19757330305831588566944191468367130476339 : Prm 19757330305831588566944191468367130476339 := pock (by decide +kernel) [172054593956031949258510691] (by decide +kernel) (List.forall_mem_cons.mpr ⟨pockw 134 2 pr172054593956031949258510691 (by decide +kernel), (fun _ h => nomatch h)⟩) (by decide +kernel)
theorem pr276602624281642239937218680557139826668747 : Prm 276602624281642239937218680557139826668747 := pock (by decide +kernel) [19757330305831588566944191468367130476339] (by decide +kernel) (List.forall_mem_cons.mpr ⟨pockw 138 2 pr19757330305831588566944191468367130476339 (by decide +kernel), (fun _ h => nomatch h)⟩) (by decide +kernel)
theorem pr7237005577332262213973186563042994240857116359379907606001950938285454250989 : Prm 7237005577332262213973186563042994240857116359379907606001950938285454250989 := pock (by decide +kernel) [276602624281642239937218680557139826668747] (by decide +kernel) (List.forall_mem_cons.mpr ⟨pockw 253 2 pr276602624281642239937218680557139826668747 (by decide +kernel), (fun _ h => nomatch h)⟩) (by decide +kernel)
end Ed
end
section
namespace Ed
open Lean.Grind
section
variable {F : Type} [CommRing F] (K : Fld F)
include K in
theorem sq_one {a : F} (e : a * a = 1) : a = 1 ∨ a = -1 := by
  have : (a - 1) * (a + 1) = 0 := by grind
  rcases K.nz _ _ this with e | e
  · left; grind
  · right; grind
include K in
theorem sq_eq {a b : F} (e : a * a = b * b) : a = b ∨ a + b = 0 := by
  have : (a - b) * (a + b) = 0 := by grind
  rcases K.nz _ _ this with e | e
  · left; grind
  · right; exact e
def sF (y : F) : F := (y * y - 1) * K.inv (K.d * y * y + 1)
theorem den_ne (y : F) : K.d * y * y + 1 ≠ 0 := by
  intro z
  have hi := K.hi
  have : K.i * K.i = K.d * (y * y) := by grind
  have := K.nsq _ _ this
  rw [this] at z
  have := K.one_ne
  grind
theorem on_iff (x y : F) : On K (x, y) ↔ x * x = sF K y := by
  have h := K.hinv _ (den_ne K y)
  unfold On sF
  dsimp only
  generalize K.inv (K.d * y * y + 1) = u at *
  constructor
  · intro e
    have : x * x * (K.d * y * y + 1) = y * y - 1 := by grind
    grind
  · intro e
    have : x * x * (K.d * y * y + 1) = y * y - 1 := by rw [e]; grind
    grind
theorem on_iff0 (x y : F) : On K (x, y) ↔ -x * x + y * y - 1 - K.d * x * x * y * y = 0 := by
  unfold On
  dsimp only
  constructor <;> intro h <;> grind
theorem root8 {e e' hh : Nat} (he : e + e + (e + e) = hh + 1 + 1) (he' : e = e' + 1) (hp : ∀ z : F, z ≠ 0 → z ^ hh = 1 ∨ z ^ hh = -1) {s z : F} (h : s = z * z) : s ^ e * s ^ e = s ∨ s ^ e * s ^ e = -s := by
  by_cases hz : z = 0
  · left
    have : s = 0 := by rw [h, hz]; grind
    subst this
    rw [he', Semiring.pow_succ]; grind
  · have g : s ^ e * s ^ e = z ^ hh * (z * z) := by
      rw [h, pow_mul']
      have : z ^ e * z ^ e * (z ^ e * z ^ e) = z ^ (e + e + (e + e)) := by rw [Semiring.pow_add, Semiring.pow_add]
      rw [this, he, Semiring.pow_succ, Semiring.pow_succ]; grind
    rw [g]
    rcases hp z hz with e | e
    · left; rw [e, h]; grind
    · right; rw [e, h]; grind
theorem mul_i {b s : F} (h : b * b = s ∨ b * b = -s) (n : b * b - s ≠ 0) : b * K.i * (b * K.i) = s := by
  have hi := K.hi
  rcases h with r | r
  · exact absurd (by rw [r]; grind) n
  · grind
theorem atkin {e hh : Nat} (he : e + e + (e + e) + 1 + 1 = hh) (two : (2 : F) ^ hh = -1) (hp : ∀ z : F, z ≠ 0 → (z * z) ^ hh = 1) {s z v x : F} (h : s = z * z) (hv : v = (2 * s) ^ e) (hx : x = s * v * (2 * s * v * v - 1)) : x * x = s := by
  by_cases hz : z = 0
  · have : s = 0 := by rw [h, hz]; grind
    subst this
    rw [hx]; grind
  · have key : (2 * s * v * v) * (2 * s * v * v) = -1 := by
      have g : (2 * s * v * v) * (2 * s * v * v) = (2 * s) ^ hh := by
        rw [← he, Semiring.pow_succ, Semiring.pow_succ, Semiring.pow_add, Semiring.pow_add, ← hv]
        grind
      rw [g, pow_mul', two, h, hp z hz]; grind
    rw [hx]
    grind
theorem sub_z {a z : F} (h : z = 0) : (z - a) * (z - a) = a * a := by rw [h]; grind
theorem diff_z {a s : F} (h : a - s = 0) : a = s := by grind
end
end Ed
end
open PySem PySem.W PySem.Calls PyProof.Rows
namespace Mine
section
open PySem PySem.W PyProof.Rows
section
variable {prog : Program} {w : World} {A : Around} {E : Value → Shared → Prop} {s : Shared} {x e m : Int} {t u v : Tok}

theorem kind_pow : builtinKind "pow" = none := by decide +kernel
theorem plain_pow : plainId "pow" = true := by decide +kernel
theorem entry_pow : entryFor table "pow" = some Builtin.«pow» := entryFor_of_fast (by kernel_rfl)
theorem args_pow3 (a b c : Value) : argsOk "pow" ⟨[a, b, c], []⟩ := by unfold argsOk; kernel_rfl
theorem args_ipow3 (a b c : Value) : argsOk "int.__pow__" ⟨[a, b, c], []⟩ := by unfold argsOk; kernel_rfl

theorem mod_succ (e k : Nat) : e % 2 ^ (k + 1) = e % 2 ^ k + (if e.testBit k then 2 ^ k else 0) := by
  rw [Nat.pow_succ, Nat.mod_mul]
  congr 1
  rw [Nat.testBit_eq_decide_div_mod_eq]
  have := Nat.mod_two_eq_zero_or_one (e / 2 ^ k)
  rcases this with h | h <;> simp [h]

/-- the model's own power modulo -/
theorem powMod_eq (b e m : Nat) : Builtin.powMod b e m = b ^ e % m := by
  have key : ∀ k, e < 2 ^ k → (List.range k).reverse.foldl (fun p i => if e.testBit i then p * p % m * b % m else p * p % m) (1 % m) = b ^ e % m := by
    have gen : ∀ k (p q : Nat), p % m = b ^ q % m → p = p % m → (List.range k).reverse.foldl (fun p i => if e.testBit i then p * p % m * b % m else p * p % m) p = b ^ (q * 2 ^ k + e % 2 ^ k) % m := by
      intro k
      induction k with
      | zero => intro p q h h2; simp [Nat.mod_one]; rw [h2, h]
      | succ k ih =>
        intro p q h _
        rw [List.range_succ, List.reverse_append, List.reverse_singleton, List.singleton_append, List.foldl_cons]
        have sq : p * p % m = b ^ (q + q) % m := by rw [Nat.pow_add, Nat.mul_mod, h, ← Nat.mul_mod]
        have e2 := mod_succ e k
        cases hb : e.testBit k with
        | true =>
          simp only [if_true]
          rw [ih (p * p % m * b % m) (q + q + 1) ?_ (Nat.mod_mod _ _).symm, e2, hb]
          · simp only [if_true]
            congr 2
            rw [Nat.pow_succ]; grind
          · rw [Nat.mod_mod, Nat.mul_mod, sq, Nat.mod_mod, ← Nat.mul_mod, Nat.pow_succ]
        | false =>
          simp only [Bool.false_eq_true, if_false]
          rw [ih (p * p % m) (q + q) (by rw [Nat.mod_mod, sq]) (Nat.mod_mod _ _).symm, e2, hb]
          simp only [Bool.false_eq_true, if_false]
          congr 2
          rw [Nat.pow_succ]; grind
    intro k hk
    rw [gen k (1 % m) 0 (by simp) (Nat.mod_mod _ _).symm, Nat.zero_mul, Nat.zero_add, Nat.mod_eq_of_lt hk]
  unfold Builtin.powMod
  exact key _ ((intBits_le_iff (x := (e : Int))).mp (Nat.le_refl _))

@[irreducible] def pwI (x e m : Int) : Int := x ^ e.toNat % m
theorem pwI_of (h0 : 0 < m) (he : 0 ≤ e) : ((Builtin.powMod (x % (m.natAbs : Int)).toNat e.natAbs m.natAbs : Nat) : Int) = pwI x e m := by
  unfold pwI
  rw [powMod_eq]
  have e1 : (m.natAbs : Int) = m := by omega
  have e2 : e.natAbs = e.toNat := by omega
  have e3 : (((x % m).toNat : Nat) : Int) = x % m := Int.toNat_of_nonneg (Int.emod_nonneg _ (by omega))
  rw [Int.natCast_emod, Int.natCast_pow, e1, e3, e2]
  generalize e.toNat = n
  clear e2 he
  induction n with
  | zero => rw [Int.pow_zero, Int.pow_zero]
  | succ n ih => rw [Int.pow_succ, Int.pow_succ, Int.mul_emod, ih, Int.emod_emod_of_dvd _ (Int.dvd_refl _), ← Int.mul_emod]

theorem call_ipow3 (h1 : 1 < m) (he : 0 ≤ e) {Q : Value → Shared → Prop} (h : Q (.int (pwI x e m) s.toks) { s with toks := s.toks + 1 }) :
    wpAny (model prog w) A (call (.builtin "int.__pow__") [.int x t, .int e u, .int m v]) (fun v s' => v ≠ .notImplemented ∧ Q v s') E s := by
  refine wpAny_call_entry slot_int_pow (typeIs_int s x t) entry_int_pow ?_ (args_ipow3 _ _ _)
  show wpAny _ _ (if (m == 0) = true then _ else _) _ _ s
  rw [if_neg (by simp; omega)]
  show wpAny _ _ (if (m.natAbs == 1) = true then _ else _) _ _ s
  rw [if_neg (by simp; omega)]
  show wpAny _ _ (if e < 0 then _ else _) _ _ s
  rw [if_neg (by omega)]
  show wpAny _ _ (do ret (← mkInt (if (decide (m < 0) && ((Builtin.powMod (x % (m.natAbs : Int)).toNat e.natAbs m.natAbs : Nat) : Int) != 0) = true then _ else ((Builtin.powMod (x % (m.natAbs : Int)).toNat e.natAbs m.natAbs : Nat) : Int)))) _ _ s
  rw [if_neg (by simp; omega), pwI_of (by omega) he]
  exact wpAny_ret_mkInt ⟨by simp, h⟩

theorem call_pow3 (h1 : 1 < m) (he : 0 ≤ e) {Q : Value → Shared → Prop} (h : Q (.int (pwI x e m) s.toks) { s with toks := s.toks + 1 }) :
    wpAny (model prog w) A (call (.builtin "pow") [.int x t, .int e u, .int m v]) Q E s := by
  refine Calls.call_function_entry kind_pow plain_pow entry_pow (args_pow3 _ _ _) ?_
  unfold Builtin.«pow»
  refine wpAny_bind (wpAny_of_eq (a := [some (.int x t), some (.int e u), some (.int m v)]) (by first | rfl | kernel_rfl) ?_)
  dsimp only [Option.getD]
  refine wpAny_bind (wpAny_rule ?_)
  refine wpAny_bind (wpAny_of_eq (a := .type "int") rfl ?_)
  show wpAny _ _ (typeLookup (.type "int") (Str.ofString "__pow__") >>= fun r => _) _ _ s
  refine wpAny_bind (wpAny_of_eq slot_int_pow.lookup ?_)
  show wpAny _ _ (callSpecial? (Value.int x t) (Str.ofString "__pow__") [Value.int e u, Value.int m v] >>= fun r => _) _ _ s
  refine wpAny_bind (wpAny_callSpecial?_slot (name := Str.ofString "__pow__") (typeIs_int s x t) slot_int_pow (wpAny_mono (call_ipow3 h1 he h) (fun r s' hr => ?_) fun _ _ z => z))
  obtain ⟨hn, hq⟩ := hr
  show wpAny _ _ (if (r != Value.notImplemented) = true then _ else _) _ _ s'
  rw [if_pos (by simpa using hn)]
  exact wpAny_pure ⟨_, rfl, hq⟩
end
end
section
local macro_rules | `(tactic| o_head $_H) => `(tactic| assumption)
theorem k0 : PySem.Challenge.rw_jy0031_01.row.Holds → PySem.Challenge.rw_jy0031_01.row.Holds := by
  intro h
  k_head
end
abbrev Led := List (Addr × Obj)
/-- what a def does with its arguments: sz frames, the ledger and the arguments before, what it lays on the ledger and hands back -/
def Con (w : World) (f : Addr) (sz : Nat) (vs : List Value) (news : Led) (Post : Led → Value → Prop) : Prop :=
  ∀ (p : Program) (loose : List Str) (mean : ExcName → Option Value) (mg mb : Str → Option Value) (dp un : Nat) (gd : Option (List Code)) (cn : Str) (cs : Scope) (a : Addr) (ccd : Value) (cl : List (Str × Addr)) (outer : List Env) (A₀ : Around) (base h₀ : Heap) (L : Addr) (m : Str → Option Value) (s : Shared)
    (Q E : Value → Shared → Prop),
    Below A₀ base outer h₀ → Fr h₀ L s.heap m → (k0.heap_1 w.params).In h₀ → News h₀ L s.heap news → Top p loose mean mg mb h₀ → cs.kind = .function → dp + sz < recursionLimit → un + 8 * sz < cLine →
    (∀ r tl h' tk', Fr h₀ L h' m → News h₀ L h' (tl ++ news) → (∀ q ∈ news, ∀ p ∈ tl, q.1 < p.1) → Post tl r → Q r { s with heap := h', toks := tk' }) →
    wpAny (model PySem.Challenge.rw_jy0031_01.row.prog w) (ktrTop dp un gd cn cs L a ccd cl outer) (call (.ref f) vs) Q E s
theorem con_use {w : World} {f : Addr} {sz : Nat} {vs : List Value} {news : Led} {Post : Led → Value → Prop} {p : Program} {loose : List Str} {mean : ExcName → Option Value} {mg mb : Str → Option Value} {dp un : Nat} {gd : Option (List Code)} {cn : Str} {cs : Scope} {a : Addr} {ccd : Value} {cl : List (Str × Addr)} {outer : List Env} {A₀ : Around} {base h₀ : Heap} {L : Addr} {m : Str → Option Value} {s : Shared}
    {Q E : Value → Shared → Prop} (B : Below A₀ base outer h₀) (F : Fr h₀ L s.heap m) (X : (k0.heap_1 w.params).In h₀) (N : News h₀ L s.heap news) (T : Top p loose mean mg mb h₀) (hk : cs.kind = .function) (C : Con w f sz vs news Post) (hd : dp + sz < recursionLimit) (hu : un + 8 * sz < cLine)
    (ret : ∀ r tl h' tk', Fr h₀ L h' m → News h₀ L h' (tl ++ news) → (∀ q ∈ news, ∀ p ∈ tl, q.1 < p.1) → Post tl r → Q r { s with heap := h', toks := tk' }) :
    wpAny (model PySem.Challenge.rw_jy0031_01.row.prog w) (ktrTop dp un gd cn cs L a ccd cl outer) (call (.ref f) vs) Q E s := C _ _ _ _ _ _ _ _ _ _ _ _ _ _ _ _ _ _ _ _ _ _ B F X N T hk hd hu ret
theorem con_end1 {h₀ h' : Heap} {L a : Addr} {o : Obj} {m : Str → Option Value} {news : Led} {Post : Led → Value → Prop} {Q : Value → Shared → Prop} {s : Shared} {r : Value} {tk' : Nat}
    (ret : ∀ r tl h' tk', Fr h₀ L h' m → News h₀ L h' (tl ++ news) → (∀ q ∈ news, ∀ p ∈ tl, q.1 < p.1) → Post tl r → Q r { s with heap := h', toks := tk' })
    (F : Fr h₀ L h' m) (N : News h₀ L h' ((a, o) :: news)) (lt : AllLt a news) (post : Post [(a, o)] r) : Q r { s with heap := h', toks := tk' } :=
  ret r [(a, o)] h' tk' F N (ktn_ord1 lt) post
theorem con_end0 {h₀ h' : Heap} {L : Addr} {m : Str → Option Value} {news : Led} {Post : Led → Value → Prop} {Q : Value → Shared → Prop} {s : Shared} {r : Value} {tk' : Nat}
    (ret : ∀ r tl h' tk', Fr h₀ L h' m → News h₀ L h' (tl ++ news) → (∀ q ∈ news, ∀ p ∈ tl, q.1 < p.1) → Post tl r → Q r { s with heap := h', toks := tk' })
    (F : Fr h₀ L h' m) (N : News h₀ L h' news) (post : Post [] r) : Q r { s with heap := h', toks := tk' } :=
  ret r [] h' tk' F N (fun _ _ _ h => nomatch h) post
abbrev I4 := Int × Int × Int × Int
/-- a tuple of four ints, of two -/
abbrev tp (v : I4) (t1 t2 t3 t4 : Tok) (n : Nat) : Obj := { cls := .type "tuple", data := .seq #[.int v.1 t1, .int v.2.1 t2, .int v.2.2.1 t3, .int v.2.2.2 t4] n }
abbrev tq (v : Int × Int) (t1 t2 : Tok) (n : Nat) : Obj := { cls := .type "tuple", data := .seq #[.int v.1 t1, .int v.2 t2] n }
theorem all_ne_of {l : Led} {d a : Nat} (h : ∀ p ∈ l, @LT.lt Nat _ p.1 d) (e : d ≤ a) : ∀ p ∈ l, p.1 ≠ a := fun p hp => Nat.ne_of_lt (Nat.lt_of_lt_of_le (h p hp) e)
theorem mem_of {α : Type} {a : α} {l : List α} (h : a ∈ l) : List.Mem a l := h
theorem con_lt {a : Addr} {o : Obj} {news : Led} (h : ∀ q ∈ news, ∀ p ∈ [(a, o)], q.1 < p.1) : ∀ p ∈ news, p.1 < a := fun p hp => h p hp (a, o) (.head _)
def P4 (v : I4) (tl : Led) (r : Value) : Prop := ∃ b u1 u2 u3 u4 k, tl = [(b, tp v u1 u2 u3 u4 k)] ∧ r = .ref b
def P2 (v : Int × Int) (tl : Led) (r : Value) : Prop := ∃ b u1 u2 k, tl = [(b, tq v u1 u2 k)] ∧ r = .ref b
def PI (x : Int) (tl : Led) (r : Value) : Prop := ∃ t, tl = [] ∧ r = .int x t
def PB (x : Bool) (tl : Led) (r : Value) : Prop := tl = [] ∧ r = .bool x
abbrev q : Int := 57896044618658097711785492504343953926634992332820282019728792003956564819949
/-- a number of at most 300 * 2 ^ n bits -/
def Bd (n : Nat) (x : Int) : Prop := x.natAbs < 2 ^ (300 * 2 ^ n)
theorem bd_mono {n : Nat} {x : Int} (h : Bd n x) : Bd (n + 1) x :=
  Nat.lt_of_lt_of_le h (Nat.pow_le_pow_right (by decide) (by rw [Nat.pow_succ]; omega))
theorem bd_up {x : Int} (h : Bd 0 x) : ∀ n, Bd n x
  | 0 => h
  | n + 1 => bd_mono (bd_up h n)
theorem bd_mul {n : Nat} {x y : Int} (hx : Bd n x) (hy : Bd n y) : Bd (n + 1) (x * y) := by
  unfold Bd at *
  have e : 300 * 2 ^ (n + 1) = 300 * 2 ^ n + 300 * 2 ^ n := by rw [Nat.pow_succ]; omega
  rw [Int.natAbs_mul, e, Nat.pow_add]
  exact Nat.mul_lt_mul_of_lt_of_le hx (Nat.le_of_lt hy) (Nat.lt_of_le_of_lt (Nat.zero_le _) hy)
theorem bd_two {n : Nat} {z : Nat} (h : z < 2 ^ (300 * 2 ^ n) + 2 ^ (300 * 2 ^ n)) : z < 2 ^ (300 * 2 ^ (n + 1)) := by
  have e : 300 * 2 ^ (n + 1) = (300 * 2 ^ n + 1) + (300 * 2 ^ n - 1) := by have := Nat.pos_of_ne_zero (show 2 ^ n ≠ 0 by exact Nat.ne_of_gt (Nat.pow_pos (by decide))); rw [Nat.pow_succ]; omega
  have a : 2 ^ (300 * 2 ^ n) + 2 ^ (300 * 2 ^ n) = 2 ^ (300 * 2 ^ n + 1) := by rw [Nat.pow_succ]; omega
  rw [a] at h
  rw [e, Nat.pow_add]
  exact Nat.lt_of_lt_of_le h (Nat.le_mul_of_pos_right _ (Nat.pow_pos (by decide)))
theorem bd_add {n : Nat} {x y : Int} (hx : Bd n x) (hy : Bd n y) : Bd (n + 1) (x + y) := by
  unfold Bd at *
  have := Int.natAbs_add_le x y
  exact bd_two (by omega)
theorem bd_sub {n : Nat} {x y : Int} (hx : Bd n x) (hy : Bd n y) : Bd (n + 1) (x - y) := by
  unfold Bd at *
  exact bd_two (by omega)
theorem bd_neg {n : Nat} {x : Int} (hx : Bd n x) : Bd n (-x) := by unfold Bd at *; rw [Int.natAbs_neg]; exact hx
/-- in the range of the prime -/
def In (x : Int) : Prop := 0 ≤ x ∧ x < q
theorem In.bd {x : Int} (h : In x) (n : Nat) : Bd n x := by
  refine bd_up ?_ n
  obtain ⟨h0, h1⟩ := h
  have e : (q : Int) < ((2 ^ 300 : Nat) : Int) := by decide +kernel
  show x.natAbs < 2 ^ 300
  generalize hz : (2 ^ 300 : Nat) = z at e
  omega
theorem in_mod {x : Int} : In (x.fmod q) := ⟨Int.fmod_nonneg_of_pos _ (by decide), Int.fmod_lt_of_pos _ (by decide)⟩
theorem in_pw {x e : Int} : In (pwI x e q) := by
  unfold pwI
  exact ⟨Int.emod_nonneg _ (by decide), Int.emod_lt_of_pos _ (by decide)⟩
theorem bd_lit {x : Int} (h : x.natAbs < 2 ^ 300) (n : Nat) : Bd n x := bd_up h n
theorem mul_ok {x y : Int} (hx : Bd 8 x) (hy : Bd 8 y) : IntMulOk x y := by
  unfold IntMulOk
  have a : Builtin.Int.intBits x ≤ 300 * 2 ^ 8 := intBits_le_iff.mpr hx
  have b : Builtin.Int.intBits y ≤ 300 * 2 ^ 8 := intBits_le_iff.mpr hy
  have : Builtin.Int.intTooBig (Builtin.Int.intBits x + Builtin.Int.intBits y) = false := by
    unfold Builtin.Int.intTooBig
    have : bitsLine = 134217728 := by first | rfl | decide
    exact decide_eq_false (by omega)
  rw [this]
  simp
def In2 (v : Int × Int) : Prop := In v.1 ∧ In v.2
def In4 (v : I4) : Prop := In v.1 ∧ In v.2.1 ∧ In v.2.2.1 ∧ In v.2.2.2
theorem In2.x {v : Int × Int} (h : In2 v) : In v.1 := h.1
theorem In2.y {v : Int × Int} (h : In2 v) : In v.2 := h.2
theorem In4.x {v : I4} (h : In4 v) : In v.1 := h.1
theorem In4.y {v : I4} (h : In4 v) : In v.2.1 := h.2.1
theorem In4.z {v : I4} (h : In4 v) : In v.2.2.1 := h.2.2.1
theorem In4.t {v : I4} (h : In4 v) : In v.2.2.2 := h.2.2.2
abbrev invI (x : Int) : Int := pwI x (q - 2) q
def dblI (v : I4) : I4 :=
  let A := v.1 * v.1
  let B := v.2.1 * v.2.1
  let C := 2 * v.2.2.1 * v.2.2.1
  let D := (-A).fmod q
  let J := (v.1 + v.2.1).fmod q
  let E := (J * J - A - B).fmod q
  let G := (D + B).fmod q
  let F := (G - C).fmod q
  let H := (D - B).fmod q
  ((E * F).fmod q, (G * H).fmod q, (F * G).fmod q, (E * H).fmod q)
/-- the numbers of the curve as the text writes them -/
abbrev dN : Int := -4513249062541557337682894930092624173785641285191125241628941591882900924598840740
abbrev dL : Int := 37095705934669439343138083508754565189542113879843219016388785533085940283555
abbrev iN : Int := 19681161376707505956807079304988542015446066515923890162744021073123829784752
abbrev ordL : Int := 7237005577332262213973186563042994240857116359379907606001950938285454250989
def addI (v r : I4) : I4 :=
  let A := ((v.2.1 - v.1) * (r.2.1 - r.1)).fmod q
  let B := ((v.2.1 + v.1) * (r.2.1 + r.1)).fmod q
  let C := (v.2.2.2 * (2 * dN) * r.2.2.2).fmod q
  let D := (v.2.2.1 * 2 * r.2.2.1).fmod q
  let E := (B - A).fmod q
  let F := (D - C).fmod q
  let G := (D + C).fmod q
  let H := (B + A).fmod q
  ((E * F).fmod q, (G * H).fmod q, (F * G).fmod q, (E * H).fmod q)
def nonI (v r : I4) : I4 :=
  let A := ((v.2.1 - v.1) * (r.2.1 + r.1)).fmod q
  let B := ((v.2.1 + v.1) * (r.2.1 - r.1)).fmod q
  let C := (v.2.2.1 * 2 * r.2.2.2).fmod q
  let D := (v.2.2.2 * 2 * r.2.2.1).fmod q
  let E := (D + C).fmod q
  let F := (B - A).fmod q
  let G := (B + A).fmod q
  let H := (D - C).fmod q
  ((E * F).fmod q, (G * H).fmod q, (F * G).fmod q, (E * H).fmod q)
def a2eI (v : Int × Int) : I4 := (v.1.fmod q, v.2.fmod q, 1, (v.1 * v.2).fmod q)
def e2aI (v : I4) : Int × Int := ((v.1 * invI v.2.2.1).fmod q, (v.2.1 * invI v.2.2.1).fmod q)
def lsumI (v r : Int × Int) : Int × Int :=
  let t := (dL * v.1 * r.1 * v.2 * r.2).fmod q
  let right := pwI (1 + t) (q - 2) q
  let left := pwI ((1 - t).fmod q) (q - 2) q
  (((v.1 * r.2 + r.1 * v.2) * right).fmod q, ((v.2 * r.2 + v.1 * r.1) * left).fmod q)
theorem in_one : In 1 := ⟨by decide, by decide⟩
theorem dbl_in (v : I4) : In4 (dblI v) := ⟨in_mod, in_mod, in_mod, in_mod⟩
theorem add_in (v r : I4) : In4 (addI v r) := ⟨in_mod, in_mod, in_mod, in_mod⟩
theorem non_in (v r : I4) : In4 (nonI v r) := ⟨in_mod, in_mod, in_mod, in_mod⟩
theorem a2e_in (v : Int × Int) : In4 (a2eI v) := ⟨in_mod, in_mod, in_one, in_mod⟩
theorem e2a_in (v : I4) : In2 (e2aI v) := ⟨in_mod, in_mod⟩
theorem lsum_in (v r : Int × Int) : In2 (lsumI v r) := ⟨in_mod, in_mod⟩
local macro_rules | `(tactic| walk_at "call builtin:pow") => `(tactic| (k_here; (with_reducible show wpAny _ _ (call (Value.builtin "pow") [Value.int _ _, Value.int _ _, Value.int _ _]) _ _ _); (with_reducible refine call_pow3 ?pa ?pb ?_); (case pa => decide); (case pb => decide)))
set_option hygiene false in
local macro_rules | `(tactic| walk_at "bd") => `(tactic| ((repeat' (first | exact In.bd (by first | assumption | exact in_mod | exact in_pw | exact (In4.x (by assumption)) | exact (In4.y (by assumption)) | exact (In4.z (by assumption)) | exact (In4.t (by assumption)) | exact In2.x (by assumption) | exact In2.y (by assumption)) _ | exact bd_lit (by decide +kernel) _ | with_reducible refine bd_mul ?_ ?_ | with_reducible refine bd_add ?_ ?_ | with_reducible refine bd_sub ?_ ?_ | with_reducible refine bd_neg ?_))))
local macro_rules | `(tactic| walk_at "binaryOp Mult int int") => `(tactic| (k_here; (with_reducible refine' mul_int ?_ (mul_ok ?ma ?mb)); (case ma => walk_at "bd"); (case mb => walk_at "bd")))
local macro_rules | `(tactic| k_room) => `(tactic| ktr_room)
local macro_rules | `(tactic| k_units) => `(tactic| ktr_units)
local macro_rules | `(tactic| k_mem) => `(tactic| ((with_reducible show List.Mem _ _); (refine mem_of ?_); ktr_member))
local macro_rules | `(tactic| walk_at "subscriptTail Name Constant ref int") => `(tactic| (k_here; k_dflt (refine' item_listL ?t ?a ?b ?c ?_ ?d ?e; (case t => exact News.isList (by k_asm) (by k_mem)); (case a => decide); (case b => decide); (case c => rfl); (case d => with_unfolding_all rfl); (case e => intro _; with_unfolding_all rfl); k_whole)))
set_option maxHeartbeats 8000000 in
theorem ct_inv (w : World) {news : Led} {x : Int} {t : Tok} :
    Con w 119 1 [.int x t] news (PI (invI x)) := by
  unfold Con
  k_fill
  intro p loose mean mg mb dp un gd cn cs a ccd cl outer A₀ base h₀ L m s Q E B F X N T hk hd hu hret
  refine wpAny_call ?_
  k_dflt ktr_enter
  k_steps
  all_goals (refine con_end0 hret (by k_asm) (by k_asm) ⟨_, rfl, rfl⟩)
set_option maxHeartbeats 8000000 in
theorem ct_double (w : World) {news : Led} {a1 : Addr} {v : I4} {t1 t2 t3 t4 : Tok} {n1 : Nat} (ha : (a1, tp v t1 t2 t3 t4 n1) ∈ news) (hv : In4 v) :
    Con w 147 1 [.ref a1] news (P4 (dblI v)) := by
  unfold Con
  k_fill
  intro p loose mean mg mb dp un gd cn cs a ccd cl outer A₀ base h₀ L m s Q E B F X N T hk hd hu hret
  refine wpAny_call ?_
  k_dflt ktr_enter
  repeat' (first | (k_unfold; (try dsimp only)) | (k_end; wrow_close) | (dsimp only; walk1) | walk1 | (leave1; walk_say "STEP leave1"; try dsimp only) | fail "no step")
  all_goals (refine con_end1 hret (by k_asm) (by k_asm) (by ktn_lt) ⟨_, _, _, _, _, _, rfl, rfl⟩)
set_option maxHeartbeats 8000000 in
theorem ct_add (w : World) {news : Led} {a1 : Addr} {v : I4} {t1 t2 t3 t4 : Tok} {n1 : Nat} (ha : (a1, tp v t1 t2 t3 t4 n1) ∈ news) (hv : In4 v) {a2 : Addr} {r : I4} {t5 t6 t7 t8 : Tok} {n2 : Nat} (hb : (a2, tp r t5 t6 t7 t8 n2) ∈ news) (hr : In4 r) :
    Con w 154 1 [.ref a1, .ref a2] news (P4 (addI v r)) := by
  unfold Con
  k_fill
  intro p loose mean mg mb dp un gd cn cs a ccd cl outer A₀ base h₀ L m s Q E B F X N T hk hd hu hret
  refine wpAny_call ?_
  k_dflt ktr_enter
  repeat' (first | (k_unfold; (try dsimp only)) | (k_end; wrow_close) | (dsimp only; walk1) | walk1 | (leave1; walk_say "STEP leave1"; try dsimp only) | fail "no step")
  all_goals (refine con_end1 hret (by k_asm) (by k_asm) (by ktn_lt) ⟨_, _, _, _, _, _, rfl, rfl⟩)
set_option maxHeartbeats 8000000 in
theorem ct_non (w : World) {news : Led} {a1 : Addr} {v : I4} {t1 t2 t3 t4 : Tok} {n1 : Nat} (ha : (a1, tp v t1 t2 t3 t4 n1) ∈ news) (hv : In4 v) {a2 : Addr} {r : I4} {t5 t6 t7 t8 : Tok} {n2 : Nat} (hb : (a2, tp r t5 t6 t7 t8 n2) ∈ news) (hr : In4 r) :
    Con w 168 1 [.ref a1, .ref a2] news (P4 (nonI v r)) := by
  unfold Con
  k_fill
  intro p loose mean mg mb dp un gd cn cs a ccd cl outer A₀ base h₀ L m s Q E B F X N T hk hd hu hret
  refine wpAny_call ?_
  k_dflt ktr_enter
  repeat' (first | (k_unfold; (try dsimp only)) | (k_end; wrow_close) | (dsimp only; walk1) | walk1 | (leave1; walk_say "STEP leave1"; try dsimp only) | fail "no step")
  all_goals (refine con_end1 hret (by k_asm) (by k_asm) (by ktn_lt) ⟨_, _, _, _, _, _, rfl, rfl⟩)
set_option maxHeartbeats 8000000 in
theorem ct_a2e_t (w : World) {news : Led} {a1 : Addr} {v : Int × Int} {t1 t2 : Tok} {n1 : Nat} (ha : (a1, tq v t1 t2 n1) ∈ news) (hv : In2 v) :
    Con w 133 1 [.ref a1] news (P4 (a2eI v)) := by
  unfold Con
  k_fill
  intro p loose mean mg mb dp un gd cn cs a ccd cl outer A₀ base h₀ L m s Q E B F X N T hk hd hu hret
  refine wpAny_call ?_
  k_dflt ktr_enter
  k_steps
  all_goals (refine con_end1 hret (by k_asm) (by k_asm) (by ktn_lt) ⟨_, _, _, _, _, _, rfl, rfl⟩)
set_option hygiene false in
local macro_rules | `(tactic| walk_at "c1") => `(tactic| ((case kB => k_asm); (case kF => k_asm); (case kX => first | k_asm | assumption); (case kN => k_asm); (case kT => k_asm); (case kK => first | exact rfl | assumption)))
set_option hygiene false in
local macro_rules | `(tactic| walk_at "c2") => `(tactic| ((case kd => ktr_room); (case ku => ktr_units); intro r9 tl9 h9 tk9 F9 N9 hl9 ho9))
set_option hygiene false in
local macro_rules | `(tactic| walk_at "o0") => `(tactic| ((obtain ⟨t9, e9, f9⟩ := ho9; subst e9; subst f9; simp only [List.nil_append] at N9; clear hl9); (try k_sweep); (try dsimp only); (try k_fold)))
set_option hygiene false in
local macro_rules | `(tactic| walk_at "call ref") => `(tactic| (k_here; (with_reducible show wpAny _ _ (call (Value.ref 119) _) _ _ _); k_dflt (refine' con_use ?kB ?kF ?kX ?kN ?kT ?kK ?kC ?kd ?ku ?_; walk_at "c1"; (case kC => exact (ct_inv _)); walk_at "c2"; walk_at "o0")))
set_option maxHeartbeats 8000000 in
theorem ct_e2a (w : World) {news : Led} {a1 : Addr} {v : I4} {t1 t2 t3 t4 : Tok} {n1 : Nat} (ha : (a1, tp v t1 t2 t3 t4 n1) ∈ news) (hv : In4 v) :
    Con w 140 2 [.ref a1] news (P2 (e2aI v)) := by
  unfold Con
  k_fill
  intro p loose mean mg mb dp un gd cn cs a ccd cl outer A₀ base h₀ L m s Q E B F X N T hk hd hu hret
  refine wpAny_call ?_
  k_dflt ktr_enter
  k_steps
  all_goals (refine con_end1 hret (by k_asm) (by k_asm) (by ktn_lt) ⟨_, _, _, _, rfl, rfl⟩)
set_option maxHeartbeats 8000000 in
theorem ct_lsum (w : World) {news : Led} {a1 : Addr} {v : Int × Int} {t1 t2 : Tok} {n1 : Nat} (ha : (a1, tq v t1 t2 n1) ∈ news) (hv : In2 v) {a2 : Addr} {r : Int × Int} {t5 t6 : Tok} {n2 : Nat} (hb : (a2, tq r t5 t6 n2) ∈ news) (hr : In2 r) :
    Con w 424 1 [.ref a1, .ref a2] news (P2 (lsumI v r)) := by
  unfold Con
  k_fill
  intro p loose mean mg mb dp un gd cn cs a ccd cl outer A₀ base h₀ L m s Q E B F X N T hk hd hu hret
  refine wpAny_call ?_
  k_dflt ktr_enter
  k_steps
  all_goals (refine con_end1 hret (by k_asm) (by k_asm) (by ktn_lt) ⟨_, _, _, _, rfl, rfl⟩)
local macro_rules | `(tactic| k_all) => `(tactic| first | assumption | exact all_ne_of (by assumption) (by first | exact Nat.le_refl _ | omega) | exact all_ne_of (ktn_ltOf (by first | assumption | exact And.right (by assumption) | exact And.right (And.right (by assumption)) | exact And.right (And.right (And.right (by assumption)))) ) (by first | exact Nat.le_refl _ | omega))

abbrev xrA (y : Int) : Int := (y * y - 1) * invI (dN * y * y + 1)
abbrev xrB (y : Int) : Int := pwI (xrA y) ((q + 3).fdiv 8) q
@[irreducible] def xrecI (y : Int) : Int :=
  let x := if (xrB y * xrB y - xrA y).fmod q = 0 then xrB y else (xrB y * iN).fmod q
  if x.fmod 2 = 0 then x else q - x
theorem xrec1 {y : Int} (h : (xrB y * xrB y - xrA y).fmod q = 0) (k : (xrB y).fmod 2 = 0) : xrB y = xrecI y := by
  unfold xrecI; dsimp only; rw [if_pos h, if_pos k]
theorem xrec2 {y : Int} (h : (xrB y * xrB y - xrA y).fmod q = 0) (k : (xrB y).fmod 2 ≠ 0) : q - xrB y = xrecI y := by
  unfold xrecI; dsimp only; rw [if_pos h, if_neg k]
theorem xrec3 {y : Int} (h : (xrB y * xrB y - xrA y).fmod q ≠ 0) (k : ((xrB y * iN).fmod q).fmod 2 = 0) : (xrB y * iN).fmod q = xrecI y := by
  unfold xrecI; dsimp only; rw [if_neg h, if_pos k]
theorem xrec4 {y : Int} (h : (xrB y * xrB y - xrA y).fmod q ≠ 0) (k : ((xrB y * iN).fmod q).fmod 2 ≠ 0) : q - (xrB y * iN).fmod q = xrecI y := by
  unfold xrecI; dsimp only; rw [if_neg h, if_neg k]
abbrev oncE (v : Int × Int) : Int := (-v.1 * v.1 + v.2 * v.2 - 1 - dN * v.1 * v.1 * v.2 * v.2).fmod q
def oncI (v : Int × Int) : Bool := decide (oncE v = 0)
theorem onc1 {v : Int × Int} : decide (oncE v = 0) = oncI v := rfl
theorem onc2 {v : Int × Int} : (oncE v == 0) = oncI v := by unfold oncI; rw [Bool.eq_iff_iff]; simp
theorem onc3 {v : Int × Int} (h : oncE v = 0) : true = oncI v := by unfold oncI; simp [h]
theorem onc4 {v : Int × Int} (h : oncE v ≠ 0) : false = oncI v := by unfold oncI; simp [h]
def zeroI (v : I4) : Bool := decide (v.1 = 0) && decide (v.2.1.fmod q = v.2.2.1.fmod q) && decide (v.2.1.fmod q ≠ 0)
theorem zero1 {v : I4} (h : v.1 = 0) (k : v.2.1.fmod q = v.2.2.1.fmod q) (l : v.2.1.fmod q ≠ 0) : true = zeroI v := by unfold zeroI; simp only [h, k, decide_true, Bool.true_and]; rw [k] at l; simp [l]
theorem zero2 {v : I4} (h : v.1 ≠ 0) : false = zeroI v := by unfold zeroI; simp [h]
theorem zero3 {v : I4} (k : v.2.1.fmod q ≠ v.2.2.1.fmod q) : false = zeroI v := by unfold zeroI; simp [k]
theorem zero4 {v : I4} (l : v.2.1.fmod q = 0) : false = zeroI v := by unfold zeroI; simp [l]
abbrev lvS (y : Int) : Int := ((y * y - 1) * pwI (dL * y * y + 1) (q - 2) q).fmod q
abbrev lvV (y : Int) : Int := pwI (2 * lvS y) ((q - 5).fdiv 8) q
abbrev lvX (y : Int) : Int := (lvS y * lvV y * (2 * lvS y * lvV y * lvV y - 1)).fmod q
@[irreducible] def levI (y : Int) : Option Int := if (lvX y * lvX y).fmod q = lvS y then some (if (lvX y).fmod 2 = 0 then lvX y else q - lvX y) else none
def POI (o : Option Int) (tl : Led) (r : Value) : Prop := tl = [] ∧ match o with | some x => ∃ t, r = .int x t | none => r = .none
theorem lev1 {y : Int} {t : Tok} (h : (lvX y * lvX y).fmod q = lvS y) (k : (lvX y).fmod 2 = 0) : POI (levI y) [] (.int (lvX y) t) := by
  unfold levI POI; rw [if_pos h, if_pos k]; exact ⟨rfl, _, rfl⟩
theorem lev2 {y : Int} {t : Tok} (h : (lvX y * lvX y).fmod q = lvS y) (k : (lvX y).fmod 2 ≠ 0) : POI (levI y) [] (.int (q - lvX y) t) := by
  unfold levI POI; rw [if_pos h, if_neg k]; exact ⟨rfl, _, rfl⟩
theorem lev3 {y : Int} (h : (lvX y * lvX y).fmod q ≠ lvS y) : POI (levI y) [] .none := by
  unfold levI POI; rw [if_neg h]; exact ⟨rfl, rfl⟩
abbrev lq (v : Int × Int) (t1 t2 : Tok) (n : Nat) : Obj := listOf #[.int v.1 t1, .int v.2 t2] n
set_option maxHeartbeats 8000000 in
theorem ct_xrec (w : World) {news : Led} {y : Int} {t : Tok} (hy : In y) :
    Con w 126 2 [.int y t] news (PI (xrecI y)) := by
  unfold Con
  k_fill
  intro p loose mean mg mb dp un gd cn cs a ccd cl outer A₀ base h₀ L m s Q E B F X N T hk hd hu hret
  refine wpAny_call ?_
  k_dflt ktr_enter
  k_steps
  all_goals (refine con_end0 hret (by k_asm) (by k_asm) ⟨_, rfl, congrArg (fun z => Value.int z _) ?_⟩; first | exact xrec1 (by assumption) (by assumption) | exact xrec2 (by assumption) (by assumption) | exact xrec3 (by assumption) (by assumption) | exact xrec4 (by assumption) (by assumption))
set_option maxHeartbeats 8000000 in
theorem ct_lev (w : World) {news : Led} {y : Int} {t : Tok} (hy : In y) :
    Con w 445 2 [.int y t] news (POI (levI y)) := by
  unfold Con
  k_fill
  intro p loose mean mg mb dp un gd cn cs a ccd cl outer A₀ base h₀ L m s Q E B F X N T hk hd hu hret
  refine wpAny_call ?_
  k_dflt ktr_enter
  k_steps
  all_goals (refine con_end0 hret (by k_asm) (by k_asm) ?_; first | exact lev1 (by assumption) (by assumption) | exact lev2 (by assumption) (by assumption) | exact lev3 (by assumption))
set_option maxHeartbeats 8000000 in
theorem ct_zero (w : World) {news : Led} {a1 : Addr} {v : I4} {t1 t2 t3 t4 : Tok} {n1 : Nat} (ha : (a1, tp v t1 t2 t3 t4 n1) ∈ news) (hv : In4 v) :
    Con w 203 1 [.ref a1] news (PB (zeroI v)) := by
  unfold Con
  k_fill
  intro p loose mean mg mb dp un gd cn cs a ccd cl outer A₀ base h₀ L m s Q E B F X N T hk hd hu hret
  refine wpAny_call ?_
  k_dflt ktr_enter
  k_steps
  all_goals (refine con_end0 hret (by k_asm) (by k_asm) ⟨rfl, congrArg Value.bool ?_⟩; first | exact zero1 (by assumption) (by assumption) (by assumption) | exact zero2 (by assumption) | exact zero3 (by assumption) | exact zero4 (by assumption))
set_option maxHeartbeats 8000000 in
theorem ct_onc (w : World) {news : Led} {a1 : Addr} {v : Int × Int} {t1 t2 : Tok} {n1 : Nat} (ha : (a1, lq v t1 t2 n1) ∈ news) (hv : In2 v) :
    Con w 189 1 [.ref a1] news (PB (oncI v)) := by
  unfold Con
  k_fill
  intro p loose mean mg mb dp un gd cn cs a ccd cl outer A₀ base h₀ L m s Q E B F X N T hk hd hu hret
  refine wpAny_call ?_
  k_dflt ktr_enter
  k_steps
  all_goals (refine con_end0 hret (by k_asm) (by k_asm) ⟨rfl, congrArg Value.bool ?_⟩; first | exact onc1 | exact onc2 | exact onc3 (by assumption) | exact onc4 (by assumption))
set_option maxHeartbeats 8000000 in
theorem ct_a2e_l (w : World) {news : Led} {a1 : Addr} {v : Int × Int} {t1 t2 : Tok} {n1 : Nat} (ha : (a1, lq v t1 t2 n1) ∈ news) (hv : In2 v) :
    Con w 133 1 [.ref a1] news (P4 (a2eI v)) := by
  unfold Con
  k_fill
  intro p loose mean mg mb dp un gd cn cs a ccd cl outer A₀ base h₀ L m s Q E B F X N T hk hd hu hret
  refine wpAny_call ?_
  k_dflt ktr_enter
  k_steps
  all_goals (refine con_end1 hret (by k_asm) (by k_asm) (by ktn_lt) ⟨_, _, _, _, _, _, rfl, rfl⟩)
theorem con_end4 {h₀ h' : Heap} {L b : Addr} {m : Str → Option Value} {news led : Led} {v v' : I4} {u1 u2 u3 u4 : Tok} {k : Nat} {Q : Value → Shared → Prop} {s : Shared} {tk' : Nat}
    (ret : ∀ r tl h' tk', Fr h₀ L h' m → News h₀ L h' (tl ++ news) → (∀ q ∈ news, ∀ p ∈ tl, q.1 < p.1) → P4 v tl r → Q r { s with heap := h', toks := tk' })
    (F : Fr h₀ L h' m) (N : News h₀ L h' led) (hm : (b, tp v' u1 u2 u3 u4 k) ∈ led) (hs : ∀ p ∈ news, p ∈ led) (lt : AllLt b news) (e : v' = v) : Q (.ref b) { s with heap := h', toks := tk' } := by
  subst e
  refine ret (.ref b) [(b, tp v' u1 u2 u3 u4 k)] h' tk' F (fun p hp => N p ?_) (ktn_ord1 lt) ⟨_, _, _, _, _, _, rfl, rfl⟩
  rcases List.mem_cons.mp hp with rfl | hp
  · exact hm
  · exact hs p hp
theorem in_zo : In2 ((0, 1) : Int × Int) := ⟨⟨by decide, by decide⟩, ⟨by decide, by decide⟩⟩
def slowI (v : I4) : Nat → Int → I4
  | 0, _ => a2eI (0, 1)
  | k + 1, n => if n = 0 then a2eI (0, 1) else if n.fmod 2 = 0 then dblI (slowI v k (n.fdiv 2)) else addI (dblI (slowI v k (n.fdiv 2))) v
def fastI (v : I4) : Nat → Int → I4
  | 0, _ => a2eI (0, 1)
  | k + 1, n => if n = 0 then a2eI (0, 1) else if n.fmod 2 = 0 then dblI (fastI v k (n.fdiv 2)) else nonI (dblI (fastI v k (n.fdiv 2))) v
theorem slow_in (v : I4) : ∀ k n, In4 (slowI v k n)
  | 0, _ => a2e_in _
  | k + 1, n => by unfold slowI; split; exact a2e_in _; split; exact dbl_in _; exact add_in _ _
theorem fast_in (v : I4) : ∀ k n, In4 (fastI v k n)
  | 0, _ => a2e_in _
  | k + 1, n => by unfold fastI; split; exact a2e_in _; split; exact dbl_in _; exact non_in _ _
theorem and_one {n : Int} (h0 : 0 ≤ n) : Builtin.bitAnd n 1 = n.fmod 2 := by
  obtain ⟨k, rfl⟩ := Int.eq_ofNat_of_zero_le h0
  rw [Int.fmod_eq_emod_of_nonneg _ (by decide)]
  show (((k : Int).toNat &&& (1 : Int).toNat : Nat) : Int) = _
  have e : (1 : Int).toNat = 1 := rfl
  rw [Int.toNat_natCast, e, Nat.and_one_is_mod]
  rfl
theorem slowI_0 {v : I4} {k : Nat} {n : Int} (h : n = 0) : a2eI (0, 1) = slowI v (k + 1) n := by unfold slowI; rw [if_pos h]
theorem slowI_1 {v : I4} {k : Nat} {n : Int} (h : n ≠ 0) (e : n.fmod 2 = 0) : dblI (slowI v k (n.fdiv 2)) = slowI v (k + 1) n := by conv => rhs; unfold slowI; rw [if_neg h, if_pos e]
theorem slowI_2 {v : I4} {k : Nat} {n : Int} (h : n ≠ 0) (e : n.fmod 2 ≠ 0) : addI (dblI (slowI v k (n.fdiv 2))) v = slowI v (k + 1) n := by conv => rhs; unfold slowI; rw [if_neg h, if_neg e]
theorem fastI_0 {v : I4} {k : Nat} {n : Int} (h : n = 0) : a2eI (0, 1) = fastI v (k + 1) n := by unfold fastI; rw [if_pos h]
theorem fastI_1 {v : I4} {k : Nat} {n : Int} (h : n ≠ 0) (e : n.fmod 2 = 0) : dblI (fastI v k (n.fdiv 2)) = fastI v (k + 1) n := by conv => rhs; unfold fastI; rw [if_neg h, if_pos e]
theorem fastI_2 {v : I4} {k : Nat} {n : Int} (h : n ≠ 0) (e : n.fmod 2 ≠ 0) : nonI (dblI (fastI v k (n.fdiv 2))) v = fastI v (k + 1) n := by conv => rhs; unfold fastI; rw [if_neg h, if_neg e]
theorem pow_one2 : (2 : Int) ^ Int.toNat 1 = 2 := by decide
theorem half_lo {n : Int} (h : 0 ≤ n) : 0 ≤ n.fdiv 2 := by rw [Int.fdiv_eq_ediv_of_nonneg _ (by decide)]; omega
theorem half_hi {n : Int} {k : Nat} (h : n < 2 ^ (k + 1)) : n.fdiv 2 < 2 ^ k := by
  rw [Int.fdiv_eq_ediv_of_nonneg _ (by decide)]
  rw [Int.pow_succ] at h
  omega
set_option hygiene false in
local macro_rules | `(tactic| walk_at "o1") => `(tactic| ((obtain ⟨b9, u1, u2, u3, u4, k9, e9, f9⟩ := ho9; subst e9; subst f9; simp only [List.cons_append, List.nil_append] at N9; have l9 := con_lt hl9; clear hl9; (try k_lt l9)); (try k_sweep); (try dsimp only); (try k_fold)))
set_option hygiene false in
local macro_rules | `(tactic| walk_at "in4") => `(tactic| (first | assumption | exact dbl_in _ | exact add_in _ _ | exact non_in _ _ | exact a2e_in _ | exact slow_in _ _ _ | exact fast_in _ _ _))
set_option hygiene false in
local macro_rules | `(tactic| walk_at "call ref") => `(tactic| (k_here; (with_reducible show wpAny _ _ (call (Value.ref 147) _) _ _ _); k_dflt (refine' con_use ?kB ?kF ?kX ?kN ?kT ?kK ?kC ?kd ?ku ?_; walk_at "c1"; (case kC => exact (ct_double _ (by k_mem) (by walk_at "in4"))); walk_at "c2"; walk_at "o1")))
set_option hygiene false in
local macro_rules | `(tactic| walk_at "call ref") => `(tactic| (k_here; (with_reducible show wpAny _ _ (call (Value.ref 154) _) _ _ _); k_dflt (refine' con_use ?kB ?kF ?kX ?kN ?kT ?kK ?kC ?kd ?ku ?_; walk_at "c1"; (case kC => exact (ct_add _ (by k_mem) (by walk_at "in4") (by k_mem) (by walk_at "in4"))); walk_at "c2"; walk_at "o1")))
set_option hygiene false in
local macro_rules | `(tactic| walk_at "call ref") => `(tactic| (k_here; (with_reducible show wpAny _ _ (call (Value.ref 168) _) _ _ _); k_dflt (refine' con_use ?kB ?kF ?kX ?kN ?kT ?kK ?kC ?kd ?ku ?_; walk_at "c1"; (case kC => exact (ct_non _ (by k_mem) (by walk_at "in4") (by k_mem) (by walk_at "in4"))); walk_at "c2"; walk_at "o1")))
set_option hygiene false in
local macro_rules | `(tactic| walk_at "call ref") => `(tactic| (k_here; (with_reducible show wpAny _ _ (call (Value.ref 133) _) _ _ _); k_dflt (refine' con_use ?kB ?kF ?kX ?kN ?kT ?kK ?kC ?kd ?ku ?_; walk_at "c1"; (case kC => exact (ct_a2e_t (v := (0, 1)) _ (by k_mem) (by first | assumption | exact in_zo))); walk_at "c2"; walk_at "o1")))

set_option maxHeartbeats 8000000 in
theorem ct_slow (w : World) {v : I4} (hv : In4 v) : ∀ (k : Nat) (n : Int) (t : Tok) {news : Led} {a1 : Addr} {t1 t2 t3 t4 : Tok} {n1 : Nat} (ha : (a1, tp v t1 t2 t3 t4 n1) ∈ news) (h0 : 0 ≤ n) (h1 : n < 2 ^ k),
    Con w 161 (k + 2) [.ref a1, .int n t] news (P4 (slowI v k n)) := by
  intro k
  induction k with
  | zero =>
    intro n t news a1 t1 t2 t3 t4 n1 ha h0 h1
    obtain rfl : n = 0 := by omega
    unfold Con
    k_fill
    intro p loose mean mg mb dp un gd cn cs a ccd cl outer A₀ base h₀ L m s Q E B F X N T hk hd hu hret
    refine wpAny_call ?_
    k_dflt ktr_enter
    repeat' ((fail_if_success (with_reducible show wpAny _ _ (call (Value.ref 161) _) _ _ _)); first | (k_unfold; (try dsimp only)) | (k_end; wrow_close) | walk1 | (dsimp only; walk1) | (leave1; walk_say "STEP leave1"; try dsimp only) | fail "no step")
    all_goals (refine con_end4 hret (by k_asm) (by assumption) (by k_mem) (by (intro p9 hp9; repeat (first | exact hp9 | refine List.Mem.tail _ ?_))) (by (first | assumption | exact allLt_of (by assumption) | exact And.right (by assumption) | exact And.right (And.right (by assumption)) | exact And.right (And.right (And.right (by assumption))) | exact And.right (And.right (And.right (And.right (by assumption)))))) ?_; first | exact rfl)
  | succ k ih =>
    intro n t news a1 t1 t2 t3 t4 n1 ha h0 h1
    unfold Con
    k_fill
    intro p loose mean mg mb dp un gd cn cs a ccd cl outer A₀ base h₀ L m s Q E B F X N T hk hd hu hret
    refine wpAny_call ?_
    k_dflt ktr_enter
    repeat' ((fail_if_success (with_reducible show wpAny _ _ (call (Value.ref 161) _) _ _ _)); first | (k_unfold; (try dsimp only)) | (k_end; wrow_close) | walk1 | (dsimp only; walk1) | (leave1; walk_say "STEP leave1"; try dsimp only) | fail "no step")
    · exact con_end4 hret (by k_asm) (by assumption) (by k_mem) (by (intro p9 hp9; repeat (first | exact hp9 | refine List.Mem.tail _ ?_))) (by (first | assumption | exact allLt_of (by assumption) | exact And.right (by assumption) | exact And.right (And.right (by assumption)) | exact And.right (And.right (And.right (by assumption))) | exact And.right (And.right (And.right (And.right (by assumption)))))) (slowI_0 (by assumption))
    · rw [pow_one2]
      (k_dflt (refine' con_use ?kB ?kF ?kX ?kN ?kT ?kK ?kC ?kd ?ku ?_; (case kB => k_asm); (case kF => k_asm); (case kX => first | k_asm | assumption); (case kN => k_asm); (case kT => k_asm); (case kK => first | exact rfl | assumption); (case kC => exact (ih _ _ (by k_mem) (half_lo (by assumption)) (half_hi (by assumption)))); (case kd => ktr_room); (case ku => ktr_units); intro r9 tl9 h9 tk9 F9 N9 hl9 ho9; (obtain ⟨b9, u1, u2, u3, u4, k9, e9, f9⟩ := ho9; subst e9; subst f9; simp only [List.cons_append, List.nil_append] at N9; have l9 := con_lt hl9; clear hl9; (try k_lt l9)); (try k_sweep); (try dsimp only); (try k_fold)))
      k_steps
      all_goals (refine con_end4 hret (by k_asm) (by assumption) (by k_mem) (by (intro p9 hp9; repeat (first | exact hp9 | refine List.Mem.tail _ ?_))) (by (first | assumption | exact allLt_of (by assumption) | exact And.right (by assumption) | exact And.right (And.right (by assumption)) | exact And.right (And.right (And.right (by assumption))) | exact And.right (And.right (And.right (And.right (by assumption)))))) ?_; first | exact slowI_1 (by assumption) ((and_one (by assumption)).symm.trans (by assumption)) | exact slowI_2 (by assumption) (fun z => absurd ((and_one (by assumption)).trans z) (by assumption)))
set_option maxHeartbeats 8000000 in
theorem ct_fast (w : World) {v : I4} (hv : In4 v) : ∀ (k : Nat) (n : Int) (t : Tok) {news : Led} {a1 : Addr} {t1 t2 t3 t4 : Tok} {n1 : Nat} (ha : (a1, tp v t1 t2 t3 t4 n1) ∈ news) (h0 : 0 ≤ n) (h1 : n < 2 ^ k),
    Con w 175 (k + 2) [.ref a1, .int n t] news (P4 (fastI v k n)) := by
  intro k
  induction k with
  | zero =>
    intro n t news a1 t1 t2 t3 t4 n1 ha h0 h1
    obtain rfl : n = 0 := by omega
    unfold Con
    k_fill
    intro p loose mean mg mb dp un gd cn cs a ccd cl outer A₀ base h₀ L m s Q E B F X N T hk hd hu hret
    refine wpAny_call ?_
    k_dflt ktr_enter
    repeat' ((fail_if_success (with_reducible show wpAny _ _ (call (Value.ref 175) _) _ _ _)); first | (k_unfold; (try dsimp only)) | (k_end; wrow_close) | walk1 | (dsimp only; walk1) | (leave1; walk_say "STEP leave1"; try dsimp only) | fail "no step")
    all_goals (refine con_end4 hret (by k_asm) (by assumption) (by k_mem) (by (intro p9 hp9; repeat (first | exact hp9 | refine List.Mem.tail _ ?_))) (by (first | assumption | exact allLt_of (by assumption) | exact And.right (by assumption) | exact And.right (And.right (by assumption)) | exact And.right (And.right (And.right (by assumption))) | exact And.right (And.right (And.right (And.right (by assumption)))))) ?_; first | exact rfl)
  | succ k ih =>
    intro n t news a1 t1 t2 t3 t4 n1 ha h0 h1
    unfold Con
    k_fill
    intro p loose mean mg mb dp un gd cn cs a ccd cl outer A₀ base h₀ L m s Q E B F X N T hk hd hu hret
    refine wpAny_call ?_
    k_dflt ktr_enter
    repeat' ((fail_if_success (with_reducible show wpAny _ _ (call (Value.ref 175) _) _ _ _)); first | (k_unfold; (try dsimp only)) | (k_end; wrow_close) | walk1 | (dsimp only; walk1) | (leave1; walk_say "STEP leave1"; try dsimp only) | fail "no step")
    · exact con_end4 hret (by k_asm) (by assumption) (by k_mem) (by (intro p9 hp9; repeat (first | exact hp9 | refine List.Mem.tail _ ?_))) (by (first | assumption | exact allLt_of (by assumption) | exact And.right (by assumption) | exact And.right (And.right (by assumption)) | exact And.right (And.right (And.right (by assumption))) | exact And.right (And.right (And.right (And.right (by assumption)))))) (fastI_0 (by assumption))
    · rw [pow_one2]
      (k_dflt (refine' con_use ?kB ?kF ?kX ?kN ?kT ?kK ?kC ?kd ?ku ?_; (case kB => k_asm); (case kF => k_asm); (case kX => first | k_asm | assumption); (case kN => k_asm); (case kT => k_asm); (case kK => first | exact rfl | assumption); (case kC => exact (ih _ _ (by k_mem) (half_lo (by assumption)) (half_hi (by assumption)))); (case kd => ktr_room); (case ku => ktr_units); intro r9 tl9 h9 tk9 F9 N9 hl9 ho9; (obtain ⟨b9, u1, u2, u3, u4, k9, e9, f9⟩ := ho9; subst e9; subst f9; simp only [List.cons_append, List.nil_append] at N9; have l9 := con_lt hl9; clear hl9; (try k_lt l9)); (try k_sweep); (try dsimp only); (try k_fold)))
      k_steps
      all_goals (refine con_end4 hret (by k_asm) (by assumption) (by k_mem) (by (intro p9 hp9; repeat (first | exact hp9 | refine List.Mem.tail _ ?_))) (by (first | assumption | exact allLt_of (by assumption) | exact And.right (by assumption) | exact And.right (And.right (by assumption)) | exact And.right (And.right (And.right (by assumption))) | exact And.right (And.right (And.right (And.right (by assumption)))))) ?_; first | exact fastI_1 (by assumption) ((and_one (by assumption)).symm.trans (by assumption)) | exact fastI_2 (by assumption) (fun z => absurd ((and_one (by assumption)).trans z) (by assumption)))
theorem fr_set {h₀ h : Heap} {L : Addr} {m : Str → Option Value} {x : Str} {v : Value} (F : Fr h₀ L h m) (e : m x = some v) : Fr h₀ L h (fun y => if y = x then some v else m y) := by
  have : m = (fun y => if y = x then some v else m y) := by
    funext y
    by_cases h : y = x
    · rw [if_pos h, h, e]
    · rw [if_neg h]
  rw [← this]; exact F
theorem con_end2 {h₀ h' : Heap} {L b : Addr} {m : Str → Option Value} {news led : Led} {v v' : Int × Int} {u1 u2 : Tok} {k : Nat} {Q : Value → Shared → Prop} {s : Shared} {tk' : Nat}
    (ret : ∀ r tl h' tk', Fr h₀ L h' m → News h₀ L h' (tl ++ news) → (∀ q ∈ news, ∀ p ∈ tl, q.1 < p.1) → P2 v tl r → Q r { s with heap := h', toks := tk' })
    (F : Fr h₀ L h' m) (N : News h₀ L h' led) (hm : (b, tq v' u1 u2 k) ∈ led) (hs : ∀ p ∈ news, p ∈ led) (lt : ∀ p ∈ news, p.1 < b) (e : v' = v) : Q (.ref b) { s with heap := h', toks := tk' } := by
  subst e
  refine ret (.ref b) [(b, tq v' u1 u2 k)] h' tk' F (fun p hp => N p ?_) (fun q hq p hp => by rw [List.mem_singleton.mp hp]; exact lt q hq) ⟨_, _, _, _, rfl, rfl⟩
  rcases List.mem_cons.mp hp with rfl | hp
  · exact hm
  · exact hs p hp
/-- the law's own product, by fuel -/
def ltI : Nat → Int × Int → Int × Int → Int → Int × Int
  | 0, T, _, _ => T
  | k + 1, T, P, n => if n ≤ 0 then T else ltI k (if n.fmod 2 = 1 then lsumI T P else T) (lsumI P P) (n.fdiv 2)
theorem ltI_end {k : Nat} {T P : Int × Int} {n : Int} (h : ¬ n > 0) : ltI k T P n = T := by
  cases k with
  | zero => rfl
  | succ k => unfold ltI; rw [if_pos (by omega)]
theorem ltI_odd {j : Nat} {T P : Int × Int} {n : Int} (h : 0 < n) (o : n.fmod 2 = 1) : ltI (j + 1) T P n = ltI j (lsumI T P) (lsumI P P) (n.fdiv 2) := by
  conv => lhs; unfold ltI
  rw [if_neg (by omega), if_pos o]
theorem ltI_even {j : Nat} {T P : Int × Int} {n : Int} (h : 0 < n) (o : n.fmod 2 ≠ 1) : ltI (j + 1) T P n = ltI j T (lsumI P P) (n.fdiv 2) := by
  conv => lhs; unfold ltI
  rw [if_neg (by omega), if_neg o]
theorem lt_succ {k : Nat} {n : Int} (h : 0 < n) (h2 : n < 2 ^ k) : ∃ j, k = j + 1 := by
  cases k with
  | zero => rw [Int.pow_zero] at h2; omega
  | succ j => exact ⟨j, rfl⟩
structure LtJ (v : Int × Int) (news : Led) (k : Nat) (m : Str → Option Value) (led : Led) : Prop where
  ex : ∃ (T P : Int × Int) (n : Int) (aT aP : Addr) (t t1 t2 t3 t4 : Tok) (n1 n2 : Nat), m (Str.ofString "total") = some (.ref aT) ∧ m (Str.ofString "point") = some (.ref aP) ∧ m (Str.ofString "n") = some (.int n t) ∧
    (aT, tq T t1 t2 n1) ∈ led ∧ (aP, tq P t3 t4 n2) ∈ led ∧ In2 T ∧ In2 P ∧ n < 2 ^ k ∧ ltI k T P n = v ∧ (∀ p ∈ news, p ∈ led) ∧ (∀ p ∈ news, p.1 < aT)
set_option hygiene false in
local macro_rules | `(tactic| walk_at "o2") => `(tactic| ((obtain ⟨b9, u1, u2, k9, e9, f9⟩ := ho9; subst e9; subst f9; simp only [List.cons_append, List.nil_append] at N9; have l9 := con_lt hl9; clear hl9; (try k_lt l9)); (try k_sweep); (try dsimp only); (try k_fold)))
set_option hygiene false in
local macro_rules | `(tactic| walk_at "call ref") => `(tactic| (k_here; (with_reducible show wpAny _ _ (call (Value.ref 424) _) _ _ _); k_dflt (refine' con_use ?kB ?kF ?kX ?kN ?kT ?kK ?kC ?kd ?ku ?_; walk_at "c1"; (case kC => exact (ct_lsum _ (by k_mem) (by first | assumption | exact lsum_in _ _ | exact in_zo | exact e2a_in _) (by k_mem) (by first | assumption | exact lsum_in _ _ | exact in_zo | exact e2a_in _))); walk_at "c2"; walk_at "o2")))

set_option maxHeartbeats 8000000 in
theorem ct_times (w : World) {news : Led} {a1 : Addr} {v : Int × Int} {t1 t2 : Tok} {n1 : Nat} (ha : (a1, tq v t1 t2 n1) ∈ news) (hv : In2 v) {n : Int} {t : Tok} (k : Nat) (h1 : n < 2 ^ k) :
    Con w 431 2 [.ref a1, .int n t] news (P2 (ltI k (0, 1) v n)) := by
  unfold Con
  k_fill
  intro p loose mean mg mb dp un gd cn cs a ccd cl outer A₀ base h₀ L m s Q E B F X N T hk hd hu hret
  refine wpAny_call ?_
  k_dflt ktr_enter
  repeat' ((fail_if_success (with_reducible show wpAny _ _ (exec (Stmt.While _ _ _ _) _) _ _ _)); first | (k_unfold; (try dsimp only)) | (k_end; wrow_close) | walk1 | (dsimp only; walk1) | (leave1; walk_say "STEP leave1"; try dsimp only) | fail "no step")
  (with_reducible rename Fr _ _ _ _ => F1)
  (with_reducible rename News _ _ _ _ => N1)
  refine While_inv2 (LtJ (ltI k (0, 1) v n) news) (n₀ := k) F1 N1 ?_ ?_
  · refine ⟨(0, 1), v, n, _, _, _, _, _, _, _, _, _, rfl, rfl, rfl, by k_mem, by k_mem, in_zo, hv, h1, rfl, by (intro p9 hp9; repeat (first | exact hp9 | refine List.Mem.tail _ ?_)), by assumption⟩
  · clear F1 N1
    rintro k1 m₁ led h₁ tk₁ F2 N2 ⟨T, P, n', aT, aP, t', u1, u2, u3, u4, i1, i2, e1, e2, e3, hT, hP, iT, iP, hlt, hval, hsub, hab⟩
    have F2 := fr_set (x := Str.ofString "total") (fr_set (x := Str.ofString "point") (fr_set F2 e3) e2) e1
    k_steps
    · obtain ⟨j, rfl⟩ := lt_succ (by assumption) hlt
      exact ⟨_, _, _, _, j, rfl, (by assumption), (by assumption), Nat.lt_succ_self _, ⟨lsumI T P, lsumI P P, n'.fdiv 2, _, _, _, _, _, _, _, _, _, rfl, rfl, rfl, (by k_mem), (by k_mem), lsum_in _ _, lsum_in _ _, half_hi hlt,
        (ltI_odd (by assumption) (by assumption)).symm.trans hval, (fun p hp => .tail _ (.tail _ (hsub p hp))), (fun p hp => (by assumption : ∀ p ∈ led, p.1 < _) p (hsub p hp))⟩⟩
    · obtain ⟨j, rfl⟩ := lt_succ (by assumption) hlt
      exact ⟨_, _, _, _, j, rfl, (by assumption), (by assumption), Nat.lt_succ_self _, ⟨T, lsumI P P, n'.fdiv 2, _, _, _, _, _, _, _, _, _, rfl, rfl, rfl, (by k_mem), (by k_mem), iT, lsum_in _ _, half_hi hlt,
        (ltI_even (by assumption) (by assumption)).symm.trans hval, (fun p hp => .tail _ (hsub p hp)), hab⟩⟩
    · exact con_end2 hret (by k_asm) (by assumption) hT hsub hab ((ltI_end (by assumption)).symm.trans hval)
section
variable {prog : Program} {w : World} {A : Around} {E : Value → Shared → Prop} {env : Env} {h₀ : Heap} {L : Addr} {m : Str → Option Value} {news : Led}
/-- what a comprehension over an iterator asks (the library's own words) -/
def CSrc (prog : Program) (w : World) (A : Around) (env : Env) (scope : Scope) (cl : List (Str × Addr)) (x : Str) (elt : Expr) (F : Value → Value → Prop) (Q : Value → Shared → Prop) (it : Value) (s₂ : Shared) : Prop :=
  ∃ I fp wr n P St, it = .ref I ∧ Walks prog w A I fp wr n P St ∧ n ≤ sizeLine ∧ St 0 s₂.heap ∧ (∀ b ∈ fp, b < s₂.heap.objs.size) ∧
      QuietOnC prog w A env scope cl x [] elt wr P (fun _ => true) F s₂ ∧
      (∀ D h' tk ys (vs : List Value), s₂.heap.get? D = none → h'.IsList D ys → h'.PlainList D ys → vs.length = n → (∀ j v, vs[j]? = some v → P j v) → Paired F (vs.filter fun _ => true) ys.toList →
        (∀ b o, b ∉ wr → s₂.heap.get? b = some o → h'.get? b = some o) → Q (.ref D) { s₂ with heap := h', toks := tk })
theorem comp_cs {s : Shared} {elt iter : Expr} {x : Str} {px : Pos} {scope : Scope} {cl : List (Str × Addr)} {pos : Pos} {Q : Value → Shared → Prop} (F : Value → Value → Prop)
    (hclos : closureFor scope env = pure cl) (hcell : ∀ y ∈ scope.names, y.2 ≠ .cell) (hkind : scope.kind = .function)
    (hnames : ∀ y ∈ scope.names, y.2 = .local → scope.names.lookup y.1 = some .local) (hx : scope.names.lookup x = some .local)
    (h : wpAny (model prog w) A (eval iter env) (fun xv s₁ => wpAny (model prog w) A (pyIter xv) (CSrc prog w A env scope cl x elt F Q) E s₁) E s)
    (hs : ∀ x, foldedSetIterable iter env x = pure x := by intro _; rfl) :
    wpAny (model prog w) A (eval (.ListComp elt [⟨.Name x px, iter, [], 0⟩] scope pos) env) Q E s :=
  wpAny_ListComp_free (fun _ => true) F hclos hcell hkind hnames hx h hs

theorem paired_of {α : Type} {K : α → Value → Prop} {G : α → Value → Prop} (hK : ∀ a b v, K a v → K b v → a = b) : ∀ {as : List α} {vs ys : List Value}, vs.length = as.length → (∀ (j : Nat) (v : Value), vs[j]? = some v → ∃ a, as[j]? = some a ∧ K a v) →
    Paired (fun v y => ∃ a, K a v ∧ G a y) vs ys → Paired G as ys
  | [], [], [], _, _, _ => .nil
  | [], _ :: _, _, h, _, _ => by simp at h
  | _ :: _, [], _, h, _, _ => by simp at h
  | a :: as, v :: vs, y :: ys, hl, hP, .cons h t => by
    obtain ⟨b, hb, kb⟩ := hP 0 v rfl
    have e : a = b := by simpa using hb
    subst e
    obtain ⟨c, kc, g⟩ := h
    rw [hK _ _ _ kc kb] at g
    exact .cons g (paired_of hK (by simpa using hl) (fun j v hj => by simpa using hP (j + 1) v (by simpa using hj)) t)

/-- a source that is a new iterator -/
theorem cs_new {α : Type} {s₁ : Shared} {o : Obj} {scope : Scope} {cl : List (Str × Addr)} {x : Str} {elt : Expr} {Q : Value → Shared → Prop} {n : Nat} {P : Nat → Value → Prop} {St : Nat → Heap → Prop} (as : List α) (K : α → Value → Prop) (G : α → Value → Prop)
    (hK : ∀ a b v, K a v → K b v → a = b)
    (W : Walks prog w A s₁.heap.objs.size [s₁.heap.objs.size] [s₁.heap.objs.size] n P St) (hst : St 0 (s₁.heap.push o)) (hn : as.length = n) (hsz : n ≤ sizeLine)
    (hP : ∀ i v, P i v → ∃ a, as[i]? = some a ∧ K a v) (F : Fr h₀ L s₁.heap m) (N : News h₀ L s₁.heap news)
    (helt : ∀ C a v s₃ m₃ E', a ∈ as → K a v → s₃.heap.Ns (compEnvC scope cl C env).locals m₃ → m₃ x = some v → Fr h₀ L s₃.heap m → News h₀ L s₃.heap news → (∀ b o, s₁.heap.get? b = some o → s₃.heap.get? b = some o) →
      wpAny (model prog w) A (eval elt (compEnvC scope cl C env)) (fun y s₄ => G a y ∧ Keeps s₃ s₄) E' s₃)
    (done : ∀ D h' tk ys k, Fr h₀ L h' m → News h₀ L h' ((D, listOf ys k) :: news) → (∀ p ∈ news, p.1 ≠ D) → Paired G as ys.toList → Q (.ref D) { s₁ with heap := h', toks := tk }) :
    CSrc prog w A env scope cl x elt (fun v y => ∃ a, K a v ∧ G a y) Q (.ref s₁.heap.objs.size) { s₁ with heap := s₁.heap.push o } := by
  have up : ∀ (h' : Heap), (∀ b o', b ∉ [s₁.heap.objs.size] → (s₁.heap.push o).get? b = some o' → h'.get? b = some o') → ∀ b o', s₁.heap.get? b = some o' → h'.get? b = some o' :=
    fun h' hk b o' e => hk b o' (not_iter_of_old e) (Heap.get?_push_of_some _ e)
  refine ⟨_, [s₁.heap.objs.size], [s₁.heap.objs.size], n, P, St, rfl, W, hsz, hst, ?_, ⟨?_, ?_⟩, ?_⟩
  · intro b hb
    show b < (s₁.heap.push o).objs.size
    rw [Heap.size_push, List.mem_singleton.mp hb]
    exact Nat.lt_succ_self _
  · intro C i v s₃ m₃ E' _ hPv _ _ _ _
    exact wpAny_pure ⟨rfl, s₃.heap, s₃.toks, rfl, fun _ _ e => e⟩
  · intro C i v s₃ m₃ E' hC hPv _ hns hm hk _
    obtain ⟨a, ha, hKa⟩ := hP i v hPv
    exact wpAny_mono (helt C a v s₃ m₃ E' (List.mem_of_getElem? ha) hKa hns hm (F.keeps (up _ hk)) (N.grown (up _ hk)) (up _ hk)) (fun y s₄ h₄ => ⟨⟨a, hKa, h₄.1⟩, h₄.2⟩) fun _ _ e => e
  · intro D h' tk ys vs hnew hl hpl hlen hPs hF hk
    obtain ⟨k, hD⟩ := hpl
    have hold : s₁.heap.get? D = none := by
      cases e : s₁.heap.get? D with
      | none => rfl
      | some o' => rw [Heap.get?_push_of_some _ e] at hnew; cases hnew
    refine done D h' tk ys k (F.keeps (up h' hk)) ?_ (fun p hp e => by have := (N p hp).1; rw [e, hold] at this; cases this) (paired_of hK (hlen.trans hn.symm) (fun j v hj => hP j v (hPs j v hj)) (by rw [List.filter_eq_self.mpr (fun _ _ => rfl)] at hF; exact hF))
    intro p hp
    rcases List.mem_cons.mp hp with rfl | hp
    · refine ⟨hD, ?_, ?_⟩
      · rintro rfl
        obtain ⟨o', _, _, ho, _⟩ := F.ns
        rw [hold] at ho; cases ho
      · cases e : h₀.get? D with
        | none => rfl
        | some o' => rw [F.keep _ _ e] at hold; cases hold
    · exact N.grown (up h' hk) p hp

theorem cs_bytes {s₁ : Shared} {scope : Scope} {cl : List (Str × Addr)} {x : Str} {elt : Expr} {Q : Value → Shared → Prop} {b : Array UInt8} {t : Tok} (G : Int → Value → Prop) (hh : A.handled = none) (F : Fr h₀ L s₁.heap m) (N : News h₀ L s₁.heap news) (hsz : b.size ≤ sizeLine)
    (helt : ∀ C a u s₃ m₃ E', a ∈ KBw.bInts b → s₃.heap.Ns (compEnvC scope cl C env).locals m₃ → m₃ x = some (.int a u) → Fr h₀ L s₃.heap m → News h₀ L s₃.heap news → (∀ b o, s₁.heap.get? b = some o → s₃.heap.get? b = some o) →
      wpAny (model prog w) A (eval elt (compEnvC scope cl C env)) (fun y s₄ => G a y ∧ Keeps s₃ s₄) E' s₃)
    (done : ∀ D h' tk ys k, Fr h₀ L h' m → News h₀ L h' ((D, listOf ys k) :: news) → (∀ p ∈ news, p.1 ≠ D) → Paired G (KBw.bInts b) ys.toList → Q (.ref D) { s₁ with heap := h', toks := tk }) :
    wpAny (model prog w) A (pyIter (.bytes b t)) (CSrc prog w A env scope cl x elt (fun v y => ∃ a, (∃ u, v = .int a u) ∧ G a y) Q) E s₁ := by
  refine KBw.pyIter_bytes ?_
  refine cs_new (KBw.bInts b) (fun a v => ∃ u, v = .int a u) G (fun a b v ⟨_, h1⟩ ⟨_, h2⟩ => by rw [h1] at h2; injection h2) (KBw.walks hh _ b t) ⟨_, Heap.get?_push_size _ rfl, rfl, rfl⟩ (KBw.ints_length b) hsz ?_ F N ?_ done
  · rintro i v ⟨c, u, hc, rfl⟩
    exact ⟨_, KBw.ints_get hc, u, rfl⟩
  · rintro C a v s₃ m₃ E' ha ⟨u, rfl⟩ hns hm F' N' hk
    exact helt C a u s₃ m₃ E' ha hns hm F' N' hk
theorem cs_str {s₁ : Shared} {scope : Scope} {cl : List (Str × Addr)} {x : Str} {elt : Expr} {Q : Value → Shared → Prop} {y : Str} {t : Tok} (G : Nat → Value → Prop) (hh : A.handled = none) (F : Fr h₀ L s₁.heap m) (N : News h₀ L s₁.heap news) (hsz : y.cps.size ≤ sizeLine)
    (helt : ∀ C a u s₃ m₃ E', a ∈ y.cps.toList → s₃.heap.Ns (compEnvC scope cl C env).locals m₃ → m₃ x = some (.str ⟨#[a]⟩ u) → Fr h₀ L s₃.heap m → News h₀ L s₃.heap news → (∀ b o, s₁.heap.get? b = some o → s₃.heap.get? b = some o) →
      wpAny (model prog w) A (eval elt (compEnvC scope cl C env)) (fun y s₄ => G a y ∧ Keeps s₃ s₄) E' s₃)
    (done : ∀ D h' tk ys k, Fr h₀ L h' m → News h₀ L h' ((D, listOf ys k) :: news) → (∀ p ∈ news, p.1 ≠ D) → Paired G y.cps.toList ys.toList → Q (.ref D) { s₁ with heap := h', toks := tk }) :
    wpAny (model prog w) A (pyIter (.str y t)) (CSrc prog w A env scope cl x elt (fun v r => ∃ a, (∃ u, v = .str ⟨#[a]⟩ u) ∧ G a r) Q) E s₁ := by
  refine wpAny_pyIter_str fun o St W hst => ?_
  refine cs_new y.cps.toList (fun a v => ∃ u, v = .str ⟨#[a]⟩ u) G (fun a b v ⟨_, h1⟩ ⟨_, h2⟩ => by rw [h1] at h2; injection h2 with h2; simpa using h2) (W A hh) hst (by simp) hsz ?_ F N ?_ done
  · rintro i v ⟨c, u, hc, rfl⟩
    exact ⟨c, by simpa using hc, u, rfl⟩
  · rintro C a v s₃ m₃ E' ha ⟨u, rfl⟩ hns hm F' N' hk
    exact helt C a u s₃ m₃ E' ha hns hm F' N' hk
theorem cs_range {s₁ : Shared} {scope : Scope} {cl : List (Str × Addr)} {x : Str} {elt : Expr} {Q : Value → Shared → Prop} {r : Addr} {a₀ b₀ c₀ : Int} {t₀ u₀ v₀ : Tok} {n : Nat} (G : Int → Value → Prop) (hh : A.handled = none) (hr : IsRange s₁.heap r a₀ b₀ c₀ t₀ u₀ v₀)
    (hsmall : Builtin.Range.small a₀ b₀ c₀ = true) (hn : Builtin.Range.rangeSize a₀ b₀ c₀ = (n : Int)) (F : Fr h₀ L s₁.heap m) (N : News h₀ L s₁.heap news) (hsz : n ≤ sizeLine)
    (helt : ∀ C (i : Nat) u s₃ m₃ E', i < n → s₃.heap.Ns (compEnvC scope cl C env).locals m₃ → m₃ x = some (.int (a₀ + i * c₀) u) → Fr h₀ L s₃.heap m → News h₀ L s₃.heap news → (∀ b o, s₁.heap.get? b = some o → s₃.heap.get? b = some o) →
      wpAny (model prog w) A (eval elt (compEnvC scope cl C env)) (fun y s₄ => G (a₀ + i * c₀) y ∧ Keeps s₃ s₄) E' s₃)
    (done : ∀ D h' tk ys k, Fr h₀ L h' m → News h₀ L h' ((D, listOf ys k) :: news) → (∀ p ∈ news, p.1 ≠ D) → Paired G ((List.range n).map fun i : Nat => a₀ + (i : Int) * c₀) ys.toList → Q (.ref D) { s₁ with heap := h', toks := tk }) :
    wpAny (model prog w) A (pyIter (.ref r)) (CSrc prog w A env scope cl x elt (fun v y => ∃ a, (∃ u, v = .int a u) ∧ G a y) Q) E s₁ := by
  refine wpAny_pyIter_range hr hsmall ?_
  refine cs_new ((List.range n).map fun i : Nat => a₀ + (i : Int) * c₀) (fun a v => ∃ u, v = .int a u) G (fun a b v ⟨_, h1⟩ ⟨_, h2⟩ => by rw [h1] at h2; injection h2) (Walks.range hh _ a₀ c₀ n).bound
    (by show IsRangeIter _ _ _ _ _; rw [hn]; simpa using Heap.get?_push_size _ rfl) (by simp) hsz ?_ F N ?_ done
  · rintro i v ⟨hi, u, rfl⟩
    exact ⟨_, by simp [hi], u, rfl⟩
  · rintro C a v s₃ m₃ E' ha ⟨u, rfl⟩ hns hm F' N' hk
    obtain ⟨i, hi, rfl⟩ := List.mem_map.mp ha
    exact helt C i u s₃ m₃ E' (List.mem_range.mp hi) hns hm F' N' hk
end
abbrev HX : Str := Str.ofString "0123456789abcdef"
/-- two signs of an octet -/
def hx2 (a : Int) : Str := Txt.item HX (a.fdiv 16) ++ Txt.item HX (a.fmod 16)
theorem fd_lo {a : Int} (h : 0 ≤ a) : 0 ≤ a.fdiv 16 := by rw [Int.fdiv_eq_ediv_of_nonneg _ (by decide)]; omega
theorem fd_hi {a : Int} (h : a < 256) : a.fdiv 16 < 16 := by rw [Int.fdiv_eq_ediv_of_nonneg _ (by decide)]; omega
theorem fm_lo {a : Int} : 0 ≤ a.fmod 16 := by rw [Int.fmod_eq_emod_of_nonneg _ (by decide)]; omega
theorem fm_hi {a : Int} : a.fmod 16 < 16 := by rw [Int.fmod_eq_emod_of_nonneg _ (by decide)]; omega
theorem hx_len : HX.length = 16 := by decide +kernel
theorem item_hx {prog : Program} {w : World} {A : Around} {E : Value → Shared → Prop} {s : Shared} {value slice : Expr} {t u : Tok} {i : Int} {Q : Value → Shared → Prop} (h0 : 0 ≤ i) (h1 : i < 16)
    (h : Q (.str (Txt.item HX i) s.toks) { s with toks := s.toks + 1 })
    (hs : subscripted slice false (.str HX t) (.int i u) = operate [.str HX t, .int i u] (getItem (.str HX t) (.int i u)) := by with_unfolding_all rfl)
    (ht : ∀ r, letTemporaryGo value (.str HX t) r = pure () := by intro _; with_unfolding_all rfl) :
    wpAny (model prog w) A (subscriptTail value slice (.str HX t) (.int i u)) Q E s :=
  item_str (fitsSsize_of (N := 16) (by omega) h1 (by decide)) (by rw [hx_len]; omega) (by rw [hx_len]; omega) (fun _ => h) hs ht
theorem hx2_len (a : Int) : (hx2 a).length ≤ 2 := by unfold hx2; rw [Str.length_append, len_item, len_item]; exact Nat.le_refl _
theorem con_end0W {h₀ h' : Heap} {L : Addr} {m : Str → Option Value} {news led : Led} {Post : Led → Value → Prop} {Q : Value → Shared → Prop} {s : Shared} {r : Value} {tk' : Nat}
    (ret : ∀ r tl h' tk', Fr h₀ L h' m → News h₀ L h' (tl ++ news) → (∀ q ∈ news, ∀ p ∈ tl, q.1 < p.1) → Post tl r → Q r { s with heap := h', toks := tk' })
    (F : Fr h₀ L h' m) (N : News h₀ L h' led) (hs : ∀ p ∈ news, p ∈ led) (post : Post [] r) : Q r { s with heap := h', toks := tk' } :=
  ret r [] h' tk' F (fun p hp => N p (hs p hp)) (fun _ _ _ h => nomatch h) post
theorem carried_of {G : Int → Value → Prop} {g : Int → Str} (hG : ∀ a v, G a v → ∃ t, v = .str (g a) t) : ∀ {l : List Int} {ys : List Value}, Paired G l ys → CarriedAll ys (l.map fun a => PyData.str (g a))
  | _, _, .nil => .nil
  | _, _, .cons h t => by
    obtain ⟨u, rfl⟩ := hG _ _ h
    exact .cons (.str _ _) (carried_of hG t)
local macro_rules | `(tactic| walk_at "subscriptTail") => `(tactic| (k_here; (with_reducible show wpAny _ _ (subscriptTail _ _ (Value.str (Str.ofString "0123456789abcdef") _) (Value.int _ _)) _ _ _); k_dflt (refine item_hx ?ia ?ib ?_ ?ic ?id; (case ia => first | exact fd_lo (by assumption) | exact fm_lo); (case ib => first | exact fd_hi (by assumption) | exact fm_hi); (case ic => with_unfolding_all rfl); (case id => intro _; with_unfolding_all rfl))))

set_option maxHeartbeats 8000000 in
theorem ct_hex (w : World) {news : Led} {x : Array UInt8} {t : Tok} (hx : x.size ≤ 1000) :
    Con w 33 5 [.ref 110, .bytes x t] news (fun tl r => ∃ u, tl = [] ∧ r = .str (Txt.join (Str.ofString "") ((KBw.bInts x).map hx2)) u) := by
  unfold Con
  k_fill
  intro p loose mean mg mb dp un gd cn cs a ccd cl outer A₀ base h₀ L m s Q E B F X N T hk hd hu hret
  refine wpAny_call ?_
  k_dflt ktr_enter
  repeat' ((fail_if_success (with_reducible show wpAny _ _ (eval (Expr.ListComp _ _ _ _) _) _ _ _)); first | (k_unfold; (try dsimp only)) | (k_end; wrow_close) | walk1 | (dsimp only; walk1) | (leave1; walk_say "STEP leave1"; try dsimp only) | fail "no step")
  (refine comp_cs (cl := []) (fun v y => ∃ a, (∃ u, v = .int a u) ∧ (fun a y => ∃ t, y = Value.str (hx2 a) t) a y) (by with_unfolding_all rfl) (by decide) (by with_unfolding_all rfl) (by decide) (by with_unfolding_all rfl) ?_)
  repeat' ((fail_if_success (with_reducible show wpAny _ _ (pyIter _) _ _ _)); first | (k_unfold; (try dsimp only)) | (k_end; wrow_close) | walk1 | (dsimp only; walk1) | (leave1; walk_say "STEP leave1"; try dsimp only) | fail "no step")
  (with_reducible rename Fr _ _ _ _ => F1)
  (with_reducible rename News _ _ _ _ => N1)
  refine cs_bytes (fun a y => ∃ t, y = Value.str (hx2 a) t) (by rfl) F1 N1 (by rw [sizeLine_eq]; omega) ?_ ?_
  · intro C a u s₃ m₃ E' ha hns hm F2 N2 hk
    obtain ⟨ha0, ha1⟩ := KBw.ints_in ha
    k_steps
    exact ⟨_, _, rfl, fun _ _ e => e⟩
  · intro D h' tk ys k F2 N2 hne hP
    repeat' ((fail_if_success (with_reducible show wpAny _ _ (call (Value.builtin _) _) _ _ _)); first | (k_unfold; (try dsimp only)) | (k_end; wrow_close) | walk1 | (dsimp only; walk1) | (leave1; walk_say "STEP leave1"; try dsimp only) | fail "no step")
    refine KT.join_B (x := Str.ofString "") (g := hx2) (l := KBw.bInts x) 2 (News.isList N2 (.head _)) (carried_of (fun _ _ h => h) hP) (fun a _ => hx2_len a) (by rw [KBw.ints_length]; omega) (by decide +kernel) ?_
    intro t' k'
    k_steps
    exact con_end0W hret (by k_asm) (by assumption) (fun p hp => .tail _ hp) ⟨_, rfl, rfl⟩
section
open PySem PySem.W PySem.Calls PyProof.Rows PySem.NumText
/-- the sign of a digit to base 16 -/
def hexd (n : Nat) : Nat := if n < 10 then 48 + n else 87 + n
theorem item_hexd : ∀ i : Nat, i < 16 → Txt.item HX (i : Int) = ⟨#[hexd i]⟩ := by decide +kernel
def HexC (c : Nat) : Prop := (48 ≤ c ∧ c ≤ 57) ∨ (97 ≤ c ∧ c ≤ 102)
theorem hexd_is {n : Nat} (h : n < 16) : HexC (hexd n) := by unfold hexd HexC; split <;> omega
theorem hexd_val {n : Nat} (h : n < 16) : digit? (hexd n) = some n := by
  have : ∀ n : Nat, n < 16 → digit? (hexd n) = some n := by decide
  exact this n h
theorem hex_blank {c : Nat} (h : HexC c) : blank c = false := by
  unfold blank HexC at *
  simp only [Bool.or_eq_false_iff, beq_eq_false_iff_ne, Bool.and_eq_false_iff, decide_eq_false_iff_not]
  omega
theorem drop_blank : ∀ {cs : List Nat}, (∀ c ∈ cs, HexC c) → cs.dropWhile blank = cs
  | [], _ => rfl
  | c :: cs, h => by rw [List.dropWhile_cons, hex_blank (h c (.head _))]; rfl
theorem sign_hex : ∀ {cs : List Nat}, (∀ c ∈ cs, HexC c) → sign cs = (false, cs)
  | [], _ => rfl
  | c :: cs, h => by
    have := h c (.head _)
    unfold HexC at this
    unfold sign
    split
    · rename_i e; injection e with e; omega
    · rename_i e; injection e with e; omega
    · rfl
theorem based_hex {cs : List Nat} (h : ∀ c ∈ cs, HexC c) : based 16 cs = (16, false, cs) := by
  unfold based
  split
  · rename_i p hp
    have hne : ((16 : Nat) == 0 || (16 : Nat) == p) = false := by
      unfold prefix? at hp
      split at hp
      · rename_i c r
        have := h c (.tail _ (.head _))
        unfold HexC at this
        have e : (c == 120 || c == 88) = false := by simp only [Bool.or_eq_false_iff, beq_eq_false_iff_ne]; omega
        rw [e] at hp
        simp only [Bool.false_eq_true, if_false] at hp
        split at hp
        · cases hp; rfl
        · split at hp
          · cases hp; rfl
          · cases hp
      · cases hp
    rw [hne]; rfl
  · rfl
/-- the digits' codes read back -/
theorem fold_step : ∀ (ds : List Nat) (acc : Array Nat) (b : Bool), (∀ d ∈ ds, d < 16) → (ds ≠ [] ∨ b = true) → (ds.map hexd).foldlM (NumText.step 16) (acc, b) = some (acc ++ ds.toArray, true)
  | [], acc, b, _, h => by
    have : b = true := by simpa using h
    subst this
    simp
  | d :: ds, acc, b, h, _ => by
    rw [List.map_cons, List.foldlM_cons]
    have hd := h d (.head _)
    have e : NumText.step 16 (acc, b) (hexd d) = some (acc.push d, true) := by
      unfold NumText.step
      have : (hexd d == 95) = false := by
        have := hexd_is hd
        unfold HexC at this
        simp only [beq_eq_false_iff_ne]; omega
      rw [this, hexd_val hd]
      simp [hd]
    rw [e]
    show (ds.map hexd).foldlM (NumText.step 16) (acc.push d, true) = _
    rw [fold_step ds _ _ (fun x hx => h x (.tail _ hx)) (.inr rfl)]
    simp
theorem digits_hex {ds : List Nat} (h : ∀ d ∈ ds, d < 16) (hne : ds ≠ []) : digits? 16 (ds.map hexd) = some ds.toArray := by
  unfold digits?
  rw [fold_step ds #[] false h (.inl hne)]
  simp
theorem all_hex {ds : List Nat} (h : ∀ d ∈ ds, d < 16) : ∀ c ∈ ds.map hexd, HexC c := by
  intro c hc
  obtain ⟨d, hd, rfl⟩ := List.mem_map.mp hc
  exact hexd_is (h d hd)
theorem read_hex {ds : List Nat} (h : ∀ d ∈ ds, d < 16) (hne : ds ≠ []) : (int_private% "readNumeral") 0 16 (ds.map hexd) = (int_private% "Numeral.value") ((ds.foldl (fun acc d => acc * 16 + d) 0 : Nat) : Int) := by
  refine (readNumeral_eq 0 16 _).trans ?_
  have a := all_hex h
  rw [drop_blank a, sign_hex a]
  dsimp only
  rw [based_hex a]
  dsimp only
  have ar : ∀ c ∈ (ds.map hexd).reverse, HexC c := fun c hc => a c (List.mem_reverse.mp hc)
  rw [drop_blank ar, List.reverse_reverse, digits_hex h hne]
  unfold judge
  dsimp only
  simp
theorem wp_text16 {M : Model} {A : Around} {E : Value → Shared → Prop} {s : Shared} {Q : Value → Shared → Prop} {v : Value} {text : List Nat} {n : Int}
    (hs : (text.takeWhile (· != 0)).length ≤ 640) (hr : (int_private% "readNumeral") 0 16 (text.takeWhile (· != 0)) = (int_private% "Numeral.value") n)
    (ha : ((text.takeWhile (· != 0)).length == text.length) = true) (h : Q (.int n s.toks) { s with toks := s.toks + 1 }) :
    wpAny M A ((int_private% "intFromText") v text 16) Q E s := by
  obtain ⟨hp, g, d, tk, os⟩ := s
  repeat (any_goals (first
    | assumption
    | (with_reducible refine wpAny_ite_true (decide_eq_true hs) ?_)
    | (with_reducible refine wpAny_ite_true (decide_eq_true ha) ?_)
    | wp_step))
  all_goals (try rw [hr])
  all_goals (try dsimp only)
  repeat (any_goals (first
    | assumption
    | (with_reducible refine wpAny_ite_true (decide_eq_true hs) ?_)
    | (with_reducible refine wpAny_ite_true (decide_eq_true ha) ?_)
    | wp_step))
theorem typeCall_int_2 (a b : Value) : checkTypeCall "int" ⟨[a, b], []⟩ = pure () := by kernel_rfl
theorem newCall_int_2 (a b : Value) : checkBuiltinCall "int.__new__" ⟨[.type "int", a, b], []⟩ = pure () := by kernel_rfl
theorem args_object_init_3 (a b c : Value) : argsOk "object.__init__" ⟨[a, b, c], []⟩ := by unfold argsOk; kernel_rfl
structure Hid (p : Prop) : Prop where
  out : p
set_option maxHeartbeats 4000000 in
theorem gives_text16 {x : Str} {u t : Tok} {n : Int} (hs : (numSeenOf x).length ≤ 640) (hr : (int_private% "readNumeral") 0 16 (numSeenOf x) = (int_private% "Numeral.value") n) (ha : ((numSeenOf x).length == (numTextOf x).length) = true) :
    Gives (Builtin.«int.__new__» ⟨[.type "int", .str x u, .int 16 t], []⟩) (.int n) :=
  .of_wp fun M A E s Q h => by
    obtain ⟨hp, g, d, tk, os⟩ := s
    have f1 := F.conv_sub_int
    have f2 := F.madeHere_int
    have hk := Hid.mk (And.intro hs (And.intro hr ha))
    clear hs hr ha
    repeat (any_goals (first
      | assumption
      | ((with_reducible show wpAny _ _ ((int_private% "intFromText") _ _ _) _ _ _); refine wp_text16 hk.out.1 hk.out.2.1 hk.out.2.2 ?_)
      | wp_step))
    all_goals first | exact ⟨_, rfl, h⟩ | skip
theorem call_text16 {prog : Program} {w : World} {A : Around} {E : Value → Shared → Prop} {s : Shared} {Q : Value → Shared → Prop} {x : Str} {u t : Tok} {ds : List Nat} (hx : x.cps.toList = ds.map hexd) (h : ∀ d ∈ ds, d < 16) (hne : ds ≠ []) (hl : ds.length ≤ 640)
    (hq : Q (.int ((ds.foldl (fun acc d => acc * 16 + d) 0 : Nat) : Int) s.toks) { s with toks := s.toks + 1 }) : wpAny (model prog w) A (call (.type "int") [.str x u, .int 16 t]) Q E s := by
  have a := all_hex h
  have e1 : numTextOf x = ds.map hexd := by
    unfold numTextOf
    have : x.cps.all (· < 128) = true := by
      rw [Array.all_eq_true]
      intro i hi
      have : x.cps[i] ∈ x.cps.toList := by simp
      rw [hx] at this
      have := a _ this
      unfold HexC at this
      simp only [decide_eq_true_eq]; omega
    first
      | rw [if_pos this, hx]
      | simp [this, hx]
  have e2 : numSeenOf x = ds.map hexd := by
    unfold numSeenOf
    rw [e1]
    exact takeWhile_all fun c hc => by
      have := a c hc
      unfold HexC at this
      simp only [bne_iff_ne, ne_eq]; omega
  refine callType_new F.called_int F.newNe_int (typeCall_int_2 _ _) (newCall_int_2 _ _) (fun obj => args_object_init_3 obj _ _) F.entry_int_new
    (gives_text16 (x := x) (n := ((ds.foldl (fun acc d => acc * 16 + d) 0 : Nat) : Int)) (by rw [e2, List.length_map]; exact hl) (by rw [e2]; exact read_hex h hne) (by rw [e1, e2]; exact beq_self_eq_true _)).meets
    (show (Made.int _).post _ s from ⟨rfl, hq⟩)

/-- the digits of octets, big end first -/
def nibs (ks : List Int) : List Nat := ks.flatMap fun k => [(k.fdiv 16).toNat, (k.fmod 16).toNat]
theorem nibs_lt {ks : List Int} (h : ∀ k ∈ ks, 0 ≤ k ∧ k < 256) : ∀ d ∈ nibs ks, d < 16 := by
  intro d hd
  obtain ⟨k, hk, hd⟩ := List.mem_flatMap.mp hd
  have := h k hk
  have a := fd_lo this.1
  have b := fd_hi this.2
  have c := fm_lo (a := k)
  have e := fm_hi (a := k)
  simp only [List.mem_cons, List.not_mem_nil, or_false] at hd
  rcases hd with rfl | rfl <;> omega
theorem hx2_cps {k : Int} (h : 0 ≤ k ∧ k < 256) : (hx2 k).cps.toList = [(k.fdiv 16).toNat, (k.fmod 16).toNat].map hexd := by
  unfold hx2
  have a := fd_lo h.1
  have b := fd_hi h.2
  have c := fm_lo (a := k)
  have e := fm_hi (a := k)
  have i1 := item_hexd (k.fdiv 16).toNat (by omega)
  have i2 := item_hexd (k.fmod 16).toNat (by omega)
  rw [Int.toNat_of_nonneg a] at i1
  rw [Int.toNat_of_nonneg c] at i2
  rw [i1, i2, Str.cps_append]
  rfl
theorem join_nil_cps : ∀ l : List Str, (Str.join (Str.ofString "") l).cps.toList = l.flatMap fun x => x.cps.toList
  | [] => rfl
  | [x] => by rw [join_one]; simp
  | x :: y :: r => by
    have e : (Str.ofString "").cps.toList = [] := by decide +kernel
    rw [join_cons_cons, Str.cps_append, Str.cps_append, Array.toList_append, Array.toList_append, e, join_nil_cps (y :: r)]
    simp
theorem hexS_cps {ks : List Int} (h : ∀ k ∈ ks, 0 ≤ k ∧ k < 256) : (Txt.join (Str.ofString "") (ks.map hx2)).cps.toList = (nibs ks).map hexd := by
  show (Builtin.Str.glued (Str.ofString "") (ks.map hx2)).cps.toList = _
  rw [StrLaws.glued_eq_join, join_nil_cps]
  unfold nibs
  induction ks with
  | nil => rfl
  | cons k ks ih =>
    rw [List.map_cons, List.flatMap_cons, List.flatMap_cons, List.map_append, hx2_cps (h k (.head _)), ih fun x hx => h x (.tail _ hx)]
theorem nibs_value : ∀ (ks : List Int) (a : Nat), (∀ k ∈ ks, 0 ≤ k ∧ k < 256) → (((nibs ks).foldl (fun acc d => acc * 16 + d) a : Nat) : Int) = ks.foldl (fun a k => a * 256 + k) (a : Int)
  | [], a, _ => rfl
  | k :: ks, a, h => by
    have hk := h k (.head _)
    have e : nibs (k :: ks) = (k.fdiv 16).toNat :: (k.fmod 16).toNat :: nibs ks := rfl
    rw [e, List.foldl_cons, List.foldl_cons, List.foldl_cons, nibs_value ks _ fun x hx => h x (.tail _ hx)]
    congr 1
    rw [Int.fdiv_eq_ediv_of_nonneg _ (by decide), Int.fmod_eq_emod_of_nonneg _ (by decide)]
    push_cast
    rw [Int.toNat_of_nonneg (by omega), Int.toNat_of_nonneg (by omega)]
    omega
/-- int(hexlify(b), 16) -/
theorem call_hex16 {prog : Program} {w : World} {A : Around} {E : Value → Shared → Prop} {s : Shared} {Q : Value → Shared → Prop} {b : Array UInt8} {u t : Tok} (h0 : b.size ≠ 0) (h1 : b.size ≤ 300)
    (hq : Q (.int (KFB.value (KBw.bInts b)) s.toks) { s with toks := s.toks + 1 }) : wpAny (model prog w) A (call (.type "int") [.str (Txt.join (Str.ofString "") ((KBw.bInts b).map hx2)) u, .int 16 t]) Q E s := by
  have hb : ∀ k ∈ KBw.bInts b, 0 ≤ k ∧ k < 256 := fun k hk => KBw.ints_in hk
  have hl : (nibs (KBw.bInts b)).length = 2 * b.size := by
    rw [← KBw.ints_length b]
    generalize KBw.bInts b = ks
    unfold nibs
    induction ks with
    | nil => rfl
    | cons k ks ih => rw [List.flatMap_cons, List.length_append, ih, List.length_cons]; simp; omega
  have hv := nibs_value (KBw.bInts b) 0 hb
  refine call_text16 (hexS_cps hb) (nibs_lt hb) (fun e => ?_) (by omega) ?_
  · rw [e] at hl; simp at hl; omega
  · rw [hv]; exact hq
end
/-- the text of '%064x' % y -/
def pad64 (y : Int) : List Nat := List.replicate (64 - ((Nat.toDigits 16 y.natAbs).map Char.toNat).length) 48 ++ (Nat.toDigits 16 y.natAbs).map Char.toNat
abbrev FF : Builtin.Str.Percent := { zero := true, width := some 64, type := 120 }
theorem pint_FF (y : Int) (h0 : 0 ≤ y) (d : List Nat) : Builtin.Str.percentInt FF (decide (y < 0)) d = d := by
  have : decide (y < 0) = false := decide_eq_false (by omega)
  unfold Builtin.Str.percentInt
  simp [this]
theorem pfield_FF (d : List Nat) (hl : d.length ≤ 64) (hh : d.head? ≠ some 45 ∧ d.head? ≠ some 43) :
    (Builtin.Str.percentField FF true d = none ∧ d = List.replicate (64 - d.length) 48 ++ d) ∨ Builtin.Str.percentField FF true d = some (List.replicate (64 - d.length) 48 ++ d) := by
  by_cases h : 64 ≤ d.length
  · left
    have e : d.length = 64 := by omega
    refine ⟨?_, ?_⟩
    · unfold Builtin.Str.percentField
      simp [e]
    · rw [e]; rfl
  · right
    unfold Builtin.Str.percentField
    simp only [Option.all_some, Option.all_none, Bool.and_true, Bool.not_false, decide_eq_true_eq]
    rw [if_neg h]
    cases d with
    | nil => rfl
    | cons c r =>
      have h1 : c ≠ 45 := fun e => hh.1 (by rw [e]; rfl)
      have h2 : c ≠ 43 := fun e => hh.2 (by rw [e]; rfl)
      simp [h1, h2]
theorem field64 {M : Model} {A : Around} {E : Value → Shared → Prop} {s : Shared} {w : Builtin.Str.Writer} {pf : Option (List Nat)} {d pad : List Nat} {Q : ForInStep (List Value × Builtin.Str.Writer × List Nat) → Shared → Prop}
    (g : KPc.Good w Str.empty 0) (hp : (pf = none ∧ d = pad) ∨ pf = some pad) (hx : (⟨pad.toArray⟩ : Str).length ≤ 64) (h : ∀ w', KPc.Good w' ⟨pad.toArray⟩ 64 → Q (ForInStep.yield ([], w', [])) s) :
    wpAny M A (match pf with | none => pure (ForInStep.yield ([], w.add ⟨d.toArray⟩ (if ([] : List Nat).isEmpty then none else none), [])) | some laid => pure (ForInStep.yield ([], w.add ⟨laid.toArray⟩ none, []))) Q E s := by
  have key : ∀ o : Option Value, o = none → Q (ForInStep.yield ([], w.add ⟨pad.toArray⟩ o, [])) s := fun o ho => by
    have g2 := KPc.good_add g (KPc.obj_none (x := ⟨pad.toArray⟩) ho)
    rw [KPc.empty_app] at g2
    exact h _ (KPc.good_mono g2 (by omega))
  rcases hp with ⟨rfl, rfl⟩ | rfl
  · exact wpAny_pure (key _ (ite_self _))
  · exact wpAny_pure (key _ rfl)
set_option maxHeartbeats 8000000 in
theorem meets_64x {y : Int} {t u : Tok} (h0 : 0 ≤ y) (hl : ((Nat.toDigits 16 y.natAbs).map Char.toNat).length ≤ 64) (hne : 0 < ((Nat.toDigits 16 y.natAbs).map Char.toNat).length) (hh : ((Nat.toDigits 16 y.natAbs).map Char.toNat).head? ≠ some 45 ∧ ((Nat.toDigits 16 y.natAbs).map Char.toNat).head? ≠ some 43) :
    Meets (Builtin.«str.__mod__» ⟨[.str (Str.mk #[37, 48, 54, 52, 120]) t, .int y u], []⟩) (fun _ R s => ∀ t' k, R (.ok (.ret (.str ⟨(pad64 y).toArray⟩ t'))) { s with toks := k }) := by
  apply KPc.meets_of
  intro _ _ _ _ _ _ _
  rw [KPc.entry_is]
  unfold Builtin.Str.percentFormat
  refine wpAny_bind (wpAny_isInstance (typeIs_int _ _ _) F.sub_int_tuple ?_)
  refine wpAny_bind (wpAny_of_eq (a := none) rfl ?_)
  refine wpAny_bind (wpAny_of_eq (KPc.fills _ _) ?_)
  kpc_if
  refine wpAny_bind (wpAny_pure ?_)
  refine wpAny_bind ?_
  rw [KPc.range_list]
  refine KPc.start ?_
  intro _ _
  refine KPc.turn ?_
  kpc_check
  repeat kpc_if
  refine wpAny_bind ?_; refine wpAny_holding ?_
  repeat kpc_if
  refine wpAny_of_eq (a := (Builtin.Str.percentInt FF (decide (y < 0)) ((Nat.toDigits 16 y.natAbs).map Char.toNat), none, true)) rfl ?_
  rw [pint_FF y h0]
  have hlen : (⟨(pad64 y).toArray⟩ : Str).length ≤ 64 := by
    show (pad64 y).toArray.size ≤ 64
    unfold pad64
    rw [List.size_toArray, List.length_append, List.length_replicate]
    omega
  with_unfolding_all refine field64 (pad := pad64 y) (by kpc_g) (pfield_FF _ hl hh) hlen ?_
  intro _ _
  with_unfolding_all (show wpAny _ _ (forIn _ _ _) _ _ _)
  kpc_turns

/-- '%064x' % y -/
theorem toDigits_hexd : ∀ n : Nat, n < 16 → (Nat.digitChar n).toNat = hexd n := by decide
theorem digits_of16 (m : Nat) : ∃ ds : List Nat, (Nat.toDigits 16 m).map Char.toNat = ds.map hexd ∧ (∀ d ∈ ds, d < 16) ∧ ds ≠ [] ∧ ds.foldl (fun acc d => acc * 16 + d) 0 = m := by
  induction m using Nat.strongRecOn with
  | _ m ih =>
    by_cases h : m < 16
    · rw [Nat.toDigits_of_lt_base h]
      exact ⟨[m], by rw [List.map_singleton, List.map_singleton, toDigits_hexd m h], by simpa using h, by simp, by simp⟩
    · obtain ⟨ds, h1, h2, h3, h4⟩ := ih (m / 16) (by omega)
      have hm : m % 16 < 16 := Nat.mod_lt m (by decide)
      have t : Nat.toDigits 16 (m / 16) ++ Nat.toDigits 16 (m % 16) = Nat.toDigits 16 (16 * (m / 16) + m % 16) := Nat.toDigits_append_toDigits (by decide) (by omega) hm
      rw [Nat.div_add_mod] at t
      refine ⟨ds ++ [m % 16], ?_, ?_, by simp, ?_⟩
      · rw [← t, List.map_append, h1, Nat.toDigits_of_lt_base hm, List.map_append, List.map_singleton, List.map_singleton, toDigits_hexd _ hm]
      · intro d hd
        rcases List.mem_append.mp hd with hd | hd
        · exact h2 d hd
        · rw [List.mem_singleton.mp hd]; exact hm
      · rw [List.foldl_append, h4]
        simp only [List.foldl_cons, List.foldl_nil]
        omega
/-- the digits to base 16, k of them, big end first -/
def dg16 : Nat → Nat → List Nat
  | 0, _ => []
  | k + 1, m => dg16 k (m / 16) ++ [m % 16]
theorem dg16_len : ∀ k m, (dg16 k m).length = k
  | 0, _ => rfl
  | k + 1, m => by rw [dg16, List.length_append, dg16_len k]; rfl
theorem dg16_lt : ∀ k m, ∀ d ∈ dg16 k m, d < 16
  | 0, _, d, h => nomatch h
  | k + 1, m, d, h => by
    rw [dg16] at h
    rcases List.mem_append.mp h with h | h
    · exact dg16_lt k _ d h
    · rw [List.mem_singleton.mp h]; exact Nat.mod_lt _ (by decide)
theorem dg16_zero : ∀ k, dg16 k 0 = List.replicate k 0
  | 0 => rfl
  | k + 1 => by rw [dg16, Nat.zero_div, dg16_zero k, List.replicate_succ']
/-- k digits are the shortest ones behind noughts -/
theorem pad_dg16 : ∀ (k m : Nat), m < 16 ^ k → 0 < k → List.replicate (k - (Nat.toDigits 16 m).length) 48 ++ (Nat.toDigits 16 m).map Char.toNat = (dg16 k m).map hexd ∧ (Nat.toDigits 16 m).length ≤ k := by
  intro k
  induction k with
  | zero => intro m _ h; exact absurd h (Nat.lt_irrefl _)
  | succ k ih =>
    intro m hm _
    by_cases h : m < 16
    · rw [Nat.toDigits_of_lt_base h]
      have e : m / 16 = 0 := by omega
      refine ⟨?_, by simp⟩
      rw [dg16, e, dg16_zero, List.map_append, List.map_replicate, Nat.mod_eq_of_lt h, List.map_singleton, List.map_singleton, toDigits_hexd m h]
      rfl
    · have hk : 0 < k := by
        rcases Nat.eq_zero_or_pos k with rfl | h2
        · simp at hm; omega
        · exact h2
      have hm2 : m % 16 < 16 := Nat.mod_lt m (by decide)
      have t : Nat.toDigits 16 (m / 16) ++ Nat.toDigits 16 (m % 16) = Nat.toDigits 16 (16 * (m / 16) + m % 16) := Nat.toDigits_append_toDigits (by decide) (by omega) hm2
      rw [Nat.div_add_mod] at t
      obtain ⟨h1, h2⟩ := ih (m / 16) (by rw [Nat.pow_succ] at hm; omega) hk
      rw [← t, Nat.toDigits_of_lt_base hm2]
      refine ⟨?_, by rw [List.length_append, List.length_singleton]; omega⟩
      rw [List.length_append, List.length_singleton, List.map_append, ← List.append_assoc, dg16, List.map_append, ← h1, List.map_singleton, List.map_singleton, toDigits_hexd _ hm2]
      congr 2
      congr 1
      omega
theorem pad64_eq {y : Int} (h0 : 0 ≤ y) (h1 : y < 2 ^ 256) : pad64 y = (dg16 64 y.toNat).map hexd ∧ ((Nat.toDigits 16 y.natAbs).map Char.toNat).length ≤ 64 := by
  have e : y.natAbs = y.toNat := by omega
  have := pad_dg16 64 y.toNat (by have : (2 : Int) ^ 256 = ((16 ^ 64 : Nat) : Int) := by decide +kernel
                                  rw [this] at h1; omega) (by decide)
  unfold pad64
  rw [e, List.length_map]
  exact this
theorem call_64x {prog : Program} {w : World} {A : Around} {E : Value → Shared → Prop} {s : Shared} {Q : Value → Shared → Prop} {y : Int} {t u : Tok} (h0 : 0 ≤ y) (h1 : y < 2 ^ 256)
    (h : ∀ t' k, Q (.str ⟨((dg16 64 y.toNat).map hexd).toArray⟩ t') { s with toks := k }) : wpAny (model prog w) A (binaryOp .Mod (.str (Str.ofString "%064x") t) (.int y u)) Q E s := by
  have hX : Str.ofString "%064x" = Str.mk #[37, 48, 54, 52, 120] := by decide +kernel
  obtain ⟨e1, e2⟩ := pad64_eq h0 h1
  obtain ⟨ds, d1, d2, d3, _⟩ := digits_of16 y.natAbs
  have hne : 0 < ((Nat.toDigits 16 y.natAbs).map Char.toNat).length := by rw [d1, List.length_map]; exact List.length_pos_iff.mpr d3
  refine KPc.mod_lit (T := ⟨((dg16 64 y.toNat).map hexd).toArray⟩) hX ?_ (fun _ _ => ?_) h
  · have : y.natAbs < 2 ^ 256 := by
      have e : (2 : Int) ^ 256 = ((2 ^ 256 : Nat) : Int) := by decide +kernel
      rw [e] at h1; omega
    by_cases hz : y.natAbs = 0
    · rw [hz]; decide
    · exact Nat.lt_of_lt_of_le ((Nat.log2_lt hz).mpr this) (by decide)
  · rw [← e1]
    refine meets_64x h0 e2 hne ?_
    rw [d1]
    cases ds with
    | nil => exact absurd rfl d3
    | cons d r =>
      have := hexd_is (d2 d (.head _))
      unfold HexC at this
      constructor <;> (intro e; have e := Option.some.inj e; omega)
theorem occ_hx : ∀ d : Nat, d < 16 → Builtin.Str.occurrences HX ⟨#[hexd d]⟩ 0 HX.length 1 = [d] := by decide +kernel
theorem index_hx {prog : Program} {w : World} {A : Around} {E : Value → Shared → Prop} {s : Shared} {t u : Tok} {d : Nat} {Q : Value → Shared → Prop} (hd : d < 16)
    (h : Q (.int (d : Int) s.toks) { s with toks := s.toks + 1 }) : wpAny (model prog w) A (call (.builtin "str.index") [.str HX t, .str ⟨#[hexd d]⟩ u]) Q E s := SC.index (occ_hx d hd) h
theorem paired_get {α : Type} {G : α → Value → Prop} : ∀ {as : List α} {ys : List Value}, Paired G as ys → ∀ {i : Nat} {a : α}, as[i]? = some a → ∃ y, ys[i]? = some y ∧ G a y
  | _, _, .nil, _, _, h => by simp at h
  | _, _, .cons g t, 0, a, h => by
    obtain rfl := Option.some.inj h
    exact ⟨_, rfl, g⟩
  | _, _, .cons g t, i + 1, a, h => by simpa using paired_get t (by simpa using h)
theorem paired_len {α : Type} {G : α → Value → Prop} : ∀ {as : List α} {ys : List Value}, Paired G as ys → as.length = ys.length
  | _, _, .nil => rfl
  | _, _, .cons _ t => congrArg (· + 1) (paired_len t)
theorem small_2 {n : Nat} (h : n ≤ 100) : Builtin.Range.small 0 ((2 * n : Nat) : Int) 2 = true := by
  revert n; decide +kernel
theorem size_2 (n : Nat) : Builtin.Range.rangeSize 0 ((2 * n : Nat) : Int) 2 = (n : Int) := by
  unfold Builtin.Range.rangeSize
  simp
  omega
theorem getD_some {l : List Nat} {i : Nat} (h : i < l.length) : l[i]? = some (l.getD i 0) := by
  rw [List.getD_eq_getElem?_getD, List.getElem?_eq_getElem h]; rfl
theorem ix1 (i : Nat) : ((0 : Int) + (i : Int) * 2).toNat = 2 * i := by omega
theorem ix1' (i : Nat) : ((0 : Int) + (i : Int) * 2).toNat + 1 = 2 * i + 1 := by omega
theorem ix2 (i : Nat) : ((0 : Int) + (i : Int) * 2 + 1).toNat = 2 * i + 1 := by omega
def Gun (ds : List Nat) (a : Int) (y : Value) : Prop := ∃ t, y = .int (16 * (ds.getD a.toNat 0 : Nat) + (ds.getD (a.toNat + 1) 0 : Nat)) t
def unh (ds : List Nat) (n : Nat) : List Nat := (List.range n).map fun i => 16 * ds.getD (2 * i) 0 + ds.getD (2 * i + 1) 0
theorem unh_ns (ds : List Nat) (n : Nat) : (((List.range n).map fun i : Nat => (0 : Int) + (i : Int) * 2).map fun a : Int => (16 * (ds.getD a.toNat 0 : Nat) + (ds.getD (a.toNat + 1) 0 : Nat) : Int)) = (unh ds n).map Int.ofNat := by
  unfold unh
  rw [List.map_map, List.map_map]
  refine List.map_congr_left fun i _ => ?_
  show (16 * (ds.getD ((0 : Int) + (i : Int) * 2).toNat 0 : Nat) + (ds.getD (((0 : Int) + (i : Int) * 2).toNat + 1) 0 : Nat) : Int) = ((16 * ds.getD (2 * i) 0 + ds.getD (2 * i + 1) 0 : Nat) : Int)
  rw [ix1]; omega
theorem unh_lt {ds : List Nat} (h : ∀ d ∈ ds, d < 16) (n : Nat) : ∀ a ∈ unh ds n, a < 256 := by
  have k : ∀ i, ds.getD i 0 < 16 := fun i => by
    rw [List.getD_eq_getElem?_getD]
    cases e : ds[i]? with
    | none => decide
    | some d => exact h d (List.mem_of_getElem? e)
  intro a ha
  obtain ⟨i, _, rfl⟩ := List.mem_map.mp ha
  have := k (2 * i); have := k (2 * i + 1); omega
theorem unh_len (ds : List Nat) (n : Nat) : (unh ds n).length = n := by unfold unh; simp
def octs (l : List Nat) : Array UInt8 := (l.map Nat.toUInt8).toArray
theorem octs_of (l : List Nat) : ((l.map Int.ofNat).map fun n => n.toNat.toUInt8).toArray = octs l := by
  unfold octs; rw [List.map_map]; rfl
theorem hexd_inj {a b : Nat} (ha : a < 16) (hb : b < 16) (h : hexd a = hexd b) : a = b := by
  have := hexd_val ha
  rw [h, hexd_val hb] at this
  exact (Option.some.inj this).symm
theorem paired_hex : ∀ {ds : List Nat} {ys : List Value}, (∀ d ∈ ds, d < 16) → (∀ y ∈ ys, True) → Paired (fun (a : Nat) y => ∃ d t, d < 16 ∧ a = hexd d ∧ y = Value.int (d : Int) t) (ds.map hexd) ys → Paired (fun (d : Nat) y => ∃ t, y = Value.int (d : Int) t) ds ys
  | [], _, _, _, h => by cases h; exact .nil
  | d :: ds, _, hd, _, h => by
    cases h with
    | cons g t =>
      obtain ⟨e, u, h1, h2, rfl⟩ := g
      obtain rfl := hexd_inj (hd d (.head _)) h1 h2
      exact .cons ⟨u, rfl⟩ (paired_hex (fun x hx => hd x (.tail _ hx)) (fun _ _ => trivial) t)
theorem paired_ints {α : Type} {G : α → Value → Prop} {g : α → Int} (hG : ∀ a v, G a v → ∃ t, v = .int (g a) t) : ∀ {l : List α} {ys : List Value}, Paired G l ys → IntsAre ys (l.map g)
  | _, _, .nil => .nil
  | _, _, .cons h t => by
    obtain ⟨u, rfl⟩ := hG _ _ h
    exact .cons _ _ (paired_ints hG t)

set_option maxHeartbeats 8000000 in
theorem ct_unhex (w : World) {news : Led} {ds : List Nat} {t : Tok} {n : Nat} (hds : ∀ d ∈ ds, d < 16) (hlen : ds.length = 2 * n) (hn : n ≤ 100) :
    Con w 38 5 [.ref 110, .str ⟨(ds.map hexd).toArray⟩ t] news (fun tl r => ∃ u, tl = [] ∧ r = .bytes (octs (unh ds n)) u) := by
  unfold Con
  k_fill
  intro p loose mean mg mb dp un gd cn cs a ccd cl outer A₀ base h₀ L m s Q E B F X N T hk hd hu hret
  refine wpAny_call ?_
  k_dflt (refine' code_defC ?k1 ?k2 ?k3 ?k4 ?k5 ?kA ?kF ?kK ?k6 ?k7 ?k8 ?k9 ?kB ?kD ?_ ?c2 ?c3 ?c4; (case kA => exact rfl); (case kF => exact rfl); (case kK => first | exact rfl | assumption); (case k1 => k_asm); (case k2 => k_asm); (case k3 => k_asm); (case k4 => k_asm); (case k5 => k_asm); (case k6 => k_is); (case k7 => k_is); (case k8 => ktr_room); (case k9 => first | exact BindsTo.of_eq rfl | exact binds_K (by k_in) rfl (by k_is) rfl rfl rfl); (case kB => exact rfl); (case kD => decide +kernel); (case c2 => exact rfl); (case c3 => exact rfl); (case c4 => exact rfl); k_whole; intro g' L' h' tk' cells' FG' F' N' Y' B' X' T' l1; (try k_lt l1); k_cells Y'; (try simp only [List.cons_append, List.nil_append] at N'); (try dsimp only); (try k_fold))
  repeat' ((fail_if_success (with_reducible show wpAny _ _ (eval (Expr.ListComp _ _ _ _) _) _ _ _)); first | (k_unfold; (try dsimp only)) | (k_end; wrow_close) | walk1 | (dsimp only; walk1) | (leave1; walk_say "STEP leave1"; try dsimp only) | fail "no step")
  (refine comp_cs (cl := []) (fun v y => ∃ a, (∃ u, v = .str ⟨#[a]⟩ u) ∧ (fun (a : Nat) y => ∃ d t, d < 16 ∧ a = hexd d ∧ y = Value.int (d : Int) t) a y) (by with_unfolding_all rfl) (by decide) (by with_unfolding_all rfl) (by decide) (by with_unfolding_all rfl) ?_)
  repeat' ((fail_if_success (with_reducible show wpAny _ _ (pyIter _) _ _ _)); first | (k_unfold; (try dsimp only)) | (k_end; wrow_close) | walk1 | (dsimp only; walk1) | (leave1; walk_say "STEP leave1"; try dsimp only) | fail "no step")
  (with_reducible rename Fr _ _ _ _ => F1)
  (with_reducible rename News _ _ _ _ => N1)
  refine cs_str (fun (a : Nat) y => ∃ d t, d < 16 ∧ a = hexd d ∧ y = Value.int (d : Int) t) (by rfl) F1 N1 (by rw [sizeLine_eq]; simp; omega) ?_ ?_
  · intro C a u s₃ m₃ E' ha hns hm F2 N2 hk
    obtain ⟨d, hd, rfl⟩ := List.mem_map.mp (by simpa using ha : a ∈ ds.map hexd)
    repeat' ((fail_if_success (with_reducible show wpAny _ _ (call (Value.builtin _) _) _ _ _)); first | (k_unfold; (try dsimp only)) | (k_end; wrow_close) | walk1 | (dsimp only; walk1) | (leave1; walk_say "STEP leave1"; try dsimp only) | fail "no step")
    refine index_hx (hds d hd) ?_
    exact ⟨⟨d, _, hds d hd, rfl, rfl⟩, _, _, rfl, fun _ _ e => e⟩
  · intro D h' tk ys k F2 N2 hne hP
    have hD1 : @Ne Nat (L' + 1) D := hne _ (.head _)
    have hP' : Paired (fun (d : Nat) y => ∃ t, y = Value.int (d : Int) t) ds ys.toList := paired_hex hds (fun _ _ => trivial) (by simpa using hP)
    repeat' ((fail_if_success (with_reducible show wpAny _ _ (eval (Expr.ListComp _ _ _ _) _) _ _ _)); first | (k_unfold; (try dsimp only)) | (k_end; wrow_close) | walk1 | (dsimp only; walk1) | (leave1; walk_say "STEP leave1"; try dsimp only) | fail "no step")
    (refine comp_cs (cl := [(Str.ofString "digits", L' + 1)]) (fun v y => ∃ a, (∃ u, v = .int a u) ∧ (Gun ds) a y) (by with_unfolding_all rfl) (by decide) (by with_unfolding_all rfl) (by decide) (by with_unfolding_all rfl) ?_)
    repeat' ((fail_if_success (with_reducible show wpAny _ _ (call (Value.builtin _) _) _ _ _)); first | (k_unfold; (try dsimp only)) | (k_end; wrow_close) | walk1 | (dsimp only; walk1) | (leave1; walk_say "STEP leave1"; try dsimp only) | fail "no step")
    have hsz : ys.size = 2 * n := Array.length_toList.symm.trans ((paired_len hP').symm.trans hlen)
    refine Calls.call_len_list (News.isList (by assumption) (.head _)) (by rw [hsz]; omega) ?_
    rw [hsz]
    repeat' ((fail_if_success (with_reducible show wpAny _ _ (pyIter _) _ _ _)); first | (k_unfold; (try dsimp only)) | (k_end; wrow_close) | walk1 | (dsimp only; walk1) | (leave1; walk_say "STEP leave1"; try dsimp only) | fail "no step")
    (with_reducible rename Fr _ _ _ _ => F1)
    (with_reducible rename News _ _ _ _ => N1)
    (rename IsRange _ _ _ _ _ _ _ _ => R1)
    refine cs_range (n := n) (Gun ds) (by rfl) R1 (small_2 hn) (size_2 n) F1 N1 (by rw [sizeLine_eq]; omega) ?_ ?_
    · intro C i u s₃ m₃ E' hi hns hm F2 N2 hk
      obtain ⟨x1, hx1, y1, rfl⟩ := paired_get hP' (i := 2 * i) (getD_some (by omega))
      obtain ⟨x2, hx2, y2, rfl⟩ := paired_get hP' (i := 2 * i + 1) (getD_some (by omega))
      repeat' ((fail_if_success (with_reducible show wpAny _ _ (subscriptTail _ _ _ _) _ _ _)); first | (k_unfold; (try dsimp only)) | (k_end; wrow_close) | walk1 | (dsimp only; walk1) | (leave1; walk_say "STEP leave1"; try dsimp only) | fail "no step")
      refine item_list (News.isList N2 (.head _)) (by omega) (by omega) (by rw [ix1 i, ← Array.getElem?_toList]; exact hx1) ?_ (by with_unfolding_all rfl) (by intro _; with_unfolding_all rfl)
      repeat' ((fail_if_success (with_reducible show wpAny _ _ (subscriptTail _ _ _ _) _ _ _)); first | (k_unfold; (try dsimp only)) | (k_end; wrow_close) | walk1 | (dsimp only; walk1) | (leave1; walk_say "STEP leave1"; try dsimp only) | fail "no step")
      refine item_list (News.isList N2 (.head _)) (by omega) (by omega) (by rw [ix2 i, ← Array.getElem?_toList]; exact hx2) ?_ (by with_unfolding_all rfl) (by intro _; with_unfolding_all rfl)
      k_steps
      · exact ⟨_, by rw [ix1]⟩
      · exact ⟨_, _, rfl, fun _ _ e => e⟩
    · intro D2 h2 tk2 ys2 k2 F2 N2 hne2 hP2
      have hI := paired_ints (g := fun a : Int => (16 * (ds.getD a.toNat 0 : Nat) + (ds.getD (a.toNat + 1) 0 : Nat) : Int)) (fun _ _ h => h) hP2
      repeat' ((fail_if_success (with_reducible show wpAny _ _ (call (Value.type _) _) _ _ _)); first | (k_unfold; (try dsimp only)) | (k_end; wrow_close) | walk1 | (dsimp only; walk1) | (leave1; walk_say "STEP leave1"; try dsimp only) | fail "no step")
      rw [unh_ns] at hI
      refine bytes_K F2 N2 (vs := ys2.toList) (by rw [Array.toArray_toList]; exact News.isList N2 (.head _)) hI (fun z hz => ?_) (by have e9 := IntsAre.length hI; rw [List.length_map, unh_len] at e9; rw [sizeLine_eq]; omega) (by rfl) ?_
      · obtain ⟨a, ha, rfl⟩ := List.mem_map.mp hz
        have := unh_lt hds n a ha
        exact ⟨Int.natCast_nonneg a, by show ((a : Nat) : Int) < 256; omega⟩
      intro h' t' k' F3 N3 _
      rw [octs_of]
      k_steps
      exact con_end0W hret (by k_asm) (by assumption) (fun p hp => .tail _ (.tail _ (.tail _ hp))) ⟨_, rfl, rfl⟩
/- octets as numbers -/
theorem ints_inj {b c : Array UInt8} (h : KBw.bInts b = KBw.bInts c) : b = c := by
  have k : ∀ x y : UInt8, ((x.toNat : Nat) : Int) = ((y.toNat : Nat) : Int) → x = y := fun x y h => UInt8.toNat_inj.mp (Int.ofNat.inj h)
  have g : ∀ l m : List UInt8, l.map (fun c => ((c.toNat : Nat) : Int)) = m.map (fun c => ((c.toNat : Nat) : Int)) → l = m := by
    intro l
    induction l with
    | nil => intro m h; cases m with | nil => rfl | cons _ _ => cases h
    | cons x l ih =>
      intro m h
      cases m with
      | nil => cases h
      | cons y m =>
        rw [List.map_cons, List.map_cons] at h
        obtain ⟨h1, h2⟩ := List.cons.inj h
        rw [k _ _ h1, ih _ h2]
  have := g b.toList c.toList h
  rw [← Array.toArray_toList (xs := b), this, Array.toArray_toList]
theorem ints_octs {l : List Nat} (h : ∀ a ∈ l, a < 256) : KBw.bInts (octs l) = l.map Int.ofNat := by
  unfold octs
  show ((l.map Nat.toUInt8).map fun c => ((c.toNat : Nat) : Int)) = _
  rw [List.map_map]
  refine List.map_congr_left fun a ha => ?_
  show (((a.toUInt8).toNat : Nat) : Int) = (a : Int)
  have : (a.toUInt8).toNat = a := by
    show (UInt8.ofNat a).toNat = a
    rw [UInt8.toNat_ofNat']
    exact Nat.mod_eq_of_lt (h a ha)
  rw [this]
/-- the octets of the digits, little end first -/
theorem unh_dg (n : Nat) : ∀ m : Nat, (unh (dg16 (2 * n) m) n).reverse.map Int.ofNat = KTBy.little n (m : Int) := by
  induction n with
  | zero => intro m; rfl
  | succ n ih =>
    intro m
    have e : dg16 (2 * (n + 1)) m = dg16 (2 * n) (m / 256) ++ [m / 16 % 16, m % 16] := by
      show dg16 (2 * n + 1 + 1) m = _
      rw [dg16, dg16, Nat.div_div_eq_div_mul]
      simp
    have hl := dg16_len (2 * n) (m / 256)
    have e2 : unh (dg16 (2 * (n + 1)) m) (n + 1) = unh (dg16 (2 * n) (m / 256)) n ++ [m % 256] := by
      unfold unh
      rw [List.range_succ, List.map_append, e]
      congr 1
      · refine List.map_congr_left fun i hi => ?_
        have hi := List.mem_range.mp hi
        rw [List.getD_eq_getElem?_getD, List.getD_eq_getElem?_getD, List.getElem?_append_left (by omega), List.getElem?_append_left (by omega), ← List.getD_eq_getElem?_getD, ← List.getD_eq_getElem?_getD]
      · rw [List.map_singleton, List.getD_eq_getElem?_getD, List.getD_eq_getElem?_getD, List.getElem?_append_right (by omega), List.getElem?_append_right (by omega), hl]
        have a1 : 2 * n - 2 * n = 0 := by omega
        have a2 : 2 * n + 1 - 2 * n = 1 := by omega
        rw [a1, a2]
        show [16 * (m / 16 % 16) + m % 16] = [m % 256]
        congr 1
        omega
    rw [e2, List.reverse_append, List.map_append, ih]
    rfl
theorem rev_octs (l : List Nat) : KBw.bInts (octs l).toList.reverse.toArray = (KBw.bInts (octs l)).reverse := by
  unfold KBw.bInts
  simp
section
variable {prog : Program} {w : World} {M : Model} {A : Around} {E : Value → Shared → Prop} {s : Shared} {h₀ : Heap} {L : Addr} {m : Str → Option Value} {news : Led}
open Builtin in
theorem picked_rev (b : Array UInt8) : Bytes.sliced b ((b.size : Int) - 1) (-1) (-1) = b.toList.reverse.toArray := by
  unfold Bytes.sliced
  rw [krv_sliceRange, krv_range, List.filterMap_reverse]
  have := pick_run b 0 b.size
  have e : (List.range b.size).map (0 + ·) = List.range b.size := by
    rw [show ((0 + ·) : Nat → Nat) = _root_.id from funext fun k => Nat.zero_add k, List.map_id]
  rw [e, List.drop_zero, List.take_of_length_le (by rw [Array.length_toList]; exact Nat.le_refl _)] at this
  rw [this]
open Builtin in
theorem meets_rev (b : Array UInt8) (t u : Tok) (a : Addr) :
    Meets («bytes.__getitem__» ⟨[.bytes b t, .ref a], []⟩) (fun _ R s => s.heap.IsSliceOf a .none .none (.int (-1) u) ∧ b.size ≤ sizeLine ∧ ∀ t' k, R (.ok (.ret (.bytes b.toList.reverse.toArray t'))) { s with toks := k }) := by
  refine .of_wp fun prog w A R s hS => ?_
  obtain ⟨⟨o, ho, hc, hd⟩, hsz, h⟩ := hS
  have hT : s.TypeIs (.ref a) "slice" := ⟨o, ho, hc⟩
  show wpAny _ _ (Bytes.payload (.bytes b t) >>= fun r => _) _ _ s
  refine wpAny_bind (wpAny_of_eq (a := b) rfl ?_)
  show wpAny _ _ (Bytes.subscript? (.ref a) >>= fun r => _) _ _ s
  refine wpAny_bind ?_
  unfold Bytes.subscript?
  refine wpAny_bind (wpAny_specialOf hT slice_no_index (wpAny_pure ?_))
  refine wpAny_bind (wpAny_typeOf hT ?_)
  show wpAny _ _ (Bytes.sliceParts (.ref a) >>= fun r => _) _ _ s
  refine wpAny_bind ?_
  unfold Bytes.sliceParts
  refine wpAny_bind (wpAny_field (x := .int (-1) u) ho hd rfl ?_)
  kby_int
  refine wpAny_ite (KBy.ite_no (show ¬ ((rawInt (-1) == rawInt 0) = true) by decide) ?_)
  refine wpAny_bind (wpAny_field (x := .none) ho hd rfl ?_)
  kby_none
  refine wpAny_bind (wpAny_field (x := .none) ho hd rfl ?_)
  kby_none
  refine wpAny_pure ?_
  have go : wpAny (model prog w) A.in1 (sliceIndices (rawPart none) (rawPart none) (rawPart (some (-1))) b.size) (fun r s' => r = ((b.size : Int) - 1, -1, -1) ∧ s' = s) (fun _ _ => False) s :=
    wpAny_of_eq (sliceIndices_raw none none (some (-1)) b.size (by decide)) ⟨krv_bounds _, rfl⟩
  refine wpAny_bind (wpAny_mono go (fun r s' hr => ?_) fun _ _ e => e.elim)
  obtain ⟨hr1, hr2⟩ := hr
  subst hr1 hr2
  refine wpAny_ite (KBy.ite_no (by show ¬ ((((b.size : Int) - 1 == 0) && ((-1 : Int) == 1) && _ && _) = true); rw [show ((-1 : Int) == 1) = false by decide]; simp) ?_)
  show wpAny _ _ (mkBytes (Bytes.sliced b ((b.size : Int) - 1) (-1) (-1)) >>= fun r => _) _ _ _
  rw [picked_rev]
  exact wpAny_bind (wpAny_mkBytes (wpAny_pure ⟨_, rfl, h _ _⟩) (by simpa using hsz))
theorem rev_K {value slice : PySem.Expr} {b : Array UInt8} {t u : Tok} {Q : Value → Shared → Prop} (hF : Fr h₀ L s.heap m) (hN : News h₀ L s.heap news) (hz : b.size ≤ 1000)
    (h : ∀ h' t' k, Fr h₀ L h' m → News h₀ L h' news → Q (.bytes b.toList.reverse.toArray t') { s with heap := h', toks := k })
    (hs : subscripted slice false (.bytes b t) (.ref s.heap.objs.size) = operate [.ref s.heap.objs.size, .bytes b t] (getItem (.bytes b t) (.ref s.heap.objs.size)) := by with_unfolding_all rfl)
    (ht : ∀ r, letTemporaryGo value (.bytes b t) r = pure () := by intro _; with_unfolding_all rfl) :
    wpAny (model prog w) A (subscriptTail value slice (.bytes b t) (.ref s.heap.objs.size)) Q E { s with heap := s.heap.push { cls := .type "slice", data := .fields #[.none, .none, .int (-1) u] } } :=
  tail_of_ItemOn ⟨"bytes", _, FB.slot_bytes_getitem.lookup, typeIs_bytes _ _ _, getItem_meets (typeIs_bytes _ _ _) (by decide) FB.slot_bytes_getitem FB.entry_bytes_getitem (FB.args_bytes_getitem_2 _ _) (meets_rev b t u _)
    ⟨Heap.IsSliceOf.new _ _ _ _, by rw [sizeLine_eq]; omega, fun t' k => h _ _ _ (hF.push _) (News.pushKeep hN _)⟩⟩ hs ht
theorem toLittle {x : Int} {k : Nat} {t u v : Tok} {Q : Value → Shared → Prop} (hk : k ≤ 64) (h0 : 0 ≤ x) (h1 : x < 256 ^ k) (h : ∀ (b : Array UInt8) t' k', KBw.bInts b = KTBy.little k x → Q (.bytes b t') { s with toks := k' }) :
    wpAny (model prog w) A (call (.builtin "int.to_bytes") [.int x t, .int (k : Int) u, .str (Str.ofString "little") v]) Q E s := by
  refine wpAny_call_entry KTBy.slot (typeIs_int s x t) KTBy.entry ?_ (KTBy.args _ _ _)
  have bits := KTBy.bits_le rfl h0 h1
  show wpAny _ _ (Builtin.Int.intOfSelf (.int x t) >>= fun y => _) _ _ s
  refine wpAny_bind (wpAny_of_eq (a := x) rfl ?_)
  show wpAny _ _ (Builtin.Int.intBindNamed "to_bytes" ["length", "byteorder", "signed"] 0 2 [.int (k : Int) u, .str (Str.ofString "little") v] [] >>= fun l => _) _ _ s
  refine wpAny_bind (wpAny_of_eq (a := [some (.int (k : Int) u), some (.str (Str.ofString "little") v), none]) (by kernel_rfl) ?_)
  show wpAny _ _ (Builtin.Int.intIndex "int.to_bytes" (.int (k : Int) u) >>= fun n => _) _ _ s
  refine wpAny_bind (wpAny_of_eq (a := (k : Int)) rfl ?_)
  have f1 : decide ((k : Int) < -(2 ^ 63 : Int)) = false := decide_eq_false (by omega)
  have f2 : decide ((k : Int) ≥ 2 ^ 63) = false := decide_eq_false (by omega)
  have f3 : decide (x < 0) = false := decide_eq_false (by omega)
  have f4 : decide ((Builtin.Int.intBits x : Int) > 8 * (k : Int)) = false := decide_eq_false (by omega)
  refine KTBy.if_not (by show (decide ((k : Int) < -(2 ^ 63 : Int)) || decide ((k : Int) ≥ 2 ^ 63)) = false; rw [f1, f2]; rfl) ?_
  refine wpAny_bind (wpAny_of_eq (a := Str.ofString "little") (by kernel_rfl) ?_)
  refine wpAny_bind (wpAny_of_eq (a := false) rfl ?_)
  refine wpAny_bind (wpAny_of_eq (a := true) (by kernel_rfl) ?_)
  refine wpAny_ite_false (decide_eq_false (show ¬ ((k : Int) < 0) by omega)) ?_
  refine wpAny_ite_false (decide_eq_false (show ¬ ((k : Int) > 2 ^ 63 - 1 - 33) by omega)) ?_
  refine wpAny_ite_false (decide_eq_false (show ¬ ((k : Int) > (sizeLine : Int)) by rw [sizeLine_eq]; omega)) ?_
  refine KTBy.if_not (by show (decide (x < 0) && !false) = false; rw [f3]; rfl) ?_
  refine KTBy.if_not (by show (_ && decide ((Builtin.Int.intBits x : Int) > 8 * (k : Int))) = false; rw [f4, Bool.and_false]) ?_
  refine wpAny_bind (wpAny_mkBytes (wpAny_pure ⟨_, rfl, h _ _ _ ?_⟩) (by show (KTBy.low x (Int.toNat (k : Int))).length ≤ sizeLine; rw [KTBy.low_length, Int.toNat_natCast, sizeLine_eq]; omega))
  show (List.map (fun c : UInt8 => ((c.toNat : Nat) : Int)) (KTBy.low x (Int.toNat (k : Int)))) = KTBy.little k x
  rw [Int.toNat_natCast, KTBy.low_ints h0 h1, ← KTBy.little_eq]
theorem grownB {n : Nat} {Q : Value → Shared → Prop} (hn : n < 2 ^ 600) (h : Q (.int (n : Int) s.toks) { s with toks := s.toks + 1 }) : wpAny M A (mkIntGrown (n : Int)) Q E s := by
  unfold mkIntGrown
  rw [if_neg]
  · exact wpAny_mkInt h
  · rw [Int.natAbs_natCast]
    have hb : bitsLine = 134217728 := by first | rfl | decide
    by_cases hz : n = 0
    · rw [hz, hb]; decide
    · have h1 := (Nat.log2_lt hz).mpr hn
      omega
theorem tree_bigL {b : Array UInt8} {t u : Tok} {P : Fin → Shared → Prop} (hl : b.size ≤ 64) (h : P (.done (.ret (.int (KFB.value (KBw.bInts b)) s.toks))) { s with toks := s.toks + 1 }) :
    wpAny M A (Builtin.«int.from_bytes» ⟨[.type "int", .bytes b t, .str (Str.ofString "big") u], []⟩) P E s := by
  have hv : ((b.toList.foldl (fun (acc : Nat) (b : UInt8) => acc * 256 + b.toNat) 0 : Nat) : Int) = KFB.value (KBw.bInts b) := KFB.fold_cast b.toList 0
  have hn : b.toList.foldl (fun (acc : Nat) (b : UInt8) => acc * 256 + b.toNat) 0 < 2 ^ 600 := by
    have h1 := KFB.fold_lt b.toList 0
    rw [Nat.zero_add, Nat.one_mul, Array.length_toList] at h1
    exact Nat.lt_of_lt_of_le h1 (Nat.le_trans (Nat.pow_le_pow_right (by decide) hl) (by decide +kernel))
  unfold Builtin.«int.from_bytes»
  refine wpAny_bind (wpAny_of_eq (a := true) KFB.type_int ?_)
  refine KFB.if_not rfl ?_
  refine wpAny_bind (wpAny_of_eq (a := true) F.conv_sub_int ?_)
  refine KFB.if_not rfl ?_
  refine wpAny_bind (wpAny_of_eq (a := [some (.bytes b t), some (.str (Str.ofString "big") u), none]) (by kernel_rfl) ?_)
  refine wpAny_bind (wpAny_of_eq (a := Str.ofString "big") (by kernel_rfl) ?_)
  refine wpAny_bind (wpAny_of_eq (a := false) rfl ?_)
  refine wpAny_bind (wpAny_of_eq (a := false) (by kernel_rfl) ?_)
  refine wpAny_bind (wpAny_of_eq (a := b) rfl ?_)
  show wpAny _ _ (mkIntGrown (b.toList.foldl (fun (acc : Int) (b : UInt8) => acc * 256 + (b.toNat : Int)) ((0 : Nat) : Int)) >>= fun v => _) _ _ _
  rw [KFB.foldI_eq]
  refine wpAny_bind (grownB hn ?_)
  rw [hv]
  refine KFB.if_so (by decide +kernel) ?_
  exact wpAny_bind (wpAny_pure (wpAny_pure h))
theorem fromBig {x : Addr} {b : Array UInt8} {t u : Tok} {Q : Value → Shared → Prop} (N : News h₀ L s.heap news) (hm : (x, KFB.bound) ∈ news) (hl : b.size ≤ 64)
    (h : ∀ t' k, Q (.int (KFB.value (KBw.bInts b)) t') { s with toks := k }) : wpAny (model prog w) A (call (.ref x) [.bytes b t, .str (Str.ofString "big") u]) Q E s :=
  KFB.call_of (KFB.at_of N hm) (fun z => tree_bigL hl z) (h _ _)
end
section
variable {prog : Program} {w : World} {A : Around} {E : Value → Shared → Prop} {s : Shared}
theorem look_bytes : typeLookup (.type "bytes") "__bytes__" = pure (some (.builtin "bytes.__bytes__")) := by rw [typeLookup_type, builtinLookup_eq_fast]; kernel_rfl
theorem bytes_same_new {b : Array UInt8} {t : Tok} {Q : Value → Shared → Prop} (hQ : Q (.bytes b t) s) :
    codeAny (model prog w) A (.call (.builtin "bytes.__new__") ⟨[.type "bytes", .bytes b t], []⟩) (wants Q E) s := by
  refine codeAny_of_tree ?_
  show wpAny _ A.in1 (do checkBuiltinCall "bytes.__new__" ⟨[.type "bytes", .bytes b t], []⟩; again (.builtin "bytes.__new__" ⟨[.type "bytes", .bytes b t], []⟩)) _ _ s
  refine wpAny_bind (wpAny_of_eq (F.bm_newCall _) (wpAny_pure ⟨plainId_quiet F.bm_plain _, codeAny_builtin F.bm_entry ?_⟩))
  rw [Around.under_plainId F.bm_plain _]
  unfold Builtin.«bytes.__new__»
  refine wpAny_bind (wpAny_of_eq (a := true) rfl ?_)
  refine bm_if_false rfl ?_
  refine wpAny_bind (wpAny_of_eq F.bm_sub ?_)
  refine bm_if_false rfl ?_
  refine wpAny_bind (wpAny_of_eq (F.bm_bind _) ?_)
  refine wpAny_bind (wpAny_of_eq (a := ()) rfl ?_)
  refine wpAny_bind (wpAny_of_eq (a := ()) rfl ?_)
  refine bm_if_false rfl ?_
  refine wpAny_bind (wpAny_of_eq (KBy.special_eq look_bytes) ?_)
  dsimp only
  refine wpAny_bind (wpAny_rule ?_)
  refine wpAny_bind (wpAny_typeOf (typeIs_bytes s b t) ?_)
  refine bm_if_true (by decide) ?_
  show wpAny _ _ (if (Value.type "bytes" == Value.type "bytes") = true then _ else _) _ _ _
  refine bm_if_true (by decide) ?_
  first
    | exact wpAny_pure hQ
    | exact wpAny_bind (wpAny_pure (wpAny_pure hQ))
theorem bytes_same {b : Array UInt8} {t : Tok} {Q : Value → Shared → Prop} (hQ : Q (.bytes b t) s) : wpAny (model prog w) A (call (.type "bytes") [.bytes b t]) Q E s := by
  refine callType_codes (Q₁ := fun obj s₁ => s₁.TypeIs obj "bytes" ∧ Q obj s₁) F.bm_called (F.bm_typeCall _) F.entry_object_init
    (bytes_same_new ⟨typeIs_bytes _ _ _, hQ⟩) fun obj s₁ h₁ => ?_
  exact ⟨h₁.1, F.args_object_init_2 obj _, object_init_meets F.bm_called.init.lookup F.bm_called.made (by decide) prog w A.in1 _ s₁ ⟨h₁.1, rfl, h₁.2⟩⟩
end
/-- the octets of a point: its second number, and the last bit of its first one -/
def encI (v : Int × Int) : Int := v.2 + v.1 % 2 * 2 ^ 255
theorem encI_0 {v : Int × Int} (h0 : 0 ≤ v.1) (h : Builtin.bitAnd v.1 1 = 0) : v.2 = encI v := by
  rw [and_one h0, Int.fmod_eq_emod_of_nonneg _ (by decide)] at h
  unfold encI; rw [h]; simp
theorem encI_1 {v : Int × Int} (h0 : 0 ≤ v.1) (h : Builtin.bitAnd v.1 1 ≠ 0) : v.2 + 2 ^ 255 = encI v := by
  rw [and_one h0, Int.fmod_eq_emod_of_nonneg _ (by decide)] at h
  have : v.1 % 2 = 1 := by omega
  unfold encI; rw [this]; simp
theorem two255' : (1 * 2 ^ Int.toNat 255 : Int) = 2 ^ 255 := by decide +kernel
theorem up_lo {y : Int} (h : 0 ≤ y) : 0 ≤ y + 1 * 2 ^ Int.toNat 255 := Int.add_nonneg h (by decide +kernel)
theorem up_hi {y : Int} (h : y < 1 * 2 ^ Int.toNat 255) : y + 1 * 2 ^ Int.toNat 255 < 2 ^ 256 := by
  have e : (2 : Int) ^ 256 = 1 * 2 ^ Int.toNat 255 + 1 * 2 ^ Int.toNat 255 := by decide +kernel
  rw [e]; exact Int.add_lt_add_right h _
theorem lo_hi {y : Int} (h : y < 1 * 2 ^ Int.toNat 255) : y < 2 ^ 256 := Int.lt_trans h (by decide +kernel)
theorem enc_size {m : Nat} : (octs (unh (dg16 64 m) 32)).size ≤ 1000 := by
  unfold octs
  rw [List.size_toArray, List.length_map, unh_len]; decide
theorem enc_ints {y : Int} (h : 0 ≤ y) : KBw.bInts (octs (unh (dg16 64 y.toNat) 32)).toList.reverse.toArray = KTBy.little 32 y := by
  rw [rev_octs, ints_octs (unh_lt (dg16_lt _ _) 32), ← List.map_reverse, unh_dg 32, Int.toNat_of_nonneg h]
def PY (ns : List Int) (tl : Led) (r : Value) : Prop := ∃ b t, tl = [] ∧ r = .bytes b t ∧ KBw.bInts b = ns
set_option maxHeartbeats 8000000 in
theorem ct_enc (w : World) {news : Led} {a1 : Addr} {v : Int × Int} {t1 t2 : Tok} {n1 : Nat} (ha : (a1, tq v t1 t2 n1) ∈ news) (hv : In2 v) :
    Con w 182 8 [.ref a1] news (PY (KTBy.little 32 (encI v))) := by
  unfold Con
  k_fill
  intro p loose mean mg mb dp un gd cn cs a ccd cl outer A₀ base h₀ L m s Q E B F X N T hk hd hu hret
  refine wpAny_call ?_
  k_dflt ktr_enter
  have hy0 : 0 ≤ v.2 := hv.2.1
  have hy1 : v.2 < 1 * 2 ^ Int.toNat 255 := Int.lt_trans hv.2.2 (by decide +kernel)
  repeat' ((fail_if_success (with_reducible show wpAny _ _ (binaryOp .Mod _ _) _ _ _)); first | (k_unfold; (try dsimp only)) | (k_end; wrow_close) | walk1 | (dsimp only; walk1) | (leave1; walk_say "STEP leave1"; try dsimp only) | fail "no step")
  · refine call_64x (up_lo hy0) (up_hi hy1) ?_
    intro t' k'
    repeat' ((fail_if_success (with_reducible show wpAny _ _ (call (Value.ref 38) _) _ _ _)); first | (k_unfold; (try dsimp only)) | (k_end; wrow_close) | walk1 | (dsimp only; walk1) | (leave1; walk_say "STEP leave1"; try dsimp only) | fail "no step")
    (k_dflt (refine' con_use ?kB ?kF ?kX ?kN ?kT ?kK ?kC ?kd ?ku ?_; (case kB => k_asm); (case kF => k_asm); (case kX => first | k_asm | assumption); (case kN => k_asm); (case kT => k_asm); (case kK => first | exact rfl | assumption); (case kC => exact (ct_unhex (n := 32) _ (dg16_lt _ _) (dg16_len _ _) (by decide))); (case kd => ktr_room); (case ku => ktr_units); intro r9 tl9 h9 tk9 F9 N9 hl9 ho9; (obtain ⟨t9, e9, f9⟩ := ho9; subst e9; subst f9; simp only [List.nil_append] at N9; clear hl9); (try k_sweep); (try dsimp only); (try k_fold)))
    repeat' ((fail_if_success (with_reducible show wpAny _ _ (subscriptTail _ _ _ _) _ _ _)); first | (k_unfold; (try dsimp only)) | (k_end; wrow_close) | walk1 | (dsimp only; walk1) | (leave1; walk_say "STEP leave1"; try dsimp only) | fail "no step")
    (with_reducible show wpAny _ _ (subscriptTail _ _ _ _) _ _ _)
    (with_reducible rename Fr _ _ _ _ => F1)
    (with_reducible rename News _ _ _ _ => N1)
    refine rev_K (s := ⟨_, _, _, _, _⟩) F1 N1 enc_size ?_
    intro h2 t2 k2 F2 N2
    k_steps
    refine con_end0W hret (by k_asm) (by assumption) (fun p hp => by first | exact hp | exact .tail _ hp | exact .tail _ (.tail _ hp)) ⟨_, _, rfl, rfl, ?_⟩
    rw [enc_ints (up_lo hy0), two255', encI_1 hv.1.1 (by assumption)]
  · refine call_64x hy0 (lo_hi hy1) ?_
    intro t' k'
    repeat' ((fail_if_success (with_reducible show wpAny _ _ (call (Value.ref 38) _) _ _ _)); first | (k_unfold; (try dsimp only)) | (k_end; wrow_close) | walk1 | (dsimp only; walk1) | (leave1; walk_say "STEP leave1"; try dsimp only) | fail "no step")
    (k_dflt (refine' con_use ?kB ?kF ?kX ?kN ?kT ?kK ?kC ?kd ?ku ?_; (case kB => k_asm); (case kF => k_asm); (case kX => first | k_asm | assumption); (case kN => k_asm); (case kT => k_asm); (case kK => first | exact rfl | assumption); (case kC => exact (ct_unhex (n := 32) _ (dg16_lt _ _) (dg16_len _ _) (by decide))); (case kd => ktr_room); (case ku => ktr_units); intro r9 tl9 h9 tk9 F9 N9 hl9 ho9; (obtain ⟨t9, e9, f9⟩ := ho9; subst e9; subst f9; simp only [List.nil_append] at N9; clear hl9); (try k_sweep); (try dsimp only); (try k_fold)))
    repeat' ((fail_if_success (with_reducible show wpAny _ _ (subscriptTail _ _ _ _) _ _ _)); first | (k_unfold; (try dsimp only)) | (k_end; wrow_close) | walk1 | (dsimp only; walk1) | (leave1; walk_say "STEP leave1"; try dsimp only) | fail "no step")
    (with_reducible show wpAny _ _ (subscriptTail _ _ _ _) _ _ _)
    (with_reducible rename Fr _ _ _ _ => F1)
    (with_reducible rename News _ _ _ _ => N1)
    refine rev_K (s := ⟨_, _, _, _, _⟩) F1 N1 enc_size ?_
    intro h2 t2 k2 F2 N2
    k_steps
    refine con_end0W hret (by k_asm) (by assumption) (fun p hp => by first | exact hp | exact .tail _ hp | exact .tail _ (.tail _ hp)) ⟨_, _, rfl, rfl, ?_⟩
    rw [enc_ints hy0, encI_0 hv.1.1 (by assumption)]
theorem oct_eq {v : Int × Int} : v.2 + v.1.fmod 2 * 2 ^ Int.toNat 255 = encI v := by
  unfold encI; rw [Int.fmod_eq_emod_of_nonneg _ (by decide)]; rfl
theorem enc_lo {v : Int × Int} (h : In2 v) : 0 ≤ encI v := Int.add_nonneg h.2.1 (Int.mul_nonneg (Int.emod_nonneg _ (by decide)) (by decide +kernel))
theorem enc_hi {v : Int × Int} (h : In2 v) : encI v < 256 ^ 32 := by
  have e : (256 : Int) ^ 32 = 2 ^ 255 + 1 * 2 ^ 255 := by decide +kernel
  have h1 : v.2 < 2 ^ 255 := Int.lt_trans h.2.2 (by decide +kernel)
  have h2 : v.1 % 2 ≤ 1 := by omega
  rw [e]
  exact Int.add_lt_add_of_lt_of_le h1 (Int.mul_le_mul_of_nonneg_right h2 (by decide +kernel))
set_option maxHeartbeats 8000000 in
theorem ct_oct (w : World) {news : Led} {a1 : Addr} {v : Int × Int} {t1 t2 : Tok} {n1 : Nat} (ha : (a1, tq v t1 t2 n1) ∈ news) (hv : In2 v) :
    Con w 438 1 [.ref a1] news (PY (KTBy.little 32 (encI v))) := by
  unfold Con
  k_fill
  intro p loose mean mg mb dp un gd cn cs a ccd cl outer A₀ base h₀ L m s Q E B F X N T hk hd hu hret
  refine wpAny_call ?_
  k_dflt ktr_enter
  repeat' ((fail_if_success (with_reducible show wpAny _ _ (call (Value.builtin _) _) _ _ _)); first | (k_unfold; (try dsimp only)) | (k_end; wrow_close) | walk1 | (dsimp only; walk1) | (leave1; walk_say "STEP leave1"; try dsimp only) | fail "no step")
  rw [oct_eq]
  refine toLittle (k := 32) (by decide) (enc_lo hv) (enc_hi hv) ?_
  intro b t' k' hb
  k_steps
  exact con_end0W hret (by k_asm) (by assumption) (fun p hp => hp) ⟨_, _, rfl, rfl, hb⟩
def mixF (l : List Int) : Int := l.foldl (fun n o => (n * 1103 + o * 7 + 5).fmod 4093) 1
theorem mixF_add (l : List Int) (o : Int) : (mixF l * 1103 + o * 7 + 5).fmod 4093 = mixF (l ++ [o]) := by unfold mixF; rw [List.foldl_append]; rfl
theorem mixF_in (l : List Int) : 0 ≤ mixF l ∧ mixF l < 4093 := by
  unfold mixF
  have : ∀ (l : List Int) (a : Int), 0 ≤ a ∧ a < 4093 → 0 ≤ l.foldl (fun n o => (n * 1103 + o * 7 + 5).fmod 4093) a ∧ l.foldl (fun n o => (n * 1103 + o * 7 + 5).fmod 4093) a < 4093 := by
    intro l
    induction l with
    | nil => intro a h; exact h
    | cons x l ih => intro a h; exact ih _ ⟨Int.fmod_nonneg_of_pos _ (by decide), Int.fmod_lt_of_pos _ (by decide)⟩
  exact this l 1 (by decide)
theorem mix_In (l : List Int) : In (mixF l) := ⟨(mixF_in l).1, Int.lt_trans (mixF_in l).2 (by decide)⟩
set_option maxHeartbeats 8000000 in
theorem ct_mixed (w : World) {news : Led} {b : Array UInt8} {t : Tok} (hb : b.size ≤ 1000) :
    Con w 52 3 [.bytes b t] news (PI (mixF (KBw.bInts b) + 1)) := by
  unfold Con
  k_fill
  intro p loose mean mg mb dp un gd cn cs a ccd cl outer A₀ base h₀ L m s Q E B F X N T hk hd hu hret
  refine wpAny_call ?_
  k_dflt ktr_enter
  repeat' ((fail_if_success (with_reducible show wpAny _ _ (pyIter _) _ _ _)); first | (k_unfold; (try dsimp only)) | (k_end; wrow_close) | walk1 | (dsimp only; walk1) | (leave1; walk_say "STEP leave1"; try dsimp only) | fail "no step")
  k_state (fun pre n => n = mixF pre) "number"
  · have hA := mix_In kPre
    have hB : In kN := ⟨kLo, Int.lt_trans kHi (by decide)⟩
    subst kInv
    k_steps
    (rename News _ _ _ _ => nE')
    refine kst_end ⟨_, _⟩ (by assumption) nE' (by first | kst_in | kst_inAny) (by first | (intro p hp; kst_mem) | kst_anyIn) (by rfl) (by kst_facts) (by kst_all) (by kst_same) (mixF_add _ _)
  · subst kInv
    k_steps
    exact con_end0W hret (by k_asm) (by assumption) (fun p hp => hp) ⟨_, rfl, rfl⟩
theorem ints_size {b : Array UInt8} {k : Nat} {x : Int} (h : KBw.bInts b = KTBy.little k x) : b.size = k := by rw [← KBw.ints_length, h, KTBy.little_length]
theorem con_endO {h₀ h' : Heap} {L x d : Addr} {o o' : Obj} {m : Str → Option Value} {news : Led} {Post : Led → Value → Prop} {Q : Value → Shared → Prop} {s : Shared} {r : Value} {tk' : Nat}
    (ret : ∀ r tl h' tk', Fr h₀ L h' m → News h₀ L h' (tl ++ news) → (∀ q ∈ news, ∀ p ∈ tl, q.1 < p.1) → Post tl r → Q r { s with heap := h', toks := tk' })
    (F : Fr h₀ L h' m) (N : News h₀ L h' ((x, o) :: (d, o') :: news)) (l1 : ∀ p ∈ news, p.1 < d) (l2 : d < x) (post : Post [(x, o), (d, o')] r) : Q r { s with heap := h', toks := tk' } :=
  ret r [(x, o), (d, o')] h' tk' F N (fun q hq p hp => by
    rcases List.mem_cons.mp hp with rfl | hp
    · exact Nat.lt_trans (l1 q hq) l2
    · rw [List.mem_singleton.mp hp]; exact l1 q hq) post
abbrev shS (n : Int) : Int := 28948022309329048855892746252171976963428465437519630424007803753141817003960 + 8 * (n + 1)
/-- what the handed-in hash makes -/
def shaI (l : List Int) : List Int := if l.length = 32 then KTBy.little 32 (shS (mixF l)) ++ l else KTBy.little 64 (mixF l + 1)
theorem sha_1 {b : Array UInt8} (h : ((b.size : Nat) : Int) = 32) : shaI (KBw.bInts b) = KTBy.little 32 (shS (mixF (KBw.bInts b))) ++ KBw.bInts b := by
  unfold shaI; rw [if_pos (by rw [KBw.ints_length]; omega)]
theorem sha_2 {b : Array UInt8} (h : ((b.size : Nat) : Int) ≠ 32) : shaI (KBw.bInts b) = KTBy.little 64 (mixF (KBw.bInts b) + 1) := by
  unfold shaI; rw [if_neg (by rw [KBw.ints_length]; omega)]
theorem sha_len {l : List Int} : (shaI l).length = 64 := by
  unfold shaI; split
  · rw [List.length_append, KTBy.little_length]; omega
  · rw [KTBy.little_length]
/-- an object of one attribute -/
abbrev dct1 (w : World) (key : Str) (t : Tok) (v : Value) : Obj := dictOf [{ hash := PyData.keyHash w.params key, key := .str key t, val := v }] 1
def PO (w : World) (ns : List Int) (tl : Led) (r : Value) : Prop := ∃ x d t b u, tl = [(x, instObj 76 d), (d, dct1 w (Str.ofString "octets") t (.bytes b u))] ∧ r = .ref x ∧ d < x ∧ KBw.bInts b = ns
theorem shs_lo (l : List Int) : 0 ≤ shS (mixF l) := by have := (mixF_in l).1; unfold shS; omega
theorem shs_hi (l : List Int) : shS (mixF l) < 256 ^ 32 := by
  have h := (mixF_in l).2
  have e : (28948022309329048855892746252171976963428465437519630424007803753141817003960 + 8 * 4094 : Int) < 256 ^ 32 := by decide +kernel
  exact Int.lt_trans (by unfold shS; omega) e
theorem shm_lo (l : List Int) : 0 ≤ mixF l + 1 := by have := (mixF_in l).1; omega
theorem shm_hi (l : List Int) : mixF l + 1 < 256 ^ 64 := by
  have h := (mixF_in l).2
  have e : (4094 : Int) < 256 ^ 64 := by decide +kernel
  exact Int.lt_trans (by omega) e
set_option hygiene false in
local macro_rules | `(tactic| walk_at "call ref") => `(tactic| (k_here; (with_reducible show wpAny _ _ (call (Value.ref 52) _) _ _ _); k_dflt (refine' con_use ?kB ?kF ?kX ?kN ?kT ?kK ?kC ?kd ?ku ?_; walk_at "c1"; (case kC => exact (ct_mixed _ (by assumption))); walk_at "c2"; walk_at "o0")))
set_option maxHeartbeats 8000000 in
theorem ct_sha (w : World) {news : Led} {b : Array UInt8} {t : Tok} (hb : b.size ≤ 1000) :
    Con w 94 6 [.ref 112, .bytes b t] news (PO w (shaI (KBw.bInts b))) := by
  unfold Con
  k_fill
  intro p loose mean mg mb dp un gd cn cs a ccd cl outer A₀ base h₀ L m s Q E B F X N T hk hd hu hret
  refine wpAny_call ?_
  k_dflt ktr_enter
  repeat' ((fail_if_success (with_reducible show wpAny _ _ (call (Value.builtin "int.to_bytes") _) _ _ _)); first | (k_unfold; (try dsimp only)) | (k_end; wrow_close) | walk1 | (dsimp only; walk1) | (leave1; walk_say "STEP leave1"; try dsimp only) | fail "no step")
  · refine toLittle (k := 32) (by decide) (shs_lo _) (shs_hi _) ?_
    intro b1 t1 k1 hb1
    repeat' ((fail_if_success (with_reducible show wpAny _ _ (call (Value.type _) _) _ _ _)); first | (k_unfold; (try dsimp only)) | (k_end; wrow_close) | walk1 | (dsimp only; walk1) | (leave1; walk_say "STEP leave1"; try dsimp only) | fail "no step")
    refine bytes_same ?_
    repeat' ((fail_if_success (with_reducible show wpAny _ _ (binaryOp .Add (Value.bytes _ _) _) _ _ _)); first | (k_unfold; (try dsimp only)) | (k_end; wrow_close) | walk1 | (dsimp only; walk1) | (leave1; walk_say "STEP leave1"; try dsimp only) | fail "no step")
    refine KBy.add_bytes (Nat.le_trans (Nat.add_le_add (Nat.le_of_eq (ints_size hb1)) hb) (by decide)) fun t2 k2 => ?_
    k_steps
    refine con_endO hret (by k_asm) (by assumption) (by assumption) (by assumption) ⟨_, _, _, _, _, rfl, rfl, by assumption, ?_⟩
    rw [KBw.ints_app hb1 rfl, sha_1 (by assumption)]
  · refine toLittle (k := 64) (by decide) (shm_lo _) (shm_hi _) ?_
    intro b1 t1 k1 hb1
    k_steps
    refine con_endO hret (by k_asm) (by assumption) (by assumption) (by assumption) ⟨_, _, _, _, _, rfl, rfl, by assumption, ?_⟩
    rw [hb1, sha_2 (by assumption)]
theorem con_lt3 {x d b : Addr} {o o' o'' : Obj} {news : Led} (h : ∀ q ∈ news, ∀ p ∈ [(x, o), (d, o'), (b, o'')], q.1 < p.1) : ∀ p ∈ news, p.1 < b := fun p hp => h p hp (b, o'') (.tail _ (.tail _ (.head _)))
theorem con_lt2 {x d : Addr} {o o' : Obj} {news : Led} (h : ∀ q ∈ news, ∀ p ∈ [(x, o), (d, o')], q.1 < p.1) : ∀ p ∈ news, p.1 < d := fun p hp => h p hp (d, o') (.tail _ (.head _))
theorem pw_end {b : Array UInt8} {ns : List Int} {t : Tok} (h : KBw.bInts b = ns) : PI ((KFB.value ns).fmod ordL) [] (.int ((KFB.value (KBw.bInts b)).fmod ordL) t) := by rw [h]; exact ⟨_, rfl, rfl⟩
theorem hx_size {b : Array UInt8} {l : List Int} (h : KBw.bInts b = shaI l) : b.size = 64 := by rw [← KBw.ints_length, h, sha_len]
local macro_rules | `(tactic| walk_at "call type:int") => `(tactic| (k_here; (with_reducible show wpAny _ _ (call (Value.type "int") [Value.str _ _, Value.int _ _]) _ _ _); (refine call_hex16 (by rw [hx_size (by assumption)]; decide) (by rw [hx_size (by assumption)]; decide) ?_)))
set_option hygiene false in
local macro_rules | `(tactic| walk_at "o3") => `(tactic| ((obtain ⟨x9, d9, t9, b9, u9, e9, f9, lt9, i9⟩ := ho9; subst e9; subst f9; simp only [List.cons_append, List.nil_append] at N9; have l9 := con_lt2 hl9; clear hl9; (try k_lt l9); (try k_lt2 lt9)); (try k_sweep); (try dsimp only); (try k_fold)))
set_option hygiene false in
local macro_rules | `(tactic| walk_at "call ref") => `(tactic| (k_here; (with_reducible show wpAny _ _ (call (Value.ref 94) _) _ _ _); k_dflt (refine' con_use ?kB ?kF ?kX ?kN ?kT ?kK ?kC ?kd ?ku ?_; walk_at "c1"; (case kC => exact (ct_sha _ (by assumption))); walk_at "c2"; walk_at "o3")))
set_option hygiene false in
local macro_rules | `(tactic| walk_at "call ref") => `(tactic| (k_here; (with_reducible show wpAny _ _ (call (Value.ref 33) _) _ _ _); k_dflt (refine' con_use ?kB ?kF ?kX ?kN ?kT ?kK ?kC ?kd ?ku ?_; walk_at "c1"; (case kC => exact (ct_hex _ (by rw [hx_size (by assumption)]; decide))); walk_at "c2"; walk_at "o0")))
set_option maxHeartbeats 8000000 in
theorem ct_pw (w : World) {news : Led} {b : Array UInt8} {t : Tok} (hb : b.size ≤ 1000) :
    Con w 196 8 [.bytes b t] news (PI ((KFB.value (shaI (KBw.bInts b))).fmod ordL)) := by
  unfold Con
  k_fill
  intro p loose mean mg mb dp un gd cn cs a ccd cl outer A₀ base h₀ L m s Q E B F X N T hk hd hu hret
  refine wpAny_call ?_
  k_dflt ktr_enter
  k_steps
  refine con_end0W hret (by k_asm) (by assumption) (fun p hp => by first | exact hp | exact .tail _ hp | exact .tail _ (.tail _ hp)) (pw_end (by assumption))
def PE1 (w : World) (c a1 : Addr) (tl : Led) (r : Value) : Prop := ∃ x d t, tl = [(x, instObj c d), (d, dct1 w (Str.ofString "XYTZ") t (.ref a1))] ∧ r = .ref x ∧ d < x
abbrev cntO (d : Addr) (k : Int) (t : Tok) (b : Bool) (u : Tok) : Obj := { cls := .ref 398, dict := some d, slots := #[some (.int k t), some (.bool b), some (.int 1 u)] }
def PC (tl : Led) (r : Value) : Prop := ∃ x d t b u, tl = [(x, cntO d 0 t b u), (d, dictOf [] 0)] ∧ r = .ref x ∧ d < x
set_option maxHeartbeats 8000000 in
theorem ct_mk (w : World) {news : Led} {a1 : Addr} {v : I4} {t1 t2 t3 t4 : Tok} {n1 : Nat} (ha : (a1, tp v t1 t2 t3 t4 n1) ∈ news) (hv : In4 v) :
    Con w 255 3 [.ref a1] news (PE1 w 255 a1) := by
  unfold Con
  k_fill
  intro p loose mean mg mb dp un gd cn cs a ccd cl outer A₀ base h₀ L m s Q E B F X N T hk hd hu hret
  k_dflt (refine' call_cls ?kF ?kX ?kN ?km ?ki ?kf ?_; (case kF => k_asm); (case kX => first | k_asm | assumption); (case kN => k_asm); (case km => k_is); (case ki => k_is); (case kf => k_is); k_whole; intro x9 dx9 h9 F9 N9 l1 l2; (try k_lt l1); (try k_lt2 l2); (try k_sweep))
  k_dflt (refine' code_def ?k1 ?k2 ?k3 ?k4 ?k5 ?kA ?kF ?kK ?k6 ?k7 ?k8 ?k9 ?kB ?_ ?c2 ?c3 ?c4 ?c5; (case kA => exact rfl); (case kF => exact rfl); (case kK => first | exact rfl | assumption); (case k1 => k_asm); (case k2 => k_asm); (case k3 => k_asm); (case k4 => k_asm); (case k5 => k_asm); (case k6 => k_is); (case k7 => k_is); (case k8 => ktr_room); (case k9 => first | exact BindsTo.of_eq rfl | exact binds_K (by k_in) rfl (by k_is) rfl rfl rfl); (case c5 => decide); (case kB => exact locs rfl); (case c2 => exact rfl); (case c3 => exact rfl); (case c4 => exact rfl); k_whole; intro g' L' h' FG' F' N' B' X' T'; (try dsimp only); (try k_fold))
  k_steps
  refine con_endO hret (by k_asm) (by assumption) (by first | assumption | (intro p hp; exact (by assumption : ∀ p ∈ news, p.1 < _) p hp)) (by assumption) ⟨_, _, _, rfl, rfl, by assumption⟩
set_option maxHeartbeats 8000000 in
theorem ct_mkE (w : World) {news : Led} {a1 : Addr} {v : I4} {t1 t2 t3 t4 : Tok} {n1 : Nat} (ha : (a1, tp v t1 t2 t3 t4 n1) ∈ news) (hv : In4 v) :
    Con w 297 3 [.ref a1] news (PE1 w 297 a1) := by
  unfold Con
  k_fill
  intro p loose mean mg mb dp un gd cn cs a ccd cl outer A₀ base h₀ L m s Q E B F X N T hk hd hu hret
  k_dflt (refine' call_cls ?kF ?kX ?kN ?km ?ki ?kf ?_; (case kF => k_asm); (case kX => first | k_asm | assumption); (case kN => k_asm); (case km => k_is); (case ki => k_is); (case kf => k_is); k_whole; intro x9 dx9 h9 F9 N9 l1 l2; (try k_lt l1); (try k_lt2 l2); (try k_sweep))
  k_dflt (refine' code_def ?k1 ?k2 ?k3 ?k4 ?k5 ?kA ?kF ?kK ?k6 ?k7 ?k8 ?k9 ?kB ?_ ?c2 ?c3 ?c4 ?c5; (case kA => exact rfl); (case kF => exact rfl); (case kK => first | exact rfl | assumption); (case k1 => k_asm); (case k2 => k_asm); (case k3 => k_asm); (case k4 => k_asm); (case k5 => k_asm); (case k6 => k_is); (case k7 => k_is); (case k8 => ktr_room); (case k9 => first | exact BindsTo.of_eq rfl | exact binds_K (by k_in) rfl (by k_is) rfl rfl rfl); (case c5 => decide); (case kB => exact locs rfl); (case c2 => exact rfl); (case c3 => exact rfl); (case c4 => exact rfl); k_whole; intro g' L' h' FG' F' N' B' X' T'; (try dsimp only); (try k_fold))
  k_steps
  refine con_endO hret (by k_asm) (by assumption) (by first | assumption | (intro p hp; exact (by assumption : ∀ p ∈ news, p.1 < _) p hp)) (by assumption) ⟨_, _, _, rfl, rfl, by assumption⟩
set_option maxHeartbeats 8000000 in
theorem ct_cnt (w : World) {news : Led} {t : Tok} :
    Con w 398 5 [.int 0 t] news (PC) := by
  unfold Con
  k_fill
  intro p loose mean mg mb dp un gd cn cs a ccd cl outer A₀ base h₀ L m s Q E B F X N T hk hd hu hret
  k_dflt (refine' call_cls ?kF ?kX ?kN ?km ?ki ?kf ?_; (case kF => k_asm); (case kX => first | k_asm | assumption); (case kN => k_asm); (case km => k_is); (case ki => k_is); (case kf => k_is); k_whole; intro x9 dx9 h9 F9 N9 l1 l2; (try k_lt l1); (try k_lt2 l2); (try k_sweep))
  k_dflt (refine' code_def ?k1 ?k2 ?k3 ?k4 ?k5 ?kA ?kF ?kK ?k6 ?k7 ?k8 ?k9 ?kB ?_ ?c2 ?c3 ?c4 ?c5; (case kA => exact rfl); (case kF => exact rfl); (case kK => first | exact rfl | assumption); (case k1 => k_asm); (case k2 => k_asm); (case k3 => k_asm); (case k4 => k_asm); (case k5 => k_asm); (case k6 => k_is); (case k7 => k_is); (case k8 => ktr_room); (case k9 => first | exact BindsTo.of_eq rfl | exact binds_K (by k_in) rfl (by k_is) rfl rfl rfl); (case c5 => decide); (case kB => exact locs rfl); (case c2 => exact rfl); (case c3 => exact rfl); (case c4 => exact rfl); k_whole; intro g' L' h' FG' F' N' B' X' T'; (try dsimp only); (try k_fold))
  k_steps
  refine con_endO hret (by k_asm) (by assumption) (by assumption) (by assumption) ⟨_, _, _, _, _, rfl, rfl, by assumption⟩
theorem con_endE {h₀ h' : Heap} {L x d b : Addr} {o o' o'' : Obj} {m : Str → Option Value} {news : Led} {Post : Led → Value → Prop} {Q : Value → Shared → Prop} {s : Shared} {r : Value} {tk' : Nat}
    (ret : ∀ r tl h' tk', Fr h₀ L h' m → News h₀ L h' (tl ++ news) → (∀ q ∈ news, ∀ p ∈ tl, q.1 < p.1) → Post tl r → Q r { s with heap := h', toks := tk' })
    (F : Fr h₀ L h' m) (N : News h₀ L h' ((x, o) :: (d, o') :: (b, o'') :: news)) (l0 : ∀ p ∈ news, p.1 < b) (l1 : b < d ∧ AllLt d news) (l2 : d < x) (post : Post [(x, o), (d, o'), (b, o'')] r) : Q r { s with heap := h', toks := tk' } :=
  ret r [(x, o), (d, o'), (b, o'')] h' tk' F N (fun q hq p hp => by
    have h := l0 q hq
    rcases List.mem_cons.mp hp with rfl | hp
    · exact Nat.lt_trans h (Nat.lt_trans l1.1 l2)
    · rcases List.mem_cons.mp hp with rfl | hp
      · exact Nat.lt_trans h l1.1
      · rw [List.mem_singleton.mp hp]; exact h) post
def PE (w : World) (c : Addr) (v : I4) (tl : Led) (r : Value) : Prop := ∃ x d t b u1 u2 u3 u4 k, tl = [(x, instObj c d), (d, dct1 w (Str.ofString "XYTZ") t (.ref b)), (b, tp v u1 u2 u3 u4 k)] ∧ r = .ref x ∧ d < x ∧ b < d
set_option hygiene false in
local macro_rules | `(tactic| walk_at "call ref") => `(tactic| (k_here; (with_reducible show wpAny _ _ (call (Value.ref 140) _) _ _ _); k_dflt (refine' con_use ?kB ?kF ?kX ?kN ?kT ?kK ?kC ?kd ?ku ?_; walk_at "c1"; (case kC => exact (ct_e2a _ (by k_mem) (by first | assumption))); walk_at "c2"; walk_at "o2")))
set_option hygiene false in
local macro_rules | `(tactic| walk_at "o4") => `(tactic| ((obtain ⟨b9, t9, e9, f9, i9⟩ := ho9; subst e9; subst f9; simp only [List.nil_append] at N9; clear hl9); (try k_sweep); (try dsimp only); (try k_fold)))
set_option hygiene false in
local macro_rules | `(tactic| walk_at "call ref") => `(tactic| (k_here; (with_reducible show wpAny _ _ (call (Value.ref 182) _) _ _ _); k_dflt (refine' con_use ?kB ?kF ?kX ?kN ?kT ?kK ?kC ?kd ?ku ?_; walk_at "c1"; (case kC => exact (ct_enc _ (by k_mem) (by first | assumption | exact lsum_in _ _ | exact in_zo | exact e2a_in _))); walk_at "c2"; walk_at "o4")))
set_option hygiene false in
local macro_rules | `(tactic| walk_at "o5") => `(tactic| ((obtain ⟨x9, d9, t9, e9, f9, lt9⟩ := ho9; subst e9; subst f9; simp only [List.cons_append, List.nil_append] at N9; have l9 := con_lt2 hl9; clear hl9; (try k_lt l9); (try k_lt2 lt9)); (try k_sweep); (try dsimp only); (try k_fold)))
set_option hygiene false in
local macro_rules | `(tactic| walk_at "call ref") => `(tactic| (k_here; (with_reducible show wpAny _ _ (call (Value.ref 255) _) _ _ _); k_dflt (refine' con_use ?kB ?kF ?kX ?kN ?kT ?kK ?kC ?kd ?ku ?_; walk_at "c1"; (case kC => exact (ct_mk _ (by k_mem) (by first | assumption | exact slow_in _ _ _ | exact a2e_in _))); walk_at "c2"; walk_at "o5")))
set_option hygiene false in
local macro_rules | `(tactic| walk_at "call ref") => `(tactic| (k_here; (with_reducible show wpAny _ _ (call (Value.ref 297) _) _ _ _); k_dflt (refine' con_use ?kB ?kF ?kX ?kN ?kT ?kK ?kC ?kd ?ku ?_; walk_at "c1"; (case kC => exact (ct_mkE _ (by k_mem) (by first | assumption | exact slow_in _ _ _ | exact fast_in _ _ _))); walk_at "c2"; walk_at "o5")))
set_option maxHeartbeats 8000000 in
theorem ct_get (w : World) {news : Led} {a1 : Addr} {v : I4} {t1 t2 t3 t4 : Tok} {n1 : Nat} {x1 d1 : Addr} {tt : Tok} (hx : (x1, instObj 255 d1) ∈ news) (hd1 : (d1, dct1 w (Str.ofString "XYTZ") tt (.ref a1)) ∈ news) (ha : (a1, tp v t1 t2 t3 t4 n1) ∈ news) (hv : In4 v) :
    Con w 238 10 [.ref x1] news (PY (KTBy.little 32 (encI (e2aI v)))) := by
  unfold Con
  k_fill
  intro p loose mean mg mb dp un gd cn cs a ccd cl outer A₀ base h₀ L m s Q E B F X N T hk hd hu hret
  refine wpAny_call ?_
  k_dflt ktr_enter
  k_steps
  refine con_end0W hret (by k_asm) (by assumption) (fun p hp => by first | exact hp | exact .tail _ hp | exact .tail _ (.tail _ hp)) ⟨_, _, rfl, rfl, by assumption⟩

set_option maxHeartbeats 8000000 in
theorem ct_smul (w : World) {news : Led} {a1 : Addr} {v : I4} {t1 t2 t3 t4 : Tok} {n1 : Nat} {x1 d1 : Addr} {tt : Tok} (hx : (x1, instObj 255 d1) ∈ news) (hd1 : (d1, dct1 w (Str.ofString "XYTZ") tt (.ref a1)) ∈ news) (ha : (a1, tp v t1 t2 t3 t4 n1) ∈ news) (hv : In4 v) {k : Nat} {n : Int} {t : Tok} (h0 : 0 ≤ n) (h1 : n < 2 ^ k) :
    Con w 231 (k + 6) [.ref x1, .int n t] news (PE w 255 (slowI v k n)) := by
  unfold Con
  k_fill
  intro p loose mean mg mb dp un gd cn cs a ccd cl outer A₀ base h₀ L m s Q E B F X N T hk hd hu hret
  refine wpAny_call ?_
  k_dflt ktr_enter
  repeat' ((fail_if_success (with_reducible show wpAny _ _ (call (Value.ref 161) _) _ _ _)); first | (k_unfold; (try dsimp only)) | (k_end; wrow_close) | walk1 | (dsimp only; walk1) | (leave1; walk_say "STEP leave1"; try dsimp only) | fail "no step")
  (k_dflt (refine' con_use ?kB ?kF ?kX ?kN ?kT ?kK ?kC ?kd ?ku ?_; (case kB => k_asm); (case kF => k_asm); (case kX => first | k_asm | assumption); (case kN => k_asm); (case kT => k_asm); (case kK => first | exact rfl | assumption); (case kC => exact (ct_slow _ hv k n _ (by k_mem) h0 h1)); (case kd => ktr_room); (case ku => ktr_units); intro r9 tl9 h9 tk9 F9 N9 hl9 ho9; (obtain ⟨b9, u1, u2, u3, u4, k9, e9, f9⟩ := ho9; subst e9; subst f9; simp only [List.cons_append, List.nil_append] at N9; have l9 := con_lt hl9; clear hl9; (try k_lt l9)); (try k_sweep); (try dsimp only); (try k_fold)))
  k_steps
  refine con_endE hret (by k_asm) (by assumption) (by assumption) (by assumption) (by assumption) ⟨_, _, _, _, _, _, _, _, _, rfl, rfl, by assumption, And.left (by assumption)⟩
set_option maxHeartbeats 8000000 in
theorem ct_esmul (w : World) {news : Led} {a1 : Addr} {v : I4} {t1 t2 t3 t4 : Tok} {n1 : Nat} {x1 d1 : Addr} {tt : Tok} (hx : (x1, instObj 297 d1) ∈ news) (hd1 : (d1, dct1 w (Str.ofString "XYTZ") tt (.ref a1)) ∈ news) (ha : (a1, tp v t1 t2 t3 t4 n1) ∈ news) (hv : In4 v) {k : Nat} {n : Int} {t : Tok} (h0 : n.fmod ordL ≠ 0) (h1 : n.fmod ordL < 2 ^ k) :
    Con w 280 (k + 6) [.ref x1, .int n t] news (PE w 297 (fastI v k (n.fmod ordL))) := by
  unfold Con
  k_fill
  intro p loose mean mg mb dp un gd cn cs a ccd cl outer A₀ base h₀ L m s Q E B F X N T hk hd hu hret
  refine wpAny_call ?_
  k_dflt ktr_enter
  repeat' ((fail_if_success (with_reducible show wpAny _ _ (call (Value.ref 175) _) _ _ _)); first | (k_unfold; (try dsimp only)) | (k_end; wrow_close) | walk1 | (dsimp only; walk1) | (leave1; walk_say "STEP leave1"; try dsimp only) | fail "no step")
  · exact absurd (by assumption) h0
  (k_dflt (refine' con_use ?kB ?kF ?kX ?kN ?kT ?kK ?kC ?kd ?ku ?_; (case kB => k_asm); (case kF => k_asm); (case kX => first | k_asm | assumption); (case kN => k_asm); (case kT => k_asm); (case kK => first | exact rfl | assumption); (case kC => exact (ct_fast _ hv k (n.fmod ordL) _ (by k_mem) (Int.fmod_nonneg_of_pos _ (by decide)) h1)); (case kd => ktr_room); (case ku => ktr_units); intro r9 tl9 h9 tk9 F9 N9 hl9 ho9; (obtain ⟨b9, u1, u2, u3, u4, k9, e9, f9⟩ := ho9; subst e9; subst f9; simp only [List.cons_append, List.nil_append] at N9; have l9 := con_lt hl9; clear hl9; (try k_lt l9)); (try k_sweep); (try dsimp only); (try k_fold)))
  k_steps
  refine con_endE hret (by k_asm) (by assumption) (by assumption) (by assumption) (by assumption) ⟨_, _, _, _, _, _, _, _, _, rfl, rfl, by assumption, And.left (by assumption)⟩
section
variable {prog : Program} {w : World} {A : Around} {E : Value → Shared → Prop} {s : Shared} {env : Env}
def OwnTurn (prog : Program) (w : World) (A : Around) (E : Value → Shared → Prop) (env : Env) (v : Str) (body : List Stmt) (Q : Flow → Shared → Prop) (G : Flow → Shared → Prop) (r : Option Value) (s₁ : Shared) : Prop := match r with
  | none => Q .next s₁
  | some y => wpAny (model prog w) A (storeName env v y) (fun _ s₂ => wpAny (model prog w) A (execs body env) G E s₂) E s₁
def OwnAt (prog : Program) (w : World) (A : Around) (E : Value → Shared → Prop) (env : Env) (v : Str) (body : List Stmt) (Q : Flow → Shared → Prop) (it : Value) (s : Shared) : Prop :=
  ∃ (I : Addr) (h₀ : Heap) (n₀ : Nat) (m : Str → Option Value) (led : Led) (J : Nat → (Str → Option Value) → Led → Prop), it = .ref I ∧ Fr h₀ env.locals s.heap m ∧ News h₀ env.locals s.heap led ∧ J n₀ m led ∧
    ∀ n m₁ led₁ h₁ tk₁, Fr h₀ env.locals h₁ m₁ → News h₀ env.locals h₁ led₁ → J n m₁ led₁ →
      wpAny (model prog w) A (pyNext (.ref I)) (OwnTurn prog w A E env v body Q (WhileStep2 h₀ env.locals s J Q n)) E { s with heap := h₁, toks := tk₁ }
theorem OwnAt.intro {v : Str} {body : List Stmt} {Q : Flow → Shared → Prop} {I : Addr} {h₀ : Heap} {m : Str → Option Value} {led : Led} (J : Nat → (Str → Option Value) → Led → Prop) (n₀ : Nat) (F : Fr h₀ env.locals s.heap m) (N : News h₀ env.locals s.heap led) (h : J n₀ m led)
    (turn : ∀ n m₁ led₁ h₁ tk₁, Fr h₀ env.locals h₁ m₁ → News h₀ env.locals h₁ led₁ → J n m₁ led₁ →
      wpAny (model prog w) A (pyNext (.ref I)) (OwnTurn prog w A E env v body Q (WhileStep2 h₀ env.locals s J Q n)) E { s with heap := h₁, toks := tk₁ }) : OwnAt prog w A E env v body Q (.ref I) s := ⟨I, h₀, n₀, m, led, J, rfl, F, N, h, turn⟩
theorem own_for {v : Str} {px pos : Pos} {iter : Expr} {body : List Stmt} {Q : Flow → Shared → Prop}
    (h : wpAny (model prog w) A (eval iter env) (fun xv s₁ => wpAny (model prog w) A (pyIter xv) (OwnAt prog w A E env v body Q) E s₁) E s)
    (hs : ∀ x, foldedSetIterable iter env x = pure x := by intro _; rfl) (hE : PassesOwn (model prog w) A env E := by passes_own) :
    wpAny (model prog w) A (exec (.For (.Name v px) iter body [] pos) env) Q E s := by
  refine wpAny_For (wpAny_mono h (fun xv s₁ h₁ => wpAny_mono h₁ (fun it s₂ h₂ => ?_) fun _ _ z => z) fun _ _ z => z) hs
  obtain ⟨I, h₀, n₀, m, led, J, rfl, F, N, hJ, turn⟩ := h₂
  refine codeAny_forLoop (R := fun r s' => match r with | .ok f => Q f s' | .error e => cameBackBy (model prog w) A env E e s')
    (fun n s' => ∃ h₁ tk₁ m₁ led₁, s' = { s₂ with heap := h₁, toks := tk₁ } ∧ Fr h₀ env.locals h₁ m₁ ∧ News h₀ env.locals h₁ led₁ ∧ J n m₁ led₁) ?_ n₀ ⟨s₂.heap, s₂.toks, m, led, rfl, F, N, hJ⟩
  rintro n s' ⟨h₁, tk₁, m₁, led₁, rfl, F₁, N₁, J₁⟩
  refine wpAny_passesOwn hE (wpAny_mono (turn n m₁ led₁ h₁ tk₁ F₁ N₁ J₁) (fun r s₁ hr => ?_) fun _ _ z => z)
  cases r with
  | none => exact wpAny_execs_nil hr
  | some y =>
    refine wpAny_passesOwn hE (wpAny_assign_Name (wpAny_mono hr (fun _ s₂ h₂ => ?_) fun _ _ z => z))
    refine wpAny_passesOwn hE (wpAny_mono h₂ (fun f s₃ h₃ => ?_) fun _ _ z => z)
    cases f with
    | next =>
      obtain ⟨h', tk, m₂, led₂, n', rfl, F₂, N₂, hn, J₂⟩ := h₃
      exact ⟨n', hn, h', tk, m₂, led₂, rfl, F₂, N₂, J₂⟩
    | cont =>
      obtain ⟨h', tk, m₂, led₂, n', rfl, F₂, N₂, hn, J₂⟩ := h₃
      exact ⟨n', hn, h', tk, m₂, led₂, rfl, F₂, N₂, J₂⟩
    | brk => exact h₃
    | ret _ => exact h₃
end
abbrev p8I (y : Int) : I4 := slowI (a2eI (xrecI y, y)) 4 8
def goodI (y : Int) : Bool := oncI (xrecI y, y) && !zeroI (p8I y)
theorem xrec_in (y : Int) : In (xrecI y) := by
  have key : ∀ x : Int, In x → In (if x.fmod 2 = 0 then x else q - x) := by
    intro x hx
    split
    · exact hx
    · rename_i h
      have : x ≠ 0 := fun e => h (by rw [e]; rfl)
      have := hx.1; have := hx.2
      exact ⟨by omega, by omega⟩
  unfold xrecI
  dsimp only
  refine key _ ?_
  split
  · exact in_pw
  · exact in_mod
theorem pt_in {y : Int} (h : In y) : In2 (xrecI y, y) := ⟨xrec_in y, h⟩
structure ArbJ (y : Int) (K : Nat) (x d : Addr) (news : Led) (n : Nat) (m : Str → Option Value) (led : Led) : Prop where
  ex : ∃ (k : Nat) (ty t u : Tok) (b : Bool), k ≤ K ∧ n = K + 1 - k ∧ m (Str.ofString "y") = some (.int y ty) ∧ ∀ p ∈ (x, cntO d (k : Int) t b u) :: (d, dictOf [] 0) :: news, p ∈ led
theorem bad1 {z : Int} (h : oncI (xrecI z, z) = false) : goodI z = false := by unfold goodI; rw [h]; rfl
theorem bad2 {z : Int} (h : zeroI (p8I z) = true) : goodI z = false := by unfold goodI; rw [h]; simp
theorem good_of {z : Int} (h : oncI (xrecI z, z) = true) (h2 : zeroI (p8I z) = false) : goodI z = true := by unfold goodI; rw [h, h2]; rfl
theorem arb_lt {y : Int} {k K : Nat} (hK : goodI ((y + K).fmod q) = true) (h : goodI ((y + k).fmod q) = false) (hk : k ≤ K) : k < K := by
  rcases Nat.lt_or_eq_of_le hk with h2 | rfl
  · exact h2
  · rw [hK] at h; cases h
theorem arb_eq {y : Int} {k K : Nat} (h : goodI ((y + k).fmod q) = true) (hmin : ∀ j : Nat, j < K → goodI ((y + j).fmod q) = false) (hk : k ≤ K) : k = K := by
  rcases Nat.lt_or_eq_of_le hk with h2 | e
  · rw [hmin k h2] at h; cases h
  · exact e
theorem arb_next {y : Int} {K k : Nat} {x d : Addr} {news led : Led} {m : Str → Option Value} {ty t u : Tok} {b : Bool} (hk : k < K) (e : m (Str.ofString "y") = some (.int y ty))
    (hx : (x, cntO d ((k : Int) + 1) t b u) ∈ led) (hd : (d, dictOf [] 0) ∈ led) (hs : ∀ p ∈ news, p ∈ led) : ArbJ y K x d news (K + 1 - (k + 1)) m led := by
  refine ⟨k + 1, ty, t, u, b, hk, rfl, e, fun p hp => ?_⟩
  rcases List.mem_cons.mp hp with rfl | hp
  · exact hx
  · rcases List.mem_cons.mp hp with rfl | hp
    · exact hd
    · exact hs p hp
theorem con_endS {h₀ h' : Heap} {L x d b : Addr} {o o' o'' : Obj} {m : Str → Option Value} {news led : Led} {Post : Led → Value → Prop} {Q : Value → Shared → Prop} {s : Shared} {r : Value} {tk' : Nat}
    (ret : ∀ r tl h' tk', Fr h₀ L h' m → News h₀ L h' (tl ++ news) → (∀ q ∈ news, ∀ p ∈ tl, q.1 < p.1) → Post tl r → Q r { s with heap := h', toks := tk' })
    (F : Fr h₀ L h' m) (N : News h₀ L h' led) (hx : (x, o) ∈ led) (hd : (d, o') ∈ led) (hb : (b, o'') ∈ led) (hs : ∀ p ∈ news, p ∈ led) (l0 : ∀ p ∈ news, @LT.lt Nat _ p.1 b) (l1 : @LT.lt Nat _ b d) (l2 : @LT.lt Nat _ d x) (post : Post [(x, o), (d, o'), (b, o'')] r) : Q r { s with heap := h', toks := tk' } := by
  refine ret r [(x, o), (d, o'), (b, o'')] h' tk' F (fun p hp => N p ?_) (fun q hq p hp => ?_) post
  · rcases List.mem_cons.mp hp with rfl | hp
    · exact hx
    · rcases List.mem_cons.mp hp with rfl | hp
      · exact hd
      · rcases List.mem_cons.mp hp with rfl | hp
        · exact hb
        · exact hs p hp
  · have h := l0 q hq
    rcases List.mem_cons.mp hp with rfl | hp
    · exact Nat.lt_trans h (Nat.lt_trans l1 l2)
    · rcases List.mem_cons.mp hp with rfl | hp
      · exact Nat.lt_trans h l1
      · rw [List.mem_singleton.mp hp]; exact h
theorem arb_entry {y : Int} {K : Nat} {x d : Addr} {news rest : Led} {m : Str → Option Value} {ty t u : Tok} {b : Bool} (e : m (Str.ofString "y") = some (.int y ty)) (hs : ∀ p ∈ news, p ∈ rest) :
    ArbJ y K x d news (K + 1) m ((x, cntO d 0 t b u) :: (d, dictOf [] 0) :: rest) := by
  refine ⟨0, ty, t, u, b, Nat.zero_le _, rfl, e, fun p hp => ?_⟩
  rcases List.mem_cons.mp hp with rfl | hp
  · exact .head _
  · rcases List.mem_cons.mp hp with rfl | hp
    · exact .tail _ (.head _)
    · exact .tail _ (.tail _ (hs p hp))
set_option hygiene false in
local macro_rules | `(tactic| walk_at "call ref") => `(tactic| (k_here; (with_reducible show wpAny _ _ (call (Value.ref 126) _) _ _ _); k_dflt (refine' con_use ?kB ?kF ?kX ?kN ?kT ?kK ?kC ?kd ?ku ?_; walk_at "c1"; (case kC => exact (ct_xrec _ in_mod)); walk_at "c2"; walk_at "o0")))
set_option hygiene false in
local macro_rules | `(tactic| walk_at "o6") => `(tactic| ((obtain ⟨e9, f9⟩ := ho9; subst e9; subst f9; simp only [List.nil_append] at N9; clear hl9); (try k_sweep); (try dsimp only); (try k_fold)))
set_option hygiene false in
local macro_rules | `(tactic| walk_at "call ref") => `(tactic| (k_here; (with_reducible show wpAny _ _ (call (Value.ref 189) _) _ _ _); k_dflt (refine' con_use ?kB ?kF ?kX ?kN ?kT ?kK ?kC ?kd ?ku ?_; walk_at "c1"; (case kC => exact (ct_onc _ (by k_mem) (pt_in in_mod))); walk_at "c2"; walk_at "o6")))
set_option hygiene false in
local macro_rules | `(tactic| walk_at "call ref") => `(tactic| (k_here; (with_reducible show wpAny _ _ (call (Value.ref 133) _) _ _ _); k_dflt (refine' con_use ?kB ?kF ?kX ?kN ?kT ?kK ?kC ?kd ?ku ?_; walk_at "c1"; (case kC => exact (ct_a2e_l _ (by k_mem) (pt_in in_mod))); walk_at "c2"; walk_at "o1")))
set_option hygiene false in
local macro_rules | `(tactic| walk_at "call ref") => `(tactic| (k_here; (with_reducible show wpAny _ _ (call (Value.ref 203) _) _ _ _); k_dflt (refine' con_use ?kB ?kF ?kX ?kN ?kT ?kK ?kC ?kd ?ku ?_; walk_at "c1"; (case kC => exact (ct_zero _ (by k_mem) (by exact slow_in _ _ _))); walk_at "c2"; walk_at "o6")))
set_option hygiene false in
local macro_rules | `(tactic| walk_at "o7") => `(tactic| ((obtain ⟨x9, d9, t9, b9, u9, e9, f9, lt9⟩ := ho9; subst e9; subst f9; simp only [List.cons_append, List.nil_append] at N9; have l9 := con_lt2 hl9; clear hl9; (try k_lt l9); (try k_lt2 lt9)); (try k_sweep); (try dsimp only); (try k_fold)))
set_option hygiene false in
local macro_rules | `(tactic| walk_at "call ref") => `(tactic| (k_here; (with_reducible show wpAny _ _ (call (Value.ref 398) _) _ _ _); k_dflt (refine' con_use ?kB ?kF ?kX ?kN ?kT ?kK ?kC ?kd ?ku ?_; walk_at "c1"; (case kC => exact (ct_cnt _)); walk_at "c2"; walk_at "o7")))
set_option hygiene false in
local macro_rules | `(tactic| walk_at "o8") => `(tactic| ((obtain ⟨x9, d9, t9, b9, u1, u2, u3, u4, k9, e9, f9, lt9, lu9⟩ := ho9; subst e9; subst f9; simp only [List.cons_append, List.nil_append] at N9; have l9 := con_lt3 hl9; clear hl9; (try k_lt l9); (try k_lt2 lt9); (try k_lt2 lu9)); (try k_sweep); (try dsimp only); (try k_fold)))
set_option hygiene false in
local macro_rules | `(tactic| walk_at "call ref") => `(tactic| (k_here; (with_reducible show wpAny _ _ (call (Value.ref 231) [_, Value.int 8 _]) _ _ _); k_dflt (refine' con_use ?kB ?kF ?kX ?kN ?kT ?kK ?kC ?kd ?ku ?_; walk_at "c1"; (case kC => exact (ct_smul (k := 4) _ (by k_mem) (by k_mem) (by k_mem) (by exact a2e_in _) (by decide) (by decide))); walk_at "c2"; walk_at "o8")))
set_option hygiene false in
local macro_rules | `(tactic| walk_at "call ref") => `(tactic| (k_here; (with_reducible show wpAny _ _ (call (Value.ref 231) [_, Value.int 7237005577332262213973186563042994240857116359379907606001950938285454250989 _]) _ _ _); k_dflt (refine' con_use ?kB ?kF ?kX ?kN ?kT ?kK ?kC ?kd ?ku ?_; walk_at "c1"; (case kC => exact (ct_smul (k := 253) _ (by k_mem) (by k_mem) (by k_mem) (by exact slow_in _ _ _) (by decide) (by decide))); walk_at "c2"; walk_at "o8")))
set_option maxHeartbeats 8000000 in
theorem ct_arb (w : World) {news : Led} {b : Array UInt8} {t : Tok} (hb : b.size ≤ 1000) {y : Int} (hy : y = (KFB.value (shaI (KBw.bInts b))).fmod q) {K : Nat} (hK : goodI ((y + K).fmod q) = true) (hmin : ∀ j : Nat, j < K → goodI ((y + j).fmod q) = false) (hz : ∀ y, In y → oncI (xrecI y, y) = true → zeroI (slowI (p8I y) 253 ordL) = true) :
    Con w 410 275 [.bytes b t] news (PE w 297 (p8I ((y + K).fmod q))) := by
  unfold Con
  k_fill
  intro p loose mean mg mb dp un gd cn cs a ccd cl outer A₀ base h₀ L m s Q E B F X N T hk hd hu hret
  refine wpAny_call ?_
  k_dflt ktr_enter
  repeat' ((fail_if_success (with_reducible show wpAny _ _ (exec (Stmt.For _ _ _ _ _) _) _ _ _)); first | (k_unfold; (try dsimp only)) | (k_end; wrow_close) | walk1 | (dsimp only; walk1) | (leave1; walk_say "STEP leave1"; try dsimp only) | fail "no step")
  refine own_for ?_
  repeat' ((fail_if_success (with_reducible show wpAny _ _ (pyIter _) _ _ _)); first | (k_unfold; (try dsimp only)) | (k_end; wrow_close) | walk1 | (dsimp only; walk1) | (leave1; walk_say "STEP leave1"; try dsimp only) | fail "no step")
  k_dflt (refine' owit_iter ?F ?X ?I ?hs ?hf ?_; (case F => k_asm); (case X => k_asm); (case I => k_inst); (case hs => k_is); (case hf => k_is); k_whole)
  k_steps
  (with_reducible rename Fr _ _ _ _ => F1)
  (with_reducible rename News _ _ _ _ => N1)
  (rename KBw.bInts _ = shaI _ => i9)
  refine OwnAt.intro (ArbJ y K _ _ news) (K + 1) F1 N1 (arb_entry (ty := _) (by rw [hy, ← i9]; rfl) (by (intro p9 hp9; repeat (first | exact hp9 | refine List.Mem.tail _ ?_)))) ?_
  clear F1 N1
  rintro k1 m₁ led h₁ tk₁ F2 N2 ⟨k, ty, t5, u5, b5, hkK, rfl, e1, hled⟩
  replace F2 := fr_set (x := Str.ofString "y") F2 e1
  replace N2 := kst_newsOf N2 hled
  k_dflt (refine' owit_next ?F ?X ?I ?hs ?hf ?_; (case F => k_asm); (case X => k_asm); (case I => k_inst); (case hs => k_is); (case hf => k_is); k_whole)
  k_steps
  dsimp only [OwnTurn]
  (rename ∀ p ∈ news, p.1 < _ => g0)
  k_steps
  · have hk1 := arb_lt hK (bad2 (by assumption)) hkK
    dsimp only [WhileStep2]
    exact ⟨_, _, _, _, K + 1 - (k + 1), rfl, by assumption, by assumption, by omega, arb_next hk1 rfl (by k_mem) (by k_mem) (by (intro p9 hp9; repeat (first | exact hp9 | refine List.Mem.tail _ ?_)))⟩
  · obtain rfl := arb_eq (good_of (by assumption) (by assumption)) hmin hkK
    dsimp only [WhileStep2]
    k_steps
    refine con_endS hret (by k_asm) (by assumption) (by k_mem) (by k_mem) (by k_mem) (by (intro p9 hp9; repeat (first | exact hp9 | refine List.Mem.tail _ ?_))) (fun p hp => Nat.lt_trans (g0 p hp) ?_) ?_ ?_ ⟨_, _, _, _, _, _, _, _, _, rfl, rfl, ?_, ?_⟩
    all_goals (show @LT.lt Nat _ _ _; omega)
  · exact Bool.noConfusion ((hz _ in_mod (by assumption)).symm.trans (by assumption))
  · have hk1 := arb_lt hK (bad1 (by assumption)) hkK
    dsimp only [WhileStep2]
    exact ⟨_, _, _, _, K + 1 - (k + 1), rfl, by assumption, by assumption, by omega, arb_next hk1 rfl (by k_mem) (by k_mem) (by (intro p9 hp9; repeat (first | exact hp9 | refine List.Mem.tail _ ?_)))⟩
set_option maxHeartbeats 8000000 in
theorem ct_getE (w : World) {news : Led} {a1 : Addr} {v : I4} {t1 t2 t3 t4 : Tok} {n1 : Nat} {x1 d1 : Addr} {tt : Tok} (hx : (x1, instObj 297 d1) ∈ news) (hd1 : (d1, dct1 w (Str.ofString "XYTZ") tt (.ref a1)) ∈ news) (ha : (a1, tp v t1 t2 t3 t4 n1) ∈ news) (hv : In4 v) :
    Con w 238 10 [.ref x1] news (PY (KTBy.little 32 (encI (e2aI v)))) := by
  unfold Con
  k_fill
  intro p loose mean mg mb dp un gd cn cs a ccd cl outer A₀ base h₀ L m s Q E B F X N T hk hd hu hret
  refine wpAny_call ?_
  k_dflt ktr_enter
  k_steps
  refine con_end0W hret (by k_asm) (by assumption) (fun p hp => by first | exact hp | exact .tail _ hp | exact .tail _ (.tail _ hp)) ⟨_, _, rfl, rfl, by assumption⟩
/-- a contract that reads a list of the base -/
def ConL (w : World) (f : Addr) (sz : Nat) (vs : List Value) (news : Led) (l : Addr) (us : List Value) (Post : Led → Value → Prop) : Prop :=
  ∀ (p : Program) (loose : List Str) (mean : ExcName → Option Value) (mg mb : Str → Option Value) (dp un : Nat) (gd : Option (List Code)) (cn : Str) (cs : Scope) (a : Addr) (ccd : Value) (cl : List (Str × Addr)) (outer : List Env) (A₀ : Around) (base h₀ : Heap) (L : Addr) (m : Str → Option Value) (s : Shared)
    (Q E : Value → Shared → Prop),
    base.IsList l us.toArray → Below A₀ base outer h₀ → Fr h₀ L s.heap m → (k0.heap_1 w.params).In h₀ → News h₀ L s.heap news → Top p loose mean mg mb h₀ → cs.kind = .function → dp + sz < recursionLimit → un + 8 * sz < cLine →
    (∀ r tl h' tk', Fr h₀ L h' m → News h₀ L h' (tl ++ news) → (∀ q ∈ news, ∀ p ∈ tl, q.1 < p.1) → Post tl r → Q r { s with heap := h', toks := tk' }) →
    wpAny (model PySem.Challenge.rw_jy0031_01.row.prog w) (ktrTop dp un gd cn cs L a ccd cl outer) (call (.ref f) vs) Q E s
theorem con_useL {w : World} {f l : Addr} {us : List Value} {sz : Nat} {vs : List Value} {news : Led} {Post : Led → Value → Prop} {p : Program} {loose : List Str} {mean : ExcName → Option Value} {mg mb : Str → Option Value} {dp un : Nat} {gd : Option (List Code)} {cn : Str} {cs : Scope} {a : Addr} {ccd : Value} {cl : List (Str × Addr)} {outer : List Env} {A₀ : Around} {base h₀ : Heap} {L : Addr} {m : Str → Option Value} {s : Shared}
    {Q E : Value → Shared → Prop} (B : Below A₀ base outer h₀) (I : base.IsList l us.toArray) (F : Fr h₀ L s.heap m) (X : (k0.heap_1 w.params).In h₀) (N : News h₀ L s.heap news) (T : Top p loose mean mg mb h₀) (hk : cs.kind = .function) (C : ConL w f sz vs news l us Post) (hd : dp + sz < recursionLimit) (hu : un + 8 * sz < cLine)
    (ret : ∀ r tl h' tk', Fr h₀ L h' m → News h₀ L h' (tl ++ news) → (∀ q ∈ news, ∀ p ∈ tl, q.1 < p.1) → Post tl r → Q r { s with heap := h', toks := tk' }) :
    wpAny (model PySem.Challenge.rw_jy0031_01.row.prog w) (ktrTop dp un gd cn cs L a ccd cl outer) (call (.ref f) vs) Q E s := C _ _ _ _ _ _ _ _ _ _ _ _ _ _ _ _ _ _ _ _ _ _ I B F X N T hk hd hu ret
def numI (ns : List Int) (p : Int) : Int := (if 0 < ns.length then ns.getD (p.fmod ns.length).toNat 0 else 0) + 7 * p
theorem num_1 {ns : List Int} {p : Int} (h : 0 < ns.length) : ns.getD (p.fmod ns.length).toNat 0 + 7 * p = numI ns p := by unfold numI; rw [if_pos h]
theorem num_0 {ns : List Int} {p : Int} (h : ¬ 0 < ns.length) : 0 + 7 * p = numI ns p := by unfold numI; rw [if_neg h]

set_option maxHeartbeats 8000000 in
theorem ct_num (w : World) {news : Led} {l : Addr} {us : List Value} {ns : List Int} (hi : IntsAre us ns) (hn : ns.length ≤ 63) {p9 : Int} {t : Tok} :
    ConL w 417 1 [.ref l, .int p9 t] news l us (PI (numI ns p9)) := by
  unfold ConL
  k_fill
  intro p loose mean mg mb dp un gd cn cs a ccd cl outer A₀ base h₀ L m s Q E B F X N T hk hd hu hL hret
  refine wpAny_call ?_
  k_dflt ktr_enter
  (rename Below _ _ _ _ => B9)
  k_lift B9
  (rename Heap.IsList _ _ _ => I9)
  repeat' ((fail_if_success (with_reducible show wpAny _ _ (truthy _) _ _ _)); first | (k_unfold; (try dsimp only)) | (k_end; wrow_close) | walk1 | (dsimp only; walk1) | (leave1; walk_say "STEP leave1"; try dsimp only) | fail "no step")
  (with_reducible rename Fr _ _ _ _ => F9)
  refine truthy_ints_fit (Fr.lst F9 I9) hi (by omega) ?_
  by_cases he : 0 < ns.length
  · rw [decide_eq_true he]
    k_steps
    exact con_end0W hret (by k_asm) (by assumption) (fun p hp => hp) ⟨_, rfl, congrArg (fun z => Value.int z _) (num_1 he)⟩
  · rw [decide_eq_false he]
    k_steps
    exact con_end0W hret (by k_asm) (by assumption) (fun p hp => hp) ⟨_, rfl, congrArg (fun z => Value.int z _) (num_0 he)⟩
abbrev lenZ (i : Int) : Int := [3, 0, 32, 1, 33, 40].getD (i.fmod 6).toNat 0
theorem six_item (i : Int) {t0 t1 t2 t3 t4 t5 : Tok} : ∃ t, (#[.int 3 t0, .int 0 t1, .int 32 t2, .int 1 t3, .int 33 t4, .int 40 t5] : Array Value)[(i.fmod 6).toNat]? = some (.int (lenZ i) t) := by
  have h0 := Int.fmod_nonneg_of_pos i (b := 6) (by decide)
  have h1 := Int.fmod_lt_of_pos i (b := 6) (by decide)
  unfold lenZ
  generalize i.fmod 6 = z at *
  have : z = 0 ∨ z = 1 ∨ z = 2 ∨ z = 3 ∨ z = 4 ∨ z = 5 := by omega
  rcases this with rfl | rfl | rfl | rfl | rfl | rfl <;> exact ⟨_, rfl⟩
abbrev cutI (l : List Int) (z : Int) : List Int := List.take ((some z).elim l.length (clipAt l.length) - Option.elim (α := Int) none 0 (clipAt l.length)) (List.drop (Option.elim (α := Int) none 0 (clipAt l.length)) l)
theorem cut_size {b : Array UInt8} {l : List Int} {z : Int} (h : KBw.bInts b = cutI l z) (hl : l.length ≤ 40) : b.size ≤ 1000 := by
  rw [← KBw.ints_length, h, List.length_take, List.length_drop]; omega
theorem six_fit (i : Int) : i.fmod 6 < 2 ^ 63 := Int.lt_trans (Int.fmod_lt_of_pos i (by decide)) (by decide)
def d3 (P : Int × Int) : Int × Int := lsumI (lsumI (lsumI P P) (lsumI P P)) (lsumI (lsumI P P) (lsumI P P))
def lawP (y : Int) : Int × Int := match levI y with | some x => d3 (x, y) | none => (0, 1)

structure LawJ (y : Int) (K : Nat) (vS vP vN : Value) (rest : Led) (n : Nat) (m : Str → Option Value) (led : Led) : Prop where
  ex : ∃ (k : Nat) (P : Int × Int) (a : Addr) (ty t1 t2 : Tok) (n1 : Nat), n = K + 1 - k ∧ ((P = (0, 1) ∧ k ≤ K) ∨ (P = lawP ((y + K).fmod q) ∧ k = K + 1)) ∧ m (Str.ofString "y") = some (.int ((y + k).fmod q) ty) ∧ m (Str.ofString "point") = some (.ref a) ∧
    m (Str.ofString "seed") = some vS ∧ m (Str.ofString "password") = some vP ∧ m (Str.ofString "number") = some vN ∧ (a, tq P t1 t2 n1) ∈ led ∧ In2 P ∧ ∀ p ∈ rest, p ∈ led
theorem mod_zero (z : Int) : (z.fmod q + ((0 : Nat) : Int)).fmod q = z.fmod q := by
  rw [Int.natCast_zero, Int.add_zero, Int.fmod_eq_emod_of_nonneg _ (by decide), Int.fmod_eq_emod_of_nonneg _ (by decide), Int.emod_emod_of_dvd _ (Int.dvd_refl _)]
theorem law_entry {z : Int} {K : Nat} {vS vP vN : Value} {rest led : Led} {m : Str → Option Value} {a : Addr} {ty t1 t2 : Tok} {n1 : Nat} (ey : m (Str.ofString "y") = some (.int (z.fmod q) ty)) (ep : m (Str.ofString "point") = some (.ref a))
    (eS : m (Str.ofString "seed") = some vS) (eP : m (Str.ofString "password") = some vP) (eN : m (Str.ofString "number") = some vN) (hm : (a, tq (0, 1) t1 t2 n1) ∈ led) (hs : ∀ p ∈ rest, p ∈ led) :
    LawJ (z.fmod q) K vS vP vN rest (K + 1) m led :=
  ⟨0, (0, 1), a, ty, t1, t2, n1, rfl, .inl ⟨rfl, Nat.zero_le _⟩, by rw [mod_zero]; exact ey, ep, eS, eP, eN, hm, in_zo, hs⟩
theorem law_y (y : Int) (k : Nat) : ((y + k).fmod q + 1).fmod q = (y + ((k + 1 : Nat) : Int)).fmod q := by
  rw [Int.fmod_eq_emod_of_nonneg _ (by decide), Int.fmod_eq_emod_of_nonneg _ (by decide), Int.fmod_eq_emod_of_nonneg _ (by decide), Int.emod_add_emod]
  congr 1
  rw [Int.natCast_add, Int.natCast_one, Int.add_assoc]
theorem law_next {y : Int} {K k : Nat} {vS vP vN : Value} {rest led : Led} {m : Str → Option Value} {P : Int × Int} {a : Addr} {ty t1 t2 : Tok} {n1 : Nat} (hP : P = lawP ((y + k).fmod q)) (hk : k ≤ K) (hmin : ∀ j : Nat, j < K → lawP ((y + j).fmod q) = (0, 1))
    (ey : m (Str.ofString "y") = some (.int (((y + k).fmod q + 1).fmod q) ty)) (ep : m (Str.ofString "point") = some (.ref a))
    (eS : m (Str.ofString "seed") = some vS) (eP : m (Str.ofString "password") = some vP) (eN : m (Str.ofString "number") = some vN) (hm : (a, tq P t1 t2 n1) ∈ led) (hi : In2 P) (hs : ∀ p ∈ rest, p ∈ led) :
    LawJ y K vS vP vN rest (K + 1 - (k + 1)) m led := by
  refine ⟨k + 1, P, a, ty, t1, t2, n1, rfl, ?_, by rw [← law_y]; exact ey, ep, eS, eP, eN, hm, hi, hs⟩
  rcases Nat.lt_or_eq_of_le hk with h | rfl
  · exact .inl ⟨hP.trans (hmin k h), h⟩
  · exact .inr ⟨hP, rfl⟩
theorem pt_eq {P : Int × Int} (h : (P.1 == 0 && P.2 == 1) = true) : P = (0, 1) := by
  rw [Bool.and_eq_true, beq_iff_eq, beq_iff_eq] at h
  exact Prod.ext h.1 h.2
theorem pt_ne {P : Int × Int} (h : (P.1 == 0 && P.2 == 1) = false) : P ≠ (0, 1) := by
  rintro rfl; exact absurd h (by decide)
theorem law_k {P : Int × Int} {y : Int} {k K : Nat} (h : (P = (0, 1) ∧ k ≤ K) ∨ (P = lawP ((y + K).fmod q) ∧ k = K + 1)) (e : P = (0, 1)) (hK : lawP ((y + K).fmod q) ≠ (0, 1)) : k ≤ K := by
  rcases h with ⟨_, h⟩ | ⟨h, _⟩
  · exact h
  · exact absurd (h.symm.trans e) hK
theorem law_p {P : Int × Int} {y : Int} {k K : Nat} (h : (P = (0, 1) ∧ k ≤ K) ∨ (P = lawP ((y + K).fmod q) ∧ k = K + 1)) (e : P ≠ (0, 1)) : P = lawP ((y + K).fmod q) := by
  rcases h with ⟨h, _⟩ | ⟨h, _⟩
  · exact absurd h e
  · exact h
theorem lev_in {y x : Int} (h : levI y = some x) : In x := by
  unfold levI at h
  split at h
  · obtain rfl := Option.some.inj h
    split
    · exact in_mod
    · rename_i h0
      have h1 : In (lvX y) := in_mod
      have h2 : lvX y ≠ 0 := fun e => h0 (by rw [e]; rfl)
      have := h1.1; have := h1.2
      exact ⟨by omega, by omega⟩
  · cases h
theorem unr_end {h₀ : Heap} {L I b : Addr} {it o : Obj} {rest : (Str → Option Value) → Led → Prop} {s₁ : Shared} {h' : Heap} {tk : Nat} {m' : Str → Option Value} {all led : Led} (F : Fr h₀ L h' m') (N : News h₀ L h' all)
    (hI : (I, it) ∈ all) (hb : (b, o) ∈ all) (hs : ∀ p ∈ led, p ∈ all) (nb : @Ne Nat b I) (nl : ∀ p ∈ led, @Ne Nat p.1 I) (r : rest m' ((b, o) :: led)) : UnrEnd h₀ L s₁ I it rest { s₁ with heap := h', toks := tk } := by
  refine UnrEnd.intro F N ((b, o) :: led) (fun p hp => ?_) (fun p hp => ?_) r
  · rcases List.mem_cons.mp hp with rfl | hp
    · exact hI
    · rcases List.mem_cons.mp hp with rfl | hp
      · exact hb
      · exact hs p hp
  · rcases List.mem_cons.mp hp with rfl | hp
    · exact nb
    · exact nl p hp
theorem lawP_some {y x : Int} (h : levI y = some x) : d3 (x, y) = lawP y := by unfold lawP; rw [h]
theorem lawP_none {y : Int} (h : levI y = none) : lawP y = (0, 1) := by unfold lawP; rw [h]
section
open Ed Lean.Grind
structure Ctx (p : Nat) : Prop where
  H : Nums p dL iN
  hq : (p : Int) = q
  hN : dN % (p : Int) = dL % (p : Int)
  two : (2 : Int) ^ ((p - 1) / 2) % (p : Int) = (-1) % (p : Int)
theorem qpos : 0 < q := by decide
section
variable {p : Nat} [NeZero p] (C : Ctx p)
include C
theorem fq (x : Int) : fi p (x.fmod q) = fi p x := by
  rw [Int.fmod_eq_emod_of_nonneg _ (Int.le_of_lt qpos), ← C.hq]; exact fi_mod p x
theorem fpw (x e : Int) : fi p (pwI x e q) = fi p x ^ e.toNat := by
  unfold pwI
  rw [← fi_pow, ← C.hq]; exact fi_mod p _
abbrev KK : Fld (Fin p) := KF C.H
theorem KK_d : (KK C).d = fi p dL := rfl
theorem KK_i : fi p iN = (KK C).i := rfl
theorem KK_inv (a : Fin p) : (KK C).inv a = a ^ (p - 2) := rfl
theorem fdN : fi p dN = (KK C).d := (fi_ext p).mpr C.hN
theorem finv (x : Int) : fi p (pwI x (q - 2) q) = (KK C).inv (fi p x) := by
  rw [fpw C, KK_inv]
  have : (q - 2).toNat = p - 2 := by have := C.hq; omega
  rw [this]
omit C in
/-- the point of a pair -/
def ph (p : Nat) [NeZero p] (v : Int × Int) : Fin p × Fin p := (fi p v.1, fi p v.2)
theorem fi_inj {a b : Int} (ha : In a) (hb : In b) (h : fi p a = fi p b) : a = b := by
  have h := (fi_ext p).mp h
  rw [C.hq] at h
  rwa [Int.emod_eq_of_lt ha.1 ha.2, Int.emod_eq_of_lt hb.1 hb.2] at h
theorem fi_z (x : Int) : x.fmod q = 0 ↔ fi p x = 0 := by
  rw [Int.fmod_eq_emod_of_nonneg _ (Int.le_of_lt qpos), ← C.hq]; exact (fi_eq_zero p).symm
theorem ph_inj {v r : Int × Int} (hv : In2 v) (hr : In2 r) (h : ph p v = ph p r) : v = r :=
  Prod.ext (fi_inj C hv.1 hr.1 (congrArg Prod.fst h)) (fi_inj C hv.2 hr.2 (congrArg Prod.snd h))
omit C in
theorem ph_O : ph p (0, 1) = O := by unfold ph O; rw [fi_zero, fi_one]
theorem ph_sum (v r : Int × Int) : ph p (lsumI v r) = add (KK C) (ph p v) (ph p r) := by
  unfold ph lsumI add tt
  dsimp only
  simp only [fq C, finv C, fi_mul, fi_sub, fi_add, fi_one, KK_d C]
omit C in
def Rp (p : Nat) [NeZero p] (v : I4) (P : Fin p × Fin p) : Prop := Rep (fi p v.1) (fi p v.2.1) (fi p v.2.2.1) (fi p v.2.2.2) P
theorem rp_dbl {v : I4} {P : Fin p × Fin p} (hP : On (KK C) P) (R : Rp p v P) : Rp p (dblI v) (add (KK C) P P) := by
  have := rep_double (KK C) hP R rfl rfl rfl rfl rfl rfl rfl rfl
  unfold Rp dblI
  dsimp only
  simp only [fq C, fi_mul, fi_add, fi_sub, fi_neg, fi_two]
  exact this
theorem rp_add {v r : I4} {P R : Fin p × Fin p} (hP : On (KK C) P) (hR : On (KK C) R) (h1 : Rp p v P) (h2 : Rp p r R) : Rp p (addI v r) (add (KK C) P R) := by
  have := rep_add (KK C) hP hR h1 h2 rfl rfl rfl rfl rfl rfl rfl rfl
  unfold Rp addI
  dsimp only
  simp only [fq C, fi_mul, fi_add, fi_sub, fi_two, fdN C]
  exact this
theorem rp_non {v r : I4} {P R : Fin p × Fin p} (hP : On (KK C) P) (hR : On (KK C) R) (ne : sm (KK C) 4 P ≠ sm (KK C) 4 R) (h1 : Rp p v P) (h2 : Rp p r R) : Rp p (nonI v r) (add (KK C) P R) := by
  have := rep_nonu (KK C) hP hR ne h1 h2 rfl rfl rfl rfl rfl rfl rfl rfl
  unfold Rp nonI
  dsimp only
  simp only [fq C, fi_mul, fi_add, fi_sub, fi_two]
  exact this
theorem rp_aff (v : Int × Int) : Rp p (a2eI v) (ph p v) := by
  unfold Rp a2eI ph
  dsimp only
  rw [fq C, fq C, fq C, fi_mul, fi_one]
  exact (rep_affine _ _).resolve_right (KK C).one_ne
theorem rp_e2a {v : I4} {P : Fin p × Fin p} (R : Rp p v P) : ph p (e2aI v) = P := by
  obtain ⟨hZ, hX, hY, hT⟩ := R
  unfold ph e2aI
  dsimp only
  rw [fq C, fq C, fi_mul, fi_mul, finv C, hX, hY]
  have := (KK C).hinv _ hZ
  generalize (KK C).inv (fi p v.2.2.1) = u at *
  obtain ⟨x, y⟩ := P
  dsimp only
  congr 1 <;> grind
omit C in
omit [NeZero p] in
theorem in_0 : In 0 := ⟨by decide, by decide⟩
theorem rp_zero {v : I4} (hv : In4 v) {P : Fin p × Fin p} (R : Rp p v P) : zeroI v = true ↔ P = O := by
  obtain ⟨hZ, hX, hY, hT⟩ := R
  obtain ⟨x, y⟩ := P
  dsimp only at *
  unfold zeroI O
  simp only [Bool.and_eq_true, decide_eq_true_eq, Prod.mk.injEq]
  constructor
  · rintro ⟨⟨h1, h2⟩, h3⟩
    have h2 := congrArg (fi p) h2
    rw [fq C, fq C] at h2
    rw [h1, fi_zero] at hX
    refine ⟨((KK C).nz _ _ hX.symm).resolve_right hZ, ?_⟩
    rw [h2] at hY
    refine cancel (KK C) hZ ?_
    grind
  · rintro ⟨rfl, rfl⟩
    have e1 : fi p v.1 = fi p 0 := by rw [hX, fi_zero]; grind
    have e2 : fi p v.2.1 = fi p v.2.2.1 := by rw [hY]; grind
    have e3 : v.2.1 = v.2.2.1 := fi_inj C hv.y hv.z e2
    refine ⟨⟨fi_inj C hv.x in_0 e1, by rw [e3]⟩, fun z => hZ ?_⟩
    rw [← e2, ← fq C, z, fi_zero]
end
end
section
open Ed Lean.Grind
section
variable {p : Nat} [NeZero p] (C : Ctx p)
include C
theorem p_odd : p % 8 = 5 := C.H.odd
theorem two_h : p - 1 = (p - 1) / 2 + (p - 1) / 2 := by have := p_odd C; omega
theorem half_pow (z : Fin p) (h : z ≠ 0) : z ^ ((p - 1) / 2) = 1 ∨ z ^ ((p - 1) / 2) = -1 := by
  have e := fi_fermat C.H.pr z h
  rw [two_h C, Semiring.pow_add] at e
  exact sq_one (KK C) e
theorem sq_h (z : Fin p) (h : z ≠ 0) : (z * z) ^ ((p - 1) / 2) = 1 := by
  rw [pow_mul', ← Semiring.pow_add, ← two_h C]
  exact fi_fermat C.H.pr z h
theorem two_pow : (2 : Fin p) ^ ((p - 1) / 2) = -1 := by
  rw [← fi_two, ← fi_pow, ← fi_one, ← fi_neg]
  exact (fi_ext p).mpr C.two
theorem onc_iff (v : Int × Int) : oncI v = true ↔ On (KK C) (ph p v) := by
  unfold oncI ph
  rw [decide_eq_true_eq, on_iff0, fi_z C]
  simp only [fi_sub, fi_add, fi_mul, fdN C, fi_one]
  rw [fi_neg]
theorem f_xrA (y : Int) : fi p (xrA y) = sF (KK C) (fi p y) := by
  unfold xrA sF
  rw [fi_mul, finv C, fi_add, fi_mul, fi_mul, fdN C, fi_sub, fi_mul, fi_one]
theorem f_lvS (y : Int) : fi p (lvS y) = sF (KK C) (fi p y) := by
  unfold lvS sF
  rw [fq C, fi_mul, finv C, fi_add, fi_mul, fi_mul, fi_sub, fi_mul, fi_one, KK_d C]
theorem e8_1 : ((q + 3).fdiv 8).toNat = (p + 3) / 8 := by
  rw [Int.fdiv_eq_ediv_of_nonneg _ (by decide)]; have := C.hq; omega
theorem f_xrB (y : Int) : fi p (xrB y) = sF (KK C) (fi p y) ^ ((p + 3) / 8) := by
  unfold xrB
  rw [fpw C, f_xrA C, e8_1 C]
theorem q_z : fi p q = 0 := by rw [← C.hq]; exact (fi_eq_zero p).mpr (Int.emod_self)
theorem neg_sq (x : Int) : fi p (if x.fmod 2 = 0 then x else q - x) * fi p (if x.fmod 2 = 0 then x else q - x) = fi p x * fi p x := by
  split
  · rfl
  · rw [fi_sub]; exact sub_z (q_z C)
theorem xrec_sq {y : Int} {z : Fin p} (h : sF (KK C) (fi p y) = z * z) : fi p (xrecI y) * fi p (xrecI y) = sF (KK C) (fi p y) := by
  unfold xrecI
  dsimp only
  rw [neg_sq C]
  have r := root8 (e := (p + 3) / 8) (e' := (p + 3) / 8 - 1) (hh := (p - 1) / 2) (by have := p_odd C; omega) (by have := p_odd C; omega) (half_pow C) h
  rw [← f_xrB C] at r
  split
  · rename_i c
    rw [fi_z C, fi_sub, fi_mul, f_xrA C] at c
    exact diff_z c
  · rename_i c
    rw [fi_z C, fi_sub, fi_mul, f_xrA C] at c
    rw [fq C, fi_mul, KK_i C]
    exact mul_i (KK C) r c
omit C in
omit [NeZero p] in
theorem even_of {x : Int} (h : In x) : (if x.fmod 2 = 0 then x else q - x).fmod 2 = 0 := by
  split
  · assumption
  · rename_i c
    rw [Int.fmod_eq_emod_of_nonneg _ (by decide)] at *
    have : (57896044618658097711785492504343953926634992332820282019728792003956564819949 - x) % 2 = 0 := by omega
    exact this
omit C in
omit [NeZero p] in
theorem xrec_even (y : Int) : (xrecI y).fmod 2 = 0 := by
  unfold xrecI
  dsimp only
  refine even_of ?_
  split
  · exact in_pw
  · exact in_mod
omit C in
omit [NeZero p] in
theorem even_sum {a b : Int} (ha : In a) (hb : In b) (ea : a.fmod 2 = 0) (eb : b.fmod 2 = 0) (e : (a + b) % q = 0) : a = b := by
  rw [Int.fmod_eq_emod_of_nonneg _ (by decide)] at ea eb
  have h1 := ha.1
  have h2 := ha.2
  have h3 := hb.1
  have h4 := hb.2
  have o : q % 2 = 1 := by decide +kernel
  clear ha hb
  generalize q = z at *
  by_cases l : a + b < z
  · rw [Int.emod_eq_of_lt (by omega) l] at e
    omega
  · have : (a + b - z) % z = 0 := by rw [Int.sub_emod_right]; exact e
    rw [Int.emod_eq_of_lt (by omega) (by omega)] at this
    omega
theorem even_uniq {a b : Int} (ha : In a) (hb : In b) (ea : a.fmod 2 = 0) (eb : b.fmod 2 = 0) (h : fi p a * fi p a = fi p b * fi p b) : a = b := by
  rcases sq_eq (KK C) h with e | e
  · exact fi_inj C ha hb e
  · rw [← fi_add, ← fi_z C, Int.fmod_eq_emod_of_nonneg _ (Int.le_of_lt qpos)] at e
    exact even_sum ha hb ea eb e
theorem e4_1 : ((q - 5).fdiv 8).toNat = (p - 5) / 8 := by
  rw [Int.fdiv_eq_ediv_of_nonneg _ (by decide)]; have := C.hq; omega
theorem f_lvV (y : Int) : fi p (lvV y) = (2 * sF (KK C) (fi p y)) ^ ((p - 5) / 8) := by
  unfold lvV
  rw [fpw C, fi_mul, f_lvS C, fi_two, e4_1 C]
theorem f_lvX (y : Int) : fi p (lvX y) = sF (KK C) (fi p y) * fi p (lvV y) * (2 * sF (KK C) (fi p y) * fi p (lvV y) * fi p (lvV y) - 1) := by
  unfold lvX
  rw [fq C, fi_mul, fi_mul, fi_sub, fi_mul, fi_mul, fi_mul, f_lvS C, fi_two, fi_one]
theorem lev_sq {y : Int} {z : Fin p} (h : sF (KK C) (fi p y) = z * z) : (lvX y * lvX y).fmod q = lvS y := by
  refine fi_inj C in_mod in_mod ?_
  rw [fq C, fi_mul, f_lvS C]
  exact atkin (e := (p - 5) / 8) (by have := p_odd C; have := C.hq; omega) (two_pow C) (sq_h C) h (f_lvV C y) (f_lvX C y)
theorem lev_some {y x : Int} (h : levI y = some x) : fi p x * fi p x = sF (KK C) (fi p y) ∧ x.fmod 2 = 0 := by
  unfold levI at h
  split at h
  · rename_i c
    obtain rfl := Option.some.inj h
    refine ⟨?_, even_of in_mod⟩
    rw [neg_sq C, ← fi_mul, ← fq C, c, f_lvS C]
  · cases h
theorem lev_onc (y : Int) (h : oncI (xrecI y, y) = true) : levI y = some (xrecI y) := by
  have on := (on_iff (KK C) _ _).mp ((onc_iff C _).mp h)
  have c := lev_sq C on.symm
  have : levI y = some (if (lvX y).fmod 2 = 0 then lvX y else q - lvX y) := by unfold levI; rw [if_pos c]
  rw [this]
  obtain ⟨a, b⟩ := lev_some C this
  exact congrArg some (even_uniq C (lev_in this) (xrec_in y) b (xrec_even y) (a.trans on.symm))
theorem onc_lev {y x : Int} (h : levI y = some x) : oncI (xrecI y, y) = true := by
  obtain ⟨a, b⟩ := lev_some C h
  exact (onc_iff C _).mpr ((on_iff (KK C) _ _).mpr (xrec_sq C a.symm))
end
end
section
open Ed Lean.Grind
theorem least {P : Nat → Prop} : ∀ n, P n → ∃ m, P m ∧ ∀ j, j < m → ¬ P j := by
  intro n
  induction n using Nat.strongRecOn with
  | ind n ih =>
    intro h
    by_cases c : ∃ j, j < n ∧ P j
    · obtain ⟨j, hj, hP⟩ := c
      exact ih j hj hP
    · exact ⟨n, h, fun j hj hP => c ⟨j, hj, hP⟩⟩
theorem nat_half {n : Int} (h : 0 ≤ n) : (n.fmod 2 = 0 → n.toNat = (n.fdiv 2).toNat + (n.fdiv 2).toNat) ∧ (n.fmod 2 ≠ 0 → n.toNat = (n.fdiv 2).toNat + (n.fdiv 2).toNat + 1) := by
  rw [Int.fmod_eq_emod_of_nonneg _ (by decide), Int.fdiv_eq_ediv_of_nonneg _ (by decide)]
  constructor <;> intro _ <;> omega
theorem half_lo' {n : Int} (h : 0 ≤ n) : 0 ≤ n.fdiv 2 := by rw [Int.fdiv_eq_ediv_of_nonneg _ (by decide)]; omega
theorem half_hi' {n : Int} {k : Nat} (h : n < 2 ^ (k + 1)) : n.fdiv 2 < 2 ^ k := by
  rw [Int.fdiv_eq_ediv_of_nonneg _ (by decide)]
  rw [Int.pow_succ] at h
  omega
section
variable {p : Nat} [NeZero p] (C : Ctx p)
include C
theorem on_ph0 : On (KK C) (ph p (0, 1)) := by rw [ph_O]; exact on_O _
theorem rp_0 (P : Fin p × Fin p) : Rp p (a2eI (0, 1)) (sm (KK C) 0 P) := by
  have := rp_aff C (0, 1)
  rw [ph_O] at this
  exact this
theorem sm_dbl {P : Fin p × Fin p} (h : On (KK C) P) (m : Nat) : add (KK C) (sm (KK C) m P) (sm (KK C) m P) = sm (KK C) (m + m) P := (sm_add (KK C) h m m).symm
theorem sm_inc (P : Fin p × Fin p) (m : Nat) : add (KK C) (sm (KK C) m P) P = sm (KK C) (m + 1) P := add_comm (KK C) _ _
theorem rp_slow {v : I4} {P : Fin p × Fin p} (hP : On (KK C) P) (R : Rp p v P) : ∀ (k : Nat) (n : Int), 0 ≤ n → n < 2 ^ k → Rp p (slowI v k n) (sm (KK C) n.toNat P) := by
  intro k
  induction k with
  | zero =>
    intro n h0 h1
    obtain rfl : n = 0 := by rw [Int.pow_zero] at h1; omega
    exact rp_0 C P
  | succ k ih =>
    intro n h0 h1
    obtain ⟨a, b⟩ := nat_half h0
    have D := rp_dbl C (on_sm (KK C) hP _) (ih _ (half_lo' h0) (half_hi' h1))
    rw [sm_dbl C hP] at D
    unfold slowI
    split
    · rename_i e; subst e; exact rp_0 C P
    · split
      · rename_i e; rw [a e]; exact D
      · rename_i e; rw [b e, ← sm_inc C]
        exact rp_add C (on_sm (KK C) hP _) hP D R
theorem rp_fast {v : I4} {P : Fin p × Fin p} (hP : On (KK C) P) (R : Rp p v P) (ne : ∀ j : Nat, j < 64 → sm (KK C) 4 (sm (KK C) (j + j) P) ≠ sm (KK C) 4 P) : ∀ (k : Nat) (n : Int), 0 ≤ n → n < 64 → n < 2 ^ k → Rp p (fastI v k n) (sm (KK C) n.toNat P) := by
  intro k
  induction k with
  | zero =>
    intro n h0 h2 h1
    obtain rfl : n = 0 := by rw [Int.pow_zero] at h1; omega
    exact rp_0 C P
  | succ k ih =>
    intro n h0 h2 h1
    obtain ⟨a, b⟩ := nat_half h0
    have hl : n.fdiv 2 < 64 := by rw [Int.fdiv_eq_ediv_of_nonneg _ (by decide)]; omega
    have D := rp_dbl C (on_sm (KK C) hP _) (ih _ (half_lo' h0) hl (half_hi' h1))
    rw [sm_dbl C hP] at D
    unfold fastI
    split
    · rename_i e; subst e; exact rp_0 C P
    · split
      · rename_i e; rw [a e]; exact D
      · rename_i e; rw [b e, ← sm_inc C]
        exact rp_non C (on_sm (KK C) hP _) hP (ne _ (by omega)) D R
theorem ph_lt : ∀ (k : Nat) (T P : Int × Int) (n : Int), On (KK C) (ph p T) → On (KK C) (ph p P) → 0 ≤ n → n < 2 ^ k → ph p (ltI k T P n) = add (KK C) (ph p T) (sm (KK C) n.toNat (ph p P)) := by
  intro k
  induction k with
  | zero =>
    intro T P n hT hP h0 h1
    obtain rfl : n = 0 := by rw [Int.pow_zero] at h1; omega
    exact (add_O (KK C) _).symm
  | succ k ih =>
    intro T P n hT hP h0 h1
    obtain ⟨a, b⟩ := nat_half h0
    have hPP : On (KK C) (ph p (lsumI P P)) := by rw [ph_sum C]; exact on_add (KK C) hP hP
    have e2 : ∀ m : Nat, sm (KK C) m (ph p (lsumI P P)) = sm (KK C) (m + m) (ph p P) := fun m => by
      rw [ph_sum C, sm_sum (KK C) hP hP, sm_add (KK C) hP]
    unfold ltI
    split
    · obtain rfl : n = 0 := by omega
      exact (add_O (KK C) _).symm
    · by_cases e : n.fmod 2 = 1
      · rw [if_pos e, ih _ _ _ (by rw [ph_sum C]; exact on_add (KK C) hT hP) hPP (half_lo' h0) (half_hi' h1), e2, b (by omega), ph_sum C, add_assoc (KK C) hT hP (on_sm (KK C) hP _)]
        rfl
      · have e' : n.fmod 2 = 0 := by
          rw [Int.fmod_eq_emod_of_nonneg _ (by decide)] at *; omega
        rw [if_neg e, ih _ _ _ hT hPP (half_lo' h0) (half_hi' h1), e2, a e']
omit C in
theorem val_neg {x : Fin p} (h : x ≠ 0) : (-x).val = p - x.val := by
  have hx : x.val ≠ 0 := fun e => h (Fin.ext e)
  have := x.isLt
  rw [Fin.val_neg', Nat.mod_eq_of_lt (by omega)]
def code (P : Fin p × Fin p) : Nat := 2 * P.2.val + P.1.val % 2
theorem code_lt (P : Fin p × Fin p) : code P < 2 * p := by
  unfold code; have := P.2.isLt; omega
theorem code_inj (P R : Fin p × Fin p) (hP : On (KK C) P) (hR : On (KK C) R) (e : code P = code R) : P = R := by
  obtain ⟨x, y⟩ := P
  obtain ⟨x', y'⟩ := R
  unfold code at e
  dsimp only at e
  have : y = y' := Fin.ext (by omega)
  subst this
  rcases same_y (KK C) hP hR with h | h
  · rw [h]
  · by_cases z : x = 0
    · have : x' = x := by rw [h, z]; grind
      rw [this]
    · have v := val_neg z
      rw [← h] at v
      have := p_odd C
      have := x.isLt
      omega
theorem ph_d3 {v : Int × Int} (h : On (KK C) (ph p v)) : ph p (d3 v) = sm (KK C) 8 (ph p v) := by
  unfold d3
  have e2 : ph p (lsumI v v) = sm (KK C) 2 (ph p v) := by rw [ph_sum C, sm_two]
  have e4 : ph p (lsumI (lsumI v v) (lsumI v v)) = sm (KK C) 4 (ph p v) := by
    rw [ph_sum C, e2, ← sm_add (KK C) h]
  rw [ph_sum C, e4, ← sm_add (KK C) h]
theorem rp_8 {y : Int} (h : oncI (xrecI y, y) = true) : Rp p (p8I y) (sm (KK C) 8 (ph p (xrecI y, y))) :=
  rp_slow C ((onc_iff C _).mp h) (rp_aff C _) 4 8 (by decide) (by decide)
theorem zo_in : In2 (0, 1) := ⟨⟨by decide, by decide⟩, ⟨by decide, by decide⟩⟩
theorem d3_in (v : Int × Int) : In2 (d3 v) := lsum_in _ _
theorem lawP_onc {y : Int} (h : oncI (xrecI y, y) = true) : lawP y = d3 (xrecI y, y) := (lawP_some (lev_onc C y h)).symm
theorem lawP_off {y : Int} (h : oncI (xrecI y, y) = false) : lawP y = (0, 1) := by
  cases hl : levI y with
  | none => exact lawP_none hl
  | some x => rw [onc_lev C hl] at h; cases h
theorem lawP_in (y : Int) : In2 (lawP y) := by
  cases h : oncI (xrecI y, y) with
  | true => rw [lawP_onc C h]; exact d3_in C _
  | false => rw [lawP_off C h]; exact zo_in C
theorem zero_8 {y : Int} (h : oncI (xrecI y, y) = true) : zeroI (p8I y) = true ↔ lawP y = (0, 1) := by
  rw [rp_zero C (slow_in _ _ _) (rp_8 C h), lawP_onc C h, ← ph_d3 C ((onc_iff C _).mp h)]
  constructor
  · intro e; exact ph_inj C (d3_in C _) (zo_in C) (by rw [e, ph_O])
  · intro e; rw [e, ph_O]
theorem good_law' (y : Int) : goodI y = true ↔ lawP y ≠ (0, 1) := by
  unfold goodI
  cases h : oncI (xrecI y, y) with
  | true =>
    have := zero_8 C h
    cases hz : zeroI (p8I y) with
    | true => rw [hz] at this; simp [this.mp rfl]
    | false => rw [hz] at this; simp; intro e; exact Bool.noConfusion (this.mpr e)
  | false => simp [lawP_off C h]
theorem good_onc {y : Int} (g : goodI y = true) : oncI (xrecI y, y) = true := by
  unfold goodI at g; rw [Bool.and_eq_true] at g; exact g.1
theorem law_point' {y : Int} (g : goodI y = true) : e2aI (p8I y) = lawP y := by
  have h := good_onc C g
  refine ph_inj C (e2a_in _) (lawP_in C y) ?_
  rw [rp_e2a C (rp_8 C h), lawP_onc C h, ph_d3 C ((onc_iff C _).mp h)]
/-- every point is killed by 8 L -/
def Kills (M : Nat) : Prop := ∀ P : Fin p × Fin p, On (KK C) P → sm (KK C) M P = O
theorem order_zero' {M : Nat} (hK : Kills C (M * 8)) (hM : (ordL).toNat = M) {y : Int} (ho : oncI (xrecI y, y) = true) : zeroI (slowI (p8I y) 253 ordL) = true := by
  have on := (onc_iff C _).mp ho
  have R := rp_slow C (on_sm (KK C) on 8) (rp_8 C ho) 253 ordL (by decide) (by decide +kernel)
  rw [rp_zero C (slow_in _ _ _) R, hM, ← sm_mul (KK C) on]
  exact hK _ on
theorem times_eq' {M : Nat} (hK : Kills C (M * 8)) (hM : Prm M) (big : 600 < M) (hL : ordL = (M : Int)) {y : Int} (g : goodI y = true) {n : Int} (h0 : 1 ≤ n) (h1 : n ≤ 59) : e2aI (fastI (p8I y) 6 (n.fmod ordL)) = ltI 6 (0, 1) (lawP y) n := by
  have ho := good_onc C g
  have on := (onc_iff C _).mp ho
  have onP := on_sm (KK C) on 8
  have e : n.fmod ordL = n := by rw [Int.fmod_eq_emod_of_nonneg _ (by decide), hL]; exact Int.emod_eq_of_lt (by omega) (by omega)
  rw [e]
  have hLP : sm (KK C) M (sm (KK C) 8 (ph p (xrecI y, y))) = O := by rw [← sm_mul (KK C) on]; exact hK _ on
  have hne : sm (KK C) 8 (ph p (xrecI y, y)) ≠ O := by
    intro z
    refine (good_law' C y).mp g ?_
    rw [lawP_onc C ho]
    exact ph_inj C (d3_in C _) (zo_in C) (by rw [ph_d3 C on, z, ph_O])
  have cop : ∀ j : Nat, 0 < j → j < 600 → sm (KK C) j (sm (KK C) 8 (ph p (xrecI y, y))) ≠ O := by
    intro j j0 j1 z
    have := sm_gcd (KK C) onP _ _ hLP z
    rw [hM.cop (fun d => by have := Nat.le_of_dvd j0 d; omega), sm_one] at this
    exact hne this
  have R := rp_fast C onP (rp_8 C ho) (fun j hj z => by
    rw [← sm_mul (KK C) onP] at z
    by_cases c : j = 0
    · subst c
      exact cop 4 (by omega) (by omega) z.symm
    · have := sm_sub (KK C) onP (a := 4) (b := 4 * (j + j)) (by omega) z.symm
      exact cop (4 * (j + j) - 4) (by omega) (by omega) this) 6 n (by omega) (by omega) (by omega)
  have E := rp_e2a C R
  have hl : ph p (lawP y) = sm (KK C) 8 (ph p (xrecI y, y)) := by rw [lawP_onc C ho, ph_d3 C on]
  have T := ph_lt C 6 (0, 1) (lawP y) n (on_ph0 C) (by rw [hl]; exact onP) (by omega) (by omega)
  rw [hl, ph_O, O_add] at T
  have ltin : ∀ (k : Nat) (T P : Int × Int) (n : Int), In2 T → In2 (ltI k T P n) := by
    intro k
    induction k with
    | zero => intro T P n h; exact h
    | succ k ih =>
      intro T P n h
      unfold ltI
      split
      · exact h
      · refine ih _ _ _ ?_
        split
        · exact lsum_in _ _
        · exact h
  exact ph_inj C (e2a_in _) (ltin _ _ _ _ (zo_in C)) (E.trans T.symm)
end
end
section
open Ed Lean.Grind
def stI (v r : I4) (b : Bool) : I4 := bif b then addI (dblI r) v else dblI r
def runI (v r : I4) (l : List Bool) : I4 := l.foldl (stI v) r
def bval (m : Nat) (l : List Bool) : Nat := l.foldl (fun m b => m + m + (bif b then 1 else 0)) m
abbrev gP : Int × Int := (47490639360184182837601875270316946735278442122217188244898328344323804759522, 3)
abbrev gE : I4 := (gP.1, gP.2, 1, (gP.1 * gP.2).fmod q)
abbrev bitsL : List Bool := [true, false, false, false, false, false, false, false, false, false, false, false, false, false, false, false, false, false, false, false, false, false, false, false, false, false, false, false, false, false, false, false, false, false, false, false, false, false, false, false, false, false, false, false, false, false, false, false, false, false, false, false, false, false, false, false, false, false, false, false, false, false, false, false, false, false, false, false, false, false, false, false, false, false, false, false, false, false, false, false, false, false, false, false, false, false, false, false, false, false, false, false, false, false, false, false, false, false, false, false, false, false, false, false, false, false, false, false, false, false, false, false, false, false, false, false, false, false, false, false, false, false, false, false, false, false, false, false, true, false, true, false, false, true, true, false, true, true, true, true, false, true, true, true, true, true, false, false, true, true, true, false, true, true, true, true, false, true, false, true, false, false, false, true, false, true, true, true, true, false, true, true, true, true, false, false, true, true, true, false, false, true, true, false, true, false, true, true, false, false, true, false, true, true, false, false, false, false, false, false, true, false, false, true, false, false, true, true, false, false, false, true, true, false, false, false, true, true, false, true, false, false, true, false, true, true, true, false, false, true, true, true, true, false, true, false, true, true, true, false, true, false, false, true, true, true, true, true, false, true, true, false, true]
abbrev nL : Nat := 7237005577332262213973186563042994240857116359379907606001950938285454250989
theorem bitsL_val : bval 0 bitsL = nL := by decide +kernel
theorem gP_on : oncI gP = true := by decide +kernel
theorem gP_8 : zeroI (dblI (dblI (dblI (a2eI gP)))) = false := by decide +kernel
theorem gP_4L : zeroI (dblI (dblI (runI (a2eI gP) (a2eI (0, 1)) bitsL))) = false := by decide +kernel
theorem gP_8L : zeroI (dblI (dblI (dblI (runI (a2eI gP) (a2eI (0, 1)) bitsL)))) = true := by decide +kernel
theorem gP_even : gP.1.fmod 2 = 0 := by decide +kernel
theorem gP_in : In2 gP := ⟨⟨by decide +kernel, by decide +kernel⟩, ⟨by decide +kernel, by decide +kernel⟩⟩
theorem prL : Prm nL := pr7237005577332262213973186563042994240857116359379907606001950938285454250989
section
variable {p : Nat} [NeZero p] (C : Ctx p)
include C
theorem rp_run {v : I4} {P : Fin p × Fin p} (hP : On (KK C) P) (R : Rp p v P) : ∀ (l : List Bool) (r : I4) (m : Nat), Rp p r (sm (KK C) m P) → Rp p (runI v r l) (sm (KK C) (bval m l) P) := by
  intro l
  induction l with
  | nil => intro r m h; exact h
  | cons b l ih =>
    intro r m h
    have D := rp_dbl C (on_sm (KK C) hP _) h
    rw [sm_dbl C hP] at D
    refine ih (stI v r b) (m + m + (bif b then 1 else 0)) ?_
    cases b with
    | false => exact D
    | true =>
      show Rp p (addI (dblI r) v) (sm (KK C) (m + m + 1) P)
      rw [← sm_inc C]
      exact rp_add C (on_sm (KK C) hP _) hP D R
theorem g_on : On (KK C) (ph p gP) := (onc_iff C _).mp gP_on
theorem g_L : Rp p (runI (a2eI gP) (a2eI (0, 1)) bitsL) (sm (KK C) nL (ph p gP)) := by
  have := rp_run C (g_on C) (rp_aff C gP) bitsL _ 0 (rp_0 C (ph p gP))
  rwa [bitsL_val] at this
theorem rp_2 {v : I4} {m : Nat} {P : Fin p × Fin p} (hP : On (KK C) P) (R : Rp p v (sm (KK C) m P)) : Rp p (dblI v) (sm (KK C) (m + m) P) := by
  have D := rp_dbl C (on_sm (KK C) hP _) R
  rwa [sm_dbl C hP] at D
theorem g_4L : sm (KK C) (nL * 4) (ph p gP) ≠ O := by
  have R := rp_2 C (g_on C) (rp_2 C (g_on C) (g_L C))
  have e : nL + nL + (nL + nL) = nL * 4 := by omega
  rw [e] at R
  intro z
  have := (rp_zero C (dbl_in _) R).mpr z
  rw [gP_4L] at this
  cases this
theorem g_8L : sm (KK C) (nL * 8) (ph p gP) = O := by
  have R := rp_2 C (g_on C) (rp_2 C (g_on C) (rp_2 C (g_on C) (g_L C)))
  have e : nL + nL + (nL + nL) + (nL + nL + (nL + nL)) = nL * 8 := by omega
  rw [e] at R
  exact (rp_zero C (dbl_in _) R).mp gP_8L
theorem g_8 : sm (KK C) 8 (ph p gP) ≠ O := by
  have R0 : Rp p (a2eI gP) (sm (KK C) 1 (ph p gP)) := by rw [sm_one]; exact rp_aff C gP
  have R := rp_2 C (g_on C) (rp_2 C (g_on C) (rp_2 C (g_on C) R0))
  intro z
  have := (rp_zero C (dbl_in _) R).mpr z
  rw [gP_8] at this
  cases this
omit C [NeZero p] in
theorem dvd_8 {M g : Nat} (hM : Prm M) (h : g ∣ M * 8) (lt : g < M * 8) : g ∣ M * 4 ∨ g ∣ 8 := by
  by_cases d : M ∣ g
  · left
    obtain ⟨c, rfl⟩ := d
    have M0 : 0 < M := Nat.lt_trans Nat.zero_lt_one hM.1
    have hc : c ∣ 8 := Nat.dvd_of_mul_dvd_mul_left M0 h
    have hl : c < 8 := Nat.lt_of_mul_lt_mul_left lt
    have : c ∣ 4 := by
      have : c = 0 ∨ c = 1 ∨ c = 2 ∨ c = 3 ∨ c = 4 ∨ c = 5 ∨ c = 6 ∨ c = 7 := by omega
      rcases this with rfl | rfl | rfl | rfl | rfl | rfl | rfl | rfl <;> revert hc <;> decide
    exact Nat.mul_dvd_mul_left M this
  · right
    exact (Nat.Coprime.symm (hM.cop d)).dvd_of_dvd_mul_left h
theorem g_ord (k : Nat) (k0 : 0 < k) (k1 : k < nL * 8) : sm (KK C) k (ph p gP) ≠ O := by
  intro z
  have hg := sm_gcd (KK C) (g_on C) _ _ (g_8L C) z
  have gk : Nat.gcd (nL * 8) k ≤ k := Nat.le_of_dvd k0 (Nat.gcd_dvd_right _ _)
  have gd := Nat.gcd_dvd_left (nL * 8) k
  generalize Nat.gcd (nL * 8) k = g at *
  rcases dvd_8 prL gd (Nat.lt_of_le_of_lt gk k1) with ⟨c, e⟩ | ⟨c, e⟩
  · refine g_4L C ?_
    rw [e, Nat.mul_comm, sm_mul (KK C) (g_on C), hg, sm_O]
  · refine g_8 C ?_
    rw [e, Nat.mul_comm, sm_mul (KK C) (g_on C), hg, sm_O]
theorem p_lt : 2 * p < 2 * (nL * 8) := by
  have h := C.hq
  have : q < ((nL * 8 : Nat) : Int) := by decide +kernel
  generalize nL * 8 = M at *
  omega
theorem kills : Kills C (nL * 8) := fun P hP =>
  killed (KK C) (N := 2 * p) code (fun P _ => code_lt C P) (fun P R h1 h2 e => code_inj C P R h1 h2 e) (g_on C) (g_8L C) (g_ord C) (p_lt C) hP
theorem g_lev : levI 3 = some gP.1 := by
  have on := (on_iff (KK C) _ _).mp (g_on C)
  have sq := xrec_sq C on.symm
  have ho : oncI (xrecI 3, 3) = true := (onc_iff C _).mpr ((on_iff (KK C) _ _).mpr sq)
  rw [lev_onc C 3 ho]
  exact congrArg some (even_uniq C (xrec_in 3) gP_in.1 (xrec_even 3) gP_even (sq.trans on.symm))
theorem g_law : lawP 3 ≠ (0, 1) := by
  rw [← lawP_some (g_lev C)]
  intro z
  refine g_8 C ?_
  have := ph_d3 C (g_on C)
  rw [← this]
  show ph p (d3 (gP.1, 3)) = O
  rw [z, ph_O]
end
theorem num_hd : (37095705934669439343138083508754565189542113879843219016388785533085940283555 : Nat) ^ ((57896044618658097711785492504343953926634992332820282019728792003956564819949 - 1) / 2) % 57896044618658097711785492504343953926634992332820282019728792003956564819949 = 57896044618658097711785492504343953926634992332820282019728792003956564819948 := pm_of 255 (by decide +kernel)
theorem num_two : (2 : Nat) ^ ((57896044618658097711785492504343953926634992332820282019728792003956564819949 - 1) / 2) % 57896044618658097711785492504343953926634992332820282019728792003956564819949 = 57896044618658097711785492504343953926634992332820282019728792003956564819948 := pm_of 255 (by decide +kernel)
theorem pow_cast {a m n r : Nat} (h : a ^ n % m = r) : (a : Int) ^ n % (m : Int) = (r : Int) := by
  subst h; rw [Int.natCast_emod, Int.natCast_pow]
theorem m1_cast : ((57896044618658097711785492504343953926634992332820282019728792003956564819948 : Nat) : Int) = (-1) % ((57896044618658097711785492504343953926634992332820282019728792003956564819949 : Nat) : Int) := by decide +kernel
theorem ctx : ∃ p : Nat, p ≠ 0 ∧ Ctx p :=
  ⟨57896044618658097711785492504343953926634992332820282019728792003956564819949, by decide +kernel, ⟨pr57896044618658097711785492504343953926634992332820282019728792003956564819949, by decide +kernel, by decide +kernel, (pow_cast num_hd).trans m1_cast⟩, rfl, by decide +kernel, (pow_cast num_two).trans m1_cast⟩
theorem ordL_toNat : ordL.toNat = nL := by decide +kernel
theorem ordL_cast : ordL = (nL : Int) := by decide +kernel
theorem big_L : 600 < nL := by decide +kernel
theorem good_law {y : Int} (h : In y) : goodI y = true ↔ lawP y ≠ (0, 1) := by
  obtain ⟨p, hp, C⟩ := ctx
  have := NeZero.mk hp
  exact good_law' C y
theorem law_point {y : Int} (h : In y) (g : goodI y = true) : e2aI (p8I y) = lawP y := by
  obtain ⟨p, hp, C⟩ := ctx
  have := NeZero.mk hp
  exact law_point' C g
theorem order_zero (y : Int) (h : In y) (ho : oncI (xrecI y, y) = true) : zeroI (slowI (p8I y) 253 ordL) = true := by
  obtain ⟨p, hp, C⟩ := ctx
  have := NeZero.mk hp
  exact order_zero' C (kills C) ordL_toNat ho
theorem times_eq {y : Int} (h : In y) (g : goodI y = true) {n : Int} (h0 : 1 ≤ n) (h1 : n ≤ 59) : e2aI (fastI (p8I y) 6 (n.fmod ordL)) = ltI 6 (0, 1) (lawP y) n := by
  obtain ⟨p, hp, C⟩ := ctx
  have := NeZero.mk hp
  exact times_eq' C (kills C) prL big_L ordL_cast g h0 h1
theorem law_first (y : Int) : ∃ K : Nat, lawP ((y + K).fmod q) ≠ (0, 1) ∧ ∀ j : Nat, j < K → lawP ((y + j).fmod q) = (0, 1) := by
  obtain ⟨p, hp, C⟩ := ctx
  have := NeZero.mk hp
  have e : (y + ((3 - y).fmod q).toNat).fmod q = 3 := by
    have h0 : 0 ≤ (3 - y).fmod q := Int.fmod_nonneg_of_pos _ qpos
    rw [Int.toNat_of_nonneg h0, Int.fmod_eq_emod_of_nonneg _ (Int.le_of_lt qpos), Int.fmod_eq_emod_of_nonneg _ (Int.le_of_lt qpos), Int.add_emod_emod]
    have : y + (3 - y) = 3 := by omega
    rw [this]; decide +kernel
  obtain ⟨K, hK, hm⟩ := least (P := fun K : Nat => lawP ((y + K).fmod q) ≠ (0, 1)) ((3 - y).fmod q).toNat (by rw [e]; exact g_law C)
  exact ⟨K, hK, fun j hj => Classical.byContradiction (hm j hj)⟩
end
theorem good_false {y : Int} (h : In y) (e : lawP y = (0, 1)) : goodI y = false := by
  cases hg : goodI y with
  | false => rfl
  | true => exact absurd e ((good_law h).mp hg)
theorem n_mod (z : Int) : (1 + z.fmod 59).fmod ordL = 1 + z.fmod 59 := by
  have h0 := Int.fmod_nonneg_of_pos z (b := 59) (by decide)
  have h1 := Int.fmod_lt_of_pos z (b := 59) (by decide)
  rw [Int.fmod_eq_emod_of_nonneg _ (by decide)]
  exact Int.emod_eq_of_lt (by omega) (Int.lt_trans (b := 100) (by omega) (by decide))
theorem n_ne (z : Int) : (1 + z.fmod 59).fmod ordL ≠ 0 := by
  have h0 := Int.fmod_nonneg_of_pos z (b := 59) (by decide)
  rw [n_mod]; omega
theorem n_hi (z : Int) : 1 + z.fmod 59 < 2 ^ 6 := by
  have h1 := Int.fmod_lt_of_pos z (b := 59) (by decide)
  omega
theorem n_hi' (z : Int) : (1 + z.fmod 59).fmod ordL < 2 ^ 6 := by rw [n_mod]; exact n_hi z
theorem n_eq {y : Int} (h : In y) (g : goodI y = true) (z : Int) : e2aI (fastI (p8I y) 6 ((1 + z.fmod 59).fmod ordL)) = ltI 6 (0, 1) (lawP y) (1 + z.fmod 59) := by
  have h0 := Int.fmod_nonneg_of_pos z (b := 59) (by decide)
  have h1 := Int.fmod_lt_of_pos z (b := 59) (by decide)
  exact times_eq h g (by omega) (by omega)
theorem law_entry2 {z Y : Int} {K : Nat} {vS vP vN : Value} {rest led : Led} {m : Str → Option Value} {a : Addr} {ty t1 t2 : Tok} {n1 : Nat} (hY : z.fmod q = Y) (ey : m (Str.ofString "y") = some (.int Y ty)) (ep : m (Str.ofString "point") = some (.ref a))
    (eS : m (Str.ofString "seed") = some vS) (eP : m (Str.ofString "password") = some vP) (eN : m (Str.ofString "number") = some vN) (hm : (a, tq (0, 1) t1 t2 n1) ∈ led) (hs : ∀ p ∈ rest, p ∈ led) :
    LawJ Y K vS vP vN rest (K + 1) m led := by
  subst hY
  exact law_entry ey ep eS eP eN hm hs
theorem news_law {h₀ h : Heap} {L aP : Addr} {o : Obj} {all led rest : Led} (N : News h₀ L h all) (hm : (aP, o) ∈ led) (hr : ∀ p ∈ rest, p ∈ led) (hs : ∀ p ∈ led, p ∈ all) : News h₀ L h ((aP, o) :: rest) := by
  intro p hp
  rcases List.mem_cons.mp hp with rfl | hp
  · exact N _ (hs _ hm)
  · exact N _ (hs _ (hr _ hp))
theorem told_eq {b c : Array UInt8} {y : Int} {P : Int × Int} (h : In y) (g : goodI y = true) (hP : P = lawP y) (h1 : KBw.bInts b = KTBy.little 32 (encI (e2aI (p8I y)))) (h2 : KBw.bInts c = KTBy.little 32 (encI P)) : (b.toList != c.toList) = false := by
  rw [law_point h g, ← hP, ← h2] at h1
  rw [ints_inj h1]; simp
local macro_rules | `(tactic| walk_at "call ref") => `(tactic| (k_here; (with_reducible show wpAny _ _ (call (Value.ref 417) _) _ _ _); k_dflt (refine' con_useL ?kB ?kI ?kF ?kX ?kN ?kT ?kK ?kC ?kd ?ku ?_; (case kB => k_asm); (case kI => first | assumption | k_asm); (case kF => k_asm); (case kX => first | k_asm | assumption); (case kN => k_asm); (case kT => k_asm); (case kK => first | exact rfl | assumption); (case kC => exact (ct_num _ (by assumption) (by omega))); (case kd => ktr_room); (case ku => ktr_units); intro r9 tl9 h9 tk9 F9 N9 hl9 ho9; (obtain ⟨t9, e9, f9⟩ := ho9; subst e9; subst f9; simp only [List.nil_append] at N9; clear hl9); (try k_sweep); (try dsimp only); (try k_fold))))
set_option hygiene false in
local macro_rules | `(tactic| walk_at "call ref") => `(tactic| (k_here; (with_reducible show wpAny _ _ (call (Value.ref 238) _) _ _ _); k_dflt (refine' con_use ?kB ?kF ?kX ?kN ?kT ?kK ?kC ?kd ?ku ?_; walk_at "c1"; (case kC => exact (ct_getE _ (by k_mem) (by k_mem) (by k_mem) (by first | assumption | exact slow_in _ _ _))); walk_at "c2"; walk_at "o4")))
set_option hygiene false in
local macro_rules | `(tactic| walk_at "call ref") => `(tactic| (k_here; (with_reducible show wpAny _ _ (call (Value.ref 438) _) _ _ _); k_dflt (refine' con_use ?kB ?kF ?kX ?kN ?kT ?kK ?kC ?kd ?ku ?_; walk_at "c1"; (case kC => exact (ct_oct _ (by k_mem) (by assumption))); walk_at "c2"; walk_at "o4")))
set_option hygiene false in
local macro_rules | `(tactic| walk_at "call ref") => `(tactic| (k_here; (with_reducible show wpAny _ _ (call (Value.ref 424) _) _ _ _); k_dflt (refine' con_use ?kB ?kF ?kX ?kN ?kT ?kK ?kC ?kd ?ku ?_; walk_at "c1"; (case kC => exact (ct_lsum _ (by k_mem) (by first | assumption | exact lsum_in _ _ | exact in_zo | exact e2a_in _ | exact ⟨hx9, in_mod⟩) (by k_mem) (by first | assumption | exact lsum_in _ _ | exact in_zo | exact e2a_in _ | exact ⟨hx9, in_mod⟩))); walk_at "c2"; walk_at "o2")))
local macro_rules | `(tactic| walk_at "call ref") => `(tactic| (k_here; (with_reducible show wpAny _ _ (call (Value.ref _) [Value.bytes _ _, Value.str _ _]) _ _ _); k_dflt (refine fromBig (by k_asm) (by k_mem) (by rw [hx_size (by assumption)]; decide) ?_); intro _ _))

local macro_rules | `(tactic| walk_at "tidy") => `(tactic| (
  (with_reducible rename Fr (ghostOf _ _) _ _ _ => tF); (with_reducible rename News (ghostOf _ _) _ _ _ => tN); (with_reducible rename Below _ (ghostOf _ _) _ (ghostOf _ _) => tB); (with_reducible rename Top _ _ _ _ _ (ghostOf _ _) => tT); (with_reducible rename Frag.In _ (ghostOf _ _) => tX); (with_reducible rename Heap.IsList (ghostOf _ _) _ _ => tL);
  revert tX tT tB tN tF tL;
  (repeat ((with_reducible rename Flow → Shared → Prop => z9); clear z9));
  (repeat ((with_reducible rename Value → Shared → Prop => z9); clear z9));
  (repeat ((with_reducible rename Unit → Shared → Prop => z9); clear z9));
  (repeat ((with_reducible rename Fr _ _ _ _ => z9); clear z9));
  (repeat ((with_reducible rename News _ _ _ _ => z9); clear z9));
  (repeat ((with_reducible rename Below _ _ _ _ => z9); clear z9));
  (repeat ((with_reducible rename Top _ _ _ _ _ _ => z9); clear z9));
  (repeat ((with_reducible rename Frag.In _ _ => z9); clear z9));
  intro tX tT tB tN tF tL))
local macro_rules | `(tactic| k_in) => `(tactic| exact Frag.In.keeps (by with_reducible assumption) (Fr.keep (by with_reducible assumption)))
theorem main.tw14946662294154257672 : True := trivial
theorem main.tw11156056980113079860 : True := trivial
theorem main.tw18132893181854203810 : True := trivial
theorem main.tw2227430411747474389 : True := trivial
theorem main.tw6605666738245375177 : True := trivial
theorem main.tw16826212616301561204 : True := trivial
theorem main.tw4531674838462764589 : True := trivial
theorem main.tw12690843524423533682 : True := trivial
theorem main.tw13565518394914824834 : True := trivial
theorem main.tw17705503467451336006 : True := trivial
theorem main.tw10946644238470552705 : True := trivial
theorem main.tw8457982359519705325 : True := trivial
theorem main.tw11676434600657463091 : True := trivial
theorem main.tw4592260682591058475 : True := trivial
theorem main.tw587328917346081906 : True := trivial
theorem main.tw4749052000479324790 : True := trivial
theorem main.tw16451033083921036709 : True := trivial
theorem main.tw2110754180369666209 : True := trivial
theorem main.tw11785714552879321826 : True := trivial
theorem main.tw17297283025540448806 : True := trivial
theorem main.tw1237213260794269271 : True := trivial
theorem main.tw12277023271486646383 : True := trivial
theorem main.tw387501639795913443 : True := trivial
theorem main.tw13876859957761632879 : True := trivial
theorem main.tw7153082081811710619 : True := trivial
theorem main.tw17223442867436993403 : True := trivial
theorem main.tw962032349192862916 : True := trivial
theorem main.tw14009396871252706886 : True := trivial
theorem main.tw18421580907717582127 : True := trivial
theorem main.tw3583811862363856187 : True := trivial
theorem main.tw17737603089517620647 : True := trivial
theorem main.tw15485851114877660061 : True := trivial
theorem main.tw1778151581696382138 : True := trivial
theorem main.tw12431731261707249289 : True := trivial
theorem main.tw834873547066669988 : True := trivial
theorem main.tw2406621943657119228 : True := trivial
theorem main.tw8663697691656813868 : True := trivial
theorem main.tw3521995779814947976 : True := trivial
theorem main.tw952227130904198133 : True := trivial
theorem main.tw4490809748136132443 : True := trivial
theorem main.tw18302614123550932261 : True := trivial
theorem main.tw9121559901702372667 : True := trivial
theorem main.tw17272174723667511238 : True := trivial
theorem main.tw15554039934745177238 : True := trivial
theorem main.tw14097447854668400296 : True := trivial
theorem main.tw1390771862084280389 : True := trivial
theorem main.tw13503263706703578961 : True := trivial
theorem main.tw8762221988292496505 : True := trivial
theorem main.tw5396188567872606041 : True := trivial
theorem main.tw2524017781993486291 : True := trivial
theorem main.tw9498315638749924794 : True := trivial
theorem main.tw6545385358150927430 : True := trivial
theorem main.tw5532463470591059822 : True := trivial
theorem main.tw6389877041954997217 : True := trivial
theorem main.tw5995161000843957690 : True := trivial
theorem main.tw1453356044741674121 : True := trivial
theorem main.tw9561784451562097942 : True := trivial
theorem main.tw6557543464795787104 : True := trivial
theorem main.tw8440099810896429113 : True := trivial
theorem main.tw4900431672193113347 : True := trivial
theorem main.tw14639212616227390028 : True := trivial
theorem main.tw7974275031393228247 : True := trivial
theorem main.tw2279707942289718827 : True := trivial
theorem main.tw17336282652733537790 : True := trivial
theorem main.tw12057704586751987240 : True := trivial
theorem main.tw5665735395497279834 : True := trivial
theorem main.tw6862492499505807319 : True := trivial
theorem main.tw14169806772754483665 : True := trivial
theorem main.tw3343439749351644125 : True := trivial
theorem main.tw1777545030009416734 : True := trivial
theorem main.tw2238316416991798583 : True := trivial
theorem main.tw15270170921892066516 : True := trivial
theorem main.tw2583023086579268501 : True := trivial
theorem main.tw7214478077546791972 : True := trivial
theorem main.tw14457758005677747962 : True := trivial
theorem main.tw16320729459185622934 : True := trivial
theorem main.tw3299218664060906527 : True := trivial
theorem main.tw16832360635688203351 : True := trivial
theorem main.tw13110577991587790113 : True := trivial
theorem main.tw9557352009045844224 : True := trivial
theorem main.tw5372645768047454471 : True := trivial
theorem main.tw17477492558424962760 : True := trivial
theorem main.tw2724176850512262202 : True := trivial
theorem main.tw3394367416137920725 : True := trivial
theorem main.tw7590696779544312186 : True := trivial
theorem main.tw4650958065196391918 : True := trivial
theorem main.tw5102693214775723256 : True := trivial
theorem main.tw15803610866087392283 : True := trivial
theorem main.tw9508770018378322450 : True := trivial
theorem main.tw16922381011570985944 : True := trivial
theorem main.tw13642826006792871662 : True := trivial
theorem main.tw12646911602827044314 : True := trivial
theorem main.tw13113777628852026922 : True := trivial
theorem main.tw16008457594558532635 : True := trivial
theorem main.tw1587290215689348708 : True := trivial
theorem main.tw765107192605250810 : True := trivial
theorem main.tw7173623326730630234 : True := trivial
theorem main.tw9897820754763898449 : True := trivial
theorem main.tw4544244032028310869 : True := trivial
theorem main.tw2921621734765799159 : True := trivial
theorem main.tw17353955331779342651 : True := trivial
theorem main.tw1628013610222277130 : True := trivial
theorem main.tw14313897822631088780 : True := trivial
theorem main.tw4605139254293405059 : True := trivial
theorem main.tw18442785490491869365 : True := trivial
theorem main.tw3045742163950154196 : True := trivial
theorem main.tw2702614204127132176 : True := trivial
theorem main.tw10204856939554784155 : True := trivial
theorem main.tw15955573374722617477 : True := trivial
theorem main.tw12670839924663504800 : True := trivial
theorem main.tw13693970394777133609 : True := trivial
theorem main.tw341453280667917650 : True := trivial
theorem main.tw9483120023164983764 : True := trivial
theorem main.tw656089360051881306 : True := trivial
theorem main.tw3752486804209808556 : True := trivial
theorem main.tw15514936471743626214 : True := trivial
theorem main.tw10821422270917381399 : True := trivial
theorem main.tw15079240505294077160 : True := trivial
theorem main.tw4651154628705390771 : True := trivial
theorem main.tw5518243967957118194 : True := trivial
theorem main.tw2821470743931037460 : True := trivial
theorem main.tw17725498274588495791 : True := trivial
theorem main.tw1409966394225722968 : True := trivial
theorem main.tw16136984950599521427 : True := trivial
theorem main.tw12455012482086183272 : True := trivial
theorem main.tw2019394398466159022 : True := trivial
theorem main.tw8207831470162742035 : True := trivial
theorem main.tw961187720498965250 : True := trivial
theorem main.tw6222487380544312443 : True := trivial
theorem main.tw15060185592220127646 : True := trivial
theorem main.tw6655696309031964122 : True := trivial
theorem main.tw1429040668314091153 : True := trivial
theorem main.tw15643365686152983790 : True := trivial
theorem main.tw13591255225166038476 : True := trivial
theorem main.tw9268297945177815525 : True := trivial
theorem main.tw14759895335926876869 : True := trivial
theorem main.tw5160751907100791332 : True := trivial
theorem main.tw31828345220925962 : True := trivial
theorem main.tw14635473669698735251 : True := trivial
theorem main.tw3557749057250611081 : True := trivial
theorem main.tw1504049600530537962 : True := trivial
theorem main.tw7074144079889050967 : True := trivial
theorem main.tw6508729118710982530 : True := trivial
theorem main.tw16721930046160240684 : True := trivial
theorem main.tw12941917028564957548 : True := trivial
theorem main.tw13224007501803129859 : True := trivial
theorem main.tw14788915703135433725 : True := trivial
theorem main.tw13962693860625380366 : True := trivial
theorem main.tw5061512775090418087 : True := trivial
theorem main.tw9681375758050803366 : True := trivial
theorem main.tw13777938177461255882 : True := trivial
theorem main.tw16819838333489098493 : True := trivial
theorem main.tw9682133043923132273 : True := trivial
theorem main.tw14646587721710459877 : True := trivial
theorem main.tw3234112476842188716 : True := trivial
theorem main.tw11261727412033496967 : True := trivial
theorem main.tw12273490649430754879 : True := trivial
theorem main.tw12483276189755474720 : True := trivial
theorem main.tw6511744376749373798 : True := trivial
theorem main.tw7083192437325867461 : True := trivial
theorem main.tw9274054859765456524 : True := trivial
theorem main.tw6635558491612396129 : True := trivial
theorem main.tw3027586509356016917 : True := trivial
theorem main.tw15734660467963936456 : True := trivial
theorem main.tw9730157408454304684 : True := trivial
theorem main.tw16656740534632174751 : True := trivial
theorem main.tw17958375852430007124 : True := trivial
theorem main.tw16519101796099990279 : True := trivial
theorem main.tw3934531018447913466 : True := trivial
theorem main.tw13219505800766818778 : True := trivial
theorem main.tw15768048840197415361 : True := trivial
theorem main.tw7761410557224570781 : True := trivial
theorem main.tw6418098437765475518 : True := trivial
theorem main.tw12431561837914552411 : True := trivial
theorem main.tw15303317825217679618 : True := trivial
theorem main.tw9512817274939609580 : True := trivial
theorem main.tw8652556701797213591 : True := trivial
theorem main.tw2906824675625879941 : True := trivial
theorem main.tw3829396358689915599 : True := trivial
theorem main.tw10363585996791799541 : True := trivial
theorem main.tw14106445559736802775 : True := trivial
theorem main.tw1678875084529416142 : True := trivial
theorem main.tw4126091431370883743 : True := trivial
theorem main.tw9976160756891316704 : True := trivial
theorem main.tw5649967823195072380 : True := trivial
theorem main.tw4324958949535026087 : True := trivial
theorem main.tw3613476055612923068 : True := trivial
theorem main.tw4812270449578504274 : True := trivial
theorem main.tw12298629886278197574 : True := trivial
theorem main.tw16480584520131690045 : True := trivial
theorem main.tw16629339528299215175 : True := trivial
theorem main.tw8079908401900000222 : True := trivial
theorem main.tw11982392923317675503 : True := trivial
theorem main.tw16950194794029067938 : True := trivial
theorem main.tw917386388269078853 : True := trivial
theorem main.tw5585478044538960755 : True := trivial
theorem main.tw12885385263037960081 : True := trivial
theorem main.tw11815829001073249272 : True := trivial
theorem main.tw3706830351922483016 : True := trivial
theorem main.tw14907226015203709474 : True := trivial
theorem main.tw5436791530062809996 : True := trivial
theorem main.tw17708487481403421675 : True := trivial
theorem main.tw5418533224930618480 : True := trivial
theorem main.tw15017983477296125989 : True := trivial
theorem main.tw6053611964639427726 : True := trivial
theorem main.tw16952715711813285254 : True := trivial
theorem main.tw6541472054586571296 : True := trivial
theorem main.tw6044114016751833949 : True := trivial
theorem main.tw14722489848711283861 : True := trivial
theorem main.tw13180746182150919023 : True := trivial
theorem main.tw10234815189450012239 : True := trivial
theorem main.tw1615956725737779560 : True := trivial
theorem main.tw1632041292262086317 : True := trivial
theorem main.tw10669944970481658594 : True := trivial
theorem main.tw10665089971535097683 : True := trivial
theorem main.tw5240779543111244032 : True := trivial
theorem main.tw16008252555379753968 : True := trivial
theorem main.tw2852251193174398662 : True := trivial
theorem main.tw6161133996638707016 : True := trivial
theorem main.tw1677766988990989824 : True := trivial
theorem main.tw9994787619460420439 : True := trivial
theorem main.tw18134284020713443437 : True := trivial
theorem main.tw14672674291997333471 : True := trivial
theorem main.tw2759098988195820126 : True := trivial
theorem main.tw11101190512080308003 : True := trivial
theorem main.tw4072190877284726289 : True := trivial
theorem main.tw18063282731904131703 : True := trivial
theorem main.tw4585930131862741453 : True := trivial
theorem main.tw11120327062377616369 : True := trivial
theorem main.tw7699798408344515789 : True := trivial
theorem main.tw12900284412222446716 : True := trivial
theorem main.tw2566753976717531306 : True := trivial
theorem main.tw5401703158475992631 : True := trivial
theorem main.tw452746233719593009 : True := trivial
theorem main.tw4990475226369331113 : True := trivial
theorem main.tw66260789543402106 : True := trivial
theorem main.tw16193401482309157537 : True := trivial
theorem main.tw9376575566392132001 : True := trivial
theorem main.tw11221353774195762014 : True := trivial
theorem main.tw10199874654664476236 : True := trivial
theorem main.tw11752208632293872130 : True := trivial
theorem main.tw17052023290607921161 : True := trivial
theorem main.tw11710404883906591787 : True := trivial
theorem main.tw3549514262204291990 : True := trivial
theorem main.tw15131278010643852716 : True := trivial
theorem main.tw17561526911342447988 : True := trivial
theorem main.tw14793117695081215449 : True := trivial
theorem main.tw13724616953566380437 : True := trivial
theorem main.tw6912675738884088206 : True := trivial
theorem main.tw12343854547171428336 : True := trivial
theorem main.tw13350764725976880583 : True := trivial
theorem main.tw16529122135450516458 : True := trivial
theorem main.tw13293747886898857621 : True := trivial
theorem main.tw4839478117068044826 : True := trivial
theorem main.tw17236958762192778904 : True := trivial
theorem main.tw13355152605343272895 : True := trivial
theorem main.tw1850612553970854742 : True := trivial
theorem main.tw979501456738626862 : True := trivial
theorem main.tw15737690656516749961 : True := trivial
theorem main.tw10642606787283503386 : True := trivial
theorem main.tw221909299271738847 : True := trivial
theorem main.tw11544348965984651327 : True := trivial
theorem main.tw8557395850702784662 : True := trivial
theorem main.tw4775608329324902142 : True := trivial
theorem main.tw8905464785575363620 : True := trivial
theorem main.tw4261964983698606537 : True := trivial
theorem main.tw9272984997812220495 : True := trivial
theorem main.tw8466321980469482115 : True := trivial
theorem main.tw4458048076830672230 : True := trivial
theorem main.tw1130211791997205004 : True := trivial
theorem main.tw17091655785135471103 : True := trivial
theorem main.tw9360745474812902239 : True := trivial
theorem main.tw11987853993630220354 : True := trivial
theorem main.tw17292155258170135553 : True := trivial
theorem main.tw8228058824784995430 : True := trivial
theorem main.tw17201416709059790184 : True := trivial
theorem main.tw13132915859168520264 : True := trivial
theorem main.tw9670510015898674028 : True := trivial
theorem main.tw14080665800827857628 : True := trivial
theorem main.tw4333880214566435006 : True := trivial
theorem main.tw9155575984036265788 : True := trivial
theorem main.tw5473700226181020891 : True := trivial
theorem main.tw12922898485456448571 : True := trivial
theorem main.tw18284262389922463811 : True := trivial
theorem main.tw1306636233014830658 : True := trivial
theorem main.tw451873465583785326 : True := trivial
theorem main.tw16452447596832230105 : True := trivial
theorem main.tw10298723112805639129 : True := trivial
theorem main.tw1439166485080882 : True := trivial
theorem main.tw6696893160125735727 : True := trivial
theorem main.tw104360540948158410 : True := trivial
theorem main.tw7846812961960373227 : True := trivial
theorem main.tw17715262827843222689 : True := trivial
theorem main.tw16035907590883218939 : True := trivial
theorem main.tw4681395471914393968 : True := trivial
theorem main.tw17057053908230417247 : True := trivial
theorem main.tw17402982504261768225 : True := trivial
theorem main.tw12702744160499308131 : True := trivial
theorem main.tw5400957986263281647 : True := trivial
theorem main.tw14027531716089632829 : True := trivial
theorem main.tw11461230924637031220 : True := trivial
theorem main.tw10334261112615635914 : True := trivial
theorem main.tw4039676971129161736 : True := trivial
theorem main.tw6660377722381337597 : True := trivial
theorem main.tw4365514962571936147 : True := trivial
theorem main.tw15109750227778091905 : True := trivial
theorem main.tw5571399437266216444 : True := trivial
theorem main.tw3960113756560652017 : True := trivial
theorem main.tw4038153913678941442 : True := trivial
theorem main.tw5613160597433933154 : True := trivial
theorem main.tw13270728482189477470 : True := trivial
theorem main.tw6886502059237256666 : True := trivial
theorem main.tw1156462466702112376 : True := trivial
theorem main.tw7221758910455160077 : True := trivial
theorem main.tw10450603732522932521 : True := trivial
theorem main.tw15624239662980076321 : True := trivial
theorem main.tw10707853282979444102 : True := trivial
theorem main.tw12518504611687188807 : True := trivial
theorem main.tw7113585516715319716 : True := trivial
theorem main.tw10094358506670053839 : True := trivial
theorem main.tw52199770228462824 : True := trivial
theorem main.tw5665406974723832613 : True := trivial
theorem main.tw2496676261509829067 : True := trivial
theorem main.tw15806524323241146399 : True := trivial
theorem main.tw9656510801202774680 : True := trivial
theorem main.tw330327031418712150 : True := trivial
theorem main.tw7235775444256392728 : True := trivial
theorem main.tw8478376212529829071 : True := trivial
theorem main.tw5240536507193477226 : True := trivial
theorem main.tw12623159325031504133 : True := trivial
theorem main.tw10391951854915411234 : True := trivial
theorem main.tw1157997071576566072 : True := trivial
theorem main.tw14909365282108701170 : True := trivial
theorem main.tw5084117380071580128 : True := trivial
theorem main.tw2195194259037543316 : True := trivial
theorem main.tw8748973510418095054 : True := trivial
theorem main.tw8627561154394265716 : True := trivial
theorem main.tw18325589031809861271 : True := trivial
theorem main.tw12732289081945773324 : True := trivial
theorem main.tw7268301785047649679 : True := trivial
theorem main.tw9190990891756207365 : True := trivial
theorem main.tw14218914174604095658 : True := trivial
theorem main.tw1236483940969888574 : True := trivial
theorem main.tw1496695287857109588 : True := trivial
theorem main.tw3562595001068472590 : True := trivial
theorem main.tw6449824600675878752 : True := trivial
theorem main.tw16411370214107742406 : True := trivial
theorem main.tw2007339730380871907 : True := trivial
theorem main.tw4189750870438640210 : True := trivial
theorem main.tw12927740378394474205 : True := trivial
theorem main.tw12093647306153771053 : True := trivial
theorem main.tw15984706205718930553 : True := trivial
theorem main.tw73751810991705359 : True := trivial
theorem main.tw16778611742570070204 : True := trivial
theorem main.tw16965079339398995527 : True := trivial
theorem main.tw3796207824708393856 : True := trivial
theorem main.tw16049902774474827687 : True := trivial
theorem main.tw18315214858253571532 : True := trivial
theorem main.tw10877679251791092727 : True := trivial
theorem main.tw18190005008629794160 : True := trivial
theorem main.tw3627144658338631552 : True := trivial
theorem main.tw4297412468100583042 : True := trivial
theorem main.tw9957550378297406723 : True := trivial
theorem main.tw12361340156312767134 : True := trivial
theorem main.tw11403851563620829512 : True := trivial
theorem main.tw12839114828313443825 : True := trivial
theorem main.tw16102231251864390963 : True := trivial
theorem main.tw1178595665728414349 : True := trivial
theorem main.tw5203219222101121401 : True := trivial
theorem main.tw9361300454564663673 : True := trivial
theorem main.tw9563168847844234846 : True := trivial
theorem main.tw10047389527955405517 : True := trivial
theorem main.tw5781596087445459943 : True := trivial
theorem main.tw14439473939278146460 : True := trivial
theorem main.tw14061640607465278742 : True := trivial
theorem main.tw12872379398031375081 : True := trivial
theorem main.tw2433702464844828792 : True := trivial
theorem main.tw7439787175107056256 : True := trivial
theorem main.tw223528310411579522 : True := trivial
theorem main.tw15491723280356408159 : True := trivial
theorem main.tw9925469786538053656 : True := trivial
theorem main.tw18403998269306519403 : True := trivial
theorem main.tw4637267157515435788 : True := trivial
theorem main.tw2538046985915079169 : True := trivial
theorem main.tw6361450105264607166 : True := trivial
theorem main.tw33456957511925785 : True := trivial
theorem main.tw10140136200207757160 : True := trivial
theorem main.tw9069182735580402390 : True := trivial
theorem main.tw4452170602077327944 : True := trivial
theorem main.tw8930851030842425676 : True := trivial
theorem main.tw5871769198996169552 : True := trivial
theorem main.tw4026956272090484662 : True := trivial
theorem main.tw15465920861327815835 : True := trivial
theorem main.tw17679725944135375923 : True := trivial
theorem main.tw11501822485730972192 : True := trivial
theorem main.tw7698036289167662538 : True := trivial
theorem main.tw6162249291895867263 : True := trivial
theorem main.tw302440914744352476 : True := trivial
theorem main.tw10159738436595150677 : True := trivial
theorem main.tw6785657489111691699 : True := trivial
theorem main.tw15734200111481486640 : True := trivial
theorem main.tw10625486282989778954 : True := trivial
theorem main.tw16153842264607907944 : True := trivial
theorem main.tw1054321117371714560 : True := trivial
theorem main.tw7186131708394509389 : True := trivial
theorem main.tw1714950047550659301 : True := trivial
theorem main.tw3454311308915712629 : True := trivial
theorem main.tw1118068078248606362 : True := trivial
theorem main.tw18302796317244248524 : True := trivial
theorem main.tw6385024630547198690 : True := trivial
theorem main.tw13803360072150633466 : True := trivial
theorem main.tw13667920496262714385 : True := trivial
theorem main.tw17510229520200029679 : True := trivial
theorem main.tw1099256609624015869 : True := trivial
theorem main.tw1270039299266317192 : True := trivial
theorem main.tw13626721169425172152 : True := trivial
theorem main.tw8729708805864041840 : True := trivial
theorem main.tw11251407683458634364 : True := trivial
theorem main.tw3466206800631347469 : True := trivial
theorem main.tw18332899500509843999 : True := trivial
theorem main.tw15595112118272840620 : True := trivial
theorem main.tw2544328076492683441 : True := trivial
theorem main.tw716429049611869786 : True := trivial
theorem main.tw7514964652732493775 : True := trivial
theorem main.tw9756827057097773860 : True := trivial
theorem main.tw9265829497004654079 : True := trivial
set_option Elab.async true in
set_option maxHeartbeats 16000000 in
theorem main : PySem.Challenge.rw_jy0031_01.Holds := by
  (w_on; o_law; k_head; (case hw => w_witness2); w_strict (
  k_go0
  (with_reducible show wpAny _ _ _ _ _ _)
  k_fold
  (rename List Int => ns)
  repeat' ((fail_if_success (with_reducible show wpAny _ _ (call (Value.builtin "int.to_bytes") _) _ _ _)); first | (k_unfold; (try dsimp only)) | (k_end; wrow_close) | walk1 | (dsimp only; walk1) | (leave1; walk_say "STEP leave1"; try dsimp only) | fail "no step")
  refine toLittle (k := 40) (by decide) (Int.fmod_nonneg_of_pos _ (by decide +kernel)) (Int.fmod_lt_of_pos _ (by decide +kernel)) ?_
  intro bs ts ks hbs
  repeat' ((fail_if_success (with_reducible show wpAny _ _ (subscriptTail _ _ _ _) _ _ _)); first | (k_unfold; (try dsimp only)) | (k_end; wrow_close) | walk1 | (dsimp only; walk1) | (leave1; walk_say "STEP leave1"; try dsimp only) | fail "no step")
  walk_at "tidy"
  (with_reducible rename Fr (ghostOf _ _) _ _ _ => F1)
  (with_reducible rename News (ghostOf _ _) _ _ _ => N1)
  (rename IntsAre _ _ => hI)
  obtain ⟨tj, hj⟩ := six_item (numI _ 1)
  refine subscriptTail_builtinR (News.isList N1 (.head _)).typeIs slot_list_getitem.lookup (wpAny_getItem_list (News.isList N1 (.head _)) (Int.fmod_nonneg_of_pos _ (by decide)) (six_fit _) hj ⟨rfl, ?_⟩) (by with_unfolding_all rfl)
  repeat' ((fail_if_success (with_reducible show wpAny _ _ (subscriptTail _ _ _ _) _ _ _)); first | (k_unfold; (try dsimp only)) | (k_end; wrow_close) | walk1 | (dsimp only; walk1) | (leave1; walk_say "STEP leave1"; try dsimp only) | fail "no step")
  (with_reducible show wpAny _ _ (subscriptTail _ _ _ _) _ _ _)
  (with_reducible rename Fr (ghostOf _ _) _ _ _ => F1)
  (with_reducible rename News (ghostOf _ _) _ _ _ => N1)
  refine KBc.slice_K (s := ⟨_, _, _, _, _⟩) F1 N1 hbs (by constructor) (by constructor) (by rw [KTBy.little_length]; decide) ?_
  intro h5 t5 k5 F5 N5 kc5
  clear F1 N1
  have hsd := cut_size kc5 (by rw [KTBy.little_length]; decide)
  generalize KBy.picked bs none (some (lenZ (numI _ 1))) = sd at kc5 hsd ⊢
  clear hbs
  repeat' ((fail_if_success (with_reducible show wpAny _ _ (call (Value.builtin "int.to_bytes") _) _ _ _)); first | (k_unfold; (try dsimp only)) | (k_end; wrow_close) | walk1 | (dsimp only; walk1) | (leave1; walk_say "STEP leave1"; try dsimp only) | fail "no step")
  refine toLittle (k := 9) (by decide) (Int.fmod_nonneg_of_pos _ (by decide +kernel)) (Int.fmod_lt_of_pos _ (by decide +kernel)) ?_
  intro bp tp kp hbp
  walk_at "tidy"
  repeat' ((fail_if_success (with_reducible show wpAny _ _ (subscriptTail _ _ _ _) _ _ _)); first | (k_unfold; (try dsimp only)) | (k_end; wrow_close) | walk1 | (dsimp only; walk1) | (leave1; walk_say "STEP leave1"; try dsimp only) | fail "no step")
  (with_reducible show wpAny _ _ (subscriptTail _ _ _ _) _ _ _)
  walk_at "tidy"
  (with_reducible rename Fr (ghostOf _ _) _ _ _ => F1)
  (with_reducible rename News (ghostOf _ _) _ _ _ => N1)
  refine KBc.slice_K (s := ⟨_, _, _, _, _⟩) F1 N1 hbp (by constructor) (by constructor) (by rw [KTBy.little_length]; decide) ?_
  intro h6 t6 k6 F6 N6 kc6
  clear F1 N1
  have hpd := cut_size kc6 (by rw [KTBy.little_length]; decide)
  generalize KBy.picked bp none (some ((numI _ 3).fmod 10)) = pd at kc6 hpd ⊢
  clear hbp
  repeat' ((fail_if_success (with_reducible show wpAny _ _ (exec (Stmt.While _ _ _ _) _) _ _ _)); first | (k_unfold; (try dsimp only)) | (k_end; wrow_close) | walk1 | (dsimp only; walk1) | (leave1; walk_say "STEP leave1"; try dsimp only) | fail "no step")
  walk_at "tidy"
  (with_reducible rename Fr (ghostOf _ _) _ _ _ => F1)
  (with_reducible rename News (ghostOf _ _) _ _ _ => N1)
  (rename KBw.bInts _ = shaI _ => i9)
  rw [i9, kc5] at F1
  obtain ⟨K, hK, hKmin⟩ := law_first ((KFB.value (shaI (cutI (KTBy.little 40 ((numI ns 0).fmod (256 ^ Int.toNat 40))) (lenZ (numI ns 1))))).fmod q)
  have hgood := (good_law in_mod).mpr hK
  have hbad := fun j hj => good_false in_mod (hKmin j hj)
  generalize hY : ((KFB.value (shaI (cutI (KTBy.little 40 ((numI ns 0).fmod (256 ^ Int.toNat 40))) (lenZ (numI ns 1))))).fmod q) = Y at F1 hK hKmin hgood hbad
  refine While_inv2 (LawJ Y K _ _ _ _) (n₀ := K + 1) F1 N1 (law_entry2 hY rfl rfl rfl rfl rfl (by k_mem) (fun _ hp => hp)) ?_
  clear F1 N1
  rintro k1 m₁ led h₁ tk₁ F2 N2 ⟨k, P, aP, ty, u1, u2, i1, rfl, hPk, e1, e2, e3, e4, e5, hmP, hPin, hrest⟩
  replace F2 := fr_set (x := Str.ofString "y") (fr_set (x := Str.ofString "point") (fr_set (x := Str.ofString "seed") (fr_set (x := Str.ofString "password") (fr_set (x := Str.ofString "number") F2 e5) e4) e3) e2) e1
  repeat' ((fail_if_success (with_reducible show wpAny _ _ (call (Value.ref 445) _) _ _ _)); (fail_if_success (with_reducible show wpAny _ _ (call (Value.ref 410) _) _ _ _)); first | (k_unfold; (try dsimp only)) | (k_end; wrow_close) | walk1 | (dsimp only; walk1) | (leave1; walk_say "STEP leave1"; try dsimp only) | fail "no step")
  · (rename (P.1 == 0 && P.2 == 1) = true => hpt)
    obtain rfl := pt_eq hpt
    have hkK := law_k hPk rfl hK
    (k_dflt (refine' con_use ?kB ?kF ?kX ?kN ?kT ?kK ?kC ?kd ?ku ?_; (case kB => k_asm); (case kF => k_asm); (case kX => first | k_asm | assumption); (case kN => k_asm); (case kT => k_asm); (case kK => first | exact rfl | assumption); (case kC => exact (ct_lev _ in_mod)); (case kd => ktr_room); (case ku => ktr_units); intro r9 tl9 h9 tk9 F9 N9 hl9 ho9; (obtain ⟨e9, f9⟩ := ho9; subst e9; simp only [List.nil_append] at N9; clear hl9); (try k_sweep); (try dsimp only); (try k_fold)))
    generalize hlv : levI _ = o9 at f9
    cases o9 with
    | none =>
      dsimp only at f9
      subst f9
      k_steps
      dsimp only [WhileStep2]
      exact ⟨_, _, _, _, K + 1 - (k + 1), rfl, by assumption, by assumption, by omega, law_next ((lawP_none hlv).symm) hkK hKmin rfl rfl rfl rfl rfl (by k_mem) (in_zo) (by (intro p9 hp9; have hp9 := hrest p9 hp9; repeat (first | exact hp9 | refine List.Mem.tail _ ?_)))⟩
    | some x9 =>
      obtain ⟨t9, rfl⟩ := f9
      have hx9 := lev_in hlv
      repeat' ((fail_if_success (with_reducible show wpAny _ _ (call (Value.ref 424) _) _ _ _)); first | (k_unfold; (try dsimp only)) | (k_end; wrow_close) | walk1 | (dsimp only; walk1) | (leave1; walk_say "STEP leave1"; try dsimp only) | fail "no step")
      (k_dflt (refine' con_use ?kB ?kF ?kX ?kN ?kT ?kK ?kC ?kd ?ku ?_; (case kB => k_asm); (case kF => k_asm); (case kX => first | k_asm | assumption); (case kN => k_asm); (case kT => k_asm); (case kK => first | exact rfl | assumption); (case kC => exact (ct_lsum (v := (x9, (Y + k).fmod q)) (r := (x9, (Y + k).fmod q)) _ (by k_mem) ⟨hx9, in_mod⟩ (by k_mem) ⟨hx9, in_mod⟩)); (case kd => ktr_room); (case ku => ktr_units); intro r9 tl9 h9 tk9 F9 N9 hl9 ho9; (obtain ⟨b9, u1, u2, k9, e9, f9⟩ := ho9; subst e9; subst f9; simp only [List.cons_append, List.nil_append] at N9; have l9 := con_lt hl9; clear hl9; (try k_lt l9)); (try k_sweep); (try dsimp only); (try k_fold)))
      k_steps
      (rename ∀ p ∈ led, p.1 < _ => gl)
      refine unr_end (by assumption) (by assumption) (by k_mem) (.head _) (by (intro p9 hp9; repeat (first | exact hp9 | refine List.Mem.tail _ ?_))) (by omega) (fun p hp => Nat.ne_of_lt (Nat.lt_trans (gl p hp) (by omega))) ?_
      repeat' ((fail_if_success (with_reducible show wpAny _ _ (call (Value.ref 424) _) _ _ _)); first | (k_unfold; (try dsimp only)) | (k_end; wrow_close) | walk1 | (dsimp only; walk1) | (leave1; walk_say "STEP leave1"; try dsimp only) | fail "no step")
      (k_dflt (refine' con_use ?kB ?kF ?kX ?kN ?kT ?kK ?kC ?kd ?ku ?_; (case kB => k_asm); (case kF => k_asm); (case kX => first | k_asm | assumption); (case kN => k_asm); (case kT => k_asm); (case kK => first | exact rfl | assumption); (case kC => exact (ct_lsum _ (by k_mem) (lsum_in _ _) (by k_mem) (lsum_in _ _))); (case kd => ktr_room); (case ku => ktr_units); intro r9 tl9 h9 tk9 F9 N9 hl9 ho9; (obtain ⟨b9, u1, u2, k9, e9, f9⟩ := ho9; subst e9; subst f9; simp only [List.cons_append, List.nil_append] at N9; have l9 := con_lt hl9; clear hl9; (try k_lt l9)); (try k_sweep); (try dsimp only); (try k_fold)))
      k_steps
      (rename ∀ p ∈ led, p.1 < _ => gl)
      refine unr_end (by assumption) (by assumption) (by k_mem) (.head _) (by (intro p9 hp9; repeat (first | exact hp9 | refine List.Mem.tail _ ?_))) (by omega) (fun p hp => Nat.ne_of_lt (Nat.lt_trans (gl p hp) (by omega))) ?_
      repeat' ((fail_if_success (with_reducible show wpAny _ _ (call (Value.ref 424) _) _ _ _)); first | (k_unfold; (try dsimp only)) | (k_end; wrow_close) | walk1 | (dsimp only; walk1) | (leave1; walk_say "STEP leave1"; try dsimp only) | fail "no step")
      (k_dflt (refine' con_use ?kB ?kF ?kX ?kN ?kT ?kK ?kC ?kd ?ku ?_; (case kB => k_asm); (case kF => k_asm); (case kX => first | k_asm | assumption); (case kN => k_asm); (case kT => k_asm); (case kK => first | exact rfl | assumption); (case kC => exact (ct_lsum _ (by k_mem) (lsum_in _ _) (by k_mem) (lsum_in _ _))); (case kd => ktr_room); (case ku => ktr_units); intro r9 tl9 h9 tk9 F9 N9 hl9 ho9; (obtain ⟨b9, u1, u2, k9, e9, f9⟩ := ho9; subst e9; subst f9; simp only [List.cons_append, List.nil_append] at N9; have l9 := con_lt hl9; clear hl9; (try k_lt l9)); (try k_sweep); (try dsimp only); (try k_fold)))
      k_steps
      (rename ∀ p ∈ led, p.1 < _ => gl)
      refine unr_end (by assumption) (by assumption) (by k_mem) (.head _) (by (intro p9 hp9; repeat (first | exact hp9 | refine List.Mem.tail _ ?_))) (by omega) (fun p hp => Nat.ne_of_lt (Nat.lt_trans (gl p hp) (by omega))) ?_
      k_steps
      dsimp only [WhileStep2]
      exact ⟨_, _, _, _, K + 1 - (k + 1), rfl, by assumption, by assumption, by omega, law_next (lawP_some hlv) hkK hKmin rfl rfl rfl rfl rfl (by k_mem) (lsum_in _ _) (by (intro p9 hp9; have hp9 := hrest p9 hp9; repeat (first | exact hp9 | refine List.Mem.tail _ ?_)))⟩
  · (rename (P.1 == 0 && P.2 == 1) = false => hpt)
    have hP := law_p hPk (pt_ne hpt)
    clear hPk hKmin
    (with_reducible rename News (ghostOf _ _) _ _ _ => N1)
    replace N1 := news_law N1 hmP hrest (by intro p9 hp9; repeat (first | exact hp9 | refine List.Mem.tail _ ?_))
    (k_dflt (refine' con_use ?kB ?kF ?kX ?kN ?kT ?kK ?kC ?kd ?ku ?_; (case kB => k_asm); (case kF => k_asm); (case kX => first | k_asm | assumption); (case kN => k_asm); (case kT => k_asm); (case kK => first | exact rfl | assumption); (case kC => exact (ct_arb _ hsd (hY.symm.trans (by rw [kc5])) hgood hbad order_zero)); (case kd => ktr_room); (case ku => ktr_units); intro r9 tl9 h9 tk9 F9 N9 hl9 ho9; (obtain ⟨x9, d9, t9, b9, u1, u2, u3, u4, k9, e9, f9, lt9, lu9⟩ := ho9; subst e9; subst f9; simp only [List.cons_append, List.nil_append] at N9; have l9 := con_lt3 hl9; clear hl9; (try k_lt l9); (try k_lt2 lt9); (try k_lt2 lu9)); (try k_sweep); (try dsimp only); (try k_fold)))
    generalize hv8 : p8I ((Y + K).fmod q) = v8 at N9
    have in8 : In4 v8 := by rw [← hv8]; exact slow_in _ _ _
    walk_at "tidy"
    repeat' ((fail_if_success (with_reducible show wpAny _ _ (compareOp _ (Value.bytes _ _) _) _ _ _)); first | (k_unfold; (try dsimp only)) | (k_end; wrow_close) | walk1 | (dsimp only; walk1) | (leave1; walk_say "STEP leave1"; try dsimp only) | fail "no step")
    refine ne_bytes ?_
    rw [told_eq in_mod hgood hP (by rw [hv8]; assumption) (by assumption)]
    repeat' ((fail_if_success (with_reducible show wpAny _ _ (call (Value.ref 280) _) _ _ _)); first | (k_unfold; (try dsimp only)) | (k_end; wrow_close) | walk1 | (dsimp only; walk1) | (leave1; walk_say "STEP leave1"; try dsimp only) | fail "no step")
    (k_dflt (refine' con_use ?kB ?kF ?kX ?kN ?kT ?kK ?kC ?kd ?ku ?_; (case kB => k_asm); (case kF => k_asm); (case kX => first | k_asm | assumption); (case kN => k_asm); (case kT => k_asm); (case kK => first | exact rfl | assumption); (case kC => exact (ct_esmul (k := 6) _ (by k_mem) (by k_mem) (by k_mem) in8 (n_ne _) (n_hi' _))); (case kd => ktr_room); (case ku => ktr_units); intro r9 tl9 h9 tk9 F9 N9 hl9 ho9; (obtain ⟨x9, d9, t9, b9, u1, u2, u3, u4, k9, e9, f9, lt9, lu9⟩ := ho9; subst e9; subst f9; simp only [List.cons_append, List.nil_append] at N9; have l9 := con_lt3 hl9; clear hl9; (try k_lt l9); (try k_lt2 lt9); (try k_lt2 lu9)); (try k_sweep); (try dsimp only); (try k_fold)))
    generalize hvf : fastI v8 6 _ = vf at N9
    have inf : In4 vf := by rw [← hvf]; exact fast_in _ _ _
    walk_at "tidy"
    repeat' ((fail_if_success (with_reducible show wpAny _ _ (call (Value.ref 140) _) _ _ _)); first | (k_unfold; (try dsimp only)) | (k_end; wrow_close) | walk1 | (dsimp only; walk1) | (leave1; walk_say "STEP leave1"; try dsimp only) | fail "no step")
    (k_dflt (refine' con_use ?kB ?kF ?kX ?kN ?kT ?kK ?kC ?kd ?ku ?_; (case kB => k_asm); (case kF => k_asm); (case kX => first | k_asm | assumption); (case kN => k_asm); (case kT => k_asm); (case kK => first | exact rfl | assumption); (case kC => exact (ct_e2a _ (by k_mem) inf)); (case kd => ktr_room); (case ku => ktr_units); intro r9 tl9 h9 tk9 F9 N9 hl9 ho9; (obtain ⟨b9, u1, u2, k9, e9, f9⟩ := ho9; subst e9; subst f9; simp only [List.cons_append, List.nil_append] at N9; have l9 := con_lt hl9; clear hl9; (try k_lt l9)); (try k_sweep); (try dsimp only); (try k_fold)))
    generalize hpe : e2aI vf = pe at N9
    repeat' ((fail_if_success (with_reducible show wpAny _ _ (call (Value.ref 431) _) _ _ _)); first | (k_unfold; (try dsimp only)) | (k_end; wrow_close) | walk1 | (dsimp only; walk1) | (leave1; walk_say "STEP leave1"; try dsimp only) | fail "no step")
    (k_dflt (refine' con_use ?kB ?kF ?kX ?kN ?kT ?kK ?kC ?kd ?ku ?_; (case kB => k_asm); (case kF => k_asm); (case kX => first | k_asm | assumption); (case kN => k_asm); (case kT => k_asm); (case kK => first | exact rfl | assumption); (case kC => exact (ct_times _ (by k_mem) hPin 6 (n_hi _))); (case kd => ktr_room); (case ku => ktr_units); intro r9 tl9 h9 tk9 F9 N9 hl9 ho9; (obtain ⟨b9, u1, u2, k9, e9, f9⟩ := ho9; subst e9; subst f9; simp only [List.cons_append, List.nil_append] at N9; have l9 := con_lt hl9; clear hl9; (try k_lt l9)); (try k_sweep); (try dsimp only); (try k_fold)))
    generalize hpt : ltI 6 (0, 1) P _ = pt at N9
    repeat' ((fail_if_success (with_reducible show wpAny _ _ (compareOp CmpOp.NotEq (Value.ref _) (Value.ref _)) _ _ _)); first | (k_unfold; (try dsimp only)) | (k_end; wrow_close) | walk1 | (dsimp only; walk1) | (leave1; walk_say "STEP leave1"; try dsimp only) | fail "no step")
    obtain rfl : pe = pt := by rw [← hpe, ← hvf, ← hv8, n_eq in_mod hgood, ← hP, hpt]
    repeat' ((fail_if_success (with_reducible show wpAny _ _ (call (Value.ref 196) _) _ _ _)); first | (k_unfold; (try dsimp only)) | (k_end; wrow_close) | walk1 | (dsimp only; walk1) | (leave1; walk_say "STEP leave1"; try dsimp only) | fail "no step")
    (k_dflt (refine' con_use ?kB ?kF ?kX ?kN ?kT ?kK ?kC ?kd ?ku ?_; (case kB => k_asm); (case kF => k_asm); (case kX => first | k_asm | assumption); (case kN => k_asm); (case kT => k_asm); (case kK => first | exact rfl | assumption); (case kC => exact (ct_pw _ hpd)); (case kd => ktr_room); (case ku => ktr_units); intro r9 tl9 h9 tk9 F9 N9 hl9 ho9; (obtain ⟨t9, e9, f9⟩ := ho9; subst e9; subst f9; simp only [List.nil_append] at N9; clear hl9); (try k_sweep); (try dsimp only); (try k_fold)))
    walk_at "tidy"
    repeat' ((fail_if_success (with_reducible show wpAny _ _ (compareOp CmpOp.Eq (Value.int _ _) (Value.int _ _)) _ _ _)); first | (k_unfold; (try dsimp only)) | (k_end; wrow_close) | walk1 | (dsimp only; walk1) | (leave1; walk_say "STEP leave1"; try dsimp only) | fail "no step")
    k_steps
    done))
end Mine
theorem PySem.Challenge.cw_jy0031_01_holds : PySem.Challenge.rw_jy0031_01.Holds :=
  Mine.main
