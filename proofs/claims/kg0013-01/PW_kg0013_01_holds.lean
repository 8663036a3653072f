import PyProof.Rows.All
import Wide.All
import OpenK.AllK
import Wide.FinOn
import PySem.Challenge.RW_kg0013_01
open PySem PySem.W PyProof.Rows
set_option Elab.async false
set_option maxRecDepth 100000
set_option maxHeartbeats 8000000
namespace Mine
open Builtin.Int (intBits)

/-- an equation that the walk's own closers do not see -/
structure Is (v e : Int) : Prop where
  eq : v = e
/-- an int of a bounded number of bits -/
structure Sm (a : Int) : Prop where
  bits : intBits a ≤ 1000000
/-- a goal that the walk leaves alone -/
structure Stop (P : Prop) : Prop where
  go : P

section
variable {prog : Program} {w : World} {A : Around} {E : Value → Shared → Prop} {s : Shared} {a b n : Int} {t u : Tok} {Q : Value → Shared → Prop}
theorem r_shl (h0 : 0 ≤ n) (h1 : n ≤ 50000) (ha : Sm a) (h : ∀ v, Is v (a * 2 ^ n.toNat) → Q (.int v s.toks) { s with toks := s.toks + 1 }) :
    wpAny (model prog w) A (binaryOp .LShift (.int a t) (.int n u)) Q E s :=
  lshift_int h0 (by have := ha.bits; omega) (h _ ⟨rfl⟩)
theorem r_ishl (h0 : 0 ≤ n) (h1 : n ≤ 50000) (ha : Sm a) (h : ∀ v, Is v (a * 2 ^ n.toNat) → Q (.int v s.toks) { s with toks := s.toks + 1 }) :
    wpAny (model prog w) A (inplaceOp .LShift (.int a t) (.int n u)) Q E s :=
  ilshift_int h0 (by have := ha.bits; omega) (h _ ⟨rfl⟩)
theorem r_shr (h0 : 0 ≤ n) (h : ∀ v, Is v (a / 2 ^ n.toNat) → Q (.int v s.toks) { s with toks := s.toks + 1 }) :
    wpAny (model prog w) A (binaryOp .RShift (.int a t) (.int n u)) Q E s :=
  rshift_int h0 (h _ ⟨Int.fdiv_eq_ediv_of_nonneg _ (Int.le_of_lt (Int.pow_pos (by decide)))⟩)
theorem r_shr1 (h : ∀ v, v = a / 2 → Q (.int v s.toks) { s with toks := s.toks + 1 }) :
    wpAny (model prog w) A (binaryOp .RShift (.int a t) (.int 1 u)) Q E s :=
  rshift_int (by decide) (h _ (Int.fdiv_eq_ediv_of_nonneg _ (by decide)))
theorem r_ishr1 (h : ∀ v, Is v (a / 2) → Q (.int v s.toks) { s with toks := s.toks + 1 }) :
    wpAny (model prog w) A (inplaceOp .RShift (.int a t) (.int 1 u)) Q E s :=
  irshift_int (by decide) (h _ ⟨Int.fdiv_eq_ediv_of_nonneg _ (by decide)⟩)
theorem r_and1 (h : ∀ v, v = a % 2 → Q (.int v s.toks) { s with toks := s.toks + 1 }) :
    wpAny (model prog w) A (binaryOp .BitAnd (.int a t) (.int 1 u)) Q E s :=
  and_int (h _ (bitAnd_m1 a))
theorem r_and (h : ∀ v, Is v (Builtin.bitAnd a b) → Q (.int v s.toks) { s with toks := s.toks + 1 }) :
    wpAny (model prog w) A (binaryOp .BitAnd (.int a t) (.int b u)) Q E s := and_int (h _ ⟨rfl⟩)
theorem r_or (h : ∀ v, Is v (Builtin.bitOr a b) → Q (.int v s.toks) { s with toks := s.toks + 1 }) :
    wpAny (model prog w) A (binaryOp .BitOr (.int a t) (.int b u)) Q E s := or_int (h _ ⟨rfl⟩)
theorem r_mul (ha : Sm a) (hb : Sm b) (h : ∀ v, Is v (a * b) → Q (.int v s.toks) { s with toks := s.toks + 1 }) :
    wpAny (model prog w) A (binaryOp .Mult (.int a t) (.int b u)) Q E s :=
  mul_int (h _ ⟨rfl⟩) (IntMulOk.of_le ha.bits hb.bits (by decide))
theorem r_sub (h : ∀ v, Is v (a - b) → Q (.int v s.toks) { s with toks := s.toks + 1 }) :
    wpAny (model prog w) A (binaryOp .Sub (.int a t) (.int b u)) Q E s := sub_int (h _ ⟨rfl⟩)
theorem r_add (h : ∀ v, Is v (a + b) → Q (.int v s.toks) { s with toks := s.toks + 1 }) :
    wpAny (model prog w) A (binaryOp .Add (.int a t) (.int b u)) Q E s := add_int (h _ ⟨rfl⟩)
theorem p_sub (h : ∀ v tk, v = a - b → Q (.int v s.toks) { s with toks := tk }) :
    wpAny (model prog w) A (binaryOp .Sub (.int a t) (.int b u)) Q E s := sub_int (h _ _ rfl)
theorem p_add (h : ∀ v tk, v = a + b → Q (.int v s.toks) { s with toks := tk }) :
    wpAny (model prog w) A (binaryOp .Add (.int a t) (.int b u)) Q E s := add_int (h _ _ rfl)
theorem r_mod (hb : 0 < b) (h : ∀ v tk, 0 ≤ v → v < b → Q (.int v s.toks) { s with toks := tk }) :
    wpAny (model prog w) A (binaryOp .Mod (.int a t) (.int b u)) Q E s :=
  mod_int' (by omega) (h _ _ (Int.fmod_nonneg_of_pos a hb) (Int.fmod_lt_of_pos a hb))
theorem bits2 : intBits 2 = 2 := by decide +kernel
theorem bits10 : intBits 10 = 4 := by decide +kernel
theorem sm_pow {k : Nat} (hk : k ≤ 50000) : Sm (2 ^ k) := ⟨Nat.le_trans (intBits_pow_le (Nat.le_of_eq bits2) k) (by omega)⟩
theorem r_pow2 (h0 : 0 ≤ n) (h1 : n ≤ 50000) (h : ∀ v tk, 0 < v → Sm v → Is v (2 ^ n.toNat) → Q (.int v s.toks) { s with toks := tk }) :
    wpAny (model prog w) A (binaryOp .Pow (.int 2 t) (.int n u)) Q E s :=
  pow_int h0 (by rw [bits2]; omega) (h _ _ (Int.pow_pos (by decide)) (sm_pow (by omega)) ⟨rfl⟩)
theorem sm_pow_add {x p m p' e e' : Int} (hx : x = p + m) (hm0 : 0 ≤ m) (hm : m < p') (hp : Is p (2 ^ e.toNat)) (hp' : Is p' (2 ^ e'.toNat)) (he : e ≤ 50000) (hee : e' = e) : Sm x := by
  subst hee hx
  have e1 : p' = p := hp'.eq.trans hp.eq.symm
  have b : intBits p ≤ 2 * e'.toNat + 1 := by rw [hp.eq]; exact intBits_pow_le (Nat.le_of_eq bits2) _
  have hp0 : 0 < p := by rw [hp.eq]; exact Int.pow_pos (by decide)
  exact ⟨Nat.le_trans (intBits_add_le b (intBits_le_of_natAbs (x := m) (y := p) (by omega) b)) (by omega)⟩
/-- a power of ten: what the law needs of it -/
structure Ten (v : Int) : Prop where
  pos : 0 < v
  bits : intBits v ≤ 4001
theorem r_pow10 (h0 : 0 ≤ n) (h1 : n ≤ 1000) (h : ∀ v tk, 0 < v → Ten v → Q (.int v s.toks) { s with toks := tk }) :
    wpAny (model prog w) A (binaryOp .Pow (.int 10 t) (.int n u)) Q E s :=
  have hp : (0 : Int) < 10 ^ n.toNat := Int.pow_pos (by decide)
  pow_int h0 (by rw [bits10]; omega) (h _ _ hp ⟨hp, Nat.le_trans (intBits_pow_le (Nat.le_of_eq bits10) n.toNat) (by omega)⟩)
theorem r_pow (h0 : 0 ≤ n) (h1 : n ≤ 20) (ha : Sm a) (h : ∀ v tk, Q (.int v s.toks) { s with toks := tk }) :
    wpAny (model prog w) A (binaryOp .Pow (.int a t) (.int n u)) Q E s :=
  pow_int h0 (by
    have h2 := ha.bits
    have h3 : ((intBits a : Nat) : Int) * n ≤ 1000000 * 20 := Int.mul_le_mul (by omega) h1 h0 (by decide)
    exact Int.le_trans h3 (by decide)) (h _ _)
theorem sm_ten {x m c v : Int} (hx : x = m + c) (hm0 : 0 ≤ m) (hm : m < v) (hv : Ten v) (hc : Ten c) : Sm x :=
  hx ▸ ⟨Nat.le_trans (intBits_add_le (intBits_le_of_natAbs (x := m) (y := v) (by omega) hv.bits) hc.bits) (by decide)⟩
end
theorem sm_of {a : Int} {k : Nat} (h0 : 0 ≤ a) (h : a < 2 ^ k) (hk : k ≤ 1000000) : Sm a :=
  ⟨Nat.le_trans (intBits_le_iff.mpr (by
    have e : ((a.natAbs : Nat) : Int) = a := by omega
    have : ((a.natAbs : Nat) : Int) < ((2 ^ k : Nat) : Int) := by rw [e]; simpa using h
    exact Int.ofNat_lt.mp this)) hk⟩
theorem three_of {ws : List Value} {ns : List Int} (h : IntsAre ws (List.take 3 (ns ++ [0, 0, 0]))) :
    ∃ x y z t1 t2 t3, ws = [.int x t1, .int y t2, .int z t3] := by
  have key : ∀ ms : List Int, ms.length = 3 → IntsAre ws ms → ∃ x y z t1 t2 t3, ws = [.int x t1, .int y t2, .int z t3] := by
    intro ms hl hi
    match ms, hl, hi with
    | [x, y, z], _, hi =>
      cases hi with
      | cons _ t1 h1 => cases h1 with
        | cons _ t2 h2 => cases h2 with
          | cons _ t3 h3 => cases h3 with
            | nil => exact ⟨x, y, z, t1, t2, t3, rfl⟩
  exact key _ (by simp) h
section
variable {prog : Program} {w : World} {A : Around} {E : Value → Shared → Prop} {s : Shared} {a b n : Int} {t u : Tok} {Q : Value → Shared → Prop}
theorem p_isub (h : ∀ v, v = a - b → Q (.int v s.toks) { s with toks := s.toks + 1 }) :
    wpAny (model prog w) A (inplaceOp .Sub (.int a t) (.int b u)) Q E s := isub_int (h _ rfl)
theorem p_iadd (h : ∀ v, v = a + b → Q (.int v s.toks) { s with toks := s.toks + 1 }) :
    wpAny (model prog w) A (inplaceOp .Add (.int a t) (.int b u)) Q E s := iadd_int (h _ rfl)
end
theorem WhlBoth {c : Prop} [Decidable c] {T F : Prop} (t : c → T) (f : ¬ c → F) : WhlIf (decide c) T F := by
  unfold WhlIf
  by_cases h : c
  · rw [if_pos (decide_eq_true h)]; exact t h
  · rw [if_neg (by simpa using h)]; exact f h
/-- what a division hands back -/
structure Dv (a b q r : Int) : Prop where
  eq : q * b + r = a
  lo : 0 ≤ r
  hi : r < b
structure Ok2 (k : Nat) (a b n : Int) : Prop where
  n1 : 1 ≤ n
  n2 : n ≤ 4000 * 2 ^ k
  n3 : n ≤ 30000
  a0 : 0 ≤ a
  b1 : 2 ^ n.toNat ≤ 2 * b
  b2 : b < 2 ^ n.toNat
  ab : a < 2 ^ n.toNat * b
structure Ok3 (k : Nat) (a12 a3 b b1 b2 n : Int) : Prop where
  n1 : 1 ≤ n
  n2 : n ≤ 4000 * 2 ^ k
  n3 : n ≤ 30000
  a0 : 0 ≤ a12
  c0 : 0 ≤ a3
  c1 : a3 < 2 ^ n.toNat
  d0 : 0 ≤ b2
  d1 : b2 < 2 ^ n.toNat
  e0 : 2 ^ n.toNat ≤ 2 * b1
  e1 : b1 < 2 ^ n.toNat
  be : b = b1 * 2 ^ n.toNat + b2
  ab : a12 < b

/-- a call of f on vs hands back a new pair, whatever stands around -/
def GivesP (prog : Program) (w : World) (K : Frag) (p : Program) (loose : List Str) (mean : ExcName → Option Value) (mg mb : Str → Option Value) (f : Addr) (vs : List Value) (k : Nat) (P : Int → Int → Prop) : Prop :=
  ∀ (dp un : Nat) (gd : Option (List Code)) (cn : Str) (cs : Scope) (a : Addr) (ccd : Value) (cl : List (Str × Addr)) (outer : List Env) (A₀ : Around) (base h₀ : Heap) (L : Addr) (m : Str → Option Value) (news : List (Addr × Obj)) (s : Shared)
    (Q E : Value → Shared → Prop),
    Below A₀ base outer h₀ → Fr h₀ L s.heap m → K.In h₀ → News h₀ L s.heap news → Top p loose mean mg mb h₀ → cs.kind = .function → dp + k < recursionLimit → un + 8 * k < cLine →
    (∀ q r D t1 t2 c h' tk', P q r → Fr h₀ L h' m → News h₀ L h' ((D, ({ cls := .type "tuple", data := .seq #[.int q t1, .int r t2] c } : Obj)) :: news) → AllLt D news → Q (.ref D) { s with heap := h', toks := tk' }) →
    wpAny (model prog w) (ktrTop dp un gd cn cs L a ccd cl outer) (call (.ref f) vs) Q E s

def Spec2 (prog : Program) (w : World) (K : Frag) (p : Program) (loose : List Str) (mean : ExcName → Option Value) (mg mb : Str → Option Value) (f : Addr) (k : Nat) : Prop :=
  ∀ a b n ta tb tn, Ok2 k a b n → GivesP prog w K p loose mean mg mb f [.int a ta, .int b tb, .int n tn] (2 * k + 1) (Dv a b)
def Spec3 (prog : Program) (w : World) (K : Frag) (p : Program) (loose : List Str) (mean : ExcName → Option Value) (mg mb : Str → Option Value) (f : Addr) (k : Nat) : Prop :=
  ∀ a12 a3 b b1 b2 n ta tb tc td te tn, Ok3 k a12 a3 b b1 b2 n → GivesP prog w K p loose mean mg mb f [.int a12 ta, .int a3 tb, .int b tc, .int b1 td, .int b2 te, .int n tn] (2 * k + 2) (Dv (a12 * 2 ^ n.toNat + a3) b)

theorem pp (k : Nat) : (0 : Int) < 2 ^ k := Int.pow_pos (by decide)

theorem or_add {x y : Int} {k : Nat} (hx : 0 ≤ x) (hy : 0 ≤ y) (h : y < 2 ^ k) : Builtin.bitOr (x * 2 ^ k) y = x * 2 ^ k + y := by
  have hp : 0 ≤ x * 2 ^ k := Int.mul_nonneg hx (Int.le_of_lt (pp k))
  rw [bitOr_and, bitAnd_pp hp hy]
  have e : (x * 2 ^ k).toNat &&& y.toNat = 0 := by
    have e1 : (x * 2 ^ k).toNat = x.toNat <<< k := by
      rw [Nat.shiftLeft_eq]
      have : x * 2 ^ k = ((x.toNat * 2 ^ k : Nat) : Int) := by
        rw [Int.natCast_mul, Int.natCast_pow, Int.toNat_of_nonneg hx]; rfl
      rw [this, Int.toNat_natCast]
    have hy' : y.toNat < 2 ^ k := by
      have : ((y.toNat : Nat) : Int) < ((2 ^ k : Nat) : Int) := by rw [Int.toNat_of_nonneg hy]; simpa using h
      exact Int.ofNat_lt.mp this
    rw [e1]
    apply Nat.eq_of_testBit_eq
    intro i
    rw [Nat.testBit_and, Nat.testBit_shiftLeft, Nat.zero_testBit]
    by_cases hi : i ≥ k
    · have : y.toNat.testBit i = false := Nat.testBit_lt_two_pow (Nat.lt_of_lt_of_le hy' (Nat.pow_le_pow_right (by decide) hi))
      rw [this, Bool.and_false]
    · simp [hi]
  rw [e]
  simp

structure Mid (a12 a3 b b1 b2 n q r : Int) : Prop where
  eq : q * b1 + r = a12
  q0 : 0 ≤ q
  q1 : q < 2 ^ n.toNat
  r0 : 0 ≤ r
  top : r * 2 ^ n.toNat + a3 - q * b2 < b

/-- a number below two to the power twice n -/
theorem ok3_small {k : Nat} {a12 a3 b b1 b2 n : Int} (O : Ok3 k a12 a3 b b1 b2 n) : b < 2 ^ (n.toNat + n.toNat) := by
  have e := O.be
  have h1 := O.e1
  have h2 := O.d1
  rw [Int.pow_add]
  have hP := pp n.toNat
  generalize (2 : Int) ^ n.toNat = P at *
  have : (b1 + 1) * P ≤ P * P := Int.mul_le_mul_of_nonneg_right (by omega) (by omega)
  rw [Int.add_mul] at this
  omega

section
variable {k : Nat} {a12 a3 b b1 b2 n q r v v1 v2 p1 : Int}
theorem sm_b1 (O : Ok3 k a12 a3 b b1 b2 n) : Sm b1 := sm_of (by have := O.e0; have := pp n.toNat; omega) O.e1 (by have := O.n3; omega)
theorem sm_b2 (O : Ok3 k a12 a3 b b1 b2 n) : Sm b2 := sm_of O.d0 O.d1 (by have := O.n3; omega)

theorem mid1 (O : Ok3 k a12 a3 b b1 b2 n) (hr : Is r (v1 + b1)) (h1 : Is v1 (a12 - v2)) (h2 : Is v2 (b1 * 2 ^ n.toNat)) (hq : Is q (p1 - 1)) (hp : Is p1 (1 * 2 ^ n.toNat)) (hv : Is v (a12 / 2 ^ n.toNat)) (e : v = b1) :
    Mid a12 a3 b b1 b2 n q r := by
  have hP := pp n.toNat
  have o1 := O.e0
  have o2 := O.ab
  have o3 := O.be
  have o4 := O.c1
  have o5 := O.c0
  have e1 := hr.eq
  have e2 := h1.eq
  have e3 := h2.eq
  have e4 := hq.eq
  have e5 := hp.eq
  have e6 := hv.eq
  generalize hPP : (2 : Int) ^ n.toNat = P at *
  have d1 := Int.mul_ediv_add_emod a12 P
  have d2 := Int.emod_nonneg a12 (Int.ne_of_gt hP)
  rw [← e6, e] at d1
  have c : P * b1 = b1 * P := Int.mul_comm _ _
  have hr' : r = a12 - b1 * P + b1 := by omega
  have hq' : q = P - 1 := by omega
  refine ⟨?_, by omega, by rw [hPP]; omega, by omega, ?_⟩
  · rw [hr', hq']; grind
  · rw [hPP]
    have t : (a12 + 1) * P ≤ b * P := Int.mul_le_mul_of_nonneg_right (by omega) (by omega)
    have g : r * P + a3 - q * b2 = a12 * P + a3 - b * P + b := by rw [hr', hq', o3]; grind
    rw [g]
    rw [Int.add_mul] at t
    omega

theorem mid_lt (O : Ok3 k a12 a3 b b1 b2 n) (hv : Is v (a12 / 2 ^ n.toNat)) (ne : v ≠ b1) : a12 < 2 ^ n.toNat * b1 := by
  have hP := pp n.toNat
  have o2 := O.ab
  have o3 := O.be
  have o4 := O.d1
  have e6 := hv.eq
  generalize hPP : (2 : Int) ^ n.toNat = P at *
  have d1 := Int.mul_ediv_add_emod a12 P
  have d2 := Int.emod_nonneg a12 (Int.ne_of_gt hP)
  have d3 := Int.emod_lt_of_pos a12 hP
  rw [← e6] at d1
  have c : P * b1 = b1 * P := Int.mul_comm _ _
  rcases Int.lt_or_gt_of_ne ne with h | h
  · have t : P * (v + 1) ≤ P * b1 := Int.mul_le_mul_of_nonneg_left (by omega) (by omega)
    rw [Int.mul_add] at t
    omega
  · have t : P * (b1 + 1) ≤ P * v := Int.mul_le_mul_of_nonneg_left (by omega) (by omega)
    rw [Int.mul_add] at t
    omega

theorem ok2_of3 (O : Ok3 k a12 a3 b b1 b2 n) (hv : Is v (a12 / 2 ^ n.toNat)) (ne : v ≠ b1) : Ok2 k a12 b1 n :=
  ⟨O.n1, O.n2, O.n3, O.a0, O.e0, O.e1, mid_lt O hv ne⟩

theorem mid2 (O : Ok3 k a12 a3 b b1 b2 n) (hv : Is v (a12 / 2 ^ n.toNat)) (ne : v ≠ b1) (D : Dv a12 b1 q r) : Mid a12 a3 b b1 b2 n q r := by
  have hl := mid_lt O hv ne
  have hP := pp n.toNat
  have o0 := O.a0
  have o1 := O.e0
  have o3 := O.be
  have o4 := O.c1
  have o5 := O.d0
  have d1 := D.eq
  have d2 := D.lo
  have d3 := D.hi
  generalize hPP : (2 : Int) ^ n.toNat = P at *
  have q0 : 0 ≤ q := by
    by_cases h : q < 0
    · have t : q * b1 ≤ (-1) * b1 := Int.mul_le_mul_of_nonneg_right (by omega) (by omega)
      omega
    · omega
  have q1 : q < P := by
    by_cases h : q < P
    · exact h
    · have t : P * b1 ≤ q * b1 := Int.mul_le_mul_of_nonneg_right (by omega) (by omega)
      omega
  refine ⟨d1, q0, by rw [hPP]; exact q1, d2, ?_⟩
  rw [hPP]
  have t1 : (r + 1) * P ≤ b1 * P := Int.mul_le_mul_of_nonneg_right (by omega) (by omega)
  have t2 : 0 ≤ q * b2 := Int.mul_nonneg q0 o5
  rw [Int.add_mul] at t1
  omega

theorem sm_q (O : Ok3 k a12 a3 b b1 b2 n) (M : Mid a12 a3 b b1 b2 n q r) : Sm q := sm_of M.q0 M.q1 (by have := O.n3; omega)
theorem sm_r (O : Ok3 k a12 a3 b b1 b2 n) (M : Mid a12 a3 b b1 b2 n q r) : Sm r := by
  refine sm_of (k := n.toNat + n.toNat) M.r0 ?_ (by have := O.n3; omega)
  have h := ok3_small O
  have h1 := O.ab
  have h2 := M.eq
  have h3 : 0 ≤ q * b1 := Int.mul_nonneg M.q0 (by have := O.e0; have := pp n.toNat; omega)
  omega

structure Lp (A b q z : Int) : Prop where
  eq : q * b + z = A
variable {x1 x2 y z : Int}
theorem low3 (O : Ok3 k a12 a3 b b1 b2 n) (M : Mid a12 a3 b b1 b2 n q r) (h1 : Is x1 (r * 2 ^ n.toNat)) (h2 : Is x2 (Builtin.bitOr x1 a3)) (hy : Is y (q * b2)) (hz : Is z (x2 - y)) :
    Lp (a12 * 2 ^ n.toNat + a3) b q z ∧ -(b + b) ≤ z ∧ z < b ∧ 0 < b := by
  have e1 : x2 = r * 2 ^ n.toNat + a3 := by rw [h2.eq, h1.eq]; exact or_add M.r0 O.c0 O.c1
  have e2 : z = r * 2 ^ n.toNat + a3 - q * b2 := by rw [hz.eq, hy.eq, e1]
  have m1 := M.eq
  have m2 := M.q0
  have m3 := M.q1
  have m4 := M.r0
  have m5 := M.top
  have hP := pp n.toNat
  have o1 := O.e0
  have o3 := O.be
  have o4 := O.d1
  have o5 := O.d0
  have o6 := O.c0
  generalize hPP : (2 : Int) ^ n.toNat = P at *
  refine ⟨⟨?_⟩, ?_, by omega, ?_⟩
  · rw [e2, o3, ← m1]; grind
  · have t1 : q * b2 ≤ P * P := Int.le_trans (Int.mul_le_mul_of_nonneg_right (Int.le_of_lt m3) o5) (Int.mul_le_mul_of_nonneg_left (Int.le_of_lt o4) (by omega))
    have t2 : P * P ≤ (2 * b1) * P := Int.mul_le_mul_of_nonneg_right o1 (by omega)
    have t3 : (2 * b1) * P = b1 * P + b1 * P := by grind
    have t4 : 0 ≤ r * P := Int.mul_nonneg m4 (by omega)
    omega
  · have : 0 < b1 * P := Int.mul_pos (by omega) hP
    omega
theorem Lp.step {A b q z q' z' : Int} (h : Lp A b q z) (hq : q' = q - 1) (hz : z' = z + b) : Lp A b q' z' := ⟨by have := h.eq; subst hq hz; rw [Int.sub_mul]; omega⟩
theorem Lp.dv {A b q z : Int} (h : Lp A b q z) (h0 : ¬ z < 0) (h1 : z < b) : Dv A b q z := ⟨h.eq, by omega, h1⟩
end
section
variable {prog : Program} {w : World} {K : Frag} {p : Program} {loose : List Str} {mean : ExcName → Option Value} {mg mb : Str → Option Value} {f : Addr} {k : Nat}
  {dp un : Nat} {gd : Option (List Code)} {cn : Str} {cs : Scope} {ad : Addr} {ccd : Value} {cl : List (Str × Addr)} {outer : List Env} {A₀ : Around} {base h₀ : Heap} {L : Addr} {m : Str → Option Value} {news : List (Addr × Obj)} {s : Shared} {Q E : Value → Shared → Prop}
theorem use2 {a b n : Int} {ta tb tn : Tok} (IH : Spec2 prog w K p loose mean mg mb f k) (O : Ok2 k a b n)
    (B : Below A₀ base outer h₀) (F : Fr h₀ L s.heap m) (X : K.In h₀) (N : News h₀ L s.heap news) (T : Top p loose mean mg mb h₀) (hk : cs.kind = .function) (hdp : dp + (2 * k + 1) < recursionLimit) (hu : un + 8 * (2 * k + 1) < cLine)
    (ret : ∀ q r D t1 t2 c h' tk', Dv a b q r → Fr h₀ L h' m → News h₀ L h' ((D, ({ cls := .type "tuple", data := .seq #[.int q t1, .int r t2] c } : Obj)) :: news) → AllLt D news → Q (.ref D) { s with heap := h', toks := tk' }) :
    wpAny (model prog w) (ktrTop dp un gd cn cs L ad ccd cl outer) (call (.ref f) [.int a ta, .int b tb, .int n tn]) Q E s :=
  IH a b n ta tb tn O dp un gd cn cs ad ccd cl outer A₀ base h₀ L m news s Q E B F X N T hk hdp hu ret
theorem use3 {a12 a3 b b1 b2 n : Int} {ta tb tc td te tn : Tok} (IH : Spec3 prog w K p loose mean mg mb f k) (O : Ok3 k a12 a3 b b1 b2 n)
    (B : Below A₀ base outer h₀) (F : Fr h₀ L s.heap m) (X : K.In h₀) (N : News h₀ L s.heap news) (T : Top p loose mean mg mb h₀) (hk : cs.kind = .function) (hdp : dp + (2 * k + 2) < recursionLimit) (hu : un + 8 * (2 * k + 2) < cLine)
    (ret : ∀ q r D t1 t2 c h' tk', Dv (a12 * 2 ^ n.toNat + a3) b q r → Fr h₀ L h' m → News h₀ L h' ((D, ({ cls := .type "tuple", data := .seq #[.int q t1, .int r t2] c } : Obj)) :: news) → AllLt D news → Q (.ref D) { s with heap := h', toks := tk' }) :
    wpAny (model prog w) (ktrTop dp un gd cn cs L ad ccd cl outer) (call (.ref f) [.int a12 ta, .int a3 tb, .int b tc, .int b1 td, .int b2 te, .int n tn]) Q E s :=
  IH a12 a3 b b1 b2 n ta tb tc td te tn O dp un gd cn cs ad ccd cl outer A₀ base h₀ L m news s Q E B F X N T hk hdp hu ret
theorem shl_mid1 {A : Around} {a12 a3 b b1 b2 n q r v v1 v2 p1 : Int} {t u : Tok} (O : Ok3 k a12 a3 b b1 b2 n) (hr : Is r (v1 + b1)) (h1 : Is v1 (a12 - v2)) (h2 : Is v2 (b1 * 2 ^ n.toNat)) (hq : Is q (p1 - 1)) (hp : Is p1 (1 * 2 ^ n.toNat)) (hv : Is v (a12 / 2 ^ n.toNat)) (e : v = b1)
    (h : ∀ x, Is x (r * 2 ^ n.toNat) → Mid a12 a3 b b1 b2 n q r → Sm q → Q (.int x s.toks) { s with toks := s.toks + 1 }) :
    wpAny (model prog w) A (binaryOp .LShift (.int r t) (.int n u)) Q E s :=
  have M := mid1 O hr h1 h2 hq hp hv e
  r_shl (by have := O.n1; omega) (by have := O.n3; omega) (sm_r O M) fun x hx => h x hx M (sm_q O M)
theorem news_sub {h₀ h : Heap} {L : Addr} {x : Addr × Obj} {l news : List (Addr × Obj)} (N : News h₀ L h (x :: l)) (hs : ∀ y ∈ news, y ∈ l) : News h₀ L h (x :: news) := fun y hy => by
  rcases List.mem_cons.mp hy with rfl | hy
  · exact N _ (.head _)
  · exact N y (.tail _ (hs y hy))
end

structure Ev (k : Nat) (A B N h : Int) : Prop where
  eN : N = 2 * h
  h1 : 1 ≤ h
  h2 : h ≤ 4000 * 2 ^ k
  h3 : h ≤ 15001
  a0 : 0 ≤ A
  b1 : 2 ^ N.toNat ≤ 2 * B
  b2 : B < 2 ^ N.toNat
  ab : A < 2 ^ N.toNat * B

section
variable {k : Nat} {a b n A B N h : Int}
theorem ev_nopad (O : Ok2 (k + 1) a b n) (hp : n % 2 = 0) (hh : h = n / 2) : Ev k a b n h := by
  have h1 := O.n1
  have h2 := O.n2
  have h3 := O.n3
  refine ⟨by omega, by omega, ?_, by omega, O.a0, O.b1, O.b2, O.ab⟩
  rw [Int.pow_succ] at h2
  generalize (2 : Int) ^ k = X at h2 ⊢
  omega
theorem ev_pad (O : Ok2 (k + 1) a b n) (hp : n % 2 ≠ 0) (hA : Is A (a * 2 ^ (1 : Int).toNat)) (hB : Is B (b * 2 ^ (1 : Int).toNat)) (hN : N = n + 1) (hh : h = N / 2) : Ev k A B N h := by
  have h1 := O.n1
  have h2 := O.n2
  have h3 := O.n3
  have eA : A = a * 2 := hA.eq
  have eB : B = b * 2 := hB.eq
  have e : N.toNat = n.toNat + 1 := by omega
  have o1 := O.b1
  have o2 := O.b2
  have o3 := O.ab
  have o4 := O.a0
  have q : h ≤ 4000 * 2 ^ k := by
    rw [Int.pow_succ] at h2
    generalize (2 : Int) ^ k = X at h2 ⊢
    omega
  have e2 : (2 : Int) ^ N.toNat = 2 ^ n.toNat * 2 := by rw [e, Int.pow_succ]
  have hP := pp n.toNat
  refine ⟨by omega, by omega, q, by omega, by omega, ?_, ?_, ?_⟩
  · rw [e2, eB]; omega
  · rw [e2, eB]; omega
  · rw [e2, eA, eB]
    have g : (2 : Int) ^ n.toNat * 2 * (b * 2) = (2 ^ n.toNat * b) * 2 + (2 ^ n.toNat * b) * 2 := by grind
    have g0 : 0 < (2 : Int) ^ n.toNat * b := by omega
    rw [g]; omega

theorem ev_pow (E : Ev k A B N h) : (2 : Int) ^ N.toNat = 2 ^ h.toNat * 2 ^ h.toNat := by
  have := E.eN
  have := E.h1
  rw [show N.toNat = h.toNat + h.toNat by omega, Int.pow_add]
theorem ev_even (E : Ev k A B N h) : ∃ P', (2 : Int) ^ h.toNat = 2 * P' := by
  have := E.h1
  refine ⟨2 ^ (h.toNat - 1), ?_⟩
  rw [show h.toNat = (h.toNat - 1) + 1 by omega, Int.pow_succ]
  simp; omega
variable {p mask b1 b2 x y y2 y3 q r q1 r1 q2 r2 z qq : Int}
theorem msk {x v : Int} (hp : Is p (1 * 2 ^ h.toNat)) (hm : Is mask (p - 1)) (hv : Is v (Builtin.bitAnd x mask)) : v = x % 2 ^ h.toNat := by
  rw [hv.eq, hm.eq, hp.eq, Int.one_mul]; exact kbt_mask x h.toNat

theorem ev_b (E : Ev k A B N h) (hp : Is p (1 * 2 ^ h.toNat)) (hm : Is mask (p - 1)) (hb1 : Is b1 (B / 2 ^ h.toNat)) (hb2 : Is b2 (Builtin.bitAnd B mask)) :
    0 ≤ b2 ∧ b2 < 2 ^ h.toNat ∧ 2 ^ h.toNat ≤ 2 * b1 ∧ b1 < 2 ^ h.toNat ∧ B = b1 * 2 ^ h.toNat + b2 := by
  have e2 := msk hp hm hb2
  have e1 := hb1.eq
  have hP := pp h.toNat
  have o1 := E.b1
  have o2 := E.b2
  rw [ev_pow E] at o1 o2
  obtain ⟨P', hP'⟩ := ev_even E
  generalize (2 : Int) ^ h.toNat = P at *
  have d1 := Int.mul_ediv_add_emod B P
  have d2 := Int.emod_nonneg B (Int.ne_of_gt hP)
  have d3 := Int.emod_lt_of_pos B hP
  rw [← e1, ← e2] at d1
  rw [← e2] at d2 d3
  have c : P * b1 = b1 * P := Int.mul_comm _ _
  refine ⟨d2, d3, ?_, ?_, by omega⟩
  · by_cases hc : P ≤ 2 * b1
    · exact hc
    · have t : (2 * b1 + 2) * P ≤ P * P := Int.mul_le_mul_of_nonneg_right (by omega) (by omega)
      have g : (2 * b1 + 2) * P = b1 * P + b1 * P + 2 * P := by grind
      omega
  · by_cases hc : b1 < P
    · exact hc
    · have t : P * P ≤ b1 * P := Int.mul_le_mul_of_nonneg_right (by omega) (by omega)
      omega

theorem ok3a (E : Ev k A B N h) (hp : Is p (1 * 2 ^ h.toNat)) (hm : Is mask (p - 1)) (hb1 : Is b1 (B / 2 ^ h.toNat)) (hb2 : Is b2 (Builtin.bitAnd B mask)) (hx : Is x (A / 2 ^ N.toNat)) (hy2 : Is y2 (Builtin.bitAnd y mask)) :
    Ok3 k x y2 B b1 b2 h := by
  obtain ⟨g1, g2, g3, g4, g5⟩ := ev_b E hp hm hb1 hb2
  have e := msk hp hm hy2
  have hP := pp h.toNat
  refine ⟨E.h1, E.h2, by have := E.h3; omega, ?_, ?_, ?_, g1, g2, g3, g4, g5, ?_⟩
  · rw [hx.eq]; exact Int.ediv_nonneg E.a0 (Int.le_of_lt (pp _))
  · rw [e]; exact Int.emod_nonneg _ (Int.ne_of_gt hP)
  · rw [e]; exact Int.emod_lt_of_pos _ hP
  · rw [hx.eq]; exact Int.ediv_lt_of_lt_mul (pp _) (by have := E.ab; rw [Int.mul_comm]; exact this)
theorem ok3b (O : Ok3 k x y2 B b1 b2 h) (hp : Is p (1 * 2 ^ h.toNat)) (hm : Is mask (p - 1)) (D : Dv (x * 2 ^ h.toNat + y2) B q1 r1) (hy3 : Is y3 (Builtin.bitAnd A mask)) : Ok3 k r1 y3 B b1 b2 h := by
  have e := msk hp hm hy3
  have hP := pp h.toNat
  exact ⟨O.n1, O.n2, O.n3, D.lo, by rw [e]; exact Int.emod_nonneg _ (Int.ne_of_gt hP), by rw [e]; exact Int.emod_lt_of_pos _ hP, O.d0, O.d1, O.e0, O.e1, O.be, D.hi⟩
theorem dv_q (O : Ok3 k x y2 B b1 b2 h) (D : Dv (x * 2 ^ h.toNat + y2) B q r) : 0 ≤ q ∧ q < 2 ^ h.toNat := by
  have o1 := O.a0
  have o2 := O.c0
  have o3 := O.c1
  have o4 := O.ab
  have d1 := D.eq
  have d2 := D.lo
  have d3 := D.hi
  have hP := pp h.toNat
  generalize (2 : Int) ^ h.toNat = P at *
  have t0 : 0 ≤ x * P := Int.mul_nonneg o1 (by omega)
  have t1 : (x + 1) * P ≤ B * P := Int.mul_le_mul_of_nonneg_right (by omega) (by omega)
  rw [Int.add_mul] at t1
  constructor
  · by_cases hc : 0 ≤ q
    · exact hc
    · have t : q * B ≤ (-1) * B := Int.mul_le_mul_of_nonneg_right (by omega) (by omega)
      omega
  · by_cases hc : q < P
    · exact hc
    · have t : P * B ≤ q * B := Int.mul_le_mul_of_nonneg_right (by omega) (by omega)
      have c : P * B = B * P := Int.mul_comm _ _
      omega
theorem sm_dq (O : Ok3 k x y2 B b1 b2 h) (D : Dv (x * 2 ^ h.toNat + y2) B q r) : Sm q := sm_of (dv_q O D).1 (dv_q O D).2 (by have := O.n3; omega)

theorem fin2 (E : Ev k A B N h) (hp : Is p (1 * 2 ^ h.toNat)) (hm : Is mask (p - 1)) (hx : Is x (A / 2 ^ N.toNat)) (hy : Is y (A / 2 ^ h.toNat)) (hy2 : Is y2 (Builtin.bitAnd y mask)) (hy3 : Is y3 (Builtin.bitAnd A mask))
    (O1 : Ok3 k x y2 B b1 b2 h) (D1 : Dv (x * 2 ^ h.toNat + y2) B q1 r1) (O2 : Ok3 k r1 y3 B b1 b2 h) (D2 : Dv (r1 * 2 ^ h.toNat + y3) B q2 r2) (hz : Is z (q1 * 2 ^ h.toNat)) (hq : Is qq (Builtin.bitOr z q2)) :
    Dv A B qq r2 := by
  have e2 := msk hp hm hy2
  have e3 := msk hp hm hy3
  have f1 := dv_q O1 D1
  have f2 := dv_q O2 D2
  have eq : qq = q1 * 2 ^ h.toNat + q2 := by rw [hq.eq, hz.eq]; exact or_add f1.1 f2.1 f2.2
  have ex := hx.eq
  have ey := hy.eq
  rw [ev_pow E] at ex
  have hP := pp h.toNat
  refine ⟨?_, D2.lo, D2.hi⟩
  have g1 := D1.eq
  have g2 := D2.eq
  generalize (2 : Int) ^ h.toNat = P at *
  have m1 := Int.mul_ediv_add_emod A P
  have m2 := Int.mul_ediv_add_emod y P
  have m3 : y / P = x := by rw [ex, ey]; exact (Int.ediv_ediv_of_nonneg (Int.le_of_lt hP))
  rw [m3, ← e2] at m2
  rw [← ey, ← e3] at m1
  have s1 : (q1 * P + q2) * B + r2 = (q1 * B + r1) * P + (q2 * B + r2) - r1 * P := by grind
  rw [eq, s1, g1, g2, ← m1, ← m2]
  grind
theorem fin_pad (hA : Is A (a * 2 ^ (1 : Int).toNat)) (hB : Is B (b * 2 ^ (1 : Int).toNat)) (D : Dv A B qq r2) (hr : Is r (r2 / 2)) : Dv a b qq r := by
  have eA : A = a * 2 := hA.eq
  have eB : B = b * 2 := hB.eq
  have er := hr.eq
  have d1 := D.eq
  have d2 := D.lo
  have d3 := D.hi
  have g : qq * B = (qq * b) * 2 := by rw [eB]; grind
  exact ⟨by omega, by omega, by omega⟩

theorem dv_base (O : Ok2 k a b n) : Dv a b (a.fdiv b) (a.fmod b) := by
  have h1 := O.b1
  have hP := pp n.toNat
  have hb : 0 < b := by omega
  refine ⟨?_, Int.fmod_nonneg_of_pos a hb, Int.fmod_lt_of_pos a hb⟩
  have := Int.mul_fdiv_add_fmod a b
  rw [Int.mul_comm]; exact this
theorem ok2_ne (O : Ok2 k a b n) : b ≠ 0 := by
  have h1 := O.b1
  have hP := pp n.toNat
  omega
theorem ok2_a (O : Ok2 k a b n) : a < 2 ^ (n.toNat + n.toNat) := by
  have h1 := O.b2
  have h2 := O.ab
  have hP := pp n.toNat
  rw [Int.pow_add]
  generalize (2 : Int) ^ n.toNat = P at *
  have t : P * b ≤ P * P := Int.mul_le_mul_of_nonneg_left (by omega) (by omega)
  omega
theorem bits_of {a : Int} {m : Nat} (h0 : 0 ≤ a) (h : a < 2 ^ m) : intBits a ≤ m := intBits_le_iff.mpr (by
  have e : ((a.natAbs : Nat) : Int) = a := by omega
  have : ((a.natAbs : Nat) : Int) < ((2 ^ m : Nat) : Int) := by rw [e]; simpa using h
  exact Int.ofNat_lt.mp this)
theorem no_way {v : Int} (O : Ok2 0 a b n) (hv : Is v (((intBits a : Nat) : Int) - n)) (hc : ¬ v ≤ 4000) : False := by
  have h1 := bits_of O.a0 (ok2_a O)
  have h2 := O.n2
  have h3 := O.n1
  have h4 := hv.eq
  simp at h2
  omega
theorem sm_a2 (O : Ok2 k a b n) : Sm a := sm_of O.a0 (ok2_a O) (by have := O.n3; omega)
theorem sm_b (O : Ok2 k a b n) : Sm b := sm_of (by have := O.b1; have := pp n.toNat; omega) O.b2 (by have := O.n3; omega)
theorem nopy {v : Int} (O : Ok2 k a b n) (hv : Is v (((intBits a : Nat) : Int) - n)) (hc : v ≤ 4000) : Builtin.divisionGoesByPylong a b = false := by
  have h3 := O.n1
  have h4 := hv.eq
  have hb : 0 < b := by have := O.b1; have := pp n.toNat; omega
  have lb : n.toNat - 1 ≤ b.natAbs.log2 := by
    rw [Nat.le_log2 (by omega)]
    have o := O.b1
    rw [show n.toNat = (n.toNat - 1) + 1 by omega, Int.pow_succ] at o
    have : (((2 : Nat) ^ (n.toNat - 1) : Nat) : Int) ≤ ((b.natAbs : Nat) : Int) := by
      rw [Int.natCast_pow]
      have e : ((b.natAbs : Nat) : Int) = b := by omega
      rw [e]
      show (2 : Int) ^ (n.toNat - 1) ≤ b
      omega
    exact Int.ofNat_le.mp this
  unfold Builtin.divisionGoesByPylong
  have hb' : (b == 0) = false := by simpa using Int.ne_of_gt hb
  by_cases ha : a = 0
  · subst ha
    simp
  · have ha' : (a == 0) = false := by simpa using ha
    have la : intBits a = a.natAbs.log2 + 1 := by unfold Builtin.Int.intBits; rw [ha']; simp
    simp only [ha', hb', Bool.false_eq_true, if_false]
    rw [Bool.and_eq_false_iff]
    right
    simp only [decide_eq_false_iff_not, gt_iff_lt, Nat.not_lt]
    omega
end
section
variable {prog : Program} {w : World} {K : Frag} {p : Program} {loose : List Str} {mean : ExcName → Option Value} {mg mb : Str → Option Value} {f : Addr} {k : Nat}
  {dp un : Nat} {gd : Option (List Code)} {cn : Str} {cs : Scope} {ad : Addr} {ccd : Value} {cl : List (Str × Addr)} {outer : List Env} {A₀ : Around} {base h₀ : Heap} {L : Addr} {m : Str → Option Value} {news : List (Addr × Obj)} {s : Shared} {Q E : Value → Shared → Prop}
theorem use3s {a12 a3 b b1 b2 n : Int} {ta tb tc td te tn : Tok} (IH : Spec3 prog w K p loose mean mg mb f k) (O : Ok3 k a12 a3 b b1 b2 n)
    (B : Below A₀ base outer h₀) (F : Fr h₀ L s.heap m) (X : K.In h₀) (N : News h₀ L s.heap news) (T : Top p loose mean mg mb h₀) (hk : cs.kind = .function) (hdp : dp + (2 * k + 2) < recursionLimit) (hu : un + 8 * (2 * k + 2) < cLine)
    (ret : ∀ q r D t1 t2 c h' tk', Ok3 k a12 a3 b b1 b2 n → Dv (a12 * 2 ^ n.toNat + a3) b q r → Sm q → Fr h₀ L h' m → News h₀ L h' ((D, ({ cls := .type "tuple", data := .seq #[.int q t1, .int r t2] c } : Obj)) :: news) → AllLt D news → Q (.ref D) { s with heap := h', toks := tk' }) :
    wpAny (model prog w) (ktrTop dp un gd cn cs L ad ccd cl outer) (call (.ref f) [.int a12 ta, .int a3 tb, .int b tc, .int b1 td, .int b2 te, .int n tn]) Q E s :=
  use3 IH O B F X N T hk hdp hu fun q r D t1 t2 c h' tk' hD hF hN hl => ret q r D t1 t2 c h' tk' O hD (sm_dq O hD) hF hN hl
theorem allLt_size {h : Heap} : ∀ {news : List (Addr × Obj)}, News h₀ L h news → AllLt h.objs.size news := fun N => allLt_of fun x hx => Heap.lt_size (N x hx).1
theorem divmod_D {A : Around} {a b n v : Int} {t u : Tok} (O : Ok2 k a b n) (hv : Is v (((intBits a : Nat) : Int) - n)) (hc : v ≤ 4000) (F : Fr h₀ L s.heap m) (N : News h₀ L s.heap news)
    (h : ∀ q r D t1 t2 h' tk', Dv a b q r → Fr h₀ L h' m → News h₀ L h' ((D, ({ cls := .type "tuple", data := .seq #[.int q t1, .int r t2] } : Obj)) :: news) → AllLt D news → Q (.ref D) { s with toks := tk', heap := h' }) :
    wpAny (model prog w) A (call (.builtin "divmod") [.int a t, .int b u]) Q E s :=
  divmod_N F N (ok2_ne O) (fun h' F' N' => h _ _ _ _ _ h' _ (dv_base O) F' N' (allLt_size N)) (Or.inl (nopy O hv hc))
end
theorem ok_main {n e e' p p' m d P2 M a : Int} (hd : d = p + m) (hm0 : 0 ≤ m) (hm : m < p') (hp : Is p (2 ^ e.toNat)) (hp' : Is p' (2 ^ e'.toNat)) (ha0 : 0 ≤ a) (ha : a < M) (hM : Is M (P2 * d)) (hP : Is P2 (2 ^ n.toNat)) (he : e = n - 1) (he' : e' = n - 1) (hn0 : 1 ≤ n) (hn1 : n ≤ 20000) : Ok2 3 a d n := by
  have e1 : e' = e := he'.trans he.symm
  subst e1
  have q1 : p' = p := hp'.eq.trans hp.eq.symm
  have q2 : (2 : Int) ^ n.toNat = 2 ^ e'.toNat * 2 := by rw [show n.toNat = e'.toNat + 1 by omega, Int.pow_succ]
  have q3 := hp.eq
  have q4 := hM.eq
  rw [hP.eq] at q4
  refine ⟨hn0, by omega, by omega, ha0, ?_, ?_, by rw [← q4]; exact ha⟩
  · rw [q2, ← q3]; omega
  · rw [q2, ← q3]; omega
theorem sm_main {k : Nat} {a b n q r : Int} (O : Ok2 k a b n) (D : Dv a b q r) : Sm q := by
  have h1 := D.eq
  have h2 := D.lo
  have h3 := D.hi
  have h4 := O.a0
  have hb : 0 < b := by have := O.b1; have := pp n.toNat; omega
  have q0 : 0 ≤ q := by
    by_cases hc : 0 ≤ q
    · exact hc
    · have t : q * b ≤ (-1) * b := Int.mul_le_mul_of_nonneg_right (by omega) (by omega)
      omega
  have t : q * 1 ≤ q * b := Int.mul_le_mul_of_nonneg_left (by omega) q0
  exact sm_of q0 (Int.lt_of_le_of_lt (show q ≤ a by omega) (ok2_a O)) (by have := O.n3; omega)
section
variable {prog : Program} {w : World} {K : Frag} {p : Program} {loose : List Str} {mean : ExcName → Option Value} {mg mb : Str → Option Value} {f : Addr} {k : Nat}
  {dp un : Nat} {gd : Option (List Code)} {cn : Str} {cs : Scope} {ad : Addr} {ccd : Value} {cl : List (Str × Addr)} {outer : List Env} {A₀ : Around} {base h₀ : Heap} {L : Addr} {m : Str → Option Value} {news : List (Addr × Obj)} {s : Shared} {Q E : Value → Shared → Prop}
theorem use2m {a b n : Int} {ta tb tn : Tok} (IH : ∀ k, Spec2 prog w K p loose mean mg mb f k) (O : Ok2 3 a b n)
    (B : Below A₀ base outer h₀) (F : Fr h₀ L s.heap m) (X : K.In h₀) (N : News h₀ L s.heap news) (T : Top p loose mean mg mb h₀) (hk : cs.kind = .function) (hdp : dp + 7 < recursionLimit) (hu : un + 56 < cLine)
    (ret : ∀ q r D t1 t2 c h' tk', Ok2 3 a b n → Dv a b q r → Fr h₀ L h' m → News h₀ L h' ((D, ({ cls := .type "tuple", data := .seq #[.int q t1, .int r t2] c } : Obj)) :: news) → AllLt D news → Q (.ref D) { s with heap := h', toks := tk' }) :
    wpAny (model prog w) (ktrTop dp un gd cn cs L ad ccd cl outer) (call (.ref f) [.int a ta, .int b tb, .int n tn]) Q E s :=
  use2 (IH 3) O B F X N T hk hdp hu fun q r D t1 t2 c h' tk' hD => ret q r D t1 t2 c h' tk' O hD
theorem gen_toks {α : Type} {M : Model} {A : Around} {tree : Sem α} {Q : α → Shared → Prop} {E : Value → Shared → Prop} {st : Shared} (h : ∀ tk, wpAny M A tree Q E { st with toks := tk }) : wpAny M A tree Q E st := h st.toks
theorem mul_dv {A : Around} {a b n q r : Int} {t u : Tok} (O : Ok2 3 a b n) (D : Dv a b q r) (h : ∀ v tk, v + r = a → 0 ≤ r → r < b → Q (.int v s.toks) { s with toks := tk }) :
    wpAny (model prog w) A (binaryOp .Mult (.int q t) (.int b u)) Q E s :=
  r_mul (sm_main O D) (sm_b O) fun v hv => h v _ (by rw [hv.eq]; exact D.eq) D.lo D.hi
theorem r_mulp {A : Around} {a b : Int} {t u : Tok} (ha : Sm a) (hb : Sm b) (ha0 : 0 < a) (hb0 : 0 < b) (h : ∀ v tk, 0 < v → Is v (a * b) → Q (.int v s.toks) { s with toks := tk }) :
    wpAny (model prog w) A (binaryOp .Mult (.int a t) (.int b u)) Q E s :=
  r_mul ha hb fun v hv => h v _ (by rw [hv.eq]; exact Int.mul_pos ha0 hb0) hv
end
open_top hd for PySem.Challenge.rw_kg0013_01
section
local macro_rules | `(tactic| walk_at "binaryOp LShift int int") => `(tactic| first
  | ((refine r_shl ?k1 ?k2 ?k3 ?_; (case k3 => assumption); (case k1 => omega); (case k2 => omega)); intro v' h0'; (try dsimp only))
  | (refine' shl_mid1 ?k1 ?k2 ?k3 ?k4 ?k5 ?k6 ?k7 ?k8 ?_; (case k1 => assumption); (case k2 => assumption); (case k3 => assumption); (case k4 => assumption); (case k5 => assumption); (case k6 => assumption); (case k7 => assumption); (case k8 => assumption); intro v' h0' M' sq'; (try dsimp only))
  | refine Stop.go ?_)
local macro_rules | `(tactic| walk_at "binaryOp RShift int int") => `(tactic| first
  | (refine r_shr1 ?_; intro v' h0'; (try dsimp only))
  | ((refine r_shr ?k1 ?_; (case k1 => omega)); intro v' h0'; (try dsimp only))
  | refine Stop.go ?_)
local macro_rules | `(tactic| walk_at "binaryOp BitAnd int int") => `(tactic| first
  | (refine r_and1 ?_; intro v' h0'; (try dsimp only))
  | (refine r_and ?_; intro v' h0'; (try dsimp only))
  | refine Stop.go ?_)
local macro_rules | `(tactic| walk_at "binaryOp BitOr int int") => `(tactic| (refine r_or ?_; intro v' h0'; (try dsimp only)))
local macro_rules | `(tactic| walk_at "binaryOp Mult int int") => `(tactic| first
  | ((refine r_mul ?k1 ?k2 ?_; (case k1 => assumption); (case k2 => assumption)); intro v' h0'; (try dsimp only))
  | refine Stop.go ?_)
local macro_rules | `(tactic| walk_at "binaryOp Add int int") => `(tactic| (refine r_add ?_; intro v' h0'; (try dsimp only)))
local macro_rules | `(tactic| walk_at "binaryOp Sub int int") => `(tactic| (refine r_sub ?_; intro v' h0'; (try dsimp only)))
local macro_rules | `(tactic| walk_at "inplaceOp Add int int") => `(tactic| (refine p_iadd ?_; intro v' h0'; (try dsimp only)))
local macro_rules | `(tactic| walk_at "inplaceOp Sub int int") => `(tactic| (refine p_isub ?_; intro v' h0'; (try dsimp only)))
local macro_rules | `(tactic| walk_at "exec While Compare") => `(tactic| (
  (have hl' := low3 (by assumption) (by assumption) (by assumption) (by assumption) (by assumption) (by assumption)); (obtain ⟨hE', hlo', hhi', hb0'⟩ := hl'); k_dflt (refine whl_start 3 ?_)))
local macro_rules | `(tactic| walk_at "WhlIf") => `(tactic| (refine WhlBoth (fun h' => ?_) (fun h' => ?_) <;> (try (exfalso; omega))))
local macro_rules | `(tactic| walk_at "call ref") => `(tactic| (k_here; (with_reducible show wpAny _ _ (call (Value.ref 21) _) _ _ _); (k_dflt (refine' use2 ?kI ?kO ?k1 ?k2 ?k3 ?k4 ?k5 ?k6 ?k7 ?k8 ?_; (case kI => assumption); (case kO => exact ok2_of3 (by assumption) (by assumption) (by assumption)); (case k1 => k_asm); (case k2 => k_asm); (case k3 => k_asm); (case k4 => k_asm); (case k5 => k_asm); (case k6 => first | exact rfl | assumption); (case k7 => ktr_room); (case k8 => ktr_units); k_whole)); intro q' r' D' t1' t2' c' h' tk' hD' F' N' l1'; (have M' := mid2 (by assumption) (by assumption) (by assumption) hD'); (have sq' := sm_q (by assumption) M'); (have sr' := sm_r (by assumption) M'); (try dsimp only); (try k_fold)))
theorem step3 (w : World) (s₀ : Shared) (mg mb : Str → Option Value) (k : Nat)
    (IH : Spec2 PySem.Challenge.rw_kg0013_01.row.prog w (hd.heap_39 w.params) hd.view_39 (looseW hd.view_39 []) (ExcName.means s₀.heap) mg mb 21 k) :
    Spec3 PySem.Challenge.rw_kg0013_01.row.prog w (hd.heap_39 w.params) hd.view_39 (looseW hd.view_39 []) (ExcName.means s₀.heap) mg mb 28 k := by
  intro a12 a3 b b1 b2 n ta tb tc td te tn O
  unfold GivesP
  intro dp un gd cn cs a ccd cl outer A₀ base h₀ L m news s Q E B F X N T hk hdp hu hret
  have n1 := O.n1
  have n3 := O.n3
  have sm1 : Sm 1 := ⟨by decide +kernel⟩
  have sb1 : Sm b1 := sm_b1 O
  have sb2 : Sm b2 := sm_b2 O
  refine wpAny_call ?_
  w_on
  k_dflt ktr_enter
  w_strict k_steps
  all_goals (
    refine' hret _ _ _ _ _ _ _ _ ?e1 ?e2 ?e3 ?e4
    case e2 => k_asm
    case e3 => exact news_sub (by assumption) (fun y hy => by repeat (first | exact hy | apply List.mem_cons_of_mem))
    case e4 => first | exact allLt_of (by assumption) | assumption | exact And.right (by assumption)
    case e1 => first
      | exact Lp.dv (by assumption) (by assumption) (by omega)
      | exact Lp.dv (Lp.step (by assumption) (by assumption) (by assumption)) (by assumption) (by omega)
      | exact Lp.dv (Lp.step (Lp.step (by assumption) (by assumption) (by assumption)) (by assumption) (by assumption)) (by assumption) (by omega))
end
section
local macro_rules | `(tactic| walk_at "binaryOp LShift int int") => `(tactic| first
  | ((with_reducible show wpAny _ _ (binaryOp _ (Value.int 1 _) _) _ _ _); (refine r_shl ?k1 ?k2 ?k3 ?_; (case k3 => assumption); (case k1 => omega); (case k2 => omega)); intro v' h0'; (first | (have E' := ev_pad (by assumption) (by omega) (by assumption) (by assumption) (by assumption) (by assumption)) | (have E' := ev_nopad (by assumption) (by omega) (by assumption))); (try dsimp only))
  | ((refine r_shl ?k1 ?k2 ?k3 ?_; (case k3 => assumption); (case k1 => omega); (case k2 => omega)); intro v' h0'; (try dsimp only))
  | refine Stop.go ?_)
local macro_rules | `(tactic| walk_at "inplaceOp LShift int int") => `(tactic| first
  | ((refine r_ishl ?k1 ?k2 ?k3 ?_; (case k3 => assumption); (case k1 => decide); (case k2 => decide)); intro v' h0'; (try dsimp only))
  | refine Stop.go ?_)
local macro_rules | `(tactic| walk_at "inplaceOp RShift int int") => `(tactic| first
  | (refine r_ishr1 ?_; intro v' h0'; (try dsimp only))
  | refine Stop.go ?_)
local macro_rules | `(tactic| walk_at "binaryOp RShift int int") => `(tactic| first
  | (refine r_shr1 ?_; intro v' h0'; (try dsimp only))
  | ((refine r_shr ?k1 ?_; (case k1 => omega)); intro v' h0'; (try dsimp only))
  | refine Stop.go ?_)
local macro_rules | `(tactic| walk_at "binaryOp BitAnd int int") => `(tactic| first
  | (exfalso; exact no_way (by assumption) (by assumption) (by assumption))
  | (refine r_and1 ?_; intro v' h0'; (try dsimp only))
  | (refine r_and ?_; intro v' h0'; (try dsimp only))
  | refine Stop.go ?_)
local macro_rules | `(tactic| walk_at "binaryOp BitOr int int") => `(tactic| (refine r_or ?_; intro v' h0'; (try dsimp only)))
local macro_rules | `(tactic| walk_at "binaryOp Mult int int") => `(tactic| first
  | ((refine r_mul ?k1 ?k2 ?_; (case k1 => assumption); (case k2 => assumption)); intro v' h0'; (try dsimp only))
  | refine Stop.go ?_)
local macro_rules | `(tactic| walk_at "binaryOp Add int int") => `(tactic| (refine r_add ?_; intro v' h0'; (try dsimp only)))
local macro_rules | `(tactic| walk_at "binaryOp Sub int int") => `(tactic| (refine r_sub ?_; intro v' h0'; (try dsimp only)))
local macro_rules | `(tactic| walk_at "inplaceOp Add int int") => `(tactic| (refine p_iadd ?_; intro v' h0'; (try dsimp only)))
local macro_rules | `(tactic| walk_at "inplaceOp Sub int int") => `(tactic| (refine p_isub ?_; intro v' h0'; (try dsimp only)))
local macro_rules | `(tactic| walk_at "call builtin:divmod") => `(tactic| (refine' divmod_D ?k1 ?k2 ?k3 ?k4 ?k5 ?_; (case k1 => assumption); (case k2 => assumption); (case k3 => assumption); (case k4 => k_asm); (case k5 => k_asm); intro q' r' D' t1' t2' h' tk' hD' F' N' l1'; (try dsimp only)))
local macro_rules | `(tactic| walk_at "call ref") => `(tactic| (k_here; (with_reducible show wpAny _ _ (call (Value.ref 28) _) _ _ _); (k_dflt (refine' use3s ?kI ?kO ?k1 ?k2 ?k3 ?k4 ?k5 ?k6 ?k7 ?k8 ?_; (case kI => assumption); (case kO => first | exact ok3a (by assumption) (by assumption) (by assumption) (by assumption) (by assumption) (by assumption) (by assumption) | exact ok3b (by assumption) (by assumption) (by assumption) (by assumption) (by assumption)); (case k1 => k_asm); (case k2 => k_asm); (case k3 => k_asm); (case k4 => k_asm); (case k5 => k_asm); (case k6 => first | exact rfl | assumption); (case k7 => ktr_room); (case k8 => ktr_units); k_whole)); intro q' r' D' t1' t2' c' h' tk' O' hD' sq' F' N' l1'; (try dsimp only); (try k_fold)))
theorem step2s (w : World) (s₀ : Shared) (mg mb : Str → Option Value) (k : Nat)
    (IH : Spec3 PySem.Challenge.rw_kg0013_01.row.prog w (hd.heap_39 w.params) hd.view_39 (looseW hd.view_39 []) (ExcName.means s₀.heap) mg mb 28 k) :
    Spec2 PySem.Challenge.rw_kg0013_01.row.prog w (hd.heap_39 w.params) hd.view_39 (looseW hd.view_39 []) (ExcName.means s₀.heap) mg mb 21 (k + 1) := by
  intro a b n ta tb tn O
  unfold GivesP
  intro dp un gd cn cs ad ccd cl outer A₀ base h₀ L m news s Q E B F X N T hk hdp hu hret
  have n1 := O.n1
  have n3 := O.n3
  have sm1 : Sm 1 := ⟨by decide +kernel⟩
  have sa : Sm a := sm_a2 O
  have sb : Sm b := sm_b O
  refine wpAny_call ?_
  w_on
  k_dflt ktr_enter
  w_strict k_steps
  all_goals first
    | (exfalso; omega)
    | (refine' hret _ _ _ _ _ _ _ _ ?e1 ?e2 ?e3 ?e4
       case e2 => k_asm
       case e3 => exact news_sub (by assumption) (fun y hy => by repeat (first | exact hy | apply List.mem_cons_of_mem))
       case e4 => first | exact allLt_of (by assumption) | assumption | exact And.right (by assumption) | exact And.right (And.right (And.right (by assumption)))
       case e1 => first
         | assumption
         | exact fin2 (by assumption) (by assumption) (by assumption) (by assumption) (by assumption) (by assumption) (by assumption) (by assumption) (by assumption) (by assumption) (by assumption) (by assumption) (by assumption)
         | exact fin_pad (by assumption) (by assumption) (fin2 (by assumption) (by assumption) (by assumption) (by assumption) (by assumption) (by assumption) (by assumption) (by assumption) (by assumption) (by assumption) (by assumption) (by assumption) (by assumption)) (by assumption))
theorem step20 (w : World) (s₀ : Shared) (mg mb : Str → Option Value) :
    Spec2 PySem.Challenge.rw_kg0013_01.row.prog w (hd.heap_39 w.params) hd.view_39 (looseW hd.view_39 []) (ExcName.means s₀.heap) mg mb 21 0 := by
  intro a b n ta tb tn O
  unfold GivesP
  intro dp un gd cn cs ad ccd cl outer A₀ base h₀ L m news s Q E B F X N T hk hdp hu hret
  have n1 := O.n1
  have n3 := O.n3
  refine wpAny_call ?_
  w_on
  k_dflt ktr_enter
  w_strict k_steps
  all_goals first
    | (exfalso; omega)
    | (refine' hret _ _ _ _ _ _ _ _ ?e1 ?e2 ?e3 ?e4
       case e2 => k_asm
       case e3 => exact news_sub (by assumption) (fun y hy => by repeat (first | exact hy | apply List.mem_cons_of_mem))
       case e4 => first | exact allLt_of (by assumption) | assumption | exact And.right (by assumption) | exact And.right (And.right (And.right (by assumption)))
       case e1 => first
         | assumption
         | exact fin2 (by assumption) (by assumption) (by assumption) (by assumption) (by assumption) (by assumption) (by assumption) (by assumption) (by assumption) (by assumption) (by assumption) (by assumption) (by assumption)
         | exact fin_pad (by assumption) (by assumption) (fin2 (by assumption) (by assumption) (by assumption) (by assumption) (by assumption) (by assumption) (by assumption) (by assumption) (by assumption) (by assumption) (by assumption) (by assumption) (by assumption)) (by assumption))
end
theorem all2 (w : World) (s₀ : Shared) (mg mb : Str → Option Value) : ∀ k, Spec2 PySem.Challenge.rw_kg0013_01.row.prog w (hd.heap_39 w.params) hd.view_39 (looseW hd.view_39 []) (ExcName.means s₀.heap) mg mb 21 k
  | 0 => step20 w s₀ mg mb
  | k + 1 => step2s w s₀ mg mb k (step3 w s₀ mg mb k (all2 w s₀ mg mb k))
end Mine
open Mine
local macro_rules | `(tactic| walk_at "assign Tuple") => `(tactic| (k_here; (with_reducible show wpAny _ _ (assign (Expr.Tuple _ _ _) _ (Value.ref _)) _ _ _); (rename IntsAre _ (List.take 3 (_ ++ [0, 0, 0])) => hI3); (obtain ⟨x3, y3, z3, t13, t23, t33, e3⟩ := three_of hI3); clear hI3; subst e3; walk_at "assign Tuple"))
local macro_rules | `(tactic| walk_at "binaryOp Mod int int") => `(tactic| ((refine r_mod ?k1 ?_; (case k1 => first | decide | assumption | omega | fail)); intro v' tk' h0' h1'; (try dsimp only)))
local macro_rules | `(tactic| walk_at "binaryOp Pow int int") => `(tactic| first
  | ((refine r_pow2 ?k1 ?k2 ?_; (case k1 => omega); (case k2 => omega)); intro v' tk' h0' h1' h2'; (try dsimp only))
  | ((refine r_pow10 ?k1 ?k2 ?_; (case k1 => decide); (case k2 => decide)); intro v' tk' h0' h1'; (try dsimp only))
  | ((refine r_pow ?k1 ?k2 ?k3 ?_; (case k1 => decide); (case k2 => decide); (case k3 => exact sm_ten (by assumption) (by assumption) (by assumption) (by assumption) (by assumption))); intro v' tk'; (try dsimp only))
  | refine Stop.go ?_)
local macro_rules | `(tactic| walk_at "binaryOp Mult int int") => `(tactic| first
  | ((refine' mul_dv ?k1 ?k2 ?_; (case k1 => assumption); (case k2 => assumption)); intro v' tk' h0' h1' h2'; (try dsimp only))
  | ((refine r_mulp ?k1 ?k2 ?k3 ?k4 ?_; (case k1 => assumption); (case k2 => first | assumption | exact sm_pow_add (by assumption) (by assumption) (by assumption) (by assumption) (by assumption) (by omega) (by omega)); (case k3 => assumption); (case k4 => omega)); intro v' tk' h0' h1'; (try dsimp only))
  | refine Stop.go ?_)
local macro_rules | `(tactic| walk_at "binaryOp Add int int") => `(tactic| (refine p_add ?_; intro v' tk' h0'; (try dsimp only)))
local macro_rules | `(tactic| walk_at "binaryOp Sub int int") => `(tactic| (refine p_sub ?_; intro v' tk' h0'; (try dsimp only)))
local macro_rules | `(tactic| walk_at "execs cons") => `(tactic| (k_here; (with_reducible refine gen_toks (fun tk' => ?_)); (try dsimp only); (with_reducible refine wpAny_execs_cons ?_); (try dsimp only)))
local macro_rules | `(tactic| walk_at "call ref") => `(tactic| refine Stop.go ?_)
set_option maxRecDepth 100000 in
set_option maxHeartbeats 8000000 in
theorem PySem.Challenge.cw_kg0013_01_holds : PySem.Challenge.rw_kg0013_01.Holds := by
  refine hd ?_
  w_strict (k_go0; (all_goals try k_fold); k_steps)
  · refine Stop.mk ?_
    k_dflt (refine' use2m ?kI ?kO ?k1 ?k2 ?k3 ?k4 ?k5 ?k6 ?k7 ?k8 ?_)
    case kO => exact ok_main (by assumption) (by assumption) (by assumption) (by assumption) (by assumption) (by assumption) (by assumption) (by assumption) (by assumption) (by assumption) (by assumption) (by omega) (by omega)
    case k1 => k_asm
    case k2 => k_asm
    case k3 => k_asm
    case k4 => k_asm
    case k5 => k_asm
    case kI => exact all2 _ _ _ _
    case k6 => first | exact rfl | assumption
    case k7 => decide
    case k8 => decide
    intro q' r' D' t1' t2' c' h' tk' O' hD' F' N' l1'
    try simp only [AllLt, and_true] at l1'
    try dsimp only
    try k_fold
    k_steps
