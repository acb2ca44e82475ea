import PyProof.Rows.All
import Wide.All
import OpenK.AllK
import Wide.FinOn
import Lean
import PySem.Challenge.RW_bh0024_01
set_option Elab.async false
set_option linter.unusedVariables false
set_option linter.unusedSectionVars false
set_option linter.unusedSimpArgs false

section SHdTop
open PySem PySem.W PyProof.Rows
set_option maxRecDepth 100000
set_option maxHeartbeats 8000000
namespace Mine
open_top hd for PySem.Challenge.rw_bh0024_01
end Mine
end SHdTop

section SPlain
/-! The plain functions: what the program's defs compute, on ints. -/
namespace Mine

def P : Int := 115792089237316195423570985008687907853269984665640564039457584007908834671663
def NN : Int := 115792089237316195423570985008687907852837564279074904382605163141518161494337

abbrev T3 := Int × Int × Int

def jdbl (p : T3) : T3 :=
  if p.2.1 = 0 then (0, 0, 0)
  else
    let ysq := (p.2.1 ^ 2).fmod P
    let S := (4 * p.1 * ysq).fmod P
    let M := (3 * p.1 ^ 2 + 0 * p.2.2 ^ 4).fmod P
    let nx := (M ^ 2 - 2 * S).fmod P
    (nx, (M * (S - nx) - 8 * ysq ^ 2).fmod P, (2 * p.2.1 * p.2.2).fmod P)

def jadd (p q : T3) : T3 :=
  if p.2.1 = 0 then q
  else if q.2.1 = 0 then p
  else
    let U1 := (p.1 * q.2.2 ^ 2).fmod P
    let U2 := (q.1 * p.2.2 ^ 2).fmod P
    let S1 := (p.2.1 * q.2.2 ^ 3).fmod P
    let S2 := (q.2.1 * p.2.2 ^ 3).fmod P
    if U1 = U2 then
      if S1 = S2 then jdbl p else (0, 0, 1)
    else
      let H := U2 - U1
      let R := S2 - S1
      let H2 := (H * H).fmod P
      let H3 := (H * H2).fmod P
      let U1H2 := (U1 * H2).fmod P
      let nx := (R ^ 2 - H3 - 2 * U1H2).fmod P
      (nx, (R * (U1H2 - nx) - S1 * H3).fmod P, (H * p.2.2 * q.2.2).fmod P)

theorem jdbl_0 {p : T3} (h : p.2.1 = 0) : jdbl p = (0, 0, 0) := by unfold jdbl; rw [if_pos h]
theorem jadd_0 {p q : T3} (h : p.2.1 = 0) : jadd p q = q := by unfold jadd; rw [if_pos h]
theorem jadd_1 {p q : T3} (h : p.2.1 ≠ 0) (k : q.2.1 = 0) : jadd p q = p := by unfold jadd; rw [if_neg h, if_pos k]
theorem jadd_2 {p q : T3} (h : p.2.1 ≠ 0) (k : q.2.1 ≠ 0) (e : (p.1 * q.2.2 ^ 2).fmod P = (q.1 * p.2.2 ^ 2).fmod P) (f : (p.2.1 * q.2.2 ^ 3).fmod P ≠ (q.2.1 * p.2.2 ^ 3).fmod P) : jadd p q = (0, 0, 1) := by
  unfold jadd; rw [if_neg h, if_neg k]; dsimp only; rw [if_pos e, if_neg f]
theorem jadd_3 {p q : T3} (h : p.2.1 ≠ 0) (k : q.2.1 ≠ 0) (e : (p.1 * q.2.2 ^ 2).fmod P = (q.1 * p.2.2 ^ 2).fmod P) (f : (p.2.1 * q.2.2 ^ 3).fmod P = (q.2.1 * p.2.2 ^ 3).fmod P) : jadd p q = jdbl p := by
  unfold jadd; rw [if_neg h, if_neg k]; dsimp only; rw [if_pos e, if_pos f]
theorem jadd_4 {p q : T3} (h : p.2.1 ≠ 0) (k : q.2.1 ≠ 0) (e : (p.1 * q.2.2 ^ 2).fmod P ≠ (q.1 * p.2.2 ^ 2).fmod P) : jadd p q = (
      let U1 := (p.1 * q.2.2 ^ 2).fmod P
      let U2 := (q.1 * p.2.2 ^ 2).fmod P
      let S1 := (p.2.1 * q.2.2 ^ 3).fmod P
      let S2 := (q.2.1 * p.2.2 ^ 3).fmod P
      let H := U2 - U1
      let R := S2 - S1
      let H2 := (H * H).fmod P
      let H3 := (H * H2).fmod P
      let U1H2 := (U1 * H2).fmod P
      let nx := (R ^ 2 - H3 - 2 * U1H2).fmod P
      (nx, (R * (U1H2 - nx) - S1 * H3).fmod P, (H * p.2.2 * q.2.2).fmod P)) := by
  unfold jadd; rw [if_neg h, if_neg k]; dsimp only; rw [if_neg e]

/-- m for nat factors -/
noncomputable def jmul (a : T3) (n : Nat) : T3 :=
  if a.2.1 = 0 ∨ n = 0 then (0, 0, 1)
  else if n = 1 then a
  else if n % 2 = 0 then jdbl (jmul a (n / 2))
  else jadd (jdbl (jmul a (n / 2))) a
termination_by n
decreasing_by all_goals omega

/-- the while loop of inv -/
noncomputable def invGo (lm low hm high : Int) : Int :=
  if h : low > 1 then invGo (hm - lm * (high.fdiv low)) (high - low * (high.fdiv low)) lm low
  else lm
termination_by low.toNat
decreasing_by
  have h1 : high.fmod low = high - low * high.fdiv low := by
    have := Int.mul_fdiv_add_fmod high low; omega
  have h2 := Int.fmod_lt_of_pos high (b := low) (by omega)
  have h3 := Int.fmod_nonneg_of_pos high (b := low) (by omega)
  omega

noncomputable def inv (a n : Int) : Int := if a = 0 then 0 else (invGo 1 (a.fmod n) 0 n).fmod n

noncomputable def fromJ (p : T3) : Int × Int := ((p.1 * (inv p.2.2 P) ^ 2).fmod P, (p.2.1 * (inv p.2.2 P) ^ 3).fmod P)

def isNone (p : T3) : Bool := decide (p = (0, 0, 0)) || decide (p = (0, 0, 1))

def told (u : Int × Int) (z : Int) : T3 :=
  let z := 1 + z.fmod (P - 1)
  ((u.1 * z * z).fmod P, (u.2 * z * z * z).fmod P, z)

def turned (t : T3) : T3 := (t.1, (P - t.2.1).fmod P, t.2.2)

def same (a b : T3) : Bool :=
  if isNone a || isNone b then isNone a && isNone b
  else if a.2.2.fmod P = 0 ∨ b.2.2.fmod P = 0 ∨ (a.2.1 ^ 2 - a.1 ^ 3 - 7 * a.2.2 ^ 6).fmod P ≠ 0 then false
  else decide ((a.1 * b.2.2 ^ 2 - b.1 * a.2.2 ^ 2).fmod P = 0) && decide ((a.2.1 * b.2.2 ^ 3 - b.2.1 * a.2.2 ^ 3).fmod P = 0)

end Mine
end SPlain

section SPlainInv
/-! The loop of inv: its invariant. -/
namespace Mine
theorem invGo_stop {lm low hm high : Int} (h : ¬ low > 1) : invGo lm low hm high = lm := by rw [invGo, dif_neg h]
theorem invGo_step {lm low hm high : Int} (h : low > 1) : invGo lm low hm high = invGo (hm - lm * (high.fdiv low)) (high - low * (high.fdiv low)) lm low := by rw [invGo, dif_pos h]
structure InvI (a lm low hm high : Int) : Prop where
  h0 : 0 ≤ low
  h1 : 1 ≤ high
  h2 : high ≤ P
  hl : low ≤ P
  hb : lm.natAbs * high.natAbs + hm.natAbs * low.natAbs ≤ P.natAbs
  he : invGo lm low hm high = invGo 1 (a.fmod P) 0 P
theorem InvI.start (a : Int) : InvI a 1 (a.fmod P) 0 P where
  h0 := Int.fmod_nonneg_of_pos a (by decide)
  h1 := by decide
  h2 := Int.le_refl _
  hl := Int.le_of_lt (Int.fmod_lt_of_pos a (by decide))
  hb := by simp
  he := rfl
theorem InvI.step {a lm low hm high : Int} (I : InvI a lm low hm high) (h : low > 1) : InvI a (hm - lm * (high.fdiv low)) (high - low * (high.fdiv low)) lm low := by
  have e : high.fmod low = high - low * high.fdiv low := by
    have := Int.mul_fdiv_add_fmod high low; omega
  have h2 := Int.fmod_lt_of_pos high (b := low) (by omega)
  have h3 := Int.fmod_nonneg_of_pos high (b := low) (by omega)
  have hr : 0 ≤ high.fdiv low := Int.fdiv_nonneg (by have := I.h1; omega) I.h0
  refine ⟨by omega, by omega, I.hl, by have := I.hl; omega, ?_, ?_⟩
  · have hb := I.hb
    have a1 : (hm - lm * high.fdiv low).natAbs ≤ hm.natAbs + lm.natAbs * (high.fdiv low).natAbs := by
      have := Int.natAbs_sub_le hm (lm * high.fdiv low)
      rwa [Int.natAbs_mul] at this
    have a2 : (high - low * high.fdiv low).natAbs + low.natAbs * (high.fdiv low).natAbs = high.natAbs := by
      have : low.natAbs * (high.fdiv low).natAbs = (low * high.fdiv low).natAbs := (Int.natAbs_mul _ _).symm
      rw [this]
      have hp : 0 ≤ low * high.fdiv low := Int.mul_nonneg I.h0 hr
      omega
    have a3 := Nat.mul_le_mul_right low.natAbs a1
    rw [Nat.add_mul] at a3
    have a4 : lm.natAbs * high.natAbs = lm.natAbs * (high - low * high.fdiv low).natAbs + lm.natAbs * (low.natAbs * (high.fdiv low).natAbs) := by rw [← a2, Nat.mul_add]
    have a5 : lm.natAbs * (high.fdiv low).natAbs * low.natAbs = lm.natAbs * (low.natAbs * (high.fdiv low).natAbs) := by rw [Nat.mul_assoc, Nat.mul_comm (high.fdiv low).natAbs]
    omega
  · rw [← I.he, invGo_step h]
theorem InvI.lm {a lm low hm high : Int} (I : InvI a lm low hm high) : lm.natAbs ≤ P.natAbs := by
  have := I.hb
  have h1 : 1 ≤ high.natAbs := by have := I.h1; omega
  have h2 : lm.natAbs * 1 ≤ lm.natAbs * high.natAbs := Nat.mul_le_mul_left _ h1
  omega
theorem InvI.hm {a lm low hm high : Int} (I : InvI a lm low hm high) (h : low > 1) : hm.natAbs ≤ P.natAbs := by
  have := I.hb
  have h1 : 1 ≤ low.natAbs := by omega
  have h2 : hm.natAbs * 1 ≤ hm.natAbs * low.natAbs := Nat.mul_le_mul_left _ h1
  omega
theorem InvI.less {a lm low hm high : Int} (I : InvI a lm low hm high) (h : low > 1) : (high - low * (high.fdiv low)).toNat < low.toNat := by
  have e : high.fmod low = high - low * high.fdiv low := by
    have := Int.mul_fdiv_add_fmod high low; omega
  have h2 := Int.fmod_lt_of_pos high (b := low) (by omega)
  omega

theorem inv_0 {n : Int} : inv 0 n = 0 := by unfold inv; rw [if_pos rfl]
theorem inv_1 {a : Int} {lm low hm high : Int} (h : a ≠ 0) (I : InvI a lm low hm high) (hs : ¬ low > 1) : inv a P = lm.fmod P := by
  unfold inv; rw [if_neg h, ← I.he, invGo_stop hs]
end Mine
end SPlainInv

section SWBase
open PySem PySem.W PyProof.Rows PySem.Calls Builtin.Int PySem.Spec PyProof.V
set_option maxRecDepth 100000
set_option maxHeartbeats 8000000
namespace Mine

abbrev tupP (p : T3) (t1 t2 t3 : Tok) (n : Nat) : Obj := { cls := .type "tuple", data := .seq #[.int p.1 t1, .int p.2.1 t2, .int p.2.2 t3] n }
abbrev tupU (p : Int × Int) (t1 t2 : Tok) (n : Nat) : Obj := { cls := .type "tuple", data := .seq #[.int p.1 t1, .int p.2 t2] n }
def InP (x : Int) : Prop := 0 ≤ x ∧ x < P
def In3 (p : T3) : Prop := InP p.1 ∧ InP p.2.1 ∧ InP p.2.2
def In2 (p : Int × Int) : Prop := InP p.1 ∧ InP p.2

abbrev Ctr (w : World) (mean : ExcName → Option Value) (mg mb : Str → Option Value) (f : Addr) (d : Nat) (news : List (Addr × Obj)) (vs : List Value)
    (Ret : Heap → Addr → (Str → Option Value) → Shared → (Value → Shared → Prop) → Prop) : Prop :=
  ∀ (dp un : Nat) (gd : Option (List Code)) (cn : Str) (cs : Scope) (a : Addr) (ccd : Value) (cl : List (Str × Addr)) (outer : List Env) (A₀ : Around) (base h₀ : Heap) (L : Addr) (m : Str → Option Value) (s : Shared) (Q E : Value → Shared → Prop),
    Below A₀ base outer h₀ → Fr h₀ L s.heap m → (hd.heap_39 w.params).In h₀ → News h₀ L s.heap news → Top hd.view_39 (looseW hd.view_39 []) mean mg mb h₀ → cs.kind = .function →
    dp + d < recursionLimit → un + 8 * d + 100 < cLine → Ret h₀ L m s Q →
    wpAny (model PySem.Challenge.rw_bh0024_01.row.toRowW.prog w) (ktrTop dp un gd cn cs L a ccd cl outer) (call (.ref f) vs) Q E s

abbrev Ret3 (news : List (Addr × Obj)) (r : T3) (h₀ : Heap) (L : Addr) (m : Str → Option Value) (s : Shared) (Q : Value → Shared → Prop) : Prop :=
  ∀ (D : Addr) (t1 t2 t3 : Tok) (n : Nat) (h' : Heap) (tk' : Nat), In3 r → Fr h₀ L h' m → News h₀ L h' ((D, tupP r t1 t2 t3 n) :: news) → Q (.ref D) { s with heap := h', toks := tk' }
abbrev Ret3n (news : List (Addr × Obj)) (r : T3) (h₀ : Heap) (L : Addr) (m : Str → Option Value) (s : Shared) (Q : Value → Shared → Prop) : Prop :=
  ∀ (D : Addr) (t1 t2 t3 : Tok) (n : Nat) (h' : Heap) (tk' : Nat), In3 r → Fr h₀ L h' m → News h₀ L h' ((D, tupP r t1 t2 t3 n) :: news) → AllLt D news → Q (.ref D) { s with heap := h', toks := tk' }
abbrev Ret2n (news : List (Addr × Obj)) (r : Int × Int) (h₀ : Heap) (L : Addr) (m : Str → Option Value) (s : Shared) (Q : Value → Shared → Prop) : Prop :=
  ∀ (D : Addr) (t1 t2 : Tok) (n : Nat) (h' : Heap) (tk' : Nat), In2 r → Fr h₀ L h' m → News h₀ L h' ((D, tupU r t1 t2 n) :: news) → AllLt D news → Q (.ref D) { s with heap := h', toks := tk' }
abbrev RetI (news : List (Addr × Obj)) (x : Int) (h₀ : Heap) (L : Addr) (m : Str → Option Value) (s : Shared) (Q : Value → Shared → Prop) : Prop :=
  ∀ (t : Tok) (h' : Heap) (tk' : Nat), Fr h₀ L h' m → News h₀ L h' news → Q (.int x t) { s with heap := h', toks := tk' }
abbrev RetB (news : List (Addr × Obj)) (x : Bool) (h₀ : Heap) (L : Addr) (m : Str → Option Value) (s : Shared) (Q : Value → Shared → Prop) : Prop :=
  ∀ (h' : Heap) (tk' : Nat), Fr h₀ L h' m → News h₀ L h' news → Q (.bool x) { s with heap := h', toks := tk' }

def Bd (k : Nat) (a : Int) : Prop := a.natAbs < 2 ^ k
theorem Bd.ofP {x : Int} (h : InP x) : Bd 256 x := by
  unfold Bd; unfold InP P at h; omega
theorem Bd.p1 {p : T3} (h : In3 p) : Bd 256 p.1 := .ofP h.1
theorem Bd.p2 {p : T3} (h : In3 p) : Bd 256 p.2.1 := .ofP h.2.1
theorem Bd.p3 {p : T3} (h : In3 p) : Bd 256 p.2.2 := .ofP h.2.2
theorem Bd.u1 {p : Int × Int} (h : In2 p) : Bd 256 p.1 := .ofP h.1
theorem Bd.u2 {p : Int × Int} (h : In2 p) : Bd 256 p.2 := .ofP h.2
theorem InP.fmod (x : Int) : InP (x.fmod P) := ⟨Int.fmod_nonneg_of_pos _ (by decide), Int.fmod_lt_of_pos _ (by decide)⟩
theorem In3.none0 : In3 (0, 0, 0) := by unfold In3 InP; decide
theorem In3.none1 : In3 (0, 0, 1) := by unfold In3 InP; decide
theorem In3.dbl (p : T3) : In3 (jdbl p) := by
  unfold jdbl
  split
  · exact In3.none0
  · exact ⟨.fmod _, .fmod _, .fmod _⟩
theorem In3.add {p q : T3} (hp : In3 p) (hq : In3 q) : In3 (jadd p q) := by
  unfold jadd
  split
  · exact hq
  split
  · exact hp
  dsimp only
  split
  · split
    · exact In3.dbl p
    · exact In3.none1
  · exact ⟨.fmod _, .fmod _, .fmod _⟩
theorem In3.mul {p : T3} (hp : In3 p) (n : Nat) : In3 (jmul p n) := by
  unfold jmul
  split
  · exact In3.none1
  split
  · exact hp
  split
  · exact In3.dbl _
  · exact In3.add (In3.dbl _) hp
theorem In3.told (u : Int × Int) (z : Int) : In3 (told u z) := by
  refine ⟨.fmod _, .fmod _, ?_⟩
  show InP (1 + z.fmod (P - 1))
  have h1 := Int.fmod_nonneg_of_pos z (b := P - 1) (by decide)
  have h2 := Int.fmod_lt_of_pos z (b := P - 1) (by decide)
  unfold InP; omega
theorem In3.turned {t : T3} (h : In3 t) : In3 (turned t) := ⟨h.1, .fmod _, h.2.2⟩
theorem In2.fromJ (p : T3) : In2 (fromJ p) := ⟨.fmod _, .fmod _⟩
theorem Bd.mono {i j : Nat} {a : Int} (h : Bd i a) (hij : i ≤ j) : Bd j a := Nat.lt_of_lt_of_le h (Nat.pow_le_pow_right (by decide) hij)
theorem Bd.mul {i j : Nat} {a b : Int} (h : Bd i a) (k : Bd j b) : Bd (i + j) (a * b) := by
  unfold Bd at *
  rw [Int.natAbs_mul, Nat.pow_add]
  exact Nat.mul_lt_mul'' h k
theorem Bd.pow {i n : Nat} {a : Int} (h : Bd i a) : Bd (i * n + 1) (a ^ n) := by
  unfold Bd at *
  rw [Int.natAbs_pow, Nat.pow_succ, Nat.pow_mul]
  have h1 : a.natAbs ^ n ≤ (2 ^ i) ^ n := Nat.pow_le_pow_left (Nat.le_of_lt h) n
  have h2 : 0 < (2 ^ i) ^ n := Nat.pow_pos (Nat.pow_pos (by decide))
  omega
theorem Bd.add {i j : Nat} {a b : Int} (h : Bd i a) (k : Bd j b) : Bd (i + j + 1) (a + b) := by
  have h' := h.mono (Nat.le_add_right i j); have k' := k.mono (Nat.le_add_left j i)
  unfold Bd at *
  rw [Nat.pow_succ]; omega
theorem Bd.sub {i j : Nat} {a b : Int} (h : Bd i a) (k : Bd j b) : Bd (i + j + 1) (a - b) := by
  have h' := h.mono (Nat.le_add_right i j); have k' := k.mono (Nat.le_add_left j i)
  unfold Bd at *
  rw [Nat.pow_succ]; omega
theorem Bd.neg {i : Nat} {a : Int} (h : Bd i a) : Bd i (-a) := by unfold Bd at *; rwa [Int.natAbs_neg]
theorem Bd.fmod {a b : Int} (hb : 0 < b) {j : Nat} (k : Bd j b) : Bd j (a.fmod b) := by
  unfold Bd at *
  have h1 := Int.fmod_nonneg_of_pos a hb
  have h2 := Int.fmod_lt_of_pos a hb
  omega
theorem Bd.lit4 {n : Int} (h : n.natAbs < 2 ^ 64) : Bd 64 n := h
theorem Bd.lit {n : Int} (h : n.natAbs < 2 ^ 256) : Bd 256 n := h
theorem Bd.bits {i : Nat} {a : Int} (h : Bd i a) : Builtin.Int.intBits a ≤ i := intBits_le_iff.mpr h
theorem mulOk {i j : Nat} {a b : Int} (h : Bd i a) (k : Bd j b) (hij : i + j ≤ 100000000) : IntMulOk a b := by
  have h1 := h.bits; have h2 := k.bits
  unfold IntMulOk Builtin.Int.intTooBig
  rw [bitsLine_eq]
  simp only [Bool.and_eq_true, decide_eq_true_eq]
  omega
theorem pow_own {prog : Program} {w : World} {A : Around} {E : Value → Shared → Prop} {s : Shared} {a n : Int} {t u : Tok} {Q : Value → Shared → Prop} {i k : Nat} (hn : n = (k : Int)) (h : Bd i a) (hi : i * k ≤ 100000000)
    (q : Q (.int (a ^ k) s.toks) { s with toks := s.toks + 1 }) : wpAny (model prog w) A (binaryOp .Pow (.int a t) (.int n u)) Q E s := by
  subst hn
  refine pow_int (Int.natCast_nonneg k) ?_ ?_
  · have h1 := h.bits
    have h2 : Builtin.Int.intBits a * k ≤ i * k := Nat.mul_le_mul_right k h1
    have h3 : (Builtin.Int.intBits a : Int) * (k : Int) = ((Builtin.Int.intBits a * k : Nat) : Int) := by rw [Int.natCast_mul]
    rw [h3]; omega
  · rw [Int.toNat_natCast]; exact q
theorem mul_own {prog : Program} {w : World} {A : Around} {E : Value → Shared → Prop} {s : Shared} {a b : Int} {t u : Tok} {Q : Value → Shared → Prop} {i j : Nat} (h : Bd i a) (k : Bd j b) (hi : i + j ≤ 100000000)
    (q : Q (.int (a * b) s.toks) { s with toks := s.toks + 1 }) : wpAny (model prog w) A (binaryOp .Mult (.int a t) (.int b u)) Q E s := mul_int q (mulOk h k hi)
theorem newsCons {h₀ h : Heap} {L : Addr} {q : Addr × Obj} {news news' : List (Addr × Obj)} (N : News h₀ L h news') (hq : q ∈ news') (hs : ∀ p ∈ news, p ∈ news' := by first | exact fun _ h => h | exact fun _ h => .tail _ h | (intro p hp; simp only [List.mem_cons]; simp [hp])) : News h₀ L h (q :: news) := fun p hp => by
  rcases List.mem_cons.mp hp with rfl | hp
  · exact N _ hq
  · exact N p (hs p hp)

theorem readsP {h : Heap} {D : Addr} {p : T3} {t1 t2 t3 : Tok} {n : Nat} (hD : h.get? D = some (tupP p t1 t2 t3 n)) : Reads h (.ref D) (.tuple [.int p.1, .int p.2.1, .int p.2.2]) ([] ++ ([] ++ ([] ++ []))) :=
  reads_tuple_at hD rfl rfl (.cons (.int _ _) (.cons (.int _ _) (.cons (.int _ _) .nil)))
theorem in_pts {prog : Program} {w : World} {A : Around} {E : Value → Shared → Prop} {s : Shared} {Q : Value → Shared → Prop} {c D : Addr} {p : T3} {t1 t2 t3 : Tok} {n : Nat} {as : List Addr}
    (rc : Reads s.heap (.ref c) (.tuple [.tuple [.int 0, .int 0, .int 0], .tuple [.int 0, .int 0, .int 1]]) as) (hD : s.heap.get? D = some (tupP p t1 t2 t3 n)) (hu : A.units + 65 < cLine)
    (h : Q (.bool (isNone p)) s) : wpAny (model prog w) A (compareOp .In (.ref D) (.ref c)) Q E s := by
  refine in_tuple_dataH rc (readsP hD) rfl rfl hu ?_ ?_
  · intro y hy
    simp only [List.mem_cons, List.not_mem_nil, or_false] at hy
    rcases hy with rfl | rfl <;> rfl
  · have e : decide (Spec.countIn (PyData.tuple [.int p.1, .int p.2.1, .int p.2.2]) [.tuple [.int 0, .int 0, .int 0], .tuple [.int 0, .int 0, .int 1]] ≠ 0) = isNone p := by
      obtain ⟨x, y, z⟩ := p
      unfold isNone
      simp only [Spec.countIn, Spec.same, Spec.sameAll, Prod.mk.injEq]
      by_cases h0 : x = 0 <;> by_cases h1 : y = 0 <;> by_cases h2 : z = 0 <;> by_cases h3 : z = 1 <;> simp_all <;> omega
    rw [e]; exact h
theorem reads_ids {w : World} {h : Heap} (X : (hd.heap_39 w.params).In h) : Reads h (.ref 17) (.tuple [.tuple [.int 0, .int 0, .int 0], .tuple [.int 0, .int 0, .int 1]]) ([] ++ ([] ++ ([] ++ [])) ++ (([] ++ ([] ++ ([] ++ []))) ++ [])) := by
  have h15 := X 15 { cls := .type "tuple", data := .seq #[.int 0 193, .int 0 194, .int 0 195] 0 } rfl
  have h16 := X 16 { cls := .type "tuple", data := .seq #[.int 0 196, .int 0 197, .int 1 198] 0 } rfl
  have h17 := X 17 { cls := .type "tuple", data := .seq #[.ref 15, .ref 16] 0 } rfl
  exact reads_tuple_at h17 rfl rfl (.cons (readsP (p := (0, 0, 0)) h15) (.cons (readsP (p := (0, 0, 1)) h16) .nil))

def HidE (v e : Int) : Prop := v = e
theorem mod_hid {prog : Program} {w : World} {A : Around} {E : Value → Shared → Prop} {s : Shared} {a b : Int} {t u : Tok} {Q : Value → Shared → Prop} (hb : b ≠ 0)
    (q : ∀ v, HidE v (a.fmod b) → Q (.int v s.toks) { s with toks := s.toks + 1 }) : wpAny (model prog w) A (binaryOp .Mod (.int a t) (.int b u)) Q E s := mod_int' hb (q _ rfl)
end Mine
end SWBase

section SWdbl
open PySem PySem.W PyProof.Rows PySem.Calls Builtin.Int PySem.Spec PyProof.V
set_option maxRecDepth 100000
set_option maxHeartbeats 8000000
set_option pp.deepTerms false
namespace Mine
local macro_rules | `(tactic| k_mem) => `(tactic| first | with_reducible assumption | assumption)
local macro_rules | `(tactic| ktr_rel) => `(tactic| first | with_reducible assumption | ((with_reducible refine' Bd.fmod ?hb ?h1); (case hb => decide); (case h1 => ktr_rel)) | ((with_reducible refine' Bd.mul ?h1 ?h2); (case h1 => ktr_rel); (case h2 => ktr_rel)) | ((with_reducible refine' Bd.pow ?h1); (case h1 => ktr_rel)) | ((with_reducible refine' Bd.add ?h1 ?h2); (case h1 => ktr_rel); (case h2 => ktr_rel)) | ((with_reducible refine' Bd.sub ?h1 ?h2); (case h1 => ktr_rel); (case h2 => ktr_rel)) | ((with_reducible refine' Bd.neg ?h1); (case h1 => ktr_rel)) | ((with_reducible refine' Bd.p1 ?h1); (case h1 => with_reducible assumption)) | ((with_reducible refine' Bd.p2 ?h1); (case h1 => with_reducible assumption)) | ((with_reducible refine' Bd.p3 ?h1); (case h1 => with_reducible assumption)) | ((with_reducible refine' Bd.u1 ?h1); (case h1 => with_reducible assumption)) | ((with_reducible refine' Bd.u2 ?h1); (case h1 => with_reducible assumption)) | ((with_reducible refine' Bd.ofP ?h1); (case h1 => with_reducible assumption)) | ((with_reducible refine' Bd.lit4 ?h1); (case h1 => decide)) | ((with_reducible refine' Bd.lit ?h1); (case h1 => decide)))
local macro_rules | `(tactic| walk_at "binaryOp Mult int int") => `(tactic| (k_here; k_dflt ((with_reducible refine' mul_own ?mh ?mk ?mi ?_); (case mh => ktr_rel); (case mk => ktr_rel); (case mi => decide))))
local macro_rules | `(tactic| walk_at "binaryOp Pow int int") => `(tactic| (k_here; k_dflt (first
  | ((with_reducible refine' pow_own (k := 2) ?mn ?mh ?mi ?_); (case mn => rfl); (case mh => ktr_rel); (case mi => decide))
  | ((with_reducible refine' pow_own (k := 3) ?mn ?mh ?mi ?_); (case mn => rfl); (case mh => ktr_rel); (case mi => decide))
  | ((with_reducible refine' pow_own (k := 4) ?mn ?mh ?mi ?_); (case mn => rfl); (case mh => ktr_rel); (case mi => decide))
  | ((with_reducible refine' pow_own (k := 6) ?mn ?mh ?mi ?_); (case mn => rfl); (case mh => ktr_rel); (case mi => decide)))))
theorem dbl_spec (w : World) (mean : ExcName → Option Value) (mg mb : Str → Option Value) (news : List (Addr × Obj)) (D : Addr) (p : T3) (t1 t2 t3 : Tok) (n : Nat) (hD : (D, tupP p t1 t2 t3 n) ∈ news) (hp : In3 p) : Ctr w mean mg mb 38 1 news [.ref D] (Ret3 news (jdbl p)) := by
  unfold Ctr
  k_fill
  intro dp un gd cn cs a ccd cl outer A₀ base h₀ L m s Q E B F X N T hk hdd hu ret
  refine wpAny_call ?_
  k_dflt ktr_enter
  repeat' (first
    | (k_unfold; (try dsimp only)) | (k_end; wrow_close) | walk1 | (dsimp only; walk1) | (leave1; walk_say "STEP leave1"; try dsimp only) | fail "no step")
  all_goals (unfold Ret3 jdbl at ret; first | (rw [if_pos (by assumption)] at ret; exact ret _ _ _ _ _ _ _ (by first | assumption | exact In3.none0 | exact In3.none1 | exact ⟨.fmod _, .fmod _, .fmod _⟩) (by k_asm) (by first | k_asm | (refine newsCons ?_ (by k_mem); k_asm))) | (rw [if_neg (by assumption)] at ret; exact ret _ _ _ _ _ _ _ (by first | assumption | exact In3.none0 | exact In3.none1 | exact ⟨.fmod _, .fmod _, .fmod _⟩) (by k_asm) (by first | k_asm | (refine newsCons ?_ (by k_mem); k_asm))))
end Mine
end SWdbl

section SWadd
open PySem PySem.W PyProof.Rows PySem.Calls Builtin.Int PySem.Spec PyProof.V
set_option maxRecDepth 100000
set_option maxHeartbeats 8000000
set_option pp.deepTerms false
namespace Mine
local macro_rules | `(tactic| k_mem) => `(tactic| first | with_reducible assumption | assumption)
local macro_rules | `(tactic| ktr_rel) => `(tactic| first | with_reducible assumption | ((with_reducible refine' Bd.fmod ?hb ?h1); (case hb => decide); (case h1 => ktr_rel)) | ((with_reducible refine' Bd.mul ?h1 ?h2); (case h1 => ktr_rel); (case h2 => ktr_rel)) | ((with_reducible refine' Bd.pow ?h1); (case h1 => ktr_rel)) | ((with_reducible refine' Bd.add ?h1 ?h2); (case h1 => ktr_rel); (case h2 => ktr_rel)) | ((with_reducible refine' Bd.sub ?h1 ?h2); (case h1 => ktr_rel); (case h2 => ktr_rel)) | ((with_reducible refine' Bd.neg ?h1); (case h1 => ktr_rel)) | ((with_reducible refine' Bd.p1 ?h1); (case h1 => with_reducible assumption)) | ((with_reducible refine' Bd.p2 ?h1); (case h1 => with_reducible assumption)) | ((with_reducible refine' Bd.p3 ?h1); (case h1 => with_reducible assumption)) | ((with_reducible refine' Bd.u1 ?h1); (case h1 => with_reducible assumption)) | ((with_reducible refine' Bd.u2 ?h1); (case h1 => with_reducible assumption)) | ((with_reducible refine' Bd.ofP ?h1); (case h1 => with_reducible assumption)) | ((with_reducible refine' Bd.lit4 ?h1); (case h1 => decide)) | ((with_reducible refine' Bd.lit ?h1); (case h1 => decide)))
local macro_rules | `(tactic| walk_at "binaryOp Mult int int") => `(tactic| (k_here; k_dflt ((with_reducible refine' mul_own ?mh ?mk ?mi ?_); (case mh => ktr_rel); (case mk => ktr_rel); (case mi => decide))))
local macro_rules | `(tactic| walk_at "binaryOp Pow int int") => `(tactic| (k_here; k_dflt (first
  | ((with_reducible refine' pow_own (k := 2) ?mn ?mh ?mi ?_); (case mn => rfl); (case mh => ktr_rel); (case mi => decide))
  | ((with_reducible refine' pow_own (k := 3) ?mn ?mh ?mi ?_); (case mn => rfl); (case mh => ktr_rel); (case mi => decide))
  | ((with_reducible refine' pow_own (k := 4) ?mn ?mh ?mi ?_); (case mn => rfl); (case mh => ktr_rel); (case mi => decide))
  | ((with_reducible refine' pow_own (k := 6) ?mn ?mh ?mi ?_); (case mn => rfl); (case mh => ktr_rel); (case mi => decide)))))
theorem add_spec (w : World) (mean : ExcName → Option Value) (mg mb : Str → Option Value) (news : List (Addr × Obj)) (D : Addr) (p : T3) (t1 t2 t3 : Tok) (n : Nat) (hD : (D, tupP p t1 t2 t3 n) ∈ news) (hp : In3 p) (E : Addr) (q : T3) (ut1 ut2 ut3 : Tok) (un : Nat) (hE : (E, tupP q ut1 ut2 ut3 un) ∈ news) (hq : In3 q) : Ctr w mean mg mb 45 2 news [.ref D, .ref E] (Ret3 news (jadd p q)) := by
  unfold Ctr
  k_fill
  intro dp un gd cn cs a ccd cl outer A₀ base h₀ L m s Q E B F X N T hk hdd hu ret
  refine wpAny_call ?_
  k_dflt ktr_enter
  repeat' (first
    | ((with_reducible show wpAny _ _ (PySem.call (Value.ref 38) _) _ _ _); k_dflt (refine' (dbl_spec _ _ _ _ _ _ _ _ _ _ _ ?hD ?hp) _ _ _ _ _ _ _ _ _ _ _ _ _ _ _ _ _ ?k1 ?k2 ?k3 ?k4 ?k5 ?kK ?kd ?ku ?_; (case k1 => k_asm); (case k2 => k_asm); (case k3 => k_asm); (case k4 => k_asm); (case k5 => k_asm); (case kK => first | exact rfl | assumption); (case kd => ktr_room); (case ku => ktr_units); (case hD => k_mem); (case hp => with_reducible assumption); intro D9 t91 t92 t93 n9 h9 tk9 I9 F9 N9; (try dsimp only); (try k_fold)))
    | (k_unfold; (try dsimp only)) | (k_end; wrow_close) | walk1 | (dsimp only; walk1) | (leave1; walk_say "STEP leave1"; try dsimp only) | fail "no step")
  all_goals (unfold Ret3 at ret; first
    | (rw [jadd_4 (p := p) (q := q) (by assumption) (by assumption) (by assumption)] at ret; exact ret _ _ _ _ _ _ _ (by first | assumption | exact In3.none0 | exact In3.none1 | exact ⟨.fmod _, .fmod _, .fmod _⟩) (by k_asm) (by first | k_asm | (refine' newsCons ?nn ?nq ?ns; (case nn => k_asm); (case nq => k_mem); (case ns => (intro p hp; repeat (first | exact hp | refine List.Mem.tail _ ?_))))))
    | (rw [jadd_3 (p := p) (q := q) (by assumption) (by assumption) (by assumption) (by assumption)] at ret; exact ret _ _ _ _ _ _ _ (by first | assumption | exact In3.none0 | exact In3.none1 | exact ⟨.fmod _, .fmod _, .fmod _⟩) (by k_asm) (by first | k_asm | (refine' newsCons ?nn ?nq ?ns; (case nn => k_asm); (case nq => k_mem); (case ns => (intro p hp; repeat (first | exact hp | refine List.Mem.tail _ ?_))))))
    | (rw [jadd_2 (p := p) (q := q) (by assumption) (by assumption) (by assumption) (by assumption)] at ret; exact ret _ _ _ _ _ _ _ (by first | assumption | exact In3.none0 | exact In3.none1 | exact ⟨.fmod _, .fmod _, .fmod _⟩) (by k_asm) (by first | k_asm | (refine' newsCons ?nn ?nq ?ns; (case nn => k_asm); (case nq => k_mem); (case ns => (intro p hp; repeat (first | exact hp | refine List.Mem.tail _ ?_))))))
    | (rw [jadd_1 (p := p) (q := q) (by assumption) (by assumption)] at ret; exact ret _ _ _ _ _ _ _ (by first | assumption | exact In3.none0 | exact In3.none1 | exact ⟨.fmod _, .fmod _, .fmod _⟩) (by k_asm) (by first | k_asm | (refine' newsCons ?nn ?nq ?ns; (case nn => k_asm); (case nq => k_mem); (case ns => (intro p hp; repeat (first | exact hp | refine List.Mem.tail _ ?_))))))
    | (rw [jadd_0 (p := p) (q := q) (by assumption)] at ret; exact ret _ _ _ _ _ _ _ (by first | assumption | exact In3.none0 | exact In3.none1 | exact ⟨.fmod _, .fmod _, .fmod _⟩) (by k_asm) (by first | k_asm | (refine' newsCons ?nn ?nq ?ns; (case nn => k_asm); (case nq => k_mem); (case ns => (intro p hp; repeat (first | exact hp | refine List.Mem.tail _ ?_))))))
   )
end Mine
end SWadd

section SWtoj
open PySem PySem.W PyProof.Rows PySem.Calls Builtin.Int PySem.Spec PyProof.V
set_option maxRecDepth 100000
set_option maxHeartbeats 8000000
set_option pp.deepTerms false
namespace Mine
local macro_rules | `(tactic| k_mem) => `(tactic| first | with_reducible assumption | assumption)
local macro_rules | `(tactic| ktr_rel) => `(tactic| first | with_reducible assumption | ((with_reducible refine' Bd.fmod ?hb ?h1); (case hb => decide); (case h1 => ktr_rel)) | ((with_reducible refine' Bd.mul ?h1 ?h2); (case h1 => ktr_rel); (case h2 => ktr_rel)) | ((with_reducible refine' Bd.pow ?h1); (case h1 => ktr_rel)) | ((with_reducible refine' Bd.add ?h1 ?h2); (case h1 => ktr_rel); (case h2 => ktr_rel)) | ((with_reducible refine' Bd.sub ?h1 ?h2); (case h1 => ktr_rel); (case h2 => ktr_rel)) | ((with_reducible refine' Bd.neg ?h1); (case h1 => ktr_rel)) | ((with_reducible refine' Bd.p1 ?h1); (case h1 => with_reducible assumption)) | ((with_reducible refine' Bd.p2 ?h1); (case h1 => with_reducible assumption)) | ((with_reducible refine' Bd.p3 ?h1); (case h1 => with_reducible assumption)) | ((with_reducible refine' Bd.u1 ?h1); (case h1 => with_reducible assumption)) | ((with_reducible refine' Bd.u2 ?h1); (case h1 => with_reducible assumption)) | ((with_reducible refine' Bd.ofP ?h1); (case h1 => with_reducible assumption)) | ((with_reducible refine' Bd.lit4 ?h1); (case h1 => decide)) | ((with_reducible refine' Bd.lit ?h1); (case h1 => decide)))
local macro_rules | `(tactic| walk_at "binaryOp Mult int int") => `(tactic| (k_here; k_dflt ((with_reducible refine' mul_own ?mh ?mk ?mi ?_); (case mh => ktr_rel); (case mk => ktr_rel); (case mi => decide))))
local macro_rules | `(tactic| walk_at "binaryOp Pow int int") => `(tactic| (k_here; k_dflt (first
  | ((with_reducible refine' pow_own (k := 2) ?mn ?mh ?mi ?_); (case mn => rfl); (case mh => ktr_rel); (case mi => decide))
  | ((with_reducible refine' pow_own (k := 3) ?mn ?mh ?mi ?_); (case mn => rfl); (case mh => ktr_rel); (case mi => decide))
  | ((with_reducible refine' pow_own (k := 4) ?mn ?mh ?mi ?_); (case mn => rfl); (case mh => ktr_rel); (case mi => decide))
  | ((with_reducible refine' pow_own (k := 6) ?mn ?mh ?mi ?_); (case mn => rfl); (case mh => ktr_rel); (case mi => decide)))))
theorem toj_spec (w : World) (mean : ExcName → Option Value) (mg mb : Str → Option Value) (news : List (Addr × Obj)) (D : Addr) (p : Int × Int) (t1 t2 : Tok) (n : Nat) (hD : (D, tupU p t1 t2 n) ∈ news) (hp : In2 p) : Ctr w mean mg mb 31 1 news [.ref D] (Ret3n news (p.1, p.2, 1)) := by
  unfold Ctr
  k_fill
  intro dp un gd cn cs a ccd cl outer A₀ base h₀ L m s Q E B F X N T hk hdd hu ret
  refine wpAny_call ?_
  k_dflt ktr_enter
  repeat' (first
    | (k_unfold; (try dsimp only)) | (k_end; wrow_close) | walk1 | (dsimp only; walk1) | (leave1; walk_say "STEP leave1"; try dsimp only) | fail "no step")
  all_goals (exact ret _ _ _ _ _ _ _ (by first | assumption | exact In3.none0 | exact In3.none1 | exact ⟨.fmod _, .fmod _, .fmod _⟩ | exact ⟨hp.1, hp.2, by exact ⟨by show (0:Int) ≤ 1; decide, by show (1:Int) < P; decide⟩⟩) (by k_asm) (by k_asm) (by first | assumption | exact allLt_of (by assumption)))
end Mine
end SWtoj

section SWtold
open PySem PySem.W PyProof.Rows PySem.Calls Builtin.Int PySem.Spec PyProof.V
set_option maxRecDepth 100000
set_option maxHeartbeats 8000000
set_option pp.deepTerms false
namespace Mine
local macro_rules | `(tactic| k_mem) => `(tactic| first | with_reducible assumption | assumption)
local macro_rules | `(tactic| ktr_rel) => `(tactic| first | with_reducible assumption | ((with_reducible refine' Bd.fmod ?hb ?h1); (case hb => decide); (case h1 => ktr_rel)) | ((with_reducible refine' Bd.mul ?h1 ?h2); (case h1 => ktr_rel); (case h2 => ktr_rel)) | ((with_reducible refine' Bd.pow ?h1); (case h1 => ktr_rel)) | ((with_reducible refine' Bd.add ?h1 ?h2); (case h1 => ktr_rel); (case h2 => ktr_rel)) | ((with_reducible refine' Bd.sub ?h1 ?h2); (case h1 => ktr_rel); (case h2 => ktr_rel)) | ((with_reducible refine' Bd.neg ?h1); (case h1 => ktr_rel)) | ((with_reducible refine' Bd.p1 ?h1); (case h1 => with_reducible assumption)) | ((with_reducible refine' Bd.p2 ?h1); (case h1 => with_reducible assumption)) | ((with_reducible refine' Bd.p3 ?h1); (case h1 => with_reducible assumption)) | ((with_reducible refine' Bd.u1 ?h1); (case h1 => with_reducible assumption)) | ((with_reducible refine' Bd.u2 ?h1); (case h1 => with_reducible assumption)) | ((with_reducible refine' Bd.ofP ?h1); (case h1 => with_reducible assumption)) | ((with_reducible refine' Bd.lit4 ?h1); (case h1 => decide)) | ((with_reducible refine' Bd.lit ?h1); (case h1 => decide)))
local macro_rules | `(tactic| walk_at "binaryOp Mult int int") => `(tactic| (k_here; k_dflt ((with_reducible refine' mul_own ?mh ?mk ?mi ?_); (case mh => ktr_rel); (case mk => ktr_rel); (case mi => decide))))
local macro_rules | `(tactic| walk_at "binaryOp Pow int int") => `(tactic| (k_here; k_dflt (first
  | ((with_reducible refine' pow_own (k := 2) ?mn ?mh ?mi ?_); (case mn => rfl); (case mh => ktr_rel); (case mi => decide))
  | ((with_reducible refine' pow_own (k := 3) ?mn ?mh ?mi ?_); (case mn => rfl); (case mh => ktr_rel); (case mi => decide))
  | ((with_reducible refine' pow_own (k := 4) ?mn ?mh ?mi ?_); (case mn => rfl); (case mh => ktr_rel); (case mi => decide))
  | ((with_reducible refine' pow_own (k := 6) ?mn ?mh ?mi ?_); (case mn => rfl); (case mh => ktr_rel); (case mi => decide)))))
theorem told_spec (w : World) (mean : ExcName → Option Value) (mg mb : Str → Option Value) (news : List (Addr × Obj)) (D : Addr) (p : Int × Int) (t1 t2 : Tok) (n : Nat) (hD : (D, tupU p t1 t2 n) ∈ news) (hp : In2 p) (z : Int) (tz : Tok) (hz : Bd 2000000 z) : Ctr w mean mg mb 94 1 news [.ref D, .int z tz] (Ret3n news (told p z)) := by
  unfold Ctr
  k_fill
  intro dp un gd cn cs a ccd cl outer A₀ base h₀ L m s Q E B F X N T hk hdd hu ret
  refine wpAny_call ?_
  k_dflt ktr_enter
  repeat' (first
    | (k_unfold; (try dsimp only)) | (k_end; wrow_close) | walk1 | (dsimp only; walk1) | (leave1; walk_say "STEP leave1"; try dsimp only) | fail "no step")
  all_goals (exact ret _ _ _ _ _ _ _ (by first | assumption | exact In3.none0 | exact In3.none1 | exact ⟨.fmod _, .fmod _, .fmod _⟩ | exact In3.told p z) (by k_asm) (by k_asm) (by first | assumption | exact allLt_of (by assumption)))
end Mine
end SWtold

section SWturned
open PySem PySem.W PyProof.Rows PySem.Calls Builtin.Int PySem.Spec PyProof.V
set_option maxRecDepth 100000
set_option maxHeartbeats 8000000
set_option pp.deepTerms false
namespace Mine
local macro_rules | `(tactic| k_mem) => `(tactic| first | with_reducible assumption | assumption)
local macro_rules | `(tactic| ktr_rel) => `(tactic| first | with_reducible assumption | ((with_reducible refine' Bd.fmod ?hb ?h1); (case hb => decide); (case h1 => ktr_rel)) | ((with_reducible refine' Bd.mul ?h1 ?h2); (case h1 => ktr_rel); (case h2 => ktr_rel)) | ((with_reducible refine' Bd.pow ?h1); (case h1 => ktr_rel)) | ((with_reducible refine' Bd.add ?h1 ?h2); (case h1 => ktr_rel); (case h2 => ktr_rel)) | ((with_reducible refine' Bd.sub ?h1 ?h2); (case h1 => ktr_rel); (case h2 => ktr_rel)) | ((with_reducible refine' Bd.neg ?h1); (case h1 => ktr_rel)) | ((with_reducible refine' Bd.p1 ?h1); (case h1 => with_reducible assumption)) | ((with_reducible refine' Bd.p2 ?h1); (case h1 => with_reducible assumption)) | ((with_reducible refine' Bd.p3 ?h1); (case h1 => with_reducible assumption)) | ((with_reducible refine' Bd.u1 ?h1); (case h1 => with_reducible assumption)) | ((with_reducible refine' Bd.u2 ?h1); (case h1 => with_reducible assumption)) | ((with_reducible refine' Bd.ofP ?h1); (case h1 => with_reducible assumption)) | ((with_reducible refine' Bd.lit4 ?h1); (case h1 => decide)) | ((with_reducible refine' Bd.lit ?h1); (case h1 => decide)))
local macro_rules | `(tactic| walk_at "binaryOp Mult int int") => `(tactic| (k_here; k_dflt ((with_reducible refine' mul_own ?mh ?mk ?mi ?_); (case mh => ktr_rel); (case mk => ktr_rel); (case mi => decide))))
local macro_rules | `(tactic| walk_at "binaryOp Pow int int") => `(tactic| (k_here; k_dflt (first
  | ((with_reducible refine' pow_own (k := 2) ?mn ?mh ?mi ?_); (case mn => rfl); (case mh => ktr_rel); (case mi => decide))
  | ((with_reducible refine' pow_own (k := 3) ?mn ?mh ?mi ?_); (case mn => rfl); (case mh => ktr_rel); (case mi => decide))
  | ((with_reducible refine' pow_own (k := 4) ?mn ?mh ?mi ?_); (case mn => rfl); (case mh => ktr_rel); (case mi => decide))
  | ((with_reducible refine' pow_own (k := 6) ?mn ?mh ?mi ?_); (case mn => rfl); (case mh => ktr_rel); (case mi => decide)))))
theorem turned_spec (w : World) (mean : ExcName → Option Value) (mg mb : Str → Option Value) (news : List (Addr × Obj)) (D : Addr) (p : T3) (t1 t2 t3 : Tok) (n : Nat) (hD : (D, tupP p t1 t2 t3 n) ∈ news) (hp : In3 p) : Ctr w mean mg mb 101 1 news [.ref D] (Ret3n news (turned p)) := by
  unfold Ctr
  k_fill
  intro dp un gd cn cs a ccd cl outer A₀ base h₀ L m s Q E B F X N T hk hdd hu ret
  refine wpAny_call ?_
  k_dflt ktr_enter
  repeat' (first
    | (k_unfold; (try dsimp only)) | (k_end; wrow_close) | walk1 | (dsimp only; walk1) | (leave1; walk_say "STEP leave1"; try dsimp only) | fail "no step")
  all_goals (exact ret _ _ _ _ _ _ _ (by first | assumption | exact In3.none0 | exact In3.none1 | exact ⟨.fmod _, .fmod _, .fmod _⟩ | exact In3.turned hp) (by k_asm) (by k_asm) (by first | assumption | exact allLt_of (by assumption)))
end Mine
end SWturned

section SWisid
open PySem PySem.W PyProof.Rows PySem.Calls Builtin.Int PySem.Spec PyProof.V
set_option maxRecDepth 100000
set_option maxHeartbeats 8000000
set_option pp.deepTerms false
namespace Mine
local macro_rules | `(tactic| k_mem) => `(tactic| first | with_reducible assumption | assumption)
local macro_rules | `(tactic| ktr_rel) => `(tactic| first | with_reducible assumption | ((with_reducible refine' Bd.fmod ?hb ?h1); (case hb => decide); (case h1 => ktr_rel)) | ((with_reducible refine' Bd.mul ?h1 ?h2); (case h1 => ktr_rel); (case h2 => ktr_rel)) | ((with_reducible refine' Bd.pow ?h1); (case h1 => ktr_rel)) | ((with_reducible refine' Bd.add ?h1 ?h2); (case h1 => ktr_rel); (case h2 => ktr_rel)) | ((with_reducible refine' Bd.sub ?h1 ?h2); (case h1 => ktr_rel); (case h2 => ktr_rel)) | ((with_reducible refine' Bd.neg ?h1); (case h1 => ktr_rel)) | ((with_reducible refine' Bd.p1 ?h1); (case h1 => with_reducible assumption)) | ((with_reducible refine' Bd.p2 ?h1); (case h1 => with_reducible assumption)) | ((with_reducible refine' Bd.p3 ?h1); (case h1 => with_reducible assumption)) | ((with_reducible refine' Bd.u1 ?h1); (case h1 => with_reducible assumption)) | ((with_reducible refine' Bd.u2 ?h1); (case h1 => with_reducible assumption)) | ((with_reducible refine' Bd.ofP ?h1); (case h1 => with_reducible assumption)) | ((with_reducible refine' Bd.lit4 ?h1); (case h1 => decide)) | ((with_reducible refine' Bd.lit ?h1); (case h1 => decide)))
local macro_rules | `(tactic| walk_at "binaryOp Mult int int") => `(tactic| (k_here; k_dflt ((with_reducible refine' mul_own ?mh ?mk ?mi ?_); (case mh => ktr_rel); (case mk => ktr_rel); (case mi => decide))))
local macro_rules | `(tactic| walk_at "binaryOp Pow int int") => `(tactic| (k_here; k_dflt (first
  | ((with_reducible refine' pow_own (k := 2) ?mn ?mh ?mi ?_); (case mn => rfl); (case mh => ktr_rel); (case mi => decide))
  | ((with_reducible refine' pow_own (k := 3) ?mn ?mh ?mi ?_); (case mn => rfl); (case mh => ktr_rel); (case mi => decide))
  | ((with_reducible refine' pow_own (k := 4) ?mn ?mh ?mi ?_); (case mn => rfl); (case mh => ktr_rel); (case mi => decide))
  | ((with_reducible refine' pow_own (k := 6) ?mn ?mh ?mi ?_); (case mn => rfl); (case mh => ktr_rel); (case mi => decide)))))
theorem isid_spec (w : World) (mean : ExcName → Option Value) (mg mb : Str → Option Value) (news : List (Addr × Obj)) (D : Addr) (p : T3) (t1 t2 t3 : Tok) (n : Nat) (hD : (D, tupP p t1 t2 t3 n) ∈ news) (hp : In3 p) : Ctr w mean mg mb 73 1 news [.ref D] (RetB news (isNone p)) := by
  unfold Ctr
  k_fill
  intro dp un gd cn cs a ccd cl outer A₀ base h₀ L m s Q E B F X N T hk hdd hu ret
  refine wpAny_call ?_
  k_dflt ktr_enter
  repeat' (first
    | ((with_reducible show wpAny _ _ (compareOp CmpOp.In (Value.ref _) (Value.ref 17)) _ _ _); k_dflt (refine' in_pts (reads_ids (w := w) ?X) ?hD ?hu ?_; (case X => k_in); (case hD => exact News.get (by k_asm) (by k_mem)); (case hu => ktr_units)))
    | (k_unfold; (try dsimp only)) | (k_end; wrow_close) | walk1 | (dsimp only; walk1) | (leave1; walk_say "STEP leave1"; try dsimp only) | fail "no step")
  all_goals (exact ret _ _ (by k_asm) (by k_asm))
end Mine
end SWisid

section SWnone
open PySem PySem.W PyProof.Rows PySem.Calls Builtin.Int PySem.Spec PyProof.V
set_option maxRecDepth 100000
set_option maxHeartbeats 8000000
set_option pp.deepTerms false
namespace Mine
local macro_rules | `(tactic| k_mem) => `(tactic| first | with_reducible assumption | assumption)
local macro_rules | `(tactic| ktr_rel) => `(tactic| first | with_reducible assumption | ((with_reducible refine' Bd.fmod ?hb ?h1); (case hb => decide); (case h1 => ktr_rel)) | ((with_reducible refine' Bd.mul ?h1 ?h2); (case h1 => ktr_rel); (case h2 => ktr_rel)) | ((with_reducible refine' Bd.pow ?h1); (case h1 => ktr_rel)) | ((with_reducible refine' Bd.add ?h1 ?h2); (case h1 => ktr_rel); (case h2 => ktr_rel)) | ((with_reducible refine' Bd.sub ?h1 ?h2); (case h1 => ktr_rel); (case h2 => ktr_rel)) | ((with_reducible refine' Bd.neg ?h1); (case h1 => ktr_rel)) | ((with_reducible refine' Bd.p1 ?h1); (case h1 => with_reducible assumption)) | ((with_reducible refine' Bd.p2 ?h1); (case h1 => with_reducible assumption)) | ((with_reducible refine' Bd.p3 ?h1); (case h1 => with_reducible assumption)) | ((with_reducible refine' Bd.u1 ?h1); (case h1 => with_reducible assumption)) | ((with_reducible refine' Bd.u2 ?h1); (case h1 => with_reducible assumption)) | ((with_reducible refine' Bd.ofP ?h1); (case h1 => with_reducible assumption)) | ((with_reducible refine' Bd.lit4 ?h1); (case h1 => decide)) | ((with_reducible refine' Bd.lit ?h1); (case h1 => decide)))
local macro_rules | `(tactic| walk_at "binaryOp Mult int int") => `(tactic| (k_here; k_dflt ((with_reducible refine' mul_own ?mh ?mk ?mi ?_); (case mh => ktr_rel); (case mk => ktr_rel); (case mi => decide))))
local macro_rules | `(tactic| walk_at "binaryOp Pow int int") => `(tactic| (k_here; k_dflt (first
  | ((with_reducible refine' pow_own (k := 2) ?mn ?mh ?mi ?_); (case mn => rfl); (case mh => ktr_rel); (case mi => decide))
  | ((with_reducible refine' pow_own (k := 3) ?mn ?mh ?mi ?_); (case mn => rfl); (case mh => ktr_rel); (case mi => decide))
  | ((with_reducible refine' pow_own (k := 4) ?mn ?mh ?mi ?_); (case mn => rfl); (case mh => ktr_rel); (case mi => decide))
  | ((with_reducible refine' pow_own (k := 6) ?mn ?mh ?mi ?_); (case mn => rfl); (case mh => ktr_rel); (case mi => decide)))))
theorem none_spec (w : World) (mean : ExcName → Option Value) (mg mb : Str → Option Value) (news : List (Addr × Obj)) (D : Addr) (p : T3) (t1 t2 t3 : Tok) (n : Nat) (hD : (D, tupP p t1 t2 t3 n) ∈ news) (hp : In3 p) : Ctr w mean mg mb 108 2 news [.ref D] (RetB news (isNone p)) := by
  unfold Ctr
  k_fill
  intro dp un gd cn cs a ccd cl outer A₀ base h₀ L m s Q E B F X N T hk hdd hu ret
  refine wpAny_call ?_
  k_dflt ktr_enter
  repeat' (first
    | ((with_reducible show wpAny _ _ (PySem.call (Value.ref 73) _) _ _ _); k_dflt (refine' (isid_spec _ _ _ _ _ _ _ _ _ _ _ ?hD ?hp) _ _ _ _ _ _ _ _ _ _ _ _ _ _ _ _ _ ?k1 ?k2 ?k3 ?k4 ?k5 ?kK ?kd ?ku ?_; (case k1 => k_asm); (case k2 => k_asm); (case k3 => k_asm); (case k4 => k_asm); (case k5 => k_asm); (case kK => first | exact rfl | assumption); (case kd => ktr_room); (case ku => ktr_units); (case hD => k_mem); (case hp => with_reducible assumption); intro h9 tk9 F9 N9; (try dsimp only); (try k_fold)))
    | ((with_reducible show wpAny _ _ (compareOp CmpOp.In (Value.ref _) (Value.ref _)) _ _ _); k_dflt (refine' in_pts ?rc ?hD ?hu ?_; (case rc => ke_read); (case hD => exact News.get (by k_asm) (by k_mem)); (case hu => ktr_units)))
    | (k_unfold; (try dsimp only)) | (k_end; wrow_close) | walk1 | (dsimp only; walk1) | (leave1; walk_say "STEP leave1"; try dsimp only) | fail "no step")
  all_goals (exact ret _ _ (by k_asm) (by first | k_asm | (refine cb_drop (by k_asm) ?_; intro p hp; repeat (first | exact hp | refine List.Mem.tail _ ?_))))
end Mine
end SWnone

section SWsame
open PySem PySem.W PyProof.Rows PySem.Calls Builtin.Int PySem.Spec PyProof.V
set_option maxRecDepth 100000
set_option maxHeartbeats 8000000
set_option pp.deepTerms false
namespace Mine
local macro_rules | `(tactic| k_mem) => `(tactic| first | with_reducible assumption | assumption)
local macro_rules | `(tactic| ktr_rel) => `(tactic| first | with_reducible assumption | ((with_reducible refine' Bd.fmod ?hb ?h1); (case hb => decide); (case h1 => ktr_rel)) | ((with_reducible refine' Bd.mul ?h1 ?h2); (case h1 => ktr_rel); (case h2 => ktr_rel)) | ((with_reducible refine' Bd.pow ?h1); (case h1 => ktr_rel)) | ((with_reducible refine' Bd.add ?h1 ?h2); (case h1 => ktr_rel); (case h2 => ktr_rel)) | ((with_reducible refine' Bd.sub ?h1 ?h2); (case h1 => ktr_rel); (case h2 => ktr_rel)) | ((with_reducible refine' Bd.neg ?h1); (case h1 => ktr_rel)) | ((with_reducible refine' Bd.p1 ?h1); (case h1 => with_reducible assumption)) | ((with_reducible refine' Bd.p2 ?h1); (case h1 => with_reducible assumption)) | ((with_reducible refine' Bd.p3 ?h1); (case h1 => with_reducible assumption)) | ((with_reducible refine' Bd.u1 ?h1); (case h1 => with_reducible assumption)) | ((with_reducible refine' Bd.u2 ?h1); (case h1 => with_reducible assumption)) | ((with_reducible refine' Bd.ofP ?h1); (case h1 => with_reducible assumption)) | ((with_reducible refine' Bd.lit4 ?h1); (case h1 => decide)) | ((with_reducible refine' Bd.lit ?h1); (case h1 => decide)))
local macro_rules | `(tactic| walk_at "binaryOp Mult int int") => `(tactic| (k_here; k_dflt ((with_reducible refine' mul_own ?mh ?mk ?mi ?_); (case mh => ktr_rel); (case mk => ktr_rel); (case mi => decide))))
local macro_rules | `(tactic| walk_at "binaryOp Pow int int") => `(tactic| (k_here; k_dflt (first
  | ((with_reducible refine' pow_own (k := 2) ?mn ?mh ?mi ?_); (case mn => rfl); (case mh => ktr_rel); (case mi => decide))
  | ((with_reducible refine' pow_own (k := 3) ?mn ?mh ?mi ?_); (case mn => rfl); (case mh => ktr_rel); (case mi => decide))
  | ((with_reducible refine' pow_own (k := 4) ?mn ?mh ?mi ?_); (case mn => rfl); (case mh => ktr_rel); (case mi => decide))
  | ((with_reducible refine' pow_own (k := 6) ?mn ?mh ?mi ?_); (case mn => rfl); (case mh => ktr_rel); (case mi => decide)))))
section
variable {p q : T3} {v1 v2 v3 v4 v5 : Int}
theorem same_1 (h : isNone p = true) : same p q = isNone q := by simp [same, h]
theorem same_2 (h : isNone p = false) (k : isNone q = true) : same p q = isNone p := by simp [same, h, k]
theorem same_3 (h : isNone p = false) (k : isNone q = false) (z1 : HidE v1 (p.2.2.fmod P)) (f1 : v1 = 0) : same p q = false := by
  unfold HidE at *; subst z1; simp [same, h, k, f1]
theorem same_4 (h : isNone p = false) (k : isNone q = false) (z1 : HidE v1 (p.2.2.fmod P)) (f1 : v1 ≠ 0) (z2 : HidE v2 (q.2.2.fmod P)) (f2 : v2 = 0) : same p q = false := by
  unfold HidE at *; subst z1 z2; simp [same, h, k, f2]
theorem same_5 (h : isNone p = false) (k : isNone q = false) (z1 : HidE v1 (p.2.2.fmod P)) (f1 : v1 ≠ 0) (z2 : HidE v2 (q.2.2.fmod P)) (f2 : v2 ≠ 0)
    (z3 : HidE v3 ((p.2.1 ^ 2 - p.1 ^ 3 - 7 * p.2.2 ^ 6).fmod P)) (f3 : v3 ≠ 0) : same p q = false := by
  unfold HidE at *; subst z1 z2 z3; simp [same, h, k, f3]
theorem same_7 (h : isNone p = false) (k : isNone q = false) (z1 : HidE v1 (p.2.2.fmod P)) (f1 : v1 ≠ 0) (z2 : HidE v2 (q.2.2.fmod P)) (f2 : v2 ≠ 0)
    (z3 : HidE v3 ((p.2.1 ^ 2 - p.1 ^ 3 - 7 * p.2.2 ^ 6).fmod P)) (f3 : v3 = 0) (z4 : HidE v4 ((p.1 * q.2.2 ^ 2 - q.1 * p.2.2 ^ 2).fmod P)) (f4 : v4 ≠ 0) : same p q = (v4 == 0) := by
  unfold HidE at *; subst z1 z2 z3 z4; simp [same, h, k, f1, f2, f3, f4]
theorem same_6 (h : isNone p = false) (k : isNone q = false) (z1 : HidE v1 (p.2.2.fmod P)) (f1 : v1 ≠ 0) (z2 : HidE v2 (q.2.2.fmod P)) (f2 : v2 ≠ 0)
    (z3 : HidE v3 ((p.2.1 ^ 2 - p.1 ^ 3 - 7 * p.2.2 ^ 6).fmod P)) (f3 : v3 = 0) (z4 : HidE v4 ((p.1 * q.2.2 ^ 2 - q.1 * p.2.2 ^ 2).fmod P)) (f4 : v4 = 0)
    (z5 : HidE v5 ((p.2.1 * q.2.2 ^ 3 - q.2.1 * p.2.2 ^ 3).fmod P)) : same p q = (v5 == 0) := by
  unfold HidE at *; subst z1 z2 z3 z4 z5; simp [same, h, k, f1, f2, f3, f4]
  rw [Bool.eq_iff_iff]; simp
end
theorem same_spec (w : World) (mean : ExcName → Option Value) (mg mb : Str → Option Value) (news : List (Addr × Obj)) (D : Addr) (p : T3) (t1 t2 t3 : Tok) (n : Nat) (hD : (D, tupP p t1 t2 t3 n) ∈ news) (hp : In3 p) (E : Addr) (q : T3) (ut1 ut2 ut3 : Tok) (un : Nat) (hE : (E, tupP q ut1 ut2 ut3 un) ∈ news) (hq : In3 q) : Ctr w mean mg mb 115 3 news [.ref D, .ref E] (RetB news (same p q)) := by
  unfold Ctr
  k_fill
  intro dp un gd cn cs a ccd cl outer A₀ base h₀ L m s Q E B F X N T hk hdd hu ret
  refine wpAny_call ?_
  k_dflt ktr_enter
  repeat' (first
    | ((with_reducible show wpAny _ _ (PySem.call (Value.ref 108) _) _ _ _); k_dflt (refine' (none_spec _ _ _ _ _ _ _ _ _ _ _ ?hD ?hp) _ _ _ _ _ _ _ _ _ _ _ _ _ _ _ _ _ ?k1 ?k2 ?k3 ?k4 ?k5 ?kK ?kd ?ku ?_; (case k1 => k_asm); (case k2 => k_asm); (case k3 => k_asm); (case k4 => k_asm); (case k5 => k_asm); (case kK => first | exact rfl | assumption); (case kd => ktr_room); (case ku => ktr_units); (case hD => k_mem); (case hp => with_reducible assumption); intro h9 tk9 F9 N9; (try dsimp only); (try k_fold)))
    | ((with_reducible show wpAny _ _ (binaryOp Operator.Mod (Value.int _ _) (Value.int _ _)) _ _ _); k_dflt ((refine' mod_hid ?hb ?_); (case hb => decide); intro v9 e9; (try dsimp only)))
    | (k_unfold; (try dsimp only)) | (k_end; wrow_close) | walk1 | (dsimp only; walk1) | (leave1; walk_say "STEP leave1"; try dsimp only) | fail "no step")
  all_goals (unfold RetB at ret; first
    | (rw [same_1 (p := p) (q := q) (by assumption)] at ret; exact ret _ _ (by k_asm) (by first | k_asm | (refine cb_drop (by k_asm) ?_; intro p hp; repeat (first | exact hp | refine List.Mem.tail _ ?_))))
    | (rw [same_2 (p := p) (q := q) (by assumption) (by assumption)] at ret; exact ret _ _ (by k_asm) (by first | k_asm | (refine cb_drop (by k_asm) ?_; intro p hp; repeat (first | exact hp | refine List.Mem.tail _ ?_))))
    | (rw [same_6 (p := p) (q := q) (by assumption) (by assumption) (by assumption) (by assumption) (by assumption) (by assumption) (by assumption) (by assumption) (by assumption) (by assumption) (by assumption)] at ret; exact ret _ _ (by k_asm) (by first | k_asm | (refine cb_drop (by k_asm) ?_; intro p hp; repeat (first | exact hp | refine List.Mem.tail _ ?_))))
    | (rw [same_7 (p := p) (q := q) (by assumption) (by assumption) (by assumption) (by assumption) (by assumption) (by assumption) (by assumption) (by assumption) (by assumption) (by assumption)] at ret; exact ret _ _ (by k_asm) (by first | k_asm | (refine cb_drop (by k_asm) ?_; intro p hp; repeat (first | exact hp | refine List.Mem.tail _ ?_))))
    | (rw [same_5 (p := p) (q := q) (by assumption) (by assumption) (by assumption) (by assumption) (by assumption) (by assumption) (by assumption) (by assumption)] at ret; exact ret _ _ (by k_asm) (by first | k_asm | (refine cb_drop (by k_asm) ?_; intro p hp; repeat (first | exact hp | refine List.Mem.tail _ ?_))))
    | (rw [same_4 (p := p) (q := q) (by assumption) (by assumption) (by assumption) (by assumption) (by assumption) (by assumption)] at ret; exact ret _ _ (by k_asm) (by first | k_asm | (refine cb_drop (by k_asm) ?_; intro p hp; repeat (first | exact hp | refine List.Mem.tail _ ?_))))
    | (rw [same_3 (p := p) (q := q) (by assumption) (by assumption) (by assumption) (by assumption)] at ret; exact ret _ _ (by k_asm) (by first | k_asm | (refine cb_drop (by k_asm) ?_; intro p hp; repeat (first | exact hp | refine List.Mem.tail _ ?_))))
   )
end Mine
end SWsame

section SWinv
open PySem PySem.W PyProof.Rows PySem.Calls Builtin.Int PySem.Spec PyProof.V
set_option maxRecDepth 100000
set_option maxHeartbeats 8000000
set_option pp.deepTerms false
namespace Mine
local macro_rules | `(tactic| k_mem) => `(tactic| first | with_reducible assumption | assumption)
local macro_rules | `(tactic| ktr_rel) => `(tactic| first | with_reducible assumption | ((with_reducible refine' Bd.fmod ?hb ?h1); (case hb => decide); (case h1 => ktr_rel)) | ((with_reducible refine' Bd.mul ?h1 ?h2); (case h1 => ktr_rel); (case h2 => ktr_rel)) | ((with_reducible refine' Bd.pow ?h1); (case h1 => ktr_rel)) | ((with_reducible refine' Bd.add ?h1 ?h2); (case h1 => ktr_rel); (case h2 => ktr_rel)) | ((with_reducible refine' Bd.sub ?h1 ?h2); (case h1 => ktr_rel); (case h2 => ktr_rel)) | ((with_reducible refine' Bd.neg ?h1); (case h1 => ktr_rel)) | ((with_reducible refine' Bd.p1 ?h1); (case h1 => with_reducible assumption)) | ((with_reducible refine' Bd.p2 ?h1); (case h1 => with_reducible assumption)) | ((with_reducible refine' Bd.p3 ?h1); (case h1 => with_reducible assumption)) | ((with_reducible refine' Bd.u1 ?h1); (case h1 => with_reducible assumption)) | ((with_reducible refine' Bd.u2 ?h1); (case h1 => with_reducible assumption)) | ((with_reducible refine' Bd.ofP ?h1); (case h1 => with_reducible assumption)) | ((with_reducible refine' Bd.lit4 ?h1); (case h1 => decide)) | ((with_reducible refine' Bd.lit ?h1); (case h1 => decide)))
local macro_rules | `(tactic| walk_at "binaryOp Mult int int") => `(tactic| (k_here; k_dflt ((with_reducible refine' mul_own ?mh ?mk ?mi ?_); (case mh => ktr_rel); (case mk => ktr_rel); (case mi => decide))))
local macro_rules | `(tactic| walk_at "binaryOp Pow int int") => `(tactic| (k_here; k_dflt (first
  | ((with_reducible refine' pow_own (k := 2) ?mn ?mh ?mi ?_); (case mn => rfl); (case mh => ktr_rel); (case mi => decide))
  | ((with_reducible refine' pow_own (k := 3) ?mn ?mh ?mi ?_); (case mn => rfl); (case mh => ktr_rel); (case mi => decide))
  | ((with_reducible refine' pow_own (k := 4) ?mn ?mh ?mi ?_); (case mn => rfl); (case mh => ktr_rel); (case mi => decide))
  | ((with_reducible refine' pow_own (k := 6) ?mn ?mh ?mi ?_); (case mn => rfl); (case mh => ktr_rel); (case mi => decide)))))
theorem noPyl {a lm low hm high : Int} (I : InvI a lm low hm high) (h : low > 1) : Builtin.divisionGoesByPylong high low = false := by
  refine PyProof.noPylong_of_log2 ?_
  have h1 := I.hl; have h0 := I.h0
  have h2 : low.natAbs < 2 ^ 256 := by unfold P at h1; omega
  have h3 : low.natAbs ≠ 0 := by omega
  have := (Nat.log2_lt h3).mpr h2
  omega
theorem Bd.inv1 {a lm low hm high : Int} (I : InvI a lm low hm high) : Bd 256 lm := by have := I.lm; unfold Bd; unfold P at this; omega
theorem Bd.inv2 {a lm low hm high : Int} (I : InvI a lm low hm high) (h : low > 1) : Bd 256 (high.fdiv low) := by
  have h1 := I.h2
  have e : high.fmod low = high - low * high.fdiv low := by
    have := Int.mul_fdiv_add_fmod high low; omega
  have h3 := Int.fmod_nonneg_of_pos high (b := low) (by omega)
  have hr : 0 ≤ high.fdiv low := Int.fdiv_nonneg (by have := I.h1; omega) I.h0
  have h4 : 1 * high.fdiv low ≤ low * high.fdiv low := Int.mul_le_mul_of_nonneg_right (by omega) hr
  unfold Bd; unfold P at h1; omega
theorem Bd.inv3 {a lm low hm high : Int} (I : InvI a lm low hm high) : Bd 256 low := by
  have h1 := I.hl; have h0 := I.h0
  unfold Bd; unfold P at h1; omega
local macro_rules | `(tactic| ktr_rel) => `(tactic| first | exact Bd.inv1 (by assumption) | exact Bd.inv2 (by assumption) (by omega) | exact Bd.inv3 (by assumption))
theorem inv_spec (w : World) (mean : ExcName → Option Value) (mg mb : Str → Option Value) (news : List (Addr × Obj)) (a : Int) (ta tn : Tok) (ha : InP a) : Ctr w mean mg mb 24 1 news [.int a ta, .int P tn] (RetI news (inv a P)) := by
  unfold Ctr
  k_fill
  intro dp un gd cn cs aa ccd cl outer A₀ base h₀ L m s Q E B F X N T hk hdd hu ret
  refine wpAny_call ?_
  k_dflt ktr_enter
  (k_with "exec While Compare cons nil" => k_while (fun _ lm low hm high => InvI a lm low hm high) (fun _ _ low _ _ => low.toNat) "lm" "low" "hm" "high")
  (k_with "state" => first | exact InvI.start _ | exact InvI.step (by assumption) (by omega))
  (k_with "measure" => exact InvI.less (by assumption) (by omega))
  repeat' (first
    | ((with_reducible show wpAny _ _ (binaryOp Operator.FloorDiv (Value.int _ _) (Value.int _ _)) _ _ _); k_dflt (refine floordiv_int (by omega) ?_ (Or.inl (noPyl (by assumption) (by omega)))))
    | (k_unfold; (try dsimp only)) | (k_end; wrow_close) | walk1 | (dsimp only; walk1) | (leave1; walk_say "STEP leave1"; try dsimp only) | fail "no step")
  all_goals (unfold RetI at ret; first
    | ((have e : inv a P = 0 := by (unfold inv; exact if_pos (by assumption))); rw [e] at ret; exact ret _ _ _ (by k_asm) (by first | k_asm | (refine cb_drop (by k_asm) ?_; intro p hp; repeat (first | exact hp | refine List.Mem.tail _ ?_))))
    | (rw [inv_1 (a := a) (by assumption) (by assumption) (by omega)] at ret; exact ret _ _ _ (by k_asm) (by first | k_asm | (refine cb_drop (by k_asm) ?_; intro p hp; repeat (first | exact hp | refine List.Mem.tail _ ?_)))))
end Mine
end SWinv

section SWfromj
open PySem PySem.W PyProof.Rows PySem.Calls Builtin.Int PySem.Spec PyProof.V
set_option maxRecDepth 100000
set_option maxHeartbeats 8000000
set_option pp.deepTerms false
namespace Mine
local macro_rules | `(tactic| k_mem) => `(tactic| first | with_reducible assumption | assumption)
local macro_rules | `(tactic| ktr_rel) => `(tactic| first | with_reducible assumption | ((with_reducible refine' Bd.fmod ?hb ?h1); (case hb => decide); (case h1 => ktr_rel)) | ((with_reducible refine' Bd.mul ?h1 ?h2); (case h1 => ktr_rel); (case h2 => ktr_rel)) | ((with_reducible refine' Bd.pow ?h1); (case h1 => ktr_rel)) | ((with_reducible refine' Bd.add ?h1 ?h2); (case h1 => ktr_rel); (case h2 => ktr_rel)) | ((with_reducible refine' Bd.sub ?h1 ?h2); (case h1 => ktr_rel); (case h2 => ktr_rel)) | ((with_reducible refine' Bd.neg ?h1); (case h1 => ktr_rel)) | ((with_reducible refine' Bd.p1 ?h1); (case h1 => with_reducible assumption)) | ((with_reducible refine' Bd.p2 ?h1); (case h1 => with_reducible assumption)) | ((with_reducible refine' Bd.p3 ?h1); (case h1 => with_reducible assumption)) | ((with_reducible refine' Bd.u1 ?h1); (case h1 => with_reducible assumption)) | ((with_reducible refine' Bd.u2 ?h1); (case h1 => with_reducible assumption)) | ((with_reducible refine' Bd.ofP ?h1); (case h1 => with_reducible assumption)) | ((with_reducible refine' Bd.lit4 ?h1); (case h1 => decide)) | ((with_reducible refine' Bd.lit ?h1); (case h1 => decide)))
local macro_rules | `(tactic| walk_at "binaryOp Mult int int") => `(tactic| (k_here; k_dflt ((with_reducible refine' mul_own ?mh ?mk ?mi ?_); (case mh => ktr_rel); (case mk => ktr_rel); (case mi => decide))))
local macro_rules | `(tactic| walk_at "binaryOp Pow int int") => `(tactic| (k_here; k_dflt (first
  | ((with_reducible refine' pow_own (k := 2) ?mn ?mh ?mi ?_); (case mn => rfl); (case mh => ktr_rel); (case mi => decide))
  | ((with_reducible refine' pow_own (k := 3) ?mn ?mh ?mi ?_); (case mn => rfl); (case mh => ktr_rel); (case mi => decide))
  | ((with_reducible refine' pow_own (k := 4) ?mn ?mh ?mi ?_); (case mn => rfl); (case mh => ktr_rel); (case mi => decide))
  | ((with_reducible refine' pow_own (k := 6) ?mn ?mh ?mi ?_); (case mn => rfl); (case mh => ktr_rel); (case mi => decide)))))
theorem bd_inv {a : Int} : Bd 256 (Mine.inv a P) := by
  have h : InP (Mine.inv a P) := by
    unfold Mine.inv; split
    · exact ⟨by decide, by decide⟩
    · exact .fmod _
  exact .ofP h
local macro_rules | `(tactic| ktr_rel) => `(tactic| with_reducible exact bd_inv)
theorem fromj_spec (w : World) (mean : ExcName → Option Value) (mg mb : Str → Option Value) (news : List (Addr × Obj)) (D : Addr) (p : T3) (t1 t2 t3 : Tok) (n : Nat) (hD : (D, tupP p t1 t2 t3 n) ∈ news) (hp : In3 p) : Ctr w mean mg mb 52 2 news [.ref D] (Ret2n news (fromJ p)) := by
  unfold Ctr
  k_fill
  intro dp un gd cn cs a ccd cl outer A₀ base h₀ L m s Q E B F X N T hk hdd hu ret
  refine wpAny_call ?_
  k_dflt ktr_enter
  repeat' (first
    | ((with_reducible show wpAny _ _ (PySem.call (Value.ref 24) _) _ _ _); k_dflt (refine' (inv_spec _ _ _ _ _ _ _ _ ?ha) _ _ _ _ _ _ _ _ _ _ _ _ _ _ _ _ _ ?k1 ?k2 ?k3 ?k4 ?k5 ?kK ?kd ?ku ?_; (case k1 => k_asm); (case k2 => k_asm); (case k3 => k_asm); (case k4 => k_asm); (case k5 => k_asm); (case kK => first | exact rfl | assumption); (case kd => ktr_room); (case ku => ktr_units); (case ha => exact And.right (And.right (by assumption))); intro t9 h9 tk9 F9 N9; (try dsimp only); (try k_fold)))
    | (k_unfold; (try dsimp only)) | (k_end; wrow_close) | walk1 | (dsimp only; walk1) | (leave1; walk_say "STEP leave1"; try dsimp only) | fail "no step")
  all_goals (exact ret _ _ _ _ _ _ (by first | assumption | exact In2.fromJ _) (by k_asm) (by first | k_asm | (refine' newsCons ?nn ?nq ?ns; (case nn => k_asm); (case nq => k_mem); (case ns => (intro p hp; repeat (first | exact hp | refine List.Mem.tail _ ?_))))) (by first | assumption | exact allLt_of (by assumption) | exact l9.2 | exact l9.2.2 | exact l9.2.2.2))
end Mine
end SWfromj

section SWfast
open PySem PySem.W PyProof.Rows PySem.Calls Builtin.Int PySem.Spec PyProof.V
set_option maxRecDepth 100000
set_option maxHeartbeats 8000000
set_option pp.deepTerms false
namespace Mine
local macro_rules | `(tactic| k_mem) => `(tactic| first | with_reducible assumption | assumption)
local macro_rules | `(tactic| ktr_rel) => `(tactic| first | with_reducible assumption | ((with_reducible refine' Bd.fmod ?hb ?h1); (case hb => decide); (case h1 => ktr_rel)) | ((with_reducible refine' Bd.mul ?h1 ?h2); (case h1 => ktr_rel); (case h2 => ktr_rel)) | ((with_reducible refine' Bd.pow ?h1); (case h1 => ktr_rel)) | ((with_reducible refine' Bd.add ?h1 ?h2); (case h1 => ktr_rel); (case h2 => ktr_rel)) | ((with_reducible refine' Bd.sub ?h1 ?h2); (case h1 => ktr_rel); (case h2 => ktr_rel)) | ((with_reducible refine' Bd.neg ?h1); (case h1 => ktr_rel)) | ((with_reducible refine' Bd.p1 ?h1); (case h1 => with_reducible assumption)) | ((with_reducible refine' Bd.p2 ?h1); (case h1 => with_reducible assumption)) | ((with_reducible refine' Bd.p3 ?h1); (case h1 => with_reducible assumption)) | ((with_reducible refine' Bd.u1 ?h1); (case h1 => with_reducible assumption)) | ((with_reducible refine' Bd.u2 ?h1); (case h1 => with_reducible assumption)) | ((with_reducible refine' Bd.ofP ?h1); (case h1 => with_reducible assumption)) | ((with_reducible refine' Bd.lit4 ?h1); (case h1 => decide)) | ((with_reducible refine' Bd.lit ?h1); (case h1 => decide)))
local macro_rules | `(tactic| walk_at "binaryOp Mult int int") => `(tactic| (k_here; k_dflt ((with_reducible refine' mul_own ?mh ?mk ?mi ?_); (case mh => ktr_rel); (case mk => ktr_rel); (case mi => decide))))
local macro_rules | `(tactic| walk_at "binaryOp Pow int int") => `(tactic| (k_here; k_dflt (first
  | ((with_reducible refine' pow_own (k := 2) ?mn ?mh ?mi ?_); (case mn => rfl); (case mh => ktr_rel); (case mi => decide))
  | ((with_reducible refine' pow_own (k := 3) ?mn ?mh ?mi ?_); (case mn => rfl); (case mh => ktr_rel); (case mi => decide))
  | ((with_reducible refine' pow_own (k := 4) ?mn ?mh ?mi ?_); (case mn => rfl); (case mh => ktr_rel); (case mi => decide))
  | ((with_reducible refine' pow_own (k := 6) ?mn ?mh ?mi ?_); (case mn => rfl); (case mh => ktr_rel); (case mi => decide)))))
theorem fast_spec (w : World) (mean : ExcName → Option Value) (mg mb : Str → Option Value) (news : List (Addr × Obj)) (D : Addr) (p : Int × Int) (t1 t2 : Tok) (n : Nat) (hD : (D, tupU p t1 t2 n) ∈ news) (hp : In2 p) (E : Addr) (q : Int × Int) (ut1 ut2 : Tok) (un : Nat) (hE : (E, tupU q ut1 ut2 un) ∈ news) (hq : In2 q) : Ctr w mean mg mb 66 3 news [.ref D, .ref E] (Ret2n news (fromJ (jadd (p.1, p.2, 1) (q.1, q.2, 1)))) := by
  unfold Ctr
  k_fill
  intro dp un gd cn cs a ccd cl outer A₀ base h₀ L m s Q E B F X N T hk hdd hu ret
  refine wpAny_call ?_
  k_dflt ktr_enter
  repeat' (first
    | ((with_reducible show wpAny _ _ (PySem.call (Value.ref 31) _) _ _ _); k_dflt (refine' (toj_spec _ _ _ _ _ _ _ _ _ _ ?hD ?hp) _ _ _ _ _ _ _ _ _ _ _ _ _ _ _ _ _ ?k1 ?k2 ?k3 ?k4 ?k5 ?kK ?kd ?ku ?_; (case k1 => k_asm); (case k2 => k_asm); (case k3 => k_asm); (case k4 => k_asm); (case k5 => k_asm); (case kK => first | exact rfl | assumption); (case kd => ktr_room); (case ku => ktr_units); (case hD => k_mem); (case hp => with_reducible assumption); intro D9 t91 t92 t93 n9 h9 tk9 I9 F9 N9 l9; (try simp only [AllLt, and_true] at l9); (try dsimp only); (try k_fold)))
    | ((with_reducible show wpAny _ _ (PySem.call (Value.ref 45) _) _ _ _); k_dflt (refine' (add_spec _ _ _ _ _ _ _ _ _ _ _ ?hD ?hp _ _ _ _ _ _ ?hE ?hq) _ _ _ _ _ _ _ _ _ _ _ _ _ _ _ _ _ ?k1 ?k2 ?k3 ?k4 ?k5 ?kK ?kd ?ku ?_; (case k1 => k_asm); (case k2 => k_asm); (case k3 => k_asm); (case k4 => k_asm); (case k5 => k_asm); (case kK => first | exact rfl | assumption); (case kd => ktr_room); (case ku => ktr_units); (case hD => k_mem); (case hp => with_reducible assumption); (case hE => k_mem); (case hq => with_reducible assumption); intro D9 t91 t92 t93 n9 h9 tk9 I9 F9 N9; (try dsimp only); (try k_fold)))
    | ((with_reducible show wpAny _ _ (PySem.call (Value.ref 52) _) _ _ _); k_dflt (refine' (fromj_spec _ _ _ _ _ _ _ _ _ _ _ ?hD ?hp) _ _ _ _ _ _ _ _ _ _ _ _ _ _ _ _ _ ?k1 ?k2 ?k3 ?k4 ?k5 ?kK ?kd ?ku ?_; (case k1 => k_asm); (case k2 => k_asm); (case k3 => k_asm); (case k4 => k_asm); (case k5 => k_asm); (case kK => first | exact rfl | assumption); (case kd => ktr_room); (case ku => ktr_units); (case hD => k_mem); (case hp => with_reducible assumption); intro D9 t91 t92 n9 h9 tk9 I9 F9 N9 l9; (try simp only [AllLt, and_true] at l9); (try dsimp only); (try k_fold)))
    | (k_unfold; (try dsimp only)) | (k_end; wrow_close) | walk1 | (dsimp only; walk1) | (leave1; walk_say "STEP leave1"; try dsimp only) | fail "no step")
  all_goals (exact ret _ _ _ _ _ _ (by first | assumption | exact In2.fromJ _) (by k_asm) (by first | k_asm | (refine' newsCons ?nn ?nq ?ns; (case nn => k_asm); (case nq => k_mem); (case ns => (intro p hp; repeat (first | exact hp | refine List.Mem.tail _ ?_))))) (by first | assumption | exact allLt_of (by assumption) | exact l9.2 | exact l9.2.2 | exact l9.2.2.2))
end Mine
end SWfast

section SWmul
open PySem PySem.W PyProof.Rows PySem.Calls Builtin.Int PySem.Spec PyProof.V
set_option maxRecDepth 100000
set_option maxHeartbeats 8000000
set_option pp.deepTerms false
namespace Mine
local macro_rules | `(tactic| k_mem) => `(tactic| first | with_reducible assumption | assumption)
local macro_rules | `(tactic| ktr_rel) => `(tactic| first | with_reducible assumption | ((with_reducible refine' Bd.fmod ?hb ?h1); (case hb => decide); (case h1 => ktr_rel)) | ((with_reducible refine' Bd.mul ?h1 ?h2); (case h1 => ktr_rel); (case h2 => ktr_rel)) | ((with_reducible refine' Bd.pow ?h1); (case h1 => ktr_rel)) | ((with_reducible refine' Bd.add ?h1 ?h2); (case h1 => ktr_rel); (case h2 => ktr_rel)) | ((with_reducible refine' Bd.sub ?h1 ?h2); (case h1 => ktr_rel); (case h2 => ktr_rel)) | ((with_reducible refine' Bd.neg ?h1); (case h1 => ktr_rel)) | ((with_reducible refine' Bd.p1 ?h1); (case h1 => with_reducible assumption)) | ((with_reducible refine' Bd.p2 ?h1); (case h1 => with_reducible assumption)) | ((with_reducible refine' Bd.p3 ?h1); (case h1 => with_reducible assumption)) | ((with_reducible refine' Bd.u1 ?h1); (case h1 => with_reducible assumption)) | ((with_reducible refine' Bd.u2 ?h1); (case h1 => with_reducible assumption)) | ((with_reducible refine' Bd.ofP ?h1); (case h1 => with_reducible assumption)) | ((with_reducible refine' Bd.lit4 ?h1); (case h1 => decide)) | ((with_reducible refine' Bd.lit ?h1); (case h1 => decide)))
local macro_rules | `(tactic| walk_at "binaryOp Mult int int") => `(tactic| (k_here; k_dflt ((with_reducible refine' mul_own ?mh ?mk ?mi ?_); (case mh => ktr_rel); (case mk => ktr_rel); (case mi => decide))))
local macro_rules | `(tactic| walk_at "binaryOp Pow int int") => `(tactic| (k_here; k_dflt (first
  | ((with_reducible refine' pow_own (k := 2) ?mn ?mh ?mi ?_); (case mn => rfl); (case mh => ktr_rel); (case mi => decide))
  | ((with_reducible refine' pow_own (k := 3) ?mn ?mh ?mi ?_); (case mn => rfl); (case mh => ktr_rel); (case mi => decide))
  | ((with_reducible refine' pow_own (k := 4) ?mn ?mh ?mi ?_); (case mn => rfl); (case mh => ktr_rel); (case mi => decide))
  | ((with_reducible refine' pow_own (k := 6) ?mn ?mh ?mi ?_); (case mn => rfl); (case mh => ktr_rel); (case mi => decide)))))
theorem jmul_0 {p : T3} {n : Nat} (h : p.2.1 = 0) : jmul p n = (0, 0, 1) := by unfold jmul; rw [if_pos (.inl h)]
theorem jmul_1 {p : T3} {i : Int} (h : i = 0) : jmul p i.toNat = (0, 0, 1) := by unfold jmul; rw [if_pos (.inr (by omega))]
theorem jmul_2 {p : T3} {i : Int} (h : p.2.1 ≠ 0) (k : i ≠ 0) (e : i = 1) : jmul p i.toNat = p := by subst e; unfold jmul; rw [if_neg (by simp [h]), if_pos (by decide)]
theorem jmul_3 {p : T3} {i : Int} (h0 : 0 ≤ i) (h : p.2.1 ≠ 0) (k : i ≠ 0) (e : i ≠ 1) (f : i.fmod 2 = 0) : jmul p i.toNat = jdbl (jmul p (i.fdiv 2).toNat) := by
  rw [Int.fmod_eq_emod_of_nonneg _ (by decide)] at f
  rw [Int.fdiv_eq_ediv_of_nonneg _ (by decide), show (i / 2).toNat = i.toNat / 2 by omega, jmul, if_neg (by simp [h]; omega), if_neg (by omega), if_pos (by omega)]
theorem jmul_4 {p : T3} {i : Int} (h0 : 0 ≤ i) (h : p.2.1 ≠ 0) (k : i ≠ 0) (e : i ≠ 1) (f : i.fmod 2 = 1) : jmul p i.toNat = jadd (jdbl (jmul p (i.fdiv 2).toNat)) p := by
  rw [Int.fmod_eq_emod_of_nonneg _ (by decide)] at f
  rw [Int.fdiv_eq_ediv_of_nonneg _ (by decide), show (i / 2).toNat = i.toNat / 2 by omega, jmul, if_neg (by simp [h]; omega), if_neg (by omega), if_neg (by omega)]
theorem mod2 {i : Int} (f : i.fmod 2 ≠ 0) (g : i.fmod 2 ≠ 1) : False := by
  rw [Int.fmod_eq_emod_of_nonneg _ (by decide)] at f g; omega
theorem mul_spec (w : World) (mean : ExcName → Option Value) (mg mb : Str → Option Value) (k : Nat) : ∀ (news : List (Addr × Obj)) (D : Addr) (p : T3) (t1 t2 t3 : Tok) (n : Nat) (hD : (D, tupP p t1 t2 t3 n) ∈ news) (hp : In3 p) (i : Int) (ti : Tok) (h0 : 0 ≤ i) (h1 : i < 1000) (hk : i.toNat = k), Ctr w mean mg mb 59 (k + 3) news [.ref D, .int i ti] (Ret3 news (jmul p i.toNat)) := by
  induction k using Nat.strongRecOn with
  | ind k IH =>
  intro news D p t1 t2 t3 n hD hp i ti h0 h1 hik
  unfold Ctr
  k_fill
  intro dp un gd cn cs a ccd cl outer A₀ base h₀ L m s Q E B F X N T hk hdd hu ret
  refine wpAny_call ?_
  k_dflt ktr_enter
  repeat' (first
    | ((with_reducible show wpAny _ _ (PySem.call (Value.ref 38) _) _ _ _); k_dflt (refine' (dbl_spec _ _ _ _ _ _ _ _ _ _ _ ?hD ?hp) _ _ _ _ _ _ _ _ _ _ _ _ _ _ _ _ _ ?k1 ?k2 ?k3 ?k4 ?k5 ?kK ?kd ?ku ?_; (case k1 => k_asm); (case k2 => k_asm); (case k3 => k_asm); (case k4 => k_asm); (case k5 => k_asm); (case kK => first | exact rfl | assumption); (case kd => ktr_room); (case ku => ktr_units); (case hD => k_mem); (case hp => with_reducible assumption); intro D9 t91 t92 t93 n9 h9 tk9 I9 F9 N9; (try dsimp only); (try k_fold)))
    | ((with_reducible show wpAny _ _ (PySem.call (Value.ref 45) _) _ _ _); k_dflt (refine' (add_spec _ _ _ _ _ _ _ _ _ _ _ ?hD ?hp _ _ _ _ _ _ ?hE ?hq) _ _ _ _ _ _ _ _ _ _ _ _ _ _ _ _ _ ?k1 ?k2 ?k3 ?k4 ?k5 ?kK ?kd ?ku ?_; (case k1 => k_asm); (case k2 => k_asm); (case k3 => k_asm); (case k4 => k_asm); (case k5 => k_asm); (case kK => first | exact rfl | assumption); (case kd => ktr_room); (case ku => ktr_units); (case hD => k_mem); (case hp => with_reducible assumption); (case hE => k_mem); (case hq => with_reducible assumption); intro D9 t91 t92 t93 n9 h9 tk9 I9 F9 N9; (try dsimp only); (try k_fold)))
    | ((with_reducible show wpAny _ _ (PySem.call (Value.ref 59) _) _ _ _); (have hq0 : Int.fdiv i 2 = i / 2 := Int.fdiv_eq_ediv_of_nonneg _ (by decide)); (have hq9 : (Int.fdiv i 2).toNat < k := by omega); (have hq8 : 0 ≤ Int.fdiv i 2 := by omega); (have hq7 : Int.fdiv i 2 < 1000 := by omega); k_dflt (refine' (IH (Int.toNat (Int.fdiv i 2)) hq9 _ _ _ _ _ _ _ ?hD ?hp _ _ hq8 hq7 rfl) _ _ _ _ _ _ _ _ _ _ _ _ _ _ _ _ _ ?k1 ?k2 ?k3 ?k4 ?k5 ?kK ?kd ?ku ?_; (case k1 => k_asm); (case k2 => k_asm); (case k3 => k_asm); (case k4 => k_asm); (case k5 => k_asm); (case kK => first | exact rfl | assumption); (case kd => ktr_room); (case ku => ktr_units); (case hD => k_mem); (case hp => with_reducible assumption); intro D9 t91 t92 t93 n9 h9 tk9 I9 F9 N9; (try dsimp only); (try k_fold)))
    | (k_unfold; (try dsimp only)) | (k_end; wrow_close) | walk1 | (dsimp only; walk1) | (leave1; walk_say "STEP leave1"; try dsimp only) | fail "no step")
  all_goals (unfold Ret3 at ret; first
    | (rw [jmul_0 (p := p) (by assumption)] at ret; exact ret _ _ _ _ _ _ _ (by first | assumption | exact In3.none0 | exact In3.none1 | exact ⟨.fmod _, .fmod _, .fmod _⟩) (by k_asm) (by first | k_asm | (refine' newsCons ?nn ?nq ?ns; (case nn => k_asm); (case nq => k_mem); (case ns => (intro p hp; repeat (first | exact hp | refine List.Mem.tail _ ?_))))))
    | (rw [jmul_1 (p := p) (by assumption)] at ret; exact ret _ _ _ _ _ _ _ (by first | assumption | exact In3.none0 | exact In3.none1 | exact ⟨.fmod _, .fmod _, .fmod _⟩) (by k_asm) (by first | k_asm | (refine' newsCons ?nn ?nq ?ns; (case nn => k_asm); (case nq => k_mem); (case ns => (intro p hp; repeat (first | exact hp | refine List.Mem.tail _ ?_))))))
    | (rw [jmul_2 (p := p) (by assumption) (by assumption) (by assumption)] at ret; exact ret _ _ _ _ _ _ _ (by first | assumption | exact In3.none0 | exact In3.none1 | exact ⟨.fmod _, .fmod _, .fmod _⟩) (by k_asm) (by first | k_asm | (refine' newsCons ?nn ?nq ?ns; (case nn => k_asm); (case nq => k_mem); (case ns => (intro p hp; repeat (first | exact hp | refine List.Mem.tail _ ?_))))))
    | (rw [jmul_3 (p := p) h0 (by assumption) (by assumption) (by assumption) (by assumption)] at ret; exact ret _ _ _ _ _ _ _ (by first | assumption | exact In3.none0 | exact In3.none1 | exact ⟨.fmod _, .fmod _, .fmod _⟩) (by k_asm) (by first | k_asm | (refine' newsCons ?nn ?nq ?ns; (case nn => k_asm); (case nq => k_mem); (case ns => (intro p hp; repeat (first | exact hp | refine List.Mem.tail _ ?_))))))
    | (rw [jmul_4 (p := p) h0 (by assumption) (by assumption) (by assumption) (by assumption)] at ret; exact ret _ _ _ _ _ _ _ (by first | assumption | exact In3.none0 | exact In3.none1 | exact ⟨.fmod _, .fmod _, .fmod _⟩) (by k_asm) (by first | k_asm | (refine' newsCons ?nn ?nq ?ns; (case nn => k_asm); (case nq => k_mem); (case ns => (intro p hp; repeat (first | exact hp | refine List.Mem.tail _ ?_))))))
    | exact (mod2 (by assumption) (by assumption)).elim
   )
theorem mulB_spec (w : World) (mean : ExcName → Option Value) (mg mb : Str → Option Value) (news : List (Addr × Obj)) (D : Addr) (p : T3) (t1 t2 t3 : Tok) (n : Nat) (hD : (D, tupP p t1 t2 t3 n) ∈ news) (hp : In3 p) (i : Int) (ti : Tok) (h0 : 0 ≤ i) (h1 : i < 256) : Ctr w mean mg mb 59 260 news [.ref D, .int i ti] (Ret3 news (jmul p i.toNat)) := by
  intro dp un gd cn cs a ccd cl outer A₀ base h₀ L m s Q E B F X N T hk hdd hu ret
  exact mul_spec w mean mg mb i.toNat news D p t1 t2 t3 n hD hp i ti h0 (by omega) rfl dp un gd cn cs a ccd cl outer A₀ base h₀ L m s Q E B F X N T hk (by omega) (by omega) ret
end Mine
end SWmul

section SWat
open PySem PySem.W PyProof.Rows PySem.Calls Builtin.Int PySem.Spec PyProof.V
set_option maxRecDepth 100000
set_option maxHeartbeats 8000000
set_option pp.deepTerms false
namespace Mine
local macro_rules | `(tactic| k_mem) => `(tactic| first | with_reducible assumption | assumption)
local macro_rules | `(tactic| ktr_rel) => `(tactic| first | with_reducible assumption | ((with_reducible refine' Bd.fmod ?hb ?h1); (case hb => decide); (case h1 => ktr_rel)) | ((with_reducible refine' Bd.mul ?h1 ?h2); (case h1 => ktr_rel); (case h2 => ktr_rel)) | ((with_reducible refine' Bd.pow ?h1); (case h1 => ktr_rel)) | ((with_reducible refine' Bd.add ?h1 ?h2); (case h1 => ktr_rel); (case h2 => ktr_rel)) | ((with_reducible refine' Bd.sub ?h1 ?h2); (case h1 => ktr_rel); (case h2 => ktr_rel)) | ((with_reducible refine' Bd.neg ?h1); (case h1 => ktr_rel)) | ((with_reducible refine' Bd.p1 ?h1); (case h1 => with_reducible assumption)) | ((with_reducible refine' Bd.p2 ?h1); (case h1 => with_reducible assumption)) | ((with_reducible refine' Bd.p3 ?h1); (case h1 => with_reducible assumption)) | ((with_reducible refine' Bd.u1 ?h1); (case h1 => with_reducible assumption)) | ((with_reducible refine' Bd.u2 ?h1); (case h1 => with_reducible assumption)) | ((with_reducible refine' Bd.ofP ?h1); (case h1 => with_reducible assumption)) | ((with_reducible refine' Bd.lit4 ?h1); (case h1 => decide)) | ((with_reducible refine' Bd.lit ?h1); (case h1 => decide)))
local macro_rules | `(tactic| walk_at "binaryOp Mult int int") => `(tactic| (k_here; k_dflt ((with_reducible refine' mul_own ?mh ?mk ?mi ?_); (case mh => ktr_rel); (case mk => ktr_rel); (case mi => decide))))
local macro_rules | `(tactic| walk_at "binaryOp Pow int int") => `(tactic| (k_here; k_dflt (first
  | ((with_reducible refine' pow_own (k := 2) ?mn ?mh ?mi ?_); (case mn => rfl); (case mh => ktr_rel); (case mi => decide))
  | ((with_reducible refine' pow_own (k := 3) ?mn ?mh ?mi ?_); (case mn => rfl); (case mh => ktr_rel); (case mi => decide))
  | ((with_reducible refine' pow_own (k := 4) ?mn ?mh ?mi ?_); (case mn => rfl); (case mh => ktr_rel); (case mi => decide))
  | ((with_reducible refine' pow_own (k := 6) ?mn ?mh ?mi ?_); (case mn => rfl); (case mh => ktr_rel); (case mi => decide)))))
theorem getD_in {ns : List Int} {k o : Int} (h : k < (ns.length : Int)) (hk : 0 ≤ k) : ns.getD k.toNat o = ns.getD k.toNat 0 := by
  have h1 : k.toNat < ns.length := by omega
  rw [List.getD_eq_getElem?_getD, List.getD_eq_getElem?_getD, List.getElem?_eq_getElem h1]; rfl
theorem getD_out {ns : List Int} {k o : Int} (h : ¬ k < (ns.length : Int)) : ns.getD k.toNat o = o := by
  rw [List.getD_eq_getElem?_getD, List.getElem?_eq_none (by omega)]; rfl
theorem at_spec (w : World) (mean : ExcName → Option Value) (mg mb : Str → Option Value) (news : List (Addr × Obj)) (l : Addr) (vs : List Value) (ns : List Int) (hi : IntsAre vs ns) (hlen : ns.length < 2 ^ 62) (k : Int) (tk : Tok) (o : Int) (to : Tok) (hk0 : 0 ≤ k) (hk2 : k < 1000) :
  ∀ (dp un : Nat) (gd : Option (List Code)) (cn : Str) (cs : Scope) (a : Addr) (ccd : Value) (cl : List (Str × Addr)) (outer : List Env) (A₀ : Around) (base h₀ : Heap) (L : Addr) (m : Str → Option Value) (s : Shared) (Q E : Value → Shared → Prop),
    Below A₀ base outer h₀ → base.IsList l vs.toArray → Fr h₀ L s.heap m → (hd.heap_39 w.params).In h₀ → News h₀ L s.heap news → Top hd.view_39 (looseW hd.view_39 []) mean mg mb h₀ → cs.kind = .function →
    dp + 1 < recursionLimit → un + 8 * 1 + 100 < cLine → RetI news (ns.getD k.toNat o) h₀ L m s Q →
    wpAny (model PySem.Challenge.rw_bh0024_01.row.toRowW.prog w) (ktrTop dp un gd cn cs L a ccd cl outer) (call (.ref 80) [.ref l, .int k tk, .int o to]) Q E s := by
  k_fill
  intro dp un gd cn cs a ccd cl outer A₀ base h₀ L m s Q E B hl F X N T hk hdd hu ret
  refine wpAny_call ?_
  k_dflt ktr_enter
  (with_reducible rename Below _ _ _ _ => B9)
  (try k_lift B9)
  repeat' (first
    | (k_unfold; (try dsimp only)) | (k_end; wrow_close) | walk1 | (dsimp only; walk1) | (leave1; walk_say "STEP leave1"; try dsimp only) | fail "no step")
  all_goals (unfold RetI at ret; first
    | (rw [getD_in (ns := ns) (k := k) (o := o) (by assumption) hk0] at ret; exact ret _ _ _ (by k_asm) (by first | k_asm | (refine cb_drop (by k_asm) ?_; intro p hp; repeat (first | exact hp | refine List.Mem.tail _ ?_))))
    | (rw [getD_out (ns := ns) (k := k) (o := o) (by assumption)] at ret; exact ret _ _ _ (by k_asm) (by first | k_asm | (refine cb_drop (by k_asm) ?_; intro p hp; repeat (first | exact hp | refine List.Mem.tail _ ?_)))))
end Mine
end SWat

section SWPow
open PySem PySem.W PyProof.Rows PySem.Calls
set_option maxRecDepth 100000
set_option maxHeartbeats 2000000
namespace Mine
/-- pow(x, y, m) as the model reckons it, for y at least 0 and m more than 1 -/
def powI (x y m : Int) : Int := (Builtin.powMod (x % m).toNat y.natAbs m.natAbs : Nat)
theorem entry_pow3 : entryFor table "pow" = some Builtin.«pow» := entryFor_of_fast (by kernel_rfl)
theorem kind_pow3 : builtinKind "pow" = none := by decide +kernel
theorem plain_pow3 : plainId "pow" = true := by decide +kernel
theorem args_pow3 (a b c : Value) : argsOk "pow" ⟨[a, b, c], []⟩ := by unfold argsOk; kernel_rfl
theorem args_int_pow3 (a b c : Value) : argsOk "int.__pow__" ⟨[a, b, c], []⟩ := by unfold argsOk; kernel_rfl
theorem slot_pow3 : Slot "int" (Str.ofString "__pow__") "int.__pow__" := by
  have e : PySem.dunder "pow" = Str.ofString "__pow__" := by decide +kernel
  rw [← e]; exact slot_int_pow
section
variable {prog : Program} {w : World} {A : Around} {E : Value → Shared → Prop} {s : Shared} {x y m : Int} {t u v : Tok} {Q : Value → Shared → Prop}
theorem call_int_pow3 (hy : 0 ≤ y) (hm : 1 < m) (h : Q (.int (powI x y m) s.toks) { s with toks := s.toks + 1 }) :
    wpAny (model prog w) A (call (.builtin "int.__pow__") [.int x t, .int y u, .int m v]) (fun v s' => v ≠ .notImplemented ∧ Q v s') E s := by
  refine wpAny_call_entry slot_int_pow (typeIs_int s x t) entry_int_pow ?_ (args_int_pow3 _ _ _)
  show wpAny _ _ (if (m == 0) = true then _ else _) _ _ s
  rw [if_neg (by simp; omega)]
  have hn : m.natAbs ≠ 1 := by omega
  show wpAny _ _ (if (m.natAbs == 1) = true then _ else _) _ _ s
  rw [if_neg (by simpa using hn)]
  show wpAny _ _ (if y < 0 then _ else _) _ _ s
  rw [if_neg (by omega)]
  have e : (m.natAbs : Int) = m := by omega
  have key : (if (m < 0 && (((Builtin.powMod (x % (m.natAbs : Int)).toNat y.natAbs m.natAbs : Nat) : Int) != 0)) = true then ((Builtin.powMod (x % (m.natAbs : Int)).toNat y.natAbs m.natAbs : Nat) : Int) - m.natAbs else ((Builtin.powMod (x % (m.natAbs : Int)).toNat y.natAbs m.natAbs : Nat) : Int)) = powI x y m := by
    rw [if_neg (by simp; omega)]; unfold powI; rw [e]
  rw [← key] at h
  repeat (first | refine wpAny_pure ?_ | refine wpAny_mkInt ?_ | refine wpAny_rule ?_ | refine wpAny_bind ?_)
  exact ⟨_, rfl, by simp, h⟩
theorem pow3_int (hy : 0 ≤ y) (hm : 1 < m) (h : Q (.int (powI x y m) s.toks) { s with toks := s.toks + 1 }) :
    wpAny (model prog w) A (call (.builtin "pow") [.int x t, .int y u, .int m v]) Q E s := by
  refine Calls.call_function_entry kind_pow3 plain_pow3 entry_pow3 (args_pow3 _ _ _) ?_
  unfold Builtin.«pow»
  refine wpAny_bind (m := Builtin.Builtins.bindParams "pow" ["base", "exp", "mod"] 2 _) (wpAny_pure ?_)
  refine wpAny_bind (wpAny_rule ?_)
  refine wpAny_bind (wpAny_typeOf (typeIs_int s x t) ?_)
  refine wpAny_bind (m := typeLookup (.type "int") (Str.ofString "__pow__")) (wpAny_of_eq (a := some (.builtin "int.__pow__")) slot_pow3.lookup ?_)
  refine wpAny_bind (m := callSpecial? (.int x t) (Str.ofString "__pow__") [.int y u, .int m v]) (wpAny_callSpecial?_slot (name := Str.ofString "__pow__") (typeIs_int s x t) slot_pow3 (wpAny_mono (call_int_pow3 hy hm h) (fun r s' hr => ?_) fun _ _ h => h))
  have hne : (r != Value.notImplemented) = true := by simpa using hr.1
  show wpAny _ _ (if (r != Value.notImplemented) = true then ret r else _) _ _ _
  rw [if_pos hne]
  exact wpAny_pure ⟨_, rfl, hr.2⟩
end
theorem powMod_lt (b e m : Nat) (hm : 1 < m) : Builtin.powMod b e m < m := by
  unfold Builtin.powMod
  have : ∀ (l : List Nat) (p : Nat), p < m → l.foldl (fun p i => if e.testBit i then p * p % m * b % m else p * p % m) p < m := by
    intro l
    induction l with
    | nil => intro p hp; exact hp
    | cons a l ih =>
      intro p _
      refine ih _ ?_
      show (if e.testBit a then p * p % m * b % m else p * p % m) < m
      split <;> exact Nat.mod_lt _ (by omega)
  exact this _ _ (Nat.mod_lt _ (by omega))
theorem InP.pow (x y : Int) : InP (powI x y P) := by
  have := powMod_lt (x % P).toNat y.natAbs P.natAbs (by decide)
  have e : P.natAbs = 115792089237316195423570985008687907853269984665640564039457584007908834671663 := by decide
  unfold InP powI
  refine ⟨by omega, ?_⟩
  unfold P at *
  omega
theorem pow3_gen {prog : Program} {w : World} {A : Around} {E : Value → Shared → Prop} {s : Shared} {x y : Int} {t u v : Tok} {Q : Value → Shared → Prop} (hy : 0 ≤ y)
    (h : ∀ r, InP r → Q (.int r s.toks) { s with toks := s.toks + 1 }) : wpAny (model prog w) A (call (.builtin "pow") [.int x t, .int y u, .int P v]) Q E s :=
  pow3_int hy (by decide) (h _ (.pow x y))
theorem bd_at {ns : List Int} (h : (PyData.list (ns.map PyData.int)).layable0 = true) {k : Nat} {o : Int} (ho : o.natAbs < 2 ^ 64) : Bd 1048576 (ns.getD k o) := by
  rw [List.getD_eq_getElem?_getD]
  cases e : ns[k]? with
  | none => exact Bd.mono (i := 64) ho (by decide)
  | some x => exact PySem.intBits_le_iff.mp (PySem.intBits_le_of_item (List.mem_of_getElem? e) h)
abbrev Ret2e (news : List (Addr × Obj)) (h₀ : Heap) (L : Addr) (m : Str → Option Value) (s : Shared) (Q : Value → Shared → Prop) : Prop :=
  ∀ (u : Int × Int) (D : Addr) (t1 t2 : Tok) (n : Nat) (h' : Heap) (tk' : Nat), InP u.1 → 0 ≤ u.2 → u.2 ≤ P → Fr h₀ L h' m → News h₀ L h' ((D, tupU u t1 t2 n) :: news) → AllLt D news → Q (.ref D) { s with heap := h', toks := tk' }
end Mine
end SWPow

section SWpoint
open PySem PySem.W PyProof.Rows PySem.Calls Builtin.Int PySem.Spec PyProof.V
set_option maxRecDepth 100000
set_option maxHeartbeats 8000000
set_option pp.deepTerms false
namespace Mine
local macro_rules | `(tactic| k_mem) => `(tactic| first | with_reducible assumption | assumption)
local macro_rules | `(tactic| ktr_rel) => `(tactic| first | with_reducible assumption | ((with_reducible refine' Bd.fmod ?hb ?h1); (case hb => decide); (case h1 => ktr_rel)) | ((with_reducible refine' Bd.mul ?h1 ?h2); (case h1 => ktr_rel); (case h2 => ktr_rel)) | ((with_reducible refine' Bd.pow ?h1); (case h1 => ktr_rel)) | ((with_reducible refine' Bd.add ?h1 ?h2); (case h1 => ktr_rel); (case h2 => ktr_rel)) | ((with_reducible refine' Bd.sub ?h1 ?h2); (case h1 => ktr_rel); (case h2 => ktr_rel)) | ((with_reducible refine' Bd.neg ?h1); (case h1 => ktr_rel)) | ((with_reducible refine' Bd.p1 ?h1); (case h1 => with_reducible assumption)) | ((with_reducible refine' Bd.p2 ?h1); (case h1 => with_reducible assumption)) | ((with_reducible refine' Bd.p3 ?h1); (case h1 => with_reducible assumption)) | ((with_reducible refine' Bd.u1 ?h1); (case h1 => with_reducible assumption)) | ((with_reducible refine' Bd.u2 ?h1); (case h1 => with_reducible assumption)) | ((with_reducible refine' Bd.ofP ?h1); (case h1 => with_reducible assumption)) | ((with_reducible refine' Bd.lit4 ?h1); (case h1 => decide)) | ((with_reducible refine' Bd.lit ?h1); (case h1 => decide)))
local macro_rules | `(tactic| walk_at "binaryOp Mult int int") => `(tactic| (k_here; k_dflt ((with_reducible refine' mul_own ?mh ?mk ?mi ?_); (case mh => ktr_rel); (case mk => ktr_rel); (case mi => decide))))
local macro_rules | `(tactic| walk_at "binaryOp Pow int int") => `(tactic| (k_here; k_dflt (first
  | ((with_reducible refine' pow_own (k := 2) ?mn ?mh ?mi ?_); (case mn => rfl); (case mh => ktr_rel); (case mi => decide))
  | ((with_reducible refine' pow_own (k := 3) ?mn ?mh ?mi ?_); (case mn => rfl); (case mh => ktr_rel); (case mi => decide))
  | ((with_reducible refine' pow_own (k := 4) ?mn ?mh ?mi ?_); (case mn => rfl); (case mh => ktr_rel); (case mi => decide))
  | ((with_reducible refine' pow_own (k := 6) ?mn ?mh ?mi ?_); (case mn => rfl); (case mh => ktr_rel); (case mi => decide)))))
theorem point_spec (w : World) (mean : ExcName → Option Value) (mg mb : Str → Option Value) (news : List (Addr × Obj)) (i : Int) (ti : Tok) (o : Int) (to : Tok) (hi : Bd 2000000 i) : Ctr w mean mg mb 87 1 news [.int i ti, .int o to] (Ret2e news) := by
  unfold Ctr
  k_fill
  intro dp un gd cn cs a ccd cl outer A₀ base h₀ L m s Q E B F X N T hk hdd hu ret
  refine wpAny_call ?_
  k_dflt ktr_enter
  (k_with "state" => first | assumption | exact InP.fmod _)
  repeat' (first
    | ((with_reducible show wpAny _ _ (pyIter (Value.ref _)) _ _ _); k_state (fun _ x => InP x) "x")
    | ((with_reducible show wpAny _ _ (PySem.call (Value.builtin "pow") [Value.int _ _, Value.int _ _, Value.int _ _]) _ _ _); k_dflt ((refine' pow3_gen ?hy ?_); (case hy => decide); intro r9 i9; (try dsimp only)))
    | (k_unfold; (try dsimp only)) | (k_end; wrow_close) | walk1 | (dsimp only; walk1) | (leave1; walk_say "STEP leave1"; try dsimp only) | fail "no step")
  all_goals (refine' ret (_, _) _ _ _ _ _ _ ?p1 ?p2 ?p3 ?pF ?pN ?pl; (case pF => k_asm); (case pN => k_asm); (case pl => (first | assumption | exact allLt_of (by assumption))); (case p1 => assumption); (case p2 => (dsimp only; unfold InP P at *; omega)); (case p3 => (dsimp only; unfold InP P at *; omega)))
end Mine
end SWpoint

section SWComp
open PySem PySem.W PyProof.Rows PySem.Calls Builtin.Int PySem.Spec PyProof.V
set_option maxRecDepth 100000
set_option maxHeartbeats 4000000
namespace Mine
/-- a list's items are the pairs us, tuples of the ledger -/
noncomputable def PairsAre (news : List (Addr × Obj)) : List Value → List (Int × Int) → Prop
  | [], [] => True
  | v :: vs, u :: us => (∃ t t1 t2 nt, v = .ref t ∧ (t, tupU u t1 t2 nt) ∈ news) ∧ PairsAre news vs us
  | _, _ => False
theorem PairsAre.len {news : List (Addr × Obj)} : ∀ {vs : List Value} {us : List (Int × Int)}, PairsAre news vs us → vs.length = us.length
  | [], [], _ => rfl
  | _ :: _, _ :: _, h => congrArg (· + 1) (PairsAre.len h.2)
  | [], _ :: _, h => h.elim
  | _ :: _, [], h => h.elim
theorem PairsAre.get {news : List (Addr × Obj)} : ∀ {vs : List Value} {us : List (Int × Int)}, PairsAre news vs us → ∀ (i : Nat) (v : Value), vs[i]? = some v → ∃ (u : Int × Int) (t : Addr) (t1 t2 : Tok) (nt : Nat), us[i]? = some u ∧ v = Value.ref t ∧ (t, tupU u t1 t2 nt) ∈ news := by
  intro vs
  induction vs with
  | nil => intro us _ i v e; simp at e
  | cons w vs ih =>
    intro us h i v e
    cases us with
    | nil => exact h.elim
    | cons u us =>
      cases i with
      | zero =>
        obtain ⟨t, t1, t2, nt, rfl, hm⟩ := h.1
        simp only [List.getElem?_cons_zero, Option.some.injEq] at e
        exact ⟨u, t, t1, t2, nt, rfl, e.symm, hm⟩
      | succ i =>
        rw [List.getElem?_cons_succ] at e
        obtain ⟨u', t, t1, t2, nt, e', r⟩ := ih h.2 i v e
        exact ⟨u', t, t1, t2, nt, by rw [List.getElem?_cons_succ]; exact e', r⟩
theorem IntsAre.snoc {ys : List Value} {ks : List Int} (h : IntsAre ys ks) (k : Int) (t : Tok) : IntsAre (ys ++ [.int k t]) (ks ++ [k]) := by
  induction h with
  | nil => exact .cons k t .nil
  | cons k' t' _ ih => exact .cons k' t' ih

/-- what the comprehension's source hands on -/
def PairSrc (h₀ : Heap) (L : Addr) (m : Str → Option Value) (us : List (Int × Int)) (tst : Int × Int → Bool) (Q : Value → Shared → Prop) (xv : Value) (s₁ : Shared) : Prop :=
  ∃ ax items news, xv = .ref ax ∧ Fr h₀ L s₁.heap m ∧ News h₀ L s₁.heap news ∧ (ax, LCg.lst items) ∈ news ∧ PairsAre news items us ∧ items.length ≤ 1000 ∧
    ∀ D ys ks h tk, Fr h₀ L h m → News h₀ L h ((D, LCg.lst ys) :: news) → IntsAre ys ks → ks.length < 2 ^ 62 → (ks = [] ↔ ∀ u ∈ us, tst u = false) → Q (.ref D) { s₁ with heap := h, toks := tk }

section
variable {prog : Program} {w : World} {A : Around} {E : Value → Shared → Prop} {s : Shared} {h₀ : Heap} {L : Addr} {m : Str → Option Value} {env : Env}
theorem pairs_comp {elt iter c : Expr} {x y : Str} {px py tp pos : Pos} {kk : Nat} {scope : Scope} {cl : List (Str × Addr)} {Q : Value → Shared → Prop} (us : List (Int × Int)) (tst : Int × Int → Bool)
    (hh : A.handled = none) (hclos : closureFor scope env = pure cl) (hcell : ∀ z ∈ scope.names, z.2 ≠ .cell) (hkind : scope.kind = .function)
    (hnames : ∀ z ∈ scope.names, z.2 = .local → scope.names.lookup z.1 = some .local) (hx : scope.names.lookup x = some .local) (hy : scope.names.lookup y = some .local) (hxy : x ≠ y)
    (hsrc : wpAny (model prog w) A (eval iter env) (PairSrc h₀ L m us tst Q) E s)
    (htest : ∀ (C : Addr) (m' : Str → Option Value) (u : Int × Int) (t1 t2 : Tok) (s' : Shared) (E' : Value → Shared → Prop), u ∈ us → s'.heap.Ns C m' → m' x = some (.int u.1 t1) → m' y = some (.int u.2 t2) → Fr h₀ L s'.heap m →
      wpAny (model prog w) A (isTrue c (compEnvC scope cl C env) (eval c (compEnvC scope cl C env))) (fun ok s'' => ok = tst u ∧ ∃ tk, s'' = { s' with toks := tk }) E' s')
    (helt : ∀ (C : Addr) (s' : Shared) (E' : Value → Shared → Prop), wpAny (model prog w) A (eval elt (compEnvC scope cl C env)) (fun v s'' => ∃ k t tk, v = .int k t ∧ s'' = { s' with toks := tk }) E' s')
    (hs : ∀ x, foldedSetIterable iter env x = pure x := by intro _; rfl) :
    wpAny (model prog w) A (eval (.ListComp elt [⟨.Tuple [.Name x px, .Name y py] kk tp, iter, [c], 0⟩] scope pos) env) Q E s := by
  rw [eval_ListComp]
  refine wpAny_comprehension_free (use := none) rfl hs hclos hkind hnames (wpAny_mono hsrc (fun xv s₁ h₁ => ?_) fun _ _ e => e)
  obtain ⟨ax, items, news, rfl, F, N, hmem, hpairs, hn, fin⟩ := h₁
  have hl : s₁.heap.IsList ax items.toArray := ⟨_, (N _ hmem).1, rfl, _, rfl⟩
  have hax : ax < s₁.heap.objs.size := Heap.lt_size (N _ hmem).1
  refine wpAny_pyIter_list hl ?_
  refine wpAny_newObj_type (wpAny_newFunctionEnv hcell (by intro z hz; simp at hz) (fun h₁ hns₁ hsb₁ => ?_) hkind)
  dsimp only at hns₁ hsb₁ ⊢
  generalize hH : (s₁.heap.push { cls := .type "list_iterator", data := .fields #[.ref ax, .int 0 0] }) = H at hns₁ hsb₁ ⊢
  have hHs : H.objs.size = s₁.heap.objs.size + 1 := by rw [← hH, Heap.size_push]
  have hHk : ∀ b o, s₁.heap.get? b = some o → H.get? b = some o := fun b o e => hH ▸ Heap.get?_push_of_some _ e
  have hHI : H.get? s₁.heap.objs.size = some { cls := .type "list_iterator", data := .fields #[.ref ax, .int 0 0] } := hH ▸ Heap.get?_push_size _ rfl
  generalize hJ : (H.push { cls := .type "list", dict := none, data := .seq ([] : List Value).toArray }) = J at hns₁ hsb₁ ⊢
  have hJs : J.objs.size = H.objs.size + 1 := by rw [← hJ, Heap.size_push]
  have hJk : ∀ b o, H.get? b = some o → J.get? b = some o := fun b o e => hJ ▸ Heap.get?_push_of_some _ e
  have hJD : J.get? H.objs.size = some (LCg.lst []) := hJ ▸ Heap.get?_push_size _ rfl
  have lt1 : ∀ {b o}, s₁.heap.get? b = some o → b < s₁.heap.objs.size := fun e => Heap.lt_size e
  have keep1 : ∀ b o, b ≠ J.objs.size → J.get? b = some o → h₁.get? b = some o := fun b o hb e => hsb₁.extBut b o hb (Heap.get?_push_of_some _ e)
  have old : ∀ b o, s₁.heap.get? b = some o → h₁.get? b = some o := fun b o e => keep1 b o (Nat.ne_of_lt (Nat.lt_trans (lt1 e) (by omega))) (hJk _ _ (hHk _ _ e))
  have hI1 : h₁.get? s₁.heap.objs.size = some { cls := .type "list_iterator", data := .fields #[.ref ax, .int 0 0] } := keep1 _ _ (by omega) (hJk _ _ hHI)
  have hD1 : h₁.get? H.objs.size = some (LCg.lst []) := keep1 _ _ (by omega) hJD
  have fresh : ∀ a, s₁.heap.objs.size ≤ a → h₀.get? a = none := fun a ha => by
    cases e : h₀.get? a with
    | none => rfl
    | some o' => exact absurd (Heap.lt_size (F.keep a o' e)) (Nat.not_lt.mpr ha)
  have hL : L < s₁.heap.objs.size := F.ns.lt
  have offn : ∀ p ∈ news, p.1 < s₁.heap.objs.size := fun p hp => lt1 (N p hp).1
  have hI₀ := fresh s₁.heap.objs.size (Nat.le_refl _)
  have hD₀ := fresh H.objs.size (by omega)
  have hC₀ := fresh J.objs.size (by omega)
  have W := Walks.list (prog := prog) (w := w) (A := A) hh s₁.heap.objs.size ax (Nat.ne_of_lt hax) items.toArray
  refine codeAny_compStart_list ?start (W.self 0 _ _ _ ⟨⟨_, hI1, rfl, rfl⟩, hl.at fun o e => old _ o e⟩ ?start)
  refine kct_loop (fun k s' => ∃ h' tk i ys ks m', s' = { s₁ with heap := h', toks := tk } ∧ i ≤ items.length ∧ k = items.length + 1 - i ∧ IntsAre ys ks ∧ ks.length ≤ i ∧ (ks = [] ↔ ∀ u ∈ us.take i, tst u = false) ∧
      (h'.IsListIter s₁.heap.objs.size ax i ∧ h'.IsList ax items.toArray) ∧ Fr h₀ L h' m ∧ h'.Ns J.objs.size m' ∧ News h₀ L h' ((H.objs.size, LCg.lst ys) :: news)) ?turn (items.length + 1) ?init
  case init =>
    refine ⟨h₁, _, 0, [], [], _, rfl, Nat.zero_le _, rfl, .nil, Nat.le_refl _, by simp, ⟨⟨_, hI1, rfl, rfl⟩, hl.at fun o e => old _ o e⟩, F.keeps old, hns₁, ?_⟩
    intro p hp
    rcases List.mem_cons.mp hp with rfl | hp
    · exact ⟨hD1, Nat.ne_of_gt (Nat.lt_trans hL (by omega)), hD₀⟩
    · exact ⟨old _ _ (N p hp).1, (N p hp).2⟩
  case turn =>
    rintro k s' ⟨h', tk, i, ys, ks, m', rfl, hi, rfl, hik, hkl, hkt, hst, F', hn', N'⟩
    have offI : ∀ p ∈ (H.objs.size, LCg.lst ys) :: news, p.1 ≠ s₁.heap.objs.size := fun p hp => by
      rcases List.mem_cons.mp hp with rfl | hp
      · exact Nat.ne_of_gt (by omega)
      · exact Nat.ne_of_lt (offn p hp)
    by_cases hlt : i < items.length
    · refine W.item i _ _ _ (by simpa using hlt) hst fun v h₂ tk₂ hv hst₂ hk₂ => ?_
      obtain ⟨u, t, t1, t2, nt, hu, rfl, hmt⟩ := hpairs.get i v (by simpa using hv)
      have F₂ : Fr h₀ L h₂ m := LCg.fr_but F' hk₂ (Nat.ne_of_lt hL) hI₀
      have N₂ : News h₀ L h₂ ((H.objs.size, LCg.lst ys) :: news) := LCg.news_but N' hk₂ offI
      have hn₂ : h₂.Ns J.objs.size m' := hn'.at' fun o e => hk₂ _ o (by simpa using Nat.ne_of_gt (by omega : s₁.heap.objs.size < J.objs.size)) e
      refine wpAny_letOwnedTupleGo_listiter hst₂.1 ?_
      refine assign_Tuple_tuple hh ⟨_, (N₂ _ (List.mem_cons_of_mem _ hmt)).1, rfl, nt, rfl⟩ rfl rfl fun h₅ he => ?_
      have he' : ∀ b o, h₂.get? b = some o → h₅.get? b = some o := fun b o e => he b o (Nat.ne_of_lt (Heap.lt_size e)) e
      refine assignInOrder_cons (wpAny_assign_Name (wpAny_storeName_local (lookup_relabel_local hx) (hn₂.at' fun o e => he' _ o e) (fun h₆ hn₆ hs₆ => ?_) (by simp [compEnvC, relabel, hkind])))
      refine assignInOrder_cons (wpAny_assign_Name (wpAny_storeName_local (lookup_relabel_local hy) hn₆ (fun h₃ hn₃ hs₃ => ?_) (by simp [compEnvC, relabel, hkind])))
      refine assignInOrder_nil ?_
      have old3 : ∀ b o, b ≠ J.objs.size → h₂.get? b = some o → h₃.get? b = some o := fun b o hb e => hs₃.extBut b o hb (hs₆.extBut b o hb (he' b o e))
      have hCL : J.objs.size ≠ L := Nat.ne_of_gt (Nat.lt_trans hL (by omega))
      have F₃ : Fr h₀ L h₃ m := ((F₂.keeps he').change hs₆ hCL hC₀).change hs₃ hCL hC₀
      have N₃ : News h₀ L h₃ ((H.objs.size, LCg.lst ys) :: news) := fun p hp => by
        refine ⟨old3 _ _ ?_ (N₂ p hp).1, (N₂ p hp).2⟩
        rcases List.mem_cons.mp hp with rfl | hp
        · exact Nat.ne_of_lt (by omega)
        · exact Nat.ne_of_lt (Nat.lt_trans (offn p hp) (by omega))
      have hst₃ : h₃.IsListIter s₁.heap.objs.size ax (i + 1) ∧ h₃.IsList ax items.toArray :=
        ⟨hst₂.1.at fun o e => old3 _ o (Nat.ne_of_lt (by omega)) e, hst₂.2.at fun o e => old3 _ o (Nat.ne_of_lt (Nat.lt_trans hax (by omega))) e⟩
      have hmem' : u ∈ us := List.mem_of_getElem? hu
      have htake : us.take (i + 1) = us.take i ++ [u] := by rw [List.take_add_one, hu]; rfl
      refine wpAny_mono (htest J.objs.size _ u t1 t2 _ _ hmem' hn₃ (by simp [hxy]) (by simp) F₃) (fun ok s₄ h₄ => ?_) fun _ _ e => e
      obtain ⟨rfl, tk₄, rfl⟩ := h₄
      cases htu : tst u with
      | true =>
        simp only [if_true]
        refine wpAny_mono (helt J.objs.size _ _) (fun y' s₅ h₅ => ?_) fun _ _ e => e
        obtain ⟨k', t', tk₅, rfl, rfl⟩ := h₅
        refine append_at (hsz := by show ys.toArray.size ≤ sizeLine; rw [List.size_toArray, hik.length, sizeLine_eq]; omega) (N₃ _ List.mem_cons_self).1 fun h₇ hs₇ hD₇ => ?_
        have hDL : H.objs.size ≠ L := Nat.ne_of_gt (Nat.lt_trans hL (by omega))
        refine ⟨items.length + 1 - (i + 1), by omega, h₇, _, i + 1, ys ++ [.int k' t'], ks ++ [k'], _, rfl, hlt, rfl, IntsAre.snoc hik k' t', by simp; omega, ?_, ?_, F₃.change hs₇ hDL hD₀, hn₃.sameBut hs₇ (show (J.objs.size : Nat) ≠ H.objs.size from Nat.ne_of_gt (by omega)), ?_⟩
        · rw [htake]
          constructor
          · intro e; simp at e
          · intro e
            have e1 := e u (by simp)
            rw [htu] at e1; cases e1
        · exact ⟨hst₃.1.at fun o e => hs₇.extBut _ o (Nat.ne_of_lt (by omega)) e, hst₃.2.at fun o e => hs₇.extBut _ o (Nat.ne_of_lt (Nat.lt_trans hax (by omega))) e⟩
        · intro p hp
          rcases List.mem_cons.mp hp with rfl | hp
          · exact ⟨hD₇.trans (congrArg some (LCg.lst_snoc ys _)), hDL, hD₀⟩
          · exact ⟨hs₇.extBut _ _ (Nat.ne_of_lt (Nat.lt_trans (offn p hp) (by omega))) (N₃ p (List.mem_cons_of_mem _ hp)).1, (N₃ p (List.mem_cons_of_mem _ hp)).2⟩
      | false =>
        simp only [Bool.false_eq_true, if_false]
        refine ⟨items.length + 1 - (i + 1), by omega, h₃, _, i + 1, ys, ks, _, rfl, hlt, rfl, hik, by omega, ?_, hst₃, F₃, hn₃, N₃⟩
        rw [htake]
        rw [hkt]
        constructor
        · intro e u' hu'
          rcases List.mem_append.mp hu' with hu' | hu'
          · exact e u' hu'
          · rw [List.mem_singleton.mp hu']; exact htu
        · exact fun e u' hu' => e u' (List.mem_append_left _ hu')
    · obtain rfl : i = items.length := by omega
      refine W.done _ _ _ (by simpa using hst) fun h₂ tk₂ hk₂ => ?_
      have F₂ : Fr h₀ L h₂ m := LCg.fr_but F' hk₂ (Nat.ne_of_lt hL) hI₀
      have N₂ : News h₀ L h₂ ((H.objs.size, LCg.lst ys) :: news) := LCg.news_but N' hk₂ offI
      refine ⟨_, hn'.at' fun o e => hk₂ _ o (by simpa using Nat.ne_of_gt (by omega : s₁.heap.objs.size < J.objs.size)) e, fun h'' hs'' => ?_⟩
      refine fin H.objs.size ys ks h'' _ (F₂.change hs'' (show (J.objs.size : Nat) ≠ L from Nat.ne_of_gt (Nat.lt_trans hL (by omega))) hC₀) (fun p hp => ⟨hs''.extBut _ _ ?_ (N₂ p hp).1, (N₂ p hp).2⟩) hik (by omega) ?_
      · rcases List.mem_cons.mp hp with rfl | hp
        · exact (show (H.objs.size : Nat) ≠ J.objs.size from Nat.ne_of_lt (by omega))
        · exact (show (p.1 : Nat) ≠ J.objs.size from Nat.ne_of_lt (Nat.lt_trans (offn p hp) (by omega)))
      · rw [hkt, hpairs.len, List.take_length]
end
theorem Bd.leP {x : Int} (h : 0 ≤ x) (k : x ≤ P) : Bd 257 x := by unfold Bd; unfold P at k; omega
/-- the point lies on the curve, by the law's own test -/
def onB (u : Int × Int) : Bool := decide ((u.2 * u.2 - u.1 * u.1 * u.1 - 7).fmod P ≠ 0)
theorem onB_eq (u : Int × Int) : ((u.2 * u.2 - u.1 * u.1 * u.1 - 7).fmod 115792089237316195423570985008687907853269984665640564039457584007908834671663 != 0) = onB u := by
  unfold onB P
  rw [Bool.eq_iff_iff]; simp
end Mine
end SWComp

section SWComp2
open PySem PySem.W PyProof.Rows PySem.Calls Builtin.Int PySem.Spec PyProof.V
set_option maxRecDepth 100000
set_option maxHeartbeats 4000000
namespace Mine
section
variable {prog : Program} {w : World} {A : Around} {E : Value → Shared → Prop} {s : Shared} {h₀ : Heap} {L : Addr} {m : Str → Option Value} {env : Env}
/-- what the source of a comprehension over a pair hands on -/
def PairOne (h₀ : Heap) (L : Addr) (m : Str → Option Value) (u : Int × Int) (Q : Value → Shared → Prop) (xv : Value) (s₁ : Shared) : Prop :=
  ∃ ax t1 t2 nt news, xv = .ref ax ∧ Fr h₀ L s₁.heap m ∧ News h₀ L s₁.heap news ∧ (ax, tupU u t1 t2 nt) ∈ news ∧
    ∀ D h tk, Fr h₀ L h m → News h₀ L h ((D, LCg.lst []) :: news) → Q (.ref D) { s₁ with heap := h, toks := tk }
/-- a comprehension over a pair of ints, whose test is False at both: the empty list -/
theorem pair_comp {elt iter c : Expr} {x : Str} {px pos : Pos} {scope : Scope} {cl : List (Str × Addr)} {Q : Value → Shared → Prop} (u : Int × Int)
    (hh : A.handled = none) (hclos : closureFor scope env = pure cl) (hcell : ∀ z ∈ scope.names, z.2 ≠ .cell) (hkind : scope.kind = .function)
    (hnames : ∀ z ∈ scope.names, z.2 = .local → scope.names.lookup z.1 = some .local) (hx : scope.names.lookup x = some .local)
    (hsrc : wpAny (model prog w) A (eval iter env) (PairOne h₀ L m u Q) E s)
    (htest : ∀ (C : Addr) (m' : Str → Option Value) (k : Int) (t : Tok) (s' : Shared) (E' : Value → Shared → Prop), (k = u.1 ∨ k = u.2) → s'.heap.Ns C m' → m' x = some (.int k t) → Fr h₀ L s'.heap m →
      wpAny (model prog w) A (isTrue c (compEnvC scope cl C env) (eval c (compEnvC scope cl C env))) (fun ok s'' => ok = false ∧ ∃ tk, s'' = { s' with toks := tk }) E' s')
    (hs : ∀ x, foldedSetIterable iter env x = pure x := by intro _; rfl) :
    wpAny (model prog w) A (eval (.ListComp elt [⟨.Name x px, iter, [c], 0⟩] scope pos) env) Q E s := by
  rw [eval_ListComp]
  refine wpAny_comprehension_free (use := none) rfl hs hclos hkind hnames (wpAny_mono hsrc (fun xv s₁ h₁ => ?_) fun _ _ e => e)
  obtain ⟨ax, t1, t2, nt, news, rfl, F, N, hmem, fin⟩ := h₁
  generalize hit : (#[Value.int u.1 t1, Value.int u.2 t2] : Array Value) = items at *
  have hsz : items.size = 2 := by rw [← hit]; rfl
  have hl : s₁.heap.IsTuple ax items := ⟨_, (N _ hmem).1, rfl, nt, by rw [← hit]⟩
  have hax : ax < s₁.heap.objs.size := Heap.lt_size (N _ hmem).1
  refine wpAny_pyIter_tuple hl ?_
  refine wpAny_newObj_type (wpAny_newFunctionEnv hcell (by intro z hz; simp at hz) (fun h₁ hns₁ hsb₁ => ?_) hkind)
  dsimp only at hns₁ hsb₁ ⊢
  generalize hH : (s₁.heap.push { cls := .type "tuple_iterator", data := .fields #[.ref ax, .int 0 0] }) = H at hns₁ hsb₁ ⊢
  have hHs : H.objs.size = s₁.heap.objs.size + 1 := by rw [← hH, Heap.size_push]
  have hHk : ∀ b o, s₁.heap.get? b = some o → H.get? b = some o := fun b o e => hH ▸ Heap.get?_push_of_some _ e
  have hHI : H.get? s₁.heap.objs.size = some { cls := .type "tuple_iterator", data := .fields #[.ref ax, .int 0 0] } := hH ▸ Heap.get?_push_size _ rfl
  generalize hJ : (H.push { cls := .type "list", dict := none, data := .seq ([] : List Value).toArray }) = J at hns₁ hsb₁ ⊢
  have hJs : J.objs.size = H.objs.size + 1 := by rw [← hJ, Heap.size_push]
  have hJk : ∀ b o, H.get? b = some o → J.get? b = some o := fun b o e => hJ ▸ Heap.get?_push_of_some _ e
  have hJD : J.get? H.objs.size = some (LCg.lst []) := hJ ▸ Heap.get?_push_size _ rfl
  have lt1 : ∀ {b o}, s₁.heap.get? b = some o → b < s₁.heap.objs.size := fun e => Heap.lt_size e
  have keep1 : ∀ b o, b ≠ J.objs.size → J.get? b = some o → h₁.get? b = some o := fun b o hb e => hsb₁.extBut b o hb (Heap.get?_push_of_some _ e)
  have old : ∀ b o, s₁.heap.get? b = some o → h₁.get? b = some o := fun b o e => keep1 b o (Nat.ne_of_lt (Nat.lt_trans (lt1 e) (by omega))) (hJk _ _ (hHk _ _ e))
  have hI1 : h₁.get? s₁.heap.objs.size = some { cls := .type "tuple_iterator", data := .fields #[.ref ax, .int 0 0] } := keep1 _ _ (by omega) (hJk _ _ hHI)
  have hD1 : h₁.get? H.objs.size = some (LCg.lst []) := keep1 _ _ (by omega) hJD
  have fresh : ∀ a, s₁.heap.objs.size ≤ a → h₀.get? a = none := fun a ha => by
    cases e : h₀.get? a with
    | none => rfl
    | some o' => exact absurd (Heap.lt_size (F.keep a o' e)) (Nat.not_lt.mpr ha)
  have hL : L < s₁.heap.objs.size := F.ns.lt
  have offn : ∀ p ∈ news, p.1 < s₁.heap.objs.size := fun p hp => lt1 (N p hp).1
  have hI₀ := fresh s₁.heap.objs.size (Nat.le_refl _)
  have hD₀ := fresh H.objs.size (by omega)
  have hC₀ := fresh J.objs.size (by omega)
  have W := Walks.tuple (prog := prog) (w := w) (A := A) hh s₁.heap.objs.size ax (Nat.ne_of_lt hax) items
  refine codeAny_compStart_list ?start (W.self 0 _ _ _ ⟨⟨_, hI1, rfl, rfl⟩, hl.at fun o e => old _ o e⟩ ?start)
  refine codeAny_compLoop_tests (fun k s' => ∃ h' tk i m', s' = { s₁ with heap := h', toks := tk } ∧ i ≤ items.size ∧ k = items.size + 1 - i ∧
      (h'.IsTupleIter s₁.heap.objs.size ax i ∧ h'.IsTuple ax items) ∧ Fr h₀ L h' m ∧ h'.Ns J.objs.size m' ∧ News h₀ L h' ((H.objs.size, LCg.lst []) :: news)) ?turn (items.size + 1) ?init
  case init =>
    refine ⟨h₁, _, 0, _, rfl, Nat.zero_le _, rfl, ⟨⟨_, hI1, rfl, rfl⟩, hl.at fun o e => old _ o e⟩, F.keeps old, hns₁, ?_⟩
    intro p hp
    rcases List.mem_cons.mp hp with rfl | hp
    · exact ⟨hD1, Nat.ne_of_gt (Nat.lt_trans hL (by omega)), hD₀⟩
    · exact ⟨old _ _ (N p hp).1, (N p hp).2⟩
  case turn =>
    rintro k s' ⟨h', tk, i, m', rfl, hi, rfl, hst, F', hn', N'⟩
    have offI : ∀ p ∈ (H.objs.size, LCg.lst []) :: news, p.1 ≠ s₁.heap.objs.size := fun p hp => by
      rcases List.mem_cons.mp hp with rfl | hp
      · exact Nat.ne_of_gt (by omega)
      · exact Nat.ne_of_lt (offn p hp)
    by_cases hlt : i < items.size
    · refine W.item i _ _ _ hlt hst fun v h₂ tk₂ hv hst₂ hk₂ => ?_
      have F₂ : Fr h₀ L h₂ m := LCg.fr_but F' hk₂ (Nat.ne_of_lt hL) hI₀
      have N₂ : News h₀ L h₂ ((H.objs.size, LCg.lst []) :: news) := LCg.news_but N' hk₂ offI
      have hn₂ : h₂.Ns J.objs.size m' := hn'.at' fun o e => hk₂ _ o (by simpa using Nat.ne_of_gt (by omega : s₁.heap.objs.size < J.objs.size)) e
      have hvk : ∃ k t, v = .int k t ∧ (k = u.1 ∨ k = u.2) := by
        rw [← hit] at hv
        rcases Nat.lt_or_ge i 1 with z | z
        · obtain rfl : i = 0 := by omega
          exact ⟨u.1, t1, by simpa using hv.symm, .inl rfl⟩
        · obtain rfl : i = 1 := by omega
          exact ⟨u.2, t2, by simpa using hv.symm, .inr rfl⟩
      obtain ⟨k, t, rfl, hku⟩ := hvk
      refine wpAny_assign_Name (wpAny_storeName_local (lookup_relabel_local hx) hn₂ (fun h₃ hn₃ hs₃ => ?_) (by simp [compEnvC, relabel, hkind]))
      refine wpAny_tests_one ?_
      have old3 : ∀ b o, b ≠ J.objs.size → h₂.get? b = some o → h₃.get? b = some o := fun b o hb e => hs₃.extBut b o hb e
      have hCL : J.objs.size ≠ L := Nat.ne_of_gt (Nat.lt_trans hL (by omega))
      have F₃ : Fr h₀ L h₃ m := F₂.change hs₃ hCL hC₀
      have N₃ : News h₀ L h₃ ((H.objs.size, LCg.lst []) :: news) := fun p hp => by
        refine ⟨old3 _ _ ?_ (N₂ p hp).1, (N₂ p hp).2⟩
        rcases List.mem_cons.mp hp with rfl | hp
        · exact Nat.ne_of_lt (by omega)
        · exact Nat.ne_of_lt (Nat.lt_trans (offn p hp) (by omega))
      have hst₃ : h₃.IsTupleIter s₁.heap.objs.size ax (i + 1) ∧ h₃.IsTuple ax items :=
        ⟨hst₂.1.at fun o e => old3 _ o (Nat.ne_of_lt (by omega)) e, hst₂.2.at fun o e => old3 _ o (Nat.ne_of_lt (Nat.lt_trans hax (by omega))) e⟩
      refine wpAny_mono (htest J.objs.size _ k t _ _ hku hn₃ (by simp) F₃) (fun ok s₄ h₄ => ?_) fun _ _ e => e
      obtain ⟨rfl, tk₄, rfl⟩ := h₄
      simp only [Bool.false_eq_true, if_false]
      exact ⟨items.size + 1 - (i + 1), by omega, h₃, _, i + 1, _, rfl, hlt, rfl, hst₃, F₃, hn₃, N₃⟩
    · obtain rfl : i = items.size := by omega
      refine W.done _ _ _ hst fun h₂ tk₂ hk₂ => ?_
      have F₂ : Fr h₀ L h₂ m := LCg.fr_but F' hk₂ (Nat.ne_of_lt hL) hI₀
      have N₂ : News h₀ L h₂ ((H.objs.size, LCg.lst []) :: news) := LCg.news_but N' hk₂ offI
      refine ⟨_, hn'.at' fun o e => hk₂ _ o (by simpa using Nat.ne_of_gt (by omega : s₁.heap.objs.size < J.objs.size)) e, fun h'' hs'' => ?_⟩
      refine fin H.objs.size h'' _ (F₂.change hs'' (show (J.objs.size : Nat) ≠ L from Nat.ne_of_gt (Nat.lt_trans hL (by omega))) hC₀) (fun p hp => ⟨hs''.extBut _ _ ?_ (N₂ p hp).1, (N₂ p hp).2⟩)
      rcases List.mem_cons.mp hp with rfl | hp
      · exact (show (H.objs.size : Nat) ≠ J.objs.size from Nat.ne_of_lt (by omega))
      · exact (show (p.1 : Nat) ≠ J.objs.size from Nat.ne_of_lt (Nat.lt_trans (offn p hp) (by omega)))
theorem pair_comp2 {elt iter c : Expr} {x : Str} {px pos : Pos} {scope : Scope} {cl : List (Str × Addr)} {Q : Value → Shared → Prop} {news : List (Addr × Obj)} {ax : Addr} {t1 t2 : Tok} {nt : Nat} (u : Int × Int)
    (F : Fr h₀ L s.heap m) (N : News h₀ L s.heap news) (hmem : (ax, tupU u t1 t2 nt) ∈ news)
    (hh : A.handled = none) (hclos : closureFor scope env = pure cl) (hcell : ∀ z ∈ scope.names, z.2 ≠ .cell) (hkind : scope.kind = .function)
    (hnames : ∀ z ∈ scope.names, z.2 = .local → scope.names.lookup z.1 = some .local) (hx : scope.names.lookup x = some .local)
    (hsrc : wpAny (model prog w) A (eval iter env) (fun xv s₁ => xv = .ref ax ∧ s₁ = s) E s)
    (htest : ∀ (C : Addr) (m' : Str → Option Value) (k : Int) (t : Tok) (s' : Shared) (E' : Value → Shared → Prop), (k = u.1 ∨ k = u.2) → s'.heap.Ns C m' → m' x = some (.int k t) → Fr h₀ L s'.heap m →
      wpAny (model prog w) A (isTrue c (compEnvC scope cl C env) (eval c (compEnvC scope cl C env))) (fun ok s'' => ok = false ∧ ∃ tk, s'' = { s' with toks := tk }) E' s')
    (fin : ∀ D h tk, Fr h₀ L h m → News h₀ L h ((D, LCg.lst []) :: news) → Q (.ref D) { s with heap := h, toks := tk })
    (hs : ∀ x, foldedSetIterable iter env x = pure x := by intro _; rfl) :
    wpAny (model prog w) A (eval (.ListComp elt [⟨.Name x px, iter, [c], 0⟩] scope pos) env) Q E s := by
  refine pair_comp u hh hclos hcell hkind hnames hx (wpAny_mono hsrc (fun xv s₁ h => ?_) fun _ _ e => e) htest hs
  obtain ⟨rfl, rfl⟩ := h
  exact ⟨ax, t1, t2, nt, news, rfl, F, N, hmem, fin⟩
end
theorem notLt {k n : Int} (h : k < n) : (!decide (k < n)) = false := by simp [h]
end Mine
end SWComp2

section SWIf
open PySem PySem.W PyProof.Rows PySem.Calls Builtin.Int PySem.Spec PyProof.V
set_option maxRecDepth 100000
namespace Mine
/-- an if whose test is False and leaves the ledger as it was -/
theorem if_false {prog : Program} {w : World} {A : Around} {E : Value → Shared → Prop} {s : Shared} {h₀ : Heap} {L : Addr} {m : Str → Option Value} {env : Env} {test : Expr} {body : List Stmt} {pos : Pos} {Q : Flow → Shared → Prop} {news : List (Addr × Obj)} (F0 : Fr h₀ L s.heap m) (N0 : News h₀ L s.heap news)
    (hc : wpAny (model prog w) A (isTrue test env (eval test env)) (fun b s' => b = false ∧ ∃ h' tk', s' = { s with heap := h', toks := tk' } ∧ Fr h₀ L h' m ∧ News h₀ L h' news) E s)
    (hk : ∀ h' tk', Fr h₀ L h' m → News h₀ L h' news → Q .next { s with heap := h', toks := tk' }) :
    wpAny (model prog w) A (exec (.If test body [] pos) env) Q E s := by
  refine wpAny_If (wpAny_mono hc (fun b s' hb => ?_) fun _ _ e => e)
  obtain ⟨rfl, h', tk', rfl, F, N⟩ := hb
  simp only [Bool.false_eq_true, if_false]
  exact wpAny_execs_nil (hk h' tk' F N)
theorem nb1 {u v : Int × Int} {b : Bool} (h : u.1 = v.1) (a : (b != (u.2 != v.2)) = true) (n1 : u.1 = v.1 → u.2 ≠ v.2 → b = true) (n2 : u.1 = v.1 → u.2 = v.2 → b = false) : False := by
  by_cases e : u.2 = v.2
  · rw [n2 h e] at a; simp [e] at a
  · rw [n1 h e] at a; simp [e] at a
theorem nb2 {x y : Int} (h : x ≠ y) (a : (false != (x == y)) = true) : False := by simp [h] at a
theorem nbi {c : Prop} {b : Bool} (h : c → b = true) (hc : c) (a : b = false) : False := by rw [h hc] at a; exact Bool.noConfusion a
theorem mulmn {m n : Int} (hm : 0 ≤ m ∧ m < 16) (hn : 0 ≤ n ∧ n < 16) : 0 ≤ m * n ∧ m * n < 256 := by
  have h1 : 0 ≤ m * n := Int.mul_nonneg hm.1 hn.1
  have h2 : m * n ≤ 15 * 15 := Int.mul_le_mul (by omega) (by omega) hn.1 (by omega)
  exact ⟨h1, by omega⟩
theorem bdm {m : Int} (hm : 0 ≤ m ∧ m < 16) : Bd 256 m := by
  have h : m.natAbs < 16 := by omega
  exact Nat.lt_of_lt_of_le h (by decide)
end Mine
end SWIf

section SWIf2
namespace Mine
theorem nbl {c : Prop} {e v : Int} (h : c → e = 0) (hc : c) (hv : HidE v e) (hn : v ≠ 0) : False := hn (hv.trans (h hc))
end Mine
end SWIf2

section SNumT
/-! Number theory from nothing: Fermat, Pocklington. -/
namespace Mine
def IsPr (p : Nat) : Prop := 2 ≤ p ∧ ∀ d, d ∣ p → d = 1 ∨ d = p

theorem IsPr.euclid {p a b : Nat} (hp : IsPr p) (h : p ∣ a * b) : p ∣ a ∨ p ∣ b := by
  rcases hp.2 (Nat.gcd p a) (Nat.gcd_dvd_left p a) with e | e
  · exact .inr (Nat.Coprime.dvd_of_dvd_mul_left e h)
  · exact .inl (e ▸ Nat.gcd_dvd_right p a)

/-- binomials -/
noncomputable def bC : Nat → Nat → Nat
  | _, 0 => 1
  | 0, _+1 => 0
  | n+1, k+1 => bC n k + bC n (k+1)
theorem bC_zero (n : Nat) : bC n 0 = 1 := by cases n <;> rfl
theorem bC_succ (n k : Nat) : bC (n+1) (k+1) = bC n k + bC n (k+1) := rfl
theorem bC_big : ∀ (n k : Nat), n < k → bC n k = 0
  | 0, 0, h => absurd h (by omega)
  | 0, k+1, _ => rfl
  | n+1, 0, h => absurd h (by omega)
  | n+1, k+1, h => by rw [bC_succ, bC_big n k (by omega), bC_big n (k+1) (by omega)]
theorem bC_self (n : Nat) : bC n n = 1 := by
  induction n with
  | zero => rfl
  | succ n ih => rw [bC_succ, ih, bC_big n (n+1) (by omega)]
theorem bC_one (n : Nat) : bC n 1 = n := by
  induction n with
  | zero => rfl
  | succ n ih => rw [bC_succ, bC_zero, ih]; omega
theorem bC_absorb : ∀ n k : Nat, (k+1) * bC (n+1) (k+1) = (n+1) * bC n k
  | 0, 0 => rfl
  | 0, k+1 => by rw [bC_big 1 (k+1+1) (by omega), bC_big 0 (k+1) (by omega)]; omega
  | n+1, 0 => by
    rw [bC_zero, show (0 + 1 : Nat) = 1 from rfl, bC_one]; omega
  | n+1, k+1 => by
    have h1 := bC_absorb n k
    have h2 := bC_absorb n (k+1)
    rw [bC_succ (n+1) (k+1)]
    have e : bC (n+1) (k+1) = bC n k + bC n (k+1) := rfl
    rw [Nat.mul_add, h2]
    rw [show (k+1+1) * bC (n+1) (k+1) = (k+1) * bC (n+1) (k+1) + bC (n+1) (k+1) by rw [Nat.add_mul]; omega, h1]
    rw [show (n+1+1) * bC (n+1) (k+1) = (n+1) * bC (n+1) (k+1) + bC (n+1) (k+1) by rw [Nat.add_mul]; omega, e, Nat.mul_add]
    omega
noncomputable def bS (n x : Nat) : Nat → Nat
  | 0 => 0
  | k+1 => bS n x k + bC n k * x ^ k
theorem bS_step (n x k : Nat) : bS (n+1) x (k+1) = bS n x (k+1) + x * bS n x k := by
  induction k with
  | zero => simp [bS, bC_zero]
  | succ k ih =>
    rw [bS, ih, bS.eq_2 n x (k+1), bS.eq_2 n x k, bC_succ]
    rw [Nat.add_mul, Nat.mul_add x, show x * (bC n k * x ^ k) = bC n k * x ^ (k+1) by rw [Nat.pow_succ]; ac_rfl]
    omega
theorem binom (n x : Nat) : (x + 1) ^ n = bS n x (n+1) := by
  induction n with
  | zero => simp [bS, bC]
  | succ n ih =>
    rw [Nat.pow_succ, ih, bS_step, bS.eq_2 n x (n+1), bC_big n (n+1) (by omega), Nat.mul_add]
    simp [Nat.mul_comm, Nat.add_comm]
theorem pr_bC {p : Nat} (hp : IsPr p) {k : Nat} (h0 : 0 < k) (h : k < p) : p ∣ bC p k := by
  obtain ⟨m, rfl⟩ : ∃ m, p = m + 1 := ⟨p - 1, by have := hp.1; omega⟩
  obtain ⟨j, rfl⟩ : ∃ j, k = j + 1 := ⟨k - 1, by omega⟩
  have e : (m+1) ∣ (j+1) * bC (m+1) (j+1) := ⟨_, bC_absorb m j⟩
  rcases hp.euclid e with e | e
  · exact absurd (Nat.le_of_dvd (by omega) e) (by omega)
  · exact e
theorem pr_bS {p : Nat} (hp : IsPr p) (x k : Nat) (h : k < p) : bS p x (k+1) % p = 1 % p := by
  induction k with
  | zero => simp [bS, bC_zero]
  | succ k ih =>
    rw [bS]
    obtain ⟨c, hc⟩ := pr_bC hp (k := k+1) (by omega) h
    rw [hc, Nat.mul_assoc, Nat.add_mul_mod_self_left]
    exact ih (by omega)
theorem fresh {p : Nat} (hp : IsPr p) (x : Nat) : (x + 1) ^ p % p = (x ^ p + 1) % p := by
  rw [binom, bS, bC_self, Nat.one_mul, Nat.add_mod]
  obtain ⟨m, rfl⟩ : ∃ m, p = m + 1 := ⟨p - 1, by have := hp.1; omega⟩
  rw [pr_bS hp x m (by omega), ← Nat.add_mod, Nat.add_comm]
theorem fermat0 {p : Nat} (hp : IsPr p) (x : Nat) : x ^ p % p = x % p := by
  induction x with
  | zero => rw [Nat.zero_pow (by have := hp.1; omega)]
  | succ x ih => rw [fresh hp, Nat.add_mod, ih, ← Nat.add_mod]
theorem fermat {p a : Nat} (hp : IsPr p) (h : ¬ p ∣ a) : a ^ (p - 1) % p = 1 := by
  have h1 := fermat0 hp a
  have hp2 := hp.1
  have e : a ^ p = a * a ^ (p - 1) := by rw [← Nat.pow_succ', show (p - 1).succ = p by omega]
  rw [e] at h1
  have ha : 0 < a := Nat.pos_of_ne_zero fun z => h (z ▸ Nat.dvd_zero p)
  have hq : 1 ≤ a ^ (p - 1) := Nat.pow_pos ha
  have h2 : p ∣ a * (a ^ (p - 1) - 1) := by
    rw [Nat.mul_sub, Nat.mul_one]
    exact Nat.dvd_of_mod_eq_zero (Nat.sub_mod_eq_zero_of_mod_eq h1)
  rcases hp.euclid h2 with k | k
  · exact absurd k h
  · obtain ⟨c, hc⟩ := k
    rw [show a ^ (p - 1) = 1 + p * c by omega, Nat.add_mul_mod_self_left, Nat.mod_eq_of_lt (by omega)]

theorem pow_gcd {r b : Nat} (m n : Nat) : b ^ m % r = 1 % r → b ^ n % r = 1 % r → b ^ Nat.gcd m n % r = 1 % r := by
  induction m, n using Nat.gcd.induction with
  | H0 n => intro _ h; simpa using h
  | H1 m n hm ih =>
    intro h1 h2
    rw [Nat.gcd_rec]
    refine ih ?_ h1
    have e : b ^ n = (b ^ m) ^ (n / m) * b ^ (n % m) := by rw [← Nat.pow_mul, ← Nat.pow_add, Nat.div_add_mod]
    rw [e, Nat.mul_mod, Nat.pow_mod, h1, ← Nat.pow_mod, Nat.one_pow] at h2
    rw [← h2, ← Nat.mul_mod, Nat.one_mul]
theorem has_prime : ∀ n : Nat, 2 ≤ n → ∃ r, IsPr r ∧ r ∣ n := by
  intro n
  induction n using Nat.strongRecOn with
  | ind n ih =>
    intro h
    by_cases hp : IsPr n
    · exact ⟨n, hp, Nat.dvd_refl n⟩
    · have : ∃ d, d ∣ n ∧ d ≠ 1 ∧ d ≠ n := by
        refine Classical.byContradiction fun c => hp ⟨h, fun d hd => ?_⟩
        refine Classical.byContradiction fun e => c ⟨d, hd, fun x => e (.inl x), fun x => e (.inr x)⟩
      obtain ⟨d, hd, h1, h2⟩ := this
      have hle := Nat.le_of_dvd (by omega) hd
      have h0 : d ≠ 0 := fun z => by subst z; have := Nat.eq_zero_of_zero_dvd hd; omega
      obtain ⟨r, hr, hrd⟩ := ih d (by omega) (by omega)
      exact ⟨r, hr, Nat.dvd_trans hrd hd⟩
/-- all prime divisors are above the root: prime -/
theorem prime_of {N B : Nat} (hN : 2 ≤ N) (hB : N < B * B) (h : ∀ r, IsPr r → r ∣ N → B ≤ r) : IsPr N := by
  refine ⟨hN, fun d hd => ?_⟩
  refine Classical.byContradiction fun c => ?_
  obtain ⟨e, he⟩ := hd
  have hd0 : d ≠ 0 := fun z => by subst z; omega
  have he0 : e ≠ 0 := fun z => by subst z; omega
  have hd1 : d ≠ 1 := fun z => c (.inl z)
  have he1 : e ≠ 1 := fun z => c (.inr (by subst z; omega))
  obtain ⟨r, hr, hrd⟩ := has_prime d (by omega)
  obtain ⟨s, hs, hse⟩ := has_prime e (by omega)
  have h1 := h r hr (he ▸ Nat.dvd_trans hrd (Nat.dvd_mul_right d e))
  have h2 := h s hs (he ▸ Nat.dvd_trans hse (Nat.dvd_mul_left e d))
  have h3 := Nat.le_of_dvd (by omega) hrd
  have h4 := Nat.le_of_dvd (by omega) hse
  have h5 : B * B ≤ d * e := Nat.mul_le_mul (by omega) (by omega)
  omega
/-- Pocklington's step: q divides r - 1 for every prime divisor r of N -/
theorem pock {N q m a : Nat} (hq : IsPr q) (e : N = q * m + 1) (h1 : a ^ (N - 1) % N = 1 % N) (h2 : Nat.gcd ((a ^ m % N) + N - 1) N = 1) {r : Nat} (hr : IsPr r) (hd : r ∣ N) : q ∣ r - 1 := by
  have hr2 := hr.1
  have hN2 : 2 ≤ N := by
    have := Nat.le_of_dvd (by omega) hd
    omega
  have hb1 : (a ^ m) ^ q % r = 1 % r := by
    rw [← Nat.pow_mul, Nat.mul_comm m q, show q * m = N - 1 by omega, ← Nat.mod_mod_of_dvd _ hd, h1, Nat.mod_mod_of_dvd _ hd]
  have hnd : ¬ r ∣ a ^ m := fun k => by
    have : (a ^ m) ^ q % r = 0 := by
      have h3 : r ∣ (a ^ m) ^ q := Nat.dvd_trans k (by
        have := hq.1
        rw [show q = (q - 1) + 1 by omega, Nat.pow_succ]; exact Nat.dvd_mul_left _ _)
      exact Nat.mod_eq_zero_of_dvd h3
    rw [this, Nat.mod_eq_of_lt (by omega)] at hb1
    omega
  have hf := fermat hr hnd
  rcases hq.2 (Nat.gcd q (r - 1)) (Nat.gcd_dvd_left _ _) with k | k
  · exfalso
    have h3 := pow_gcd (r := r) (b := a ^ m) q (r - 1) hb1 (by rw [hf, Nat.mod_eq_of_lt (by omega)])
    rw [k, Nat.pow_one] at h3
    have h4 : r ∣ (a ^ m % N) + N - 1 := by
      have h5 : (a ^ m % N + N) % r = 1 % r := by
        rw [Nat.add_mod, Nat.mod_mod_of_dvd _ hd, Nat.mod_eq_zero_of_dvd hd, Nat.add_zero, Nat.mod_mod, h3]
      exact Nat.dvd_of_mod_eq_zero (Nat.sub_mod_eq_zero_of_mod_eq h5)
    have h6 := Nat.dvd_gcd h4 hd
    rw [h2] at h6
    have := Nat.le_of_dvd (by omega) h6
    omega
  · exact k ▸ Nat.gcd_dvd_right q (r - 1)
/-- powers by squaring -/
noncomputable def pm (a n : Nat) : Nat → Nat → Nat
  | 0, _ => 1 % n
  | f+1, e => bif e % 2 == 1 then (pm a n f (e / 2)) ^ 2 % n * a % n else (pm a n f (e / 2)) ^ 2 % n
theorem pm_is (a n f e : Nat) (h : e < 2 ^ f) : pm a n f e = a ^ e % n := by
  induction f generalizing e with
  | zero => rw [show e = 0 by omega]; rfl
  | succ f ih =>
    have h1 := ih (e / 2) (by rw [Nat.pow_succ] at h; omega)
    rw [pm, h1]
    have e2 : a ^ e = (a ^ (e / 2)) ^ 2 * a ^ (e % 2) := by
      rw [← Nat.pow_mul, ← Nat.pow_add, Nat.mul_comm, Nat.div_add_mod]
    rcases Nat.mod_two_eq_zero_or_one e with z | z
    · rw [e2, z, Nat.pow_zero, Nat.mul_one, ← Nat.pow_mod]; rfl
    · rw [e2, z, Nat.pow_one, ← Nat.pow_mod, Nat.mod_mul_mod]; rfl
/-- Pocklington's step, told by pm -/
theorem pockP {N q a : Nat} (m : Nat) (hq : IsPr q) (e : N = q * m + 1) (hN : N < 2 ^ 256) (h1 : pm a N 256 (N - 1) = 1 % N) (h2 : Nat.gcd (pm a N 256 m + N - 1) N = 1) {r : Nat} (hr : IsPr r) (hd : r ∣ N) : q ∣ r - 1 := by
  have hq2 := hq.1
  have hm : m < 2 ^ 256 := by
    have : 1 * m ≤ q * m := Nat.mul_le_mul_right m (by omega)
    omega
  rw [pm_is _ _ _ _ (by omega)] at h1
  rw [pm_is _ _ _ _ hm] at h2
  exact pock hq e h1 h2 hr hd
theorem prime1 {N q : Nat} (h2 : 2 ≤ N) (hB : N < (q + 1) * (q + 1)) (f : ∀ r, IsPr r → r ∣ N → q ∣ r - 1) : IsPr N := by
  refine prime_of h2 hB fun r hr hd => ?_
  have := hr.1
  have := Nat.le_of_dvd (by omega) (f r hr hd)
  omega
theorem prime3 {N a b c : Nat} (h2 : 2 ≤ N) (hB : N < (a * b * c + 1) * (a * b * c + 1)) (k1 : Nat.gcd a b = 1) (k2 : Nat.gcd (a * b) c = 1)
    (f0 : ∀ r, IsPr r → r ∣ N → a ∣ r - 1) (f1 : ∀ r, IsPr r → r ∣ N → b ∣ r - 1) (f2 : ∀ r, IsPr r → r ∣ N → c ∣ r - 1) : IsPr N :=
  prime1 h2 hB fun r hr hd => Nat.Coprime.mul_dvd_of_dvd_of_dvd k2 (Nat.Coprime.mul_dvd_of_dvd_of_dvd k1 (f0 r hr hd) (f1 r hr hd)) (f2 r hr hd)
/-- trial division -/
noncomputable def trial (q : Nat) : Nat → Bool
  | 0 => true
  | k+1 => (k < 2 || q % k != 0) && trial q k
theorem trial_is {q k : Nat} (h : trial q k = true) : ∀ d, 2 ≤ d → d < k → ¬ d ∣ q := by
  induction k with
  | zero => intro d _ hd; omega
  | succ k ih =>
    simp only [trial, Bool.and_eq_true, Bool.or_eq_true, decide_eq_true_eq, bne_iff_ne] at h
    intro d h2 hd
    by_cases e : d = k
    · subst e
      rcases h.1 with z | z
      · omega
      · exact fun w => z (Nat.mod_eq_zero_of_dvd w)
    · exact ih h.2 d h2 (by omega)
theorem prime_small {q k : Nat} (h2 : 2 ≤ q) (hk : q < k * k) (h : trial q k = true) : IsPr q := by
  refine prime_of h2 hk fun r hr hd => ?_
  refine Classical.byContradiction fun c => ?_
  exact trial_is h r hr.1 (by omega) hd
theorem no_cube_gen {N x c : Nat} (hN : IsPr N) (h7 : ¬ N ∣ 7) (hc : c + 7 = N) (h3 : 3 * ((N - 1) / 3) = N - 1) (hb : N < 2 ^ 256) (hp : pm c N 256 ((N - 1) / 3) ≠ 1) (h : N ∣ x ^ 3 + 7) : False := by
  have hN2 := hN.1
  have hx : ¬ N ∣ x := fun k => by
    have : N ∣ x ^ 3 := by rw [Nat.pow_succ]; exact Nat.dvd_trans k (Nat.dvd_mul_left _ _)
    exact h7 ((Nat.dvd_add_right this).mp h)
  have hf := fermat hN hx
  have e : x ^ 3 % N = c % N := by
    have h1 : (x ^ 3 + 7 + c) % N = c % N := by rw [Nat.add_mod, Nat.mod_eq_zero_of_dvd h, Nat.zero_add, Nat.mod_mod]
    rw [← h1, Nat.add_assoc, Nat.add_comm 7 c, hc, Nat.add_mod_right]
  apply hp
  rw [pm_is _ _ _ _ (by omega), Nat.pow_mod, ← e, ← Nat.pow_mod, ← Nat.pow_mul, h3, hf]
end Mine
end SNumT

section SPrimes
/-! The prime of the curve is prime; -7 is no cube. -/
set_option maxRecDepth 100000
namespace Mine
def PN : Nat := 115792089237316195423570985008687907853269984665640564039457584007908834671663
def Q1 : Nat := 205115282021455665897114700593932402728804164701536103180137503955397371
def Q2 : Nat := 255515944373312847190720520512484175977
theorem P_is : P = (PN : Int) := rfl

theorem pr_107590001 : IsPr 107590001 := prime_small (k := 10373) (by decide) (by decide) (by decide +kernel)
theorem pr_7240687 : IsPr 7240687 := prime_small (k := 2691) (by decide) (by decide) (by decide +kernel)
theorem pr_96557 : IsPr 96557 := prime_small (k := 311) (by decide) (by decide) (by decide +kernel)
theorem q2_0 : ∀ r, IsPr r → r ∣ Q2 → 107590001 ∣ r - 1 := fun r hr hd =>
  pockP (a := 2) 2374904191824599455024826335976 pr_107590001 (by decide +kernel) (by decide +kernel) (by decide +kernel) (by decide +kernel) hr hd
theorem q2_1 : ∀ r, IsPr r → r ∣ Q2 → 7240687 ∣ r - 1 := fun r hr hd =>
  pockP (a := 2) 35288908963101546467996824129048 pr_7240687 (by decide +kernel) (by decide +kernel) (by decide +kernel) (by decide +kernel) hr hd
theorem q2_2 : ∀ r, IsPr r → r ∣ Q2 → 96557 ∣ r - 1 := fun r hr hd =>
  pockP (a := 2) 2646270538369179315748423423599368 pr_96557 (by decide +kernel) (by decide +kernel) (by decide +kernel) (by decide +kernel) hr hd
theorem pr_Q2 : IsPr Q2 := prime3 (by decide +kernel) (by decide +kernel) (by decide +kernel) (by decide +kernel) q2_0 q2_1 q2_2
theorem q1_0 : ∀ r, IsPr r → r ∣ Q1 → Q2 ∣ r - 1 := fun r hr hd =>
  pockP (a := 2) 802749442992798076634733441528810 pr_Q2 (by decide +kernel) (by decide +kernel) (by decide +kernel) (by decide +kernel) hr hd
theorem pr_Q1 : IsPr Q1 := prime1 (by decide +kernel) (by decide +kernel) q1_0
theorem pn_0 : ∀ r, IsPr r → r ∣ PN → Q1 ∣ r - 1 := fun r hr hd =>
  pockP (a := 2) 564522 pr_Q1 (by decide +kernel) (by decide +kernel) (by decide +kernel) (by decide +kernel) hr hd
theorem pr_PN : IsPr PN := prime1 (by decide +kernel) (by decide +kernel) pn_0
/-- -7 is no cube -/
theorem no_cube {x : Nat} (h : PN ∣ x ^ 3 + 7) : False :=
  no_cube_gen (c := PN - 7) pr_PN (by decide +kernel) (by decide +kernel) (by decide +kernel) (by decide +kernel) (by decide +kernel) h
end Mine
end SPrimes

section SKron
/-! Polynomial identities on curves y^2 = x^3 + 7, told by one evaluation at a great point. -/
namespace Mine
open Lean.Grind
section kron
variable {R : Type} [CommRing R]
/-- an int in R -/
def ic (n : Int) : R := @Int.cast R Ring.intCast n
theorem ic_zero : (ic 0 : R) = 0 := Ring.intCast_zero

/-- formal polynomials in k letters: no laws of their own, but what they mean -/
structure LI (R : Type) [CommRing R] (lim : Nat → Nat) (k : Nat) where
  A : Type
  c : Int → A
  add : A → A → A
  sub : A → A → A
  mul : A → A → A
  sem : A → R
  val : A → Int
  maj : Nat → A → Nat
  sem_c : ∀ n, sem (c n) = ic n
  sem_add : ∀ a b, sem (add a b) = sem a + sem b
  sem_sub : ∀ a b, sem (sub a b) = sem a - sem b
  sem_mul : ∀ a b, sem (mul a b) = sem a * sem b
  val_c : ∀ n, val (c n) = n
  val_add : ∀ a b, val (add a b) = val a + val b
  val_sub : ∀ a b, val (sub a b) = val a - val b
  val_mul : ∀ a b, val (mul a b) = val a * val b
  maj_c : ∀ i n, maj i (c n) ≤ n.natAbs
  maj_add : ∀ i a b, maj i (add a b) ≤ maj i a + maj i b
  maj_sub : ∀ i a b, maj i (sub a b) ≤ maj i a + maj i b
  maj_mul : ∀ i a b, maj i (mul a b) ≤ maj i a * maj i b
  bnd : ∀ i a, k ≤ i → (val a).natAbs ≤ maj i a
  faith : ∀ a, (∀ i, i < k → maj i a < lim i) → val a = 0 → sem a = 0

def LI.int (lim : Nat → Nat) : LI R lim 0 where
  A := Int
  c := id
  add := (· + ·)
  sub := (· - ·)
  mul := (· * ·)
  sem n := ic n
  val := id
  maj _ n := n.natAbs
  sem_c _ := rfl
  sem_add := Ring.intCast_add
  sem_sub := Ring.intCast_sub
  sem_mul := Ring.intCast_mul
  val_c _ := rfl
  val_add _ _ := rfl
  val_sub _ _ := rfl
  val_mul _ _ := rfl
  maj_c _ _ := Nat.le_refl _
  maj_add _ := Int.natAbs_add_le
  maj_sub _ := Int.natAbs_sub_le
  maj_mul _ a b := Nat.le_of_eq (Int.natAbs_mul a b)
  bnd _ _ _ := Nat.le_refl _
  faith a _ h := by
    have : a = 0 := h
    subst this
    exact ic_zero

variable {lim : Nat → Nat} {k : Nat} (L : LI R lim k)
/-- lists of coefficients -/
noncomputable def LI.padd : List L.A → List L.A → List L.A
  | [], q => q
  | p, [] => p
  | a :: p, b :: q => L.add a b :: LI.padd p q
noncomputable def LI.psub : List L.A → List L.A → List L.A
  | [], q => q.map (L.sub (L.c 0))
  | p, [] => p
  | a :: p, b :: q => L.sub a b :: LI.psub p q
noncomputable def LI.pmul : List L.A → List L.A → List L.A
  | [], _ => []
  | a :: p, q => L.padd (q.map (L.mul a)) (L.c 0 :: LI.pmul p q)
noncomputable def LI.psem (x : R) : List L.A → R
  | [] => 0
  | a :: p => L.sem a + x * LI.psem x p
noncomputable def LI.pval (B : Int) : List L.A → Int
  | [] => 0
  | a :: p => L.val a + B * LI.pval B p
noncomputable def LI.pmaj (i : Nat) (X : Nat) : List L.A → Nat
  | [] => 0
  | a :: p => L.maj i a + X * LI.pmaj i X p

theorem sem_c0 : L.sem (L.c 0) = 0 := by rw [L.sem_c]; exact ic_zero
theorem val_c0 : L.val (L.c 0) = 0 := L.val_c 0
theorem maj_c0 (i : Nat) : L.maj i (L.c 0) = 0 := Nat.le_zero.mp (L.maj_c i 0)
theorem psem_add (x : R) : ∀ p q, L.psem x (L.padd p q) = L.psem x p + L.psem x q
  | [], q => by simp only [LI.padd, LI.psem]; grind
  | a :: p, [] => by simp only [LI.padd, LI.psem]; grind
  | a :: p, b :: q => by simp only [LI.padd, LI.psem, L.sem_add, psem_add x p q]; grind
theorem pval_add (x : Int) : ∀ p q, L.pval x (L.padd p q) = L.pval x p + L.pval x q
  | [], q => by simp only [LI.padd, LI.pval]; grind
  | a :: p, [] => by simp only [LI.padd, LI.pval]; grind
  | a :: p, b :: q => by simp only [LI.padd, LI.pval, L.val_add, pval_add x p q]; grind
theorem pmaj_add (i x : Nat) : ∀ p q, L.pmaj i x (L.padd p q) ≤ L.pmaj i x p + L.pmaj i x q
  | [], q => by simp only [LI.padd, LI.pmaj]; omega
  | a :: p, [] => by simp only [LI.padd, LI.pmaj]; omega
  | a :: p, b :: q => by
    simp only [LI.padd, LI.pmaj]
    have h1 := L.maj_add i a b
    have h2 := Nat.mul_le_mul_left x (pmaj_add i x p q)
    rw [Nat.mul_add] at h2
    omega
theorem psem_neg (x : R) : ∀ q, L.psem x (q.map (L.sub (L.c 0))) = 0 - L.psem x q
  | [] => by simp only [List.map, LI.psem]; grind
  | b :: q => by simp only [List.map, LI.psem, L.sem_sub, sem_c0, psem_neg x q]; grind
theorem pval_neg (x : Int) : ∀ q, L.pval x (q.map (L.sub (L.c 0))) = 0 - L.pval x q
  | [] => by simp only [List.map, LI.pval]; grind
  | b :: q => by simp only [List.map, LI.pval, L.val_sub, val_c0, pval_neg x q]; grind
theorem pmaj_neg (i x : Nat) : ∀ q, L.pmaj i x (q.map (L.sub (L.c 0))) ≤ L.pmaj i x q
  | [] => by simp only [List.map, LI.pmaj]; omega
  | b :: q => by
    simp only [List.map, LI.pmaj]
    have h1 := L.maj_sub i (L.c 0) b
    have h2 := Nat.mul_le_mul_left x (pmaj_neg i x q)
    rw [maj_c0] at h1
    omega
theorem psem_sub (x : R) : ∀ p q, L.psem x (L.psub p q) = L.psem x p - L.psem x q
  | [], q => by rw [LI.psub, psem_neg]; rfl
  | a :: p, [] => by simp only [LI.psub, LI.psem]; grind
  | a :: p, b :: q => by simp only [LI.psub, LI.psem, L.sem_sub, psem_sub x p q]; grind
theorem pval_sub (x : Int) : ∀ p q, L.pval x (L.psub p q) = L.pval x p - L.pval x q
  | [], q => by rw [LI.psub, pval_neg]; rfl
  | a :: p, [] => by simp only [LI.psub, LI.pval]; grind
  | a :: p, b :: q => by simp only [LI.psub, LI.pval, L.val_sub, pval_sub x p q]; grind
theorem pmaj_sub (i x : Nat) : ∀ p q, L.pmaj i x (L.psub p q) ≤ L.pmaj i x p + L.pmaj i x q
  | [], q => by have := pmaj_neg L i x q; simp only [LI.psub, LI.pmaj]; omega
  | a :: p, [] => by simp only [LI.psub, LI.pmaj]; omega
  | a :: p, b :: q => by
    simp only [LI.psub, LI.pmaj]
    have h1 := L.maj_sub i a b
    have h2 := Nat.mul_le_mul_left x (pmaj_sub i x p q)
    rw [Nat.mul_add] at h2
    omega
theorem psem_scale (x : R) (a : L.A) : ∀ q, L.psem x (q.map (L.mul a)) = L.sem a * L.psem x q
  | [] => by simp only [List.map, LI.psem]; grind
  | b :: q => by simp only [List.map, LI.psem, L.sem_mul, psem_scale x a q]; grind
theorem pval_scale (x : Int) (a : L.A) : ∀ q, L.pval x (q.map (L.mul a)) = L.val a * L.pval x q
  | [] => by simp only [List.map, LI.pval]; grind
  | b :: q => by simp only [List.map, LI.pval, L.val_mul, pval_scale x a q]; grind
theorem pmaj_scale (i x : Nat) (a : L.A) : ∀ q, L.pmaj i x (q.map (L.mul a)) ≤ L.maj i a * L.pmaj i x q
  | [] => by simp only [List.map, LI.pmaj]; omega
  | b :: q => by
    simp only [List.map, LI.pmaj]
    have h1 := L.maj_mul i a b
    have h2 := Nat.mul_le_mul_left x (pmaj_scale i x a q)
    rw [Nat.mul_add, show L.maj i a * (x * L.pmaj i x q) = x * (L.maj i a * L.pmaj i x q) by ac_rfl]
    omega
theorem psem_mul (x : R) : ∀ p q, L.psem x (L.pmul p q) = L.psem x p * L.psem x q
  | [], q => by simp only [LI.pmul, LI.psem]; grind
  | a :: p, q => by simp only [LI.pmul, LI.psem, psem_add, psem_scale, sem_c0, psem_mul x p q]; grind
theorem pval_mul (x : Int) : ∀ p q, L.pval x (L.pmul p q) = L.pval x p * L.pval x q
  | [], q => by simp only [LI.pmul, LI.pval]; grind
  | a :: p, q => by simp only [LI.pmul, LI.pval, pval_add, pval_scale, val_c0, pval_mul x p q]; grind
theorem pmaj_mul (i x : Nat) : ∀ p q, L.pmaj i x (L.pmul p q) ≤ L.pmaj i x p * L.pmaj i x q
  | [], q => by simp only [LI.pmul, LI.pmaj]; omega
  | a :: p, q => by
    have h1 := pmaj_add L i x (q.map (L.mul a)) (L.c 0 :: L.pmul p q)
    have h2 := pmaj_scale L i x a q
    have h3 := Nat.mul_le_mul_left x (pmaj_mul i x p q)
    simp only [LI.pmul, LI.pmaj, maj_c0] at *
    rw [Nat.add_mul, Nat.mul_assoc x]
    omega
theorem pbnd (B i : Nat) (hi : k ≤ i) : ∀ p, (L.pval (B : Int) p).natAbs ≤ L.pmaj i B p
  | [] => by simp [LI.pval, LI.pmaj]
  | a :: p => by
    simp only [LI.pval, LI.pmaj]
    have h1 := L.bnd i a hi
    have h2 := Nat.mul_le_mul_left B (pbnd B i hi p)
    have h3 := Int.natAbs_add_le (L.val a) ((B : Int) * L.pval (B : Int) p)
    rw [Int.natAbs_mul, Int.natAbs_natCast] at h3
    omega
theorem pfaith (B : Nat) (x : R) (hB : B = lim k) : ∀ p, (∀ i, i < k + 1 → L.pmaj i 1 p < lim i) → L.pval (B : Int) p = 0 → L.psem x p = 0
  | [], _, _ => rfl
  | a :: p, hm, hv => by
    simp only [LI.pmaj, Nat.one_mul] at hm
    simp only [LI.pval] at hv
    have h0 := hm k (by omega)
    have h1 := L.bnd k a (Nat.le_refl k)
    have hl : (L.val a).natAbs < B := by omega
    have ha : L.val a = 0 := by
      have e : L.val a = B * (-(L.pval (B : Int) p)) := by rw [Int.mul_neg]; omega
      have d : (B : Int) ∣ L.val a := ⟨_, e⟩
      have := Int.natAbs_dvd_natAbs.mpr d
      rw [Int.natAbs_natCast] at this
      exact Int.natAbs_eq_zero.mp (Nat.eq_zero_of_dvd_of_lt this hl)
    have hp : L.pval (B : Int) p = 0 := by
      rw [ha, Int.zero_add] at hv
      rcases Int.mul_eq_zero.mp hv with z | z
      · omega
      · exact z
    have s1 := L.faith a (fun i hi => by have := hm i (by omega); omega) ha
    have s2 := pfaith B x hB p (fun i hi => by have := hm i hi; omega) hp
    simp only [LI.psem, s1, s2]
    grind
noncomputable def LI.poly (x : R) (B : Nat) (hB : B = lim k) : LI R lim (k + 1) where
  A := List L.A
  c n := [L.c n]
  add := L.padd
  sub := L.psub
  mul := L.pmul
  sem := L.psem x
  val := L.pval B
  maj i := L.pmaj i (if i ≤ k then 1 else B)
  sem_c n := by simp only [LI.psem, L.sem_c]; grind
  sem_add := psem_add L x
  sem_sub := psem_sub L x
  sem_mul := psem_mul L x
  val_c n := by simp only [LI.pval, L.val_c]; grind
  val_add := pval_add L B
  val_sub := pval_sub L B
  val_mul := pval_mul L B
  maj_c i n := by simp only [LI.pmaj, Nat.mul_zero, Nat.add_zero]; exact L.maj_c i n
  maj_add i := pmaj_add L i _
  maj_sub i := pmaj_sub L i _
  maj_mul i := pmaj_mul L i _
  bnd i a hi := by
    rw [if_neg (by omega)]
    exact pbnd L B i (by omega) a
  faith a hm hv := by
    refine pfaith L B x hB a (fun i hi => ?_) hv
    have := hm i hi
    rwa [if_pos (by omega)] at this

structure Ops (V : Type) where
  c : Int → V
  add : V → V → V
  sub : V → V → V
  mul : V → V → V
  sc : Int → V → V
  isz : V → Bool
def isz0 : Int → Bool
  | .ofNat n => n == 0
  | .negSucc _ => false
theorem isz0_is {n : Int} (h : isz0 n = true) : n = 0 := by
  cases n with
  | ofNat n => simp only [isz0, beq_iff_eq] at h; subst h; rfl
  | negSucc n => exact Bool.noConfusion h
def Ops.int : Ops Int := ⟨id, (· + ·), (· - ·), (· * ·), (· * ·), isz0⟩
def Ops.quad {V : Type} (O : Ops V) (w : Int) : Ops (V × V) where
  c n := (O.c n, O.c 0)
  add a b := (O.add a.1 b.1, O.add a.2 b.2)
  sub a b := (O.sub a.1 b.1, O.sub a.2 b.2)
  mul a b := (O.add (O.mul a.1 b.1) (O.sc w (O.mul a.2 b.2)), O.add (O.mul a.1 b.2) (O.mul a.2 b.1))
  sc n a := (O.sc n a.1, O.sc n a.2)
  isz a := O.isz a.1 && O.isz a.2
structure LQ (L : LI R lim k) (V : Type) (O : Ops V) where
  A : Type
  c : L.A → A
  add : A → A → A
  sub : A → A → A
  mul : A → A → A
  sc : L.A → A → A
  sem : A → R
  val : A → V
  maj : Nat → A → Nat
  sem_c : ∀ n, sem (c n) = L.sem n
  sem_add : ∀ a b, sem (add a b) = sem a + sem b
  sem_sub : ∀ a b, sem (sub a b) = sem a - sem b
  sem_mul : ∀ a b, sem (mul a b) = sem a * sem b
  sem_sc : ∀ a b, sem (sc a b) = L.sem a * sem b
  val_c : ∀ n, val (c n) = O.c (L.val n)
  val_add : ∀ a b, val (add a b) = O.add (val a) (val b)
  val_sub : ∀ a b, val (sub a b) = O.sub (val a) (val b)
  val_mul : ∀ a b, val (mul a b) = O.mul (val a) (val b)
  val_sc : ∀ a b, val (sc a b) = O.sc (L.val a) (val b)
  maj_c : ∀ i n, maj i (c n) ≤ L.maj i n
  maj_add : ∀ i a b, maj i (add a b) ≤ maj i a + maj i b
  maj_sub : ∀ i a b, maj i (sub a b) ≤ maj i a + maj i b
  maj_mul : ∀ i a b, maj i (mul a b) ≤ maj i a * maj i b
  maj_sc : ∀ i a b, maj i (sc a b) ≤ L.maj i a * maj i b
  faith : ∀ a, (∀ i, i < k → maj i a < lim i) → O.isz (val a) = true → sem a = 0
def LQ.base : LQ L Int Ops.int where
  A := L.A
  c := id
  add := L.add
  sub := L.sub
  mul := L.mul
  sc := L.mul
  sem := L.sem
  val := L.val
  maj := L.maj
  sem_c _ := rfl
  sem_add := L.sem_add
  sem_sub := L.sem_sub
  sem_mul := L.sem_mul
  sem_sc := L.sem_mul
  val_c _ := rfl
  val_add := L.val_add
  val_sub := L.val_sub
  val_mul := L.val_mul
  val_sc := L.val_mul
  maj_c _ _ := Nat.le_refl _
  maj_add := L.maj_add
  maj_sub := L.maj_sub
  maj_mul := L.maj_mul
  maj_sc := L.maj_mul
  faith a h1 h2 := L.faith a h1 (isz0_is h2)
def LQ.quad {V : Type} {O : Ops V} (Q : LQ L V O) (w : L.A) (wv : Int) (hw : L.val w = wv) (y : R) (hy : y * y = L.sem w) (Y : Nat → Nat) (hY : ∀ i, L.maj i w ≤ Y i * Y i) (h1 : ∀ i, 1 ≤ Y i) : LQ L (V × V) (O.quad wv) where
  A := Q.A × Q.A
  c n := (Q.c n, Q.c (L.c 0))
  add a b := (Q.add a.1 b.1, Q.add a.2 b.2)
  sub a b := (Q.sub a.1 b.1, Q.sub a.2 b.2)
  mul a b := (Q.add (Q.mul a.1 b.1) (Q.sc w (Q.mul a.2 b.2)), Q.add (Q.mul a.1 b.2) (Q.mul a.2 b.1))
  sc n a := (Q.sc n a.1, Q.sc n a.2)
  sem a := Q.sem a.1 + y * Q.sem a.2
  val a := (Q.val a.1, Q.val a.2)
  maj i a := Q.maj i a.1 + Y i * Q.maj i a.2
  sem_c n := by simp only [Q.sem_c, sem_c0]; grind
  sem_add a b := by simp only [Q.sem_add]; grind
  sem_sub a b := by simp only [Q.sem_sub]; grind
  sem_mul a b := by simp only [Q.sem_mul, Q.sem_add, Q.sem_sc, ← hy]; grind
  sem_sc a b := by simp only [Q.sem_sc]; grind
  val_c n := by simp only [Q.val_c, val_c0, Ops.quad]
  val_add a b := by simp only [Q.val_add, Ops.quad]
  val_sub a b := by simp only [Q.val_sub, Ops.quad]
  val_mul a b := by simp only [Q.val_mul, Q.val_add, Q.val_sc, hw, Ops.quad]
  val_sc a b := by simp only [Q.val_sc, Ops.quad]
  maj_c i n := by
    have e1 := Q.maj_c i n
    have e2 := Q.maj_c i (L.c 0)
    rw [maj_c0] at e2
    rw [Nat.le_zero.mp e2, Nat.mul_zero]; exact e1
  maj_add i a b := by
    have e1 := Q.maj_add i a.1 b.1
    have e2 := Nat.mul_le_mul_left (Y i) (Q.maj_add i a.2 b.2)
    rw [Nat.mul_add] at e2
    dsimp only
    omega
  maj_sub i a b := by
    have e1 := Q.maj_sub i a.1 b.1
    have e2 := Nat.mul_le_mul_left (Y i) (Q.maj_sub i a.2 b.2)
    rw [Nat.mul_add] at e2
    dsimp only
    omega
  maj_mul i a b := by
    dsimp only
    have e1 := Q.maj_add i (Q.mul a.1 b.1) (Q.sc w (Q.mul a.2 b.2))
    have e2 := Q.maj_mul i a.1 b.1
    have e3 := Q.maj_sc i w (Q.mul a.2 b.2)
    have e4 := Nat.mul_le_mul (hY i) (Q.maj_mul i a.2 b.2)
    have e5 := Nat.mul_le_mul_left (L.maj i w) (Q.maj_mul i a.2 b.2)
    have e5' := Nat.mul_le_mul_right (Q.maj i a.2 * Q.maj i b.2) (hY i)
    have e6 := Nat.mul_le_mul_left (Y i) (Q.maj_add i (Q.mul a.1 b.2) (Q.mul a.2 b.1))
    have e7 := Nat.mul_le_mul_left (Y i) (Q.maj_mul i a.1 b.2)
    have e8 := Nat.mul_le_mul_left (Y i) (Q.maj_mul i a.2 b.1)
    have e9 : (Q.maj i a.1 + Y i * Q.maj i a.2) * (Q.maj i b.1 + Y i * Q.maj i b.2)
      = Q.maj i a.1 * Q.maj i b.1 + Y i * Y i * (Q.maj i a.2 * Q.maj i b.2) + (Y i * (Q.maj i a.1 * Q.maj i b.2) + Y i * (Q.maj i a.2 * Q.maj i b.1)) := by grind
    rw [e9]
    rw [Nat.mul_add] at e6
    omega
  maj_sc i a b := by
    dsimp only
    have e1 := Q.maj_sc i a b.1
    have e2 := Nat.mul_le_mul_left (Y i) (Q.maj_sc i a b.2)
    have e3 : L.maj i a * (Q.maj i b.1 + Y i * Q.maj i b.2) = L.maj i a * Q.maj i b.1 + Y i * (L.maj i a * Q.maj i b.2) := by grind
    omega
  faith a hm hv := by
    have hv' : (O.isz (Q.val a.1) && O.isz (Q.val a.2)) = true := hv
    rw [Bool.and_eq_true] at hv'
    have s1 := Q.faith a.1 (fun i hi => by have e : Q.maj i a.1 + Y i * Q.maj i a.2 < lim i := hm i hi; omega) hv'.1
    have s2 := Q.faith a.2 (fun i hi => by
      have e : Q.maj i a.1 + Y i * Q.maj i a.2 < lim i := hm i hi
      have h2 := Nat.mul_le_mul_right (Q.maj i a.2) (h1 i)
      omega) hv'.2
    rw [s1, s2]; grind
end kron

/-- expressions in x0 .. x2, y0 .. y2 -/
inductive Ex where
  | c (n : Int)
  | x (i : Nat)
  | y (i : Nat)
  | add (a b : Ex)
  | sub (a b : Ex)
  | mul (a b : Ex)
noncomputable def Ex.ev {R : Type} [CommRing R] (x y : Nat → R) : Ex → R
  | .c n => ic n
  | .x i => x i
  | .y i => y i
  | .add a b => Ex.ev x y a + Ex.ev x y b
  | .sub a b => Ex.ev x y a - Ex.ev x y b
  | .mul a b => Ex.ev x y a * Ex.ev x y b
noncomputable def Ex.evV {V : Type} (O : Ops V) (x y : Nat → V) : Ex → V
  | .c n => O.c n
  | .x i => x i
  | .y i => y i
  | .add a b => O.add (Ex.evV O x y a) (Ex.evV O x y b)
  | .sub a b => O.sub (Ex.evV O x y a) (Ex.evV O x y b)
  | .mul a b => O.mul (Ex.evV O x y a) (Ex.evV O x y b)
noncomputable def Ex.evM (X Y : Nat → Nat) : Ex → Nat
  | .c n => n.natAbs
  | .x i => X i
  | .y i => Y i
  | .add a b => Ex.evM X Y a + Ex.evM X Y b
  | .sub a b => Ex.evM X Y a + Ex.evM X Y b
  | .mul a b => Ex.evM X Y a * Ex.evM X Y b
end Mine
end SKron

section SKron2
namespace Mine
open Lean.Grind
section sound
variable {R : Type} [CommRing R] {lim : Nat → Nat} {k : Nat} {L : LI R lim k} {V : Type} {O : Ops V}
noncomputable def Ex.el (Q : LQ L V O) (xs ys : Nat → Q.A) : Ex → Q.A
  | .c n => Q.c (L.c n)
  | .x i => xs i
  | .y i => ys i
  | .add a b => Q.add (Ex.el Q xs ys a) (Ex.el Q xs ys b)
  | .sub a b => Q.sub (Ex.el Q xs ys a) (Ex.el Q xs ys b)
  | .mul a b => Q.mul (Ex.el Q xs ys a) (Ex.el Q xs ys b)
theorem Ex.sound (Q : LQ L V O) (xs ys : Nat → Q.A) (x y : Nat → R) (xv yv : Nat → V) (X Y : Nat → Nat → Nat)
    (hx : ∀ j, Q.sem (xs j) = x j) (hy : ∀ j, Q.sem (ys j) = y j) (vx : ∀ j, Q.val (xs j) = xv j) (vy : ∀ j, Q.val (ys j) = yv j)
    (mx : ∀ i j, Q.maj i (xs j) ≤ X i j) (my : ∀ i j, Q.maj i (ys j) ≤ Y i j) (e : Ex)
    (hz : O.isz (e.evV O xv yv) = true) (hb : ∀ i, i < k → e.evM (X i) (Y i) < lim i) : e.ev x y = 0 := by
  have hs : ∀ e : Ex, Q.sem (e.el Q xs ys) = e.ev x y := by
    intro e
    induction e with
    | c n => rw [Ex.el, Q.sem_c, L.sem_c]; rfl
    | x i => exact hx i
    | y i => exact hy i
    | add a b ha hb => rw [Ex.el, Q.sem_add, ha, hb]; rfl
    | sub a b ha hb => rw [Ex.el, Q.sem_sub, ha, hb]; rfl
    | mul a b ha hb => rw [Ex.el, Q.sem_mul, ha, hb]; rfl
  have hv : ∀ e : Ex, Q.val (e.el Q xs ys) = e.evV O xv yv := by
    intro e
    induction e with
    | c n => rw [Ex.el, Q.val_c, L.val_c]; rfl
    | x i => exact vx i
    | y i => exact vy i
    | add a b ha hb => rw [Ex.el, Q.val_add, ha, hb]; rfl
    | sub a b ha hb => rw [Ex.el, Q.val_sub, ha, hb]; rfl
    | mul a b ha hb => rw [Ex.el, Q.val_mul, ha, hb]; rfl
  have hm : ∀ (i : Nat) (e : Ex), Q.maj i (e.el Q xs ys) ≤ e.evM (X i) (Y i) := by
    intro i e
    induction e with
    | c n => exact Nat.le_trans (Q.maj_c i _) (L.maj_c i n)
    | x j => exact mx i j
    | y j => exact my i j
    | add a b ha hb => exact Nat.le_trans (Q.maj_add i _ _) (Nat.add_le_add ha hb)
    | sub a b ha hb => exact Nat.le_trans (Q.maj_sub i _ _) (Nat.add_le_add ha hb)
    | mul a b ha hb => exact Nat.le_trans (Q.maj_mul i _ _) (Nat.mul_le_mul ha hb)
  rw [← hs]
  exact Q.faith _ (fun i hi => Nat.lt_of_le_of_lt (hm i e) (hb i hi)) (by rw [hv]; exact hz)
end sound

section three
def lim3 (b : Nat → Nat) (i : Nat) : Nat := b i * b i
def cl : Nat → Nat
  | 0 => 0
  | 1 => 1
  | _ => 2
def X3 (b : Nat → Nat) (i j : Nat) : Nat := if i ≤ cl j then 1 else b (cl j) * b (cl j)
def Y3 (b : Nat → Nat) (i j : Nat) : Nat := if i ≤ cl j then 3 else b (cl j) * b (cl j) * b (cl j) + 1
abbrev V3 := ((Int × Int) × (Int × Int)) × ((Int × Int) × (Int × Int))
def w3 (b : Nat → Nat) (j : Nat) : Int := (b j * b j * (b j * b j) * (b j * b j) + 7 : Nat)
def O3 (b : Nat → Nat) : Ops V3 := ((Ops.int.quad (w3 b 0)).quad (w3 b 1)).quad (w3 b 2)
def xv3 (b : Nat → Nat) (j : Nat) : V3 := ((((b (cl j) * b (cl j) : Nat), 0), (0, 0)), ((0, 0), (0, 0)))
def yv3 : Nat → V3
  | 0 => (((0, 1), (0, 0)), ((0, 0), (0, 0)))
  | 1 => (((0, 0), (1, 0)), ((0, 0), (0, 0)))
  | _ => (((0, 0), (0, 0)), ((1, 0), (0, 0)))
noncomputable def check3 (b : Nat → Nat) (e : Ex) : Bool :=
  (O3 b).isz (e.evV (O3 b) (xv3 b) yv3) && Nat.blt (e.evM (X3 b 0) (Y3 b 0)) (lim3 b 0) && Nat.blt (e.evM (X3 b 1) (Y3 b 1)) (lim3 b 1) && Nat.blt (e.evM (X3 b 2) (Y3 b 2)) (lim3 b 2)
theorem wmaj (X Y : Nat) (h : X * X * X + 7 ≤ Y * Y) : 7 + X * (0 + X * (0 + X * (1 + X * 0))) ≤ Y * Y := by
  have e : 7 + X * (0 + X * (0 + X * (1 + X * 0))) = X * X * X + 7 := by grind
  rw [e]; exact h
theorem wmajY (b : Nat) (hb : 2 ≤ b) : b * b * (b * b) * (b * b) + 7 ≤ (b * b * b + 1) * (b * b * b + 1) := by
  have h1 : 2 * 2 ≤ b * b := Nat.mul_le_mul hb hb
  have h2 : 2 * 2 * 2 ≤ b * b * b := Nat.mul_le_mul h1 hb
  have e : (b * b * b + 1) * (b * b * b + 1) = b * b * (b * b) * (b * b) + 2 * (b * b * b) + 1 := by grind
  omega
theorem X3Y3 (b : Nat → Nat) (hb : ∀ j, 2 ≤ b j) (i j : Nat) : X3 b i j * X3 b i j * X3 b i j + 7 ≤ Y3 b i j * Y3 b i j := by
  unfold X3 Y3
  split
  · omega
  · exact wmajY _ (hb _)
theorem Y3one (b : Nat → Nat) (i j : Nat) : 1 ≤ Y3 b i j := by
  unfold Y3; split <;> omega
variable {R : Type} [CommRing R]
theorem kron3 (b : Nat → Nat) (hb : ∀ j, 2 ≤ b j) (e : Ex) (hch : check3 b e = true) (x y : Nat → R) (hc : ∀ j, y j * y j = x j * x j * x j + 7)
    (hx : ∀ j, x (j + 2) = x 2) (hy : ∀ j, y (j + 2) = y 2) : e.ev x y = 0 := by
  let L0 : LI R (lim3 b) 0 := LI.int (lim3 b)
  let L1 := L0.poly (x 0) (lim3 b 0) rfl
  let L2 := L1.poly (x 1) (lim3 b 1) rfl
  let L3 := L2.poly (x 2) (lim3 b 2) rfl
  have i1 : (ic 1 : R) = 1 := Ring.intCast_one
  have i7 : (ic 7 : R) = 7 := Ring.intCast_ofNat 7
  have i0 : (ic 0 : R) = 0 := ic_zero
  let W0 : L3.A := ([[[7, 0, 0, 1]]] : List (List (List Int)))
  let W1 : L3.A := ([[[7], [], [], [1]]] : List (List (List Int)))
  let W2 : L3.A := ([[[7]], [], [], [[1]]] : List (List (List Int)))
  let Q0 := LQ.base L3
  have q0 : y 0 * y 0 = L3.sem W0 := by
    rw [hc 0]
    show _ = (((ic 7 + x 0 * (ic 0 + x 0 * (ic 0 + x 0 * (ic 1 + x 0 * 0)))) + x 1 * 0) + x 2 * 0 : R)
    rw [i0, i1, i7]; grind
  have q1 : y 1 * y 1 = L3.sem W1 := by
    rw [hc 1]
    show _ = (((ic 7 + x 0 * 0) + x 1 * (0 + x 1 * (0 + x 1 * ((ic 1 + x 0 * 0) + x 1 * 0)))) + x 2 * 0 : R)
    rw [i1, i7]; grind
  have q2 : y 2 * y 2 = L3.sem W2 := by
    rw [hc 2]
    show _ = ((((ic 7 + x 0 * 0) + x 1 * 0)) + x 2 * (0 + x 2 * (0 + x 2 * (((ic 1 + x 0 * 0) + x 1 * 0) + x 2 * 0))) : R)
    rw [i1, i7]; grind
  have v0 : L3.val W0 = w3 b 0 := by
    show ((7 + (lim3 b 0 : Int) * (0 + (lim3 b 0 : Int) * (0 + (lim3 b 0 : Int) * (1 + (lim3 b 0 : Int) * 0)))) + (lim3 b 1 : Int) * 0) + (lim3 b 2 : Int) * 0 = _
    unfold w3 lim3; grind
  have v1 : L3.val W1 = w3 b 1 := by
    show ((7 + (lim3 b 0 : Int) * 0) + (lim3 b 1 : Int) * (0 + (lim3 b 1 : Int) * (0 + (lim3 b 1 : Int) * ((1 + (lim3 b 0 : Int) * 0) + (lim3 b 1 : Int) * 0)))) + (lim3 b 2 : Int) * 0 = _
    unfold w3 lim3; grind
  have v2 : L3.val W2 = w3 b 2 := by
    show ((7 + (lim3 b 0 : Int) * 0) + (lim3 b 1 : Int) * 0) + (lim3 b 2 : Int) * (0 + (lim3 b 2 : Int) * (0 + (lim3 b 2 : Int) * (((1 + (lim3 b 0 : Int) * 0) + (lim3 b 1 : Int) * 0) + (lim3 b 2 : Int) * 0))) = _
    unfold w3 lim3; grind
  have m0 : ∀ i, L3.maj i W0 ≤ Y3 b i 0 * Y3 b i 0 := by
    intro i
    refine Nat.le_trans (Nat.le_of_eq ?_) (X3Y3 b hb i 0)
    show ((7 + X3 b i 0 * (0 + X3 b i 0 * (0 + X3 b i 0 * (1 + X3 b i 0 * 0)))) + X3 b i 1 * 0) + X3 b i 2 * 0 = _
    grind
  have m1 : ∀ i, L3.maj i W1 ≤ Y3 b i 1 * Y3 b i 1 := by
    intro i
    refine Nat.le_trans (Nat.le_of_eq ?_) (X3Y3 b hb i 1)
    show ((7 + X3 b i 0 * 0) + X3 b i 1 * (0 + X3 b i 1 * (0 + X3 b i 1 * ((1 + X3 b i 0 * 0) + X3 b i 1 * 0)))) + X3 b i 2 * 0 = _
    grind
  have m2 : ∀ i, L3.maj i W2 ≤ Y3 b i 2 * Y3 b i 2 := by
    intro i
    refine Nat.le_trans (Nat.le_of_eq ?_) (X3Y3 b hb i 2)
    show (((7 + X3 b i 0 * 0) + X3 b i 1 * 0)) + X3 b i 2 * (0 + X3 b i 2 * (0 + X3 b i 2 * (((1 + X3 b i 0 * 0) + X3 b i 1 * 0) + X3 b i 2 * 0))) = _
    grind
  let Q1 := LQ.quad L3 Q0 W0 (w3 b 0) v0 (y 0) q0 (fun i => Y3 b i 0) m0 (fun i => Y3one b i 0)
  let Q2 := LQ.quad L3 Q1 W1 (w3 b 1) v1 (y 1) q1 (fun i => Y3 b i 1) m1 (fun i => Y3one b i 1)
  let Q3 := LQ.quad L3 Q2 W2 (w3 b 2) v2 (y 2) q2 (fun i => Y3 b i 2) m2 (fun i => Y3one b i 2)
  let z : List (List (List Int)) := []
  let o : List (List (List Int)) := [[[1]]]
  let xe : Nat → List (List (List Int)) := fun | 0 => [[[0, 1]]] | 1 => [[[], [1]]] | _ => [[], [[1]]]
  let xs : Nat → Q3.A := fun j => (((xe j, z), (z, z)), ((z, z), (z, z)))
  let ys : Nat → Q3.A := fun | 0 => (((z, o), (z, z)), ((z, z), (z, z))) | 1 => (((z, z), (o, z)), ((z, z), (z, z))) | _ => (((z, z), (z, z)), ((o, z), (z, z)))
  rw [check3, Bool.and_eq_true, Bool.and_eq_true, Bool.and_eq_true] at hch
  obtain ⟨⟨⟨hz, b0⟩, b1⟩, b2⟩ := hch
  refine Ex.sound Q3 xs ys x y (xv3 b) yv3 (X3 b) (Y3 b) ?_ ?_ ?_ ?_ ?_ ?_ e ?_ ?_
  · intro j
    match j with
    | 0 =>
      show ((((ic 0 + x 0 * (ic 1 + x 0 * 0)) + x 1 * 0) + x 2 * 0) + y 0 * 0 + y 1 * (0 + y 0 * 0)) + y 2 * ((0 + y 0 * 0) + y 1 * (0 + y 0 * 0)) = x 0
      rw [i0, i1]; grind
    | 1 =>
      show (((0 + x 1 * ((ic 1 + x 0 * 0) + x 1 * 0)) + x 2 * 0) + y 0 * 0 + y 1 * (0 + y 0 * 0)) + y 2 * ((0 + y 0 * 0) + y 1 * (0 + y 0 * 0)) = x 1
      rw [i1]; grind
    | j+2 =>
      show ((0 + x 2 * (((ic 1 + x 0 * 0) + x 1 * 0) + x 2 * 0)) + y 0 * 0 + y 1 * (0 + y 0 * 0)) + y 2 * ((0 + y 0 * 0) + y 1 * (0 + y 0 * 0)) = x (j + 2)
      rw [i1, hx]; grind
  · intro j
    match j with
    | 0 =>
      show (0 + y 0 * (((ic 1 + x 0 * 0) + x 1 * 0) + x 2 * 0) + y 1 * (0 + y 0 * 0)) + y 2 * ((0 + y 0 * 0) + y 1 * (0 + y 0 * 0)) = y 0
      rw [i1]; grind
    | 1 =>
      show (0 + y 0 * 0 + y 1 * ((((ic 1 + x 0 * 0) + x 1 * 0) + x 2 * 0) + y 0 * 0)) + y 2 * ((0 + y 0 * 0) + y 1 * (0 + y 0 * 0)) = y 1
      rw [i1]; grind
    | j+2 =>
      show (0 + y 0 * 0 + y 1 * (0 + y 0 * 0)) + y 2 * (((((ic 1 + x 0 * 0) + x 1 * 0) + x 2 * 0) + y 0 * 0) + y 1 * (0 + y 0 * 0)) = y (j + 2)
      rw [i1, hy]; grind
  · intro j
    match j with
    | 0 =>
      show (((((0 + (lim3 b 0 : Int) * (1 + (lim3 b 0 : Int) * 0)) + (lim3 b 1 : Int) * 0) + (lim3 b 2 : Int) * 0, (0 : Int)), ((0 : Int), (0 : Int))), (((0 : Int), (0 : Int)), ((0 : Int), (0 : Int)))) = (((((b 0 * b 0 : Nat) : Int), 0), (0, 0)), ((0, 0), (0, 0)))
      have e : ((0 + (lim3 b 0 : Int) * (1 + (lim3 b 0 : Int) * 0)) + (lim3 b 1 : Int) * 0) + (lim3 b 2 : Int) * 0 = (b 0 * b 0 : Nat) := by unfold lim3; grind
      rw [e]
    | 1 =>
      show ((((0 + (lim3 b 1 : Int) * ((1 + (lim3 b 0 : Int) * 0) + (lim3 b 1 : Int) * 0)) + (lim3 b 2 : Int) * 0, (0 : Int)), ((0 : Int), (0 : Int))), (((0 : Int), (0 : Int)), ((0 : Int), (0 : Int)))) = (((((b 1 * b 1 : Nat) : Int), 0), (0, 0)), ((0, 0), (0, 0)))
      have e : (0 + (lim3 b 1 : Int) * ((1 + (lim3 b 0 : Int) * 0) + (lim3 b 1 : Int) * 0)) + (lim3 b 2 : Int) * 0 = (b 1 * b 1 : Nat) := by unfold lim3; grind
      rw [e]
    | j+2 =>
      show (((0 + (lim3 b 2 : Int) * (((1 + (lim3 b 0 : Int) * 0) + (lim3 b 1 : Int) * 0) + (lim3 b 2 : Int) * 0), (0 : Int)), ((0 : Int), (0 : Int))), (((0 : Int), (0 : Int)), ((0 : Int), (0 : Int)))) = (((((b 2 * b 2 : Nat) : Int), 0), (0, 0)), ((0, 0), (0, 0)))
      have e : 0 + (lim3 b 2 : Int) * (((1 + (lim3 b 0 : Int) * 0) + (lim3 b 1 : Int) * 0) + (lim3 b 2 : Int) * 0) = (b 2 * b 2 : Nat) := by unfold lim3; grind
      rw [e]
  · have e : ((1 + (lim3 b 0 : Int) * 0) + (lim3 b 1 : Int) * 0) + (lim3 b 2 : Int) * 0 = 1 := by grind
    intro j
    match j with
    | 0 =>
      show ((((0 : Int), ((1 + (lim3 b 0 : Int) * 0) + (lim3 b 1 : Int) * 0) + (lim3 b 2 : Int) * 0), ((0 : Int), (0 : Int))), (((0 : Int), (0 : Int)), ((0 : Int), (0 : Int)))) = (((0, 1), (0, 0)), ((0, 0), (0, 0)))
      rw [e]
    | 1 =>
      show ((((0 : Int), (0 : Int)), (((1 + (lim3 b 0 : Int) * 0) + (lim3 b 1 : Int) * 0) + (lim3 b 2 : Int) * 0, (0 : Int))), (((0 : Int), (0 : Int)), ((0 : Int), (0 : Int)))) = (((0, 0), (1, 0)), ((0, 0), (0, 0)))
      rw [e]
    | j+2 =>
      show ((((0 : Int), (0 : Int)), ((0 : Int), (0 : Int))), ((((1 + (lim3 b 0 : Int) * 0) + (lim3 b 1 : Int) * 0) + (lim3 b 2 : Int) * 0, (0 : Int)), ((0 : Int), (0 : Int)))) = (((0, 0), (0, 0)), ((1, 0), (0, 0)))
      rw [e]
  · intro i j
    match j with
    | 0 =>
      refine Nat.le_of_eq ?_
      show (((((0 + X3 b i 0 * (1 + X3 b i 0 * 0)) + X3 b i 1 * 0) + X3 b i 2 * 0) + Y3 b i 0 * 0) + Y3 b i 1 * (0 + Y3 b i 0 * 0)) + Y3 b i 2 * ((0 + Y3 b i 0 * 0) + Y3 b i 1 * (0 + Y3 b i 0 * 0)) = X3 b i 0
      grind
    | 1 =>
      refine Nat.le_of_eq ?_
      show ((((0 + X3 b i 1 * ((1 + X3 b i 0 * 0) + X3 b i 1 * 0)) + X3 b i 2 * 0) + Y3 b i 0 * 0) + Y3 b i 1 * (0 + Y3 b i 0 * 0)) + Y3 b i 2 * ((0 + Y3 b i 0 * 0) + Y3 b i 1 * (0 + Y3 b i 0 * 0)) = X3 b i 1
      grind
    | j+2 =>
      refine Nat.le_of_eq ?_
      show (((0 + X3 b i 2 * (((1 + X3 b i 0 * 0) + X3 b i 1 * 0) + X3 b i 2 * 0)) + Y3 b i 0 * 0) + Y3 b i 1 * (0 + Y3 b i 0 * 0)) + Y3 b i 2 * ((0 + Y3 b i 0 * 0) + Y3 b i 1 * (0 + Y3 b i 0 * 0)) = X3 b i 2
      grind
  · intro i j
    match j with
    | 0 =>
      refine Nat.le_of_eq ?_
      show ((0 + Y3 b i 0 * (((1 + X3 b i 0 * 0) + X3 b i 1 * 0) + X3 b i 2 * 0)) + Y3 b i 1 * (0 + Y3 b i 0 * 0)) + Y3 b i 2 * ((0 + Y3 b i 0 * 0) + Y3 b i 1 * (0 + Y3 b i 0 * 0)) = Y3 b i 0
      grind
    | 1 =>
      refine Nat.le_of_eq ?_
      show ((0 + Y3 b i 0 * 0) + Y3 b i 1 * ((((1 + X3 b i 0 * 0) + X3 b i 1 * 0) + X3 b i 2 * 0) + Y3 b i 0 * 0)) + Y3 b i 2 * ((0 + Y3 b i 0 * 0) + Y3 b i 1 * (0 + Y3 b i 0 * 0)) = Y3 b i 1
      grind
    | j+2 =>
      refine Nat.le_of_eq ?_
      show ((0 + Y3 b i 0 * 0) + Y3 b i 1 * (0 + Y3 b i 0 * 0)) + Y3 b i 2 * (((((1 + X3 b i 0 * 0) + X3 b i 1 * 0) + X3 b i 2 * 0) + Y3 b i 0 * 0) + Y3 b i 1 * (0 + Y3 b i 0 * 0)) = Y3 b i 2
      grind
  · exact hz
  · intro i hi
    match i, hi with
    | 0, _ => exact Nat.le_of_ble_eq_true b0
    | 1, _ => exact Nat.le_of_ble_eq_true b1
    | 2, _ => exact Nat.le_of_ble_eq_true b2
end three
end Mine
end SKron2

section SGrp
set_option maxRecDepth 100000
namespace Mine
open Lean.Grind
/-! the complete sum of two points, as expressions -/
structure E3 where
  X : Ex
  Y : Ex
  Z : Ex
def kc (n : Int) (e : Ex) : Ex := .mul (.c n) e
def aXe (p q : E3) : Ex := .sub (.mul (.add (.mul p.X q.Y) (.mul q.X p.Y)) (.sub (.mul p.Y q.Y) (kc 21 (.mul p.Z q.Z)))) (kc 21 (.mul (.add (.mul p.Y q.Z) (.mul q.Y p.Z)) (.add (.mul p.X q.Z) (.mul q.X p.Z))))
def aYe (p q : E3) : Ex := .add (.mul (.add (.mul p.Y q.Y) (kc 21 (.mul p.Z q.Z))) (.sub (.mul p.Y q.Y) (kc 21 (.mul p.Z q.Z)))) (kc 63 (.mul (.mul p.X q.X) (.add (.mul p.X q.Z) (.mul q.X p.Z))))
def aZe (p q : E3) : Ex := .add (.mul (.add (.mul p.Y q.Z) (.mul q.Y p.Z)) (.add (.mul p.Y q.Y) (kc 21 (.mul p.Z q.Z)))) (kc 3 (.mul (.mul p.X q.X) (.add (.mul p.X q.Y) (.mul q.X p.Y))))
def aE (p q : E3) : E3 := ⟨aXe p q, aYe p q, aZe p q⟩
def pe (j : Nat) : E3 := ⟨.x j, .y j, .c 1⟩
def assX : Ex := .sub (.mul (aXe (aE (pe 0) (pe 1)) (pe 2)) (aYe (pe 0) (aE (pe 1) (pe 2)))) (.mul (aXe (pe 0) (aE (pe 1) (pe 2))) (aYe (aE (pe 0) (pe 1)) (pe 2)))
def assZ : Ex := .sub (.mul (aZe (aE (pe 0) (pe 1)) (pe 2)) (aYe (pe 0) (aE (pe 1) (pe 2)))) (.mul (aZe (pe 0) (aE (pe 1) (pe 2))) (aYe (aE (pe 0) (pe 1)) (pe 2)))
/-- the sum lies on the curve -/
def onS : Ex := .sub (.mul (.mul (aYe (pe 0) (pe 1)) (aYe (pe 0) (pe 1))) (aZe (pe 0) (pe 1)))
  (.add (.mul (aXe (pe 0) (pe 1)) (.mul (aXe (pe 0) (pe 1)) (aXe (pe 0) (pe 1)))) (kc 7 (.mul (aZe (pe 0) (pe 1)) (.mul (aZe (pe 0) (pe 1)) (aZe (pe 0) (pe 1))))))
/-- the chord -/
def hE : Ex := .sub (.x 1) (.x 0)
def rE : Ex := .sub (.y 1) (.y 0)
def sE : Ex := .sub (.sub (.c 0) (.y 1)) (.y 0)
def cX (r : Ex) : Ex := .sub (.sub (.mul r r) (.mul hE (.mul hE hE))) (kc 2 (.mul (.x 0) (.mul hE hE)))
def cY (r : Ex) : Ex := .sub (.mul r (.sub (.mul (.x 0) (.mul hE hE)) (cX r))) (.mul (.y 0) (.mul hE (.mul hE hE)))
def h3E : Ex := .mul hE (.mul hE hE)
def onC (r : Ex) : Ex := .sub (.mul (cY r) (cY r)) (.add (.mul (cX r) (.mul (cX r) (cX r))) (kc 7 (.mul h3E h3E)))
def chX : Ex := .sub (.mul (.mul (cX rE) hE) (aYe (pe 0) (pe 1))) (.mul (cY rE) (aXe (pe 0) (pe 1)))
def chZ : Ex := .sub (.mul h3E (aYe (pe 0) (pe 1))) (.mul (cY rE) (aZe (pe 0) (pe 1)))
def chK (k : Int) : Ex := .sub (aZe (pe 0) (pe 1)) (kc k (cY sE))
def bb : Nat → Nat
  | 0 => 2 ^ 27
  | 1 => 2 ^ 265
  | _ => 2 ^ 3600
theorem bb2 : ∀ j, 2 ≤ bb j
  | 0 => by decide
  | 1 => by decide +kernel
  | _+2 => by show 2 ≤ 2 ^ 3600; decide +kernel
theorem assX_ok : check3 bb assX = true := by decide +kernel
theorem assZ_ok : check3 bb assZ = true := by decide +kernel
theorem onS_ok : check3 bb onS = true := by decide +kernel
theorem onC_ok : check3 bb (onC rE) = true := by decide +kernel
theorem onC2_ok : check3 bb (onC sE) = true := by decide +kernel
theorem chX_ok : check3 bb chX = true := by decide +kernel
theorem chZ_ok : check3 bb chZ = true := by decide +kernel
theorem chK_ok : check3 bb (chK 1) = true := by decide +kernel

section ring
variable {F : Type} [CommRing F]
def aX (x1 y1 z1 x2 y2 z2 : F) : F := (x1 * y2 + x2 * y1) * (y1 * y2 - 21 * (z1 * z2)) - 21 * ((y1 * z2 + y2 * z1) * (x1 * z2 + x2 * z1))
def aY (x1 y1 z1 x2 y2 z2 : F) : F := (y1 * y2 + 21 * (z1 * z2)) * (y1 * y2 - 21 * (z1 * z2)) + 63 * (x1 * x2 * (x1 * z2 + x2 * z1))
def aZ (x1 y1 z1 x2 y2 z2 : F) : F := (y1 * z2 + y2 * z1) * (y1 * y2 + 21 * (z1 * z2)) + 3 * (x1 * x2 * (x1 * y2 + x2 * y1))
def three (a b c : F) : Nat → F
  | 0 => a
  | 1 => b
  | _ => c
variable {x1 y1 x2 y2 x3 y3 : F} (c1 : y1 * y1 = x1 * x1 * x1 + 7) (c2 : y2 * y2 = x2 * x2 * x2 + 7) (c3 : y3 * y3 = x3 * x3 * x3 + 7)
theorem ic21 : (ic 21 : F) = 21 := Ring.intCast_ofNat 21
theorem ic63 : (ic 63 : F) = 63 := Ring.intCast_ofNat 63
theorem ic3 : (ic 3 : F) = 3 := Ring.intCast_ofNat 3
theorem ic7 : (ic 7 : F) = 7 := Ring.intCast_ofNat 7
theorem ic2 : (ic 2 : F) = 2 := Ring.intCast_ofNat 2
theorem ic1 : (ic 1 : F) = 1 := Ring.intCast_one
include c1 c2 c3 in
theorem kr (e : Ex) (h : check3 bb e = true) : e.ev (three x1 x2 x3) (three y1 y2 y3) = 0 := by
  refine kron3 bb bb2 e h _ _ ?_ (fun _ => rfl) (fun _ => rfl)
  intro j
  match j with
  | 0 => exact c1
  | 1 => exact c2
  | _+2 => exact c3
theorem ev_aX (x y : Nat → F) (p q : E3) : (aXe p q).ev x y = aX (p.X.ev x y) (p.Y.ev x y) (p.Z.ev x y) (q.X.ev x y) (q.Y.ev x y) (q.Z.ev x y) := by
  simp only [aXe, aX, kc, Ex.ev, ic21]
theorem ev_aY (x y : Nat → F) (p q : E3) : (aYe p q).ev x y = aY (p.X.ev x y) (p.Y.ev x y) (p.Z.ev x y) (q.X.ev x y) (q.Y.ev x y) (q.Z.ev x y) := by
  simp only [aYe, aY, kc, Ex.ev, ic21, ic63]
theorem ev_aZ (x y : Nat → F) (p q : E3) : (aZe p q).ev x y = aZ (p.X.ev x y) (p.Y.ev x y) (p.Z.ev x y) (q.X.ev x y) (q.Y.ev x y) (q.Z.ev x y) := by
  simp only [aZe, aZ, kc, Ex.ev, ic21, ic3]
include c1 c2 c3 in
theorem assX_F : aX (aX x1 y1 1 x2 y2 1) (aY x1 y1 1 x2 y2 1) (aZ x1 y1 1 x2 y2 1) x3 y3 1 * aY x1 y1 1 (aX x2 y2 1 x3 y3 1) (aY x2 y2 1 x3 y3 1) (aZ x2 y2 1 x3 y3 1)
    = aX x1 y1 1 (aX x2 y2 1 x3 y3 1) (aY x2 y2 1 x3 y3 1) (aZ x2 y2 1 x3 y3 1) * aY (aX x1 y1 1 x2 y2 1) (aY x1 y1 1 x2 y2 1) (aZ x1 y1 1 x2 y2 1) x3 y3 1 := by
  have h := kr c1 c2 c3 assX assX_ok
  simp only [assX, Ex.ev, ev_aX, ev_aY, ev_aZ, aE, pe, ic1, three] at h
  exact AddCommGroup.sub_eq_zero_iff.mp h
include c1 c2 c3 in
theorem assZ_F : aZ (aX x1 y1 1 x2 y2 1) (aY x1 y1 1 x2 y2 1) (aZ x1 y1 1 x2 y2 1) x3 y3 1 * aY x1 y1 1 (aX x2 y2 1 x3 y3 1) (aY x2 y2 1 x3 y3 1) (aZ x2 y2 1 x3 y3 1)
    = aZ x1 y1 1 (aX x2 y2 1 x3 y3 1) (aY x2 y2 1 x3 y3 1) (aZ x2 y2 1 x3 y3 1) * aY (aX x1 y1 1 x2 y2 1) (aY x1 y1 1 x2 y2 1) (aZ x1 y1 1 x2 y2 1) x3 y3 1 := by
  have h := kr c1 c2 c3 assZ assZ_ok
  simp only [assZ, Ex.ev, ev_aX, ev_aY, ev_aZ, aE, pe, ic1, three] at h
  exact AddCommGroup.sub_eq_zero_iff.mp h
include c1 c2 in
theorem onS_F : aY x1 y1 1 x2 y2 1 * aY x1 y1 1 x2 y2 1 * aZ x1 y1 1 x2 y2 1 = aX x1 y1 1 x2 y2 1 * (aX x1 y1 1 x2 y2 1 * aX x1 y1 1 x2 y2 1) + 7 * (aZ x1 y1 1 x2 y2 1 * (aZ x1 y1 1 x2 y2 1 * aZ x1 y1 1 x2 y2 1)) := by
  have h := kr c1 c2 c2 onS onS_ok
  simp only [onS, Ex.ev, ev_aX, ev_aY, ev_aZ, pe, ic1, three, kc, ic7] at h
  exact AddCommGroup.sub_eq_zero_iff.mp h
/-- the chord's sum, in three coordinates -/
def nX (x1 x2 r : F) : F := r * r - (x2 - x1) * ((x2 - x1) * (x2 - x1)) - 2 * (x1 * ((x2 - x1) * (x2 - x1)))
def nY (x1 y1 x2 r : F) : F := r * (x1 * ((x2 - x1) * (x2 - x1)) - nX x1 x2 r) - y1 * ((x2 - x1) * ((x2 - x1) * (x2 - x1)))
include c1 c2 in
theorem onC_F : nY x1 y1 x2 (y2 - y1) * nY x1 y1 x2 (y2 - y1) = nX x1 x2 (y2 - y1) * (nX x1 x2 (y2 - y1) * nX x1 x2 (y2 - y1)) + 7 * ((x2 - x1) * ((x2 - x1) * (x2 - x1)) * ((x2 - x1) * ((x2 - x1) * (x2 - x1)))) := by
  have h := kr c1 c2 c2 (onC rE) onC_ok
  simp only [onC, cX, cY, hE, rE, h3E, Ex.ev, three, kc, ic7, ic2] at h
  exact AddCommGroup.sub_eq_zero_iff.mp h
include c1 c2 in
theorem onC2_F : nY x1 y1 x2 (0 - y2 - y1) * nY x1 y1 x2 (0 - y2 - y1) = nX x1 x2 (0 - y2 - y1) * (nX x1 x2 (0 - y2 - y1) * nX x1 x2 (0 - y2 - y1)) + 7 * ((x2 - x1) * ((x2 - x1) * (x2 - x1)) * ((x2 - x1) * ((x2 - x1) * (x2 - x1)))) := by
  have h := kr c1 c2 c2 (onC sE) onC2_ok
  simp only [onC, cX, cY, hE, sE, h3E, Ex.ev, three, kc, ic7, ic2, ic_zero] at h
  exact AddCommGroup.sub_eq_zero_iff.mp h
include c1 c2 in
theorem chX_F : nX x1 x2 (y2 - y1) * (x2 - x1) * aY x1 y1 1 x2 y2 1 = nY x1 y1 x2 (y2 - y1) * aX x1 y1 1 x2 y2 1 := by
  have h := kr c1 c2 c2 chX chX_ok
  simp only [chX, cX, cY, hE, rE, h3E, Ex.ev, three, kc, ic7, ic2, ev_aX, ev_aY, ev_aZ, pe, ic1] at h
  exact AddCommGroup.sub_eq_zero_iff.mp h
include c1 c2 in
theorem chZ_F : (x2 - x1) * ((x2 - x1) * (x2 - x1)) * aY x1 y1 1 x2 y2 1 = nY x1 y1 x2 (y2 - y1) * aZ x1 y1 1 x2 y2 1 := by
  have h := kr c1 c2 c2 chZ chZ_ok
  simp only [chZ, cX, cY, hE, rE, h3E, Ex.ev, three, kc, ic7, ic2, ev_aX, ev_aY, ev_aZ, pe, ic1] at h
  exact AddCommGroup.sub_eq_zero_iff.mp h
include c1 c2 in
theorem chK_F : aZ x1 y1 1 x2 y2 1 = nY x1 y1 x2 (0 - y2 - y1) := by
  have h := kr c1 c2 c2 (chK 1) chK_ok
  simp only [chK, cX, cY, hE, sE, h3E, Ex.ev, three, kc, ic7, ic2, ev_aX, ev_aY, ev_aZ, pe, ic1, ic_zero, Semiring.one_mul] at h
  exact AddCommGroup.sub_eq_zero_iff.mp h
/-- the tangent -/
def dY (y : F) : F := y * y * (y * y) + 126 * (y * y) - 1323
include c1 in
theorem dbl_F : aX x1 y1 1 x1 y1 1 = (9 * (x1 * x1 * (x1 * x1)) - 8 * (x1 * (y1 * y1))) * (2 * y1) ∧ aY x1 y1 1 x1 y1 1 = dY y1 ∧ aZ x1 y1 1 x1 y1 1 = 2 * y1 * (2 * y1 * (2 * y1)) := by
  unfold aX aY aZ dY
  refine ⟨by grind, by grind, by grind⟩
include c1 in
theorem opp_F : aX x1 y1 1 x1 (-y1) 1 = 0 ∧ aY x1 y1 1 x1 (-y1) 1 = dY y1 ∧ aZ x1 y1 1 x1 (-y1) 1 = 0 := by
  unfold aX aY aZ dY
  refine ⟨by grind, by grind, by grind⟩
include c1 in
theorem onD_F : dY y1 * dY y1 = (9 * (x1 * x1 * (x1 * x1)) - 8 * (x1 * (y1 * y1))) * ((9 * (x1 * x1 * (x1 * x1)) - 8 * (x1 * (y1 * y1))) * (9 * (x1 * x1 * (x1 * x1)) - 8 * (x1 * (y1 * y1)))) + 7 * (2 * y1 * (2 * y1 * (2 * y1)) * (2 * y1 * (2 * y1 * (2 * y1)))) := by
  unfold dY
  grind
end ring
end Mine
end SGrp

section SGrp2
set_option maxRecDepth 100000
namespace Mine
open Lean.Grind
section field
variable {F : Type} [Field F]
theorem mul_ne {a b : F} (ha : a ≠ 0) (hb : b ≠ 0) : a * b ≠ 0 := fun h => (Field.of_mul_eq_zero h).elim ha hb
theorem div_scale {k a b : F} (hk : k ≠ 0) : (k * a) / (k * b) = a / b := by
  rw [Field.div_eq_mul_inv, Field.div_eq_mul_inv, Field.inv_mul]
  have := Field.mul_inv_cancel hk
  grind
theorem div_eq {a b c d : F} (hb : b ≠ 0) (hd : d ≠ 0) (h : a * d = c * b) : a / b = c / d := by
  rw [Field.div_eq_mul_inv, Field.div_eq_mul_inv]
  have h1 := Field.mul_inv_cancel hb
  have h2 := Field.mul_inv_cancel hd
  grind
theorem div_mul {a b : F} (hb : b ≠ 0) : a / b * b = a := by
  rw [Field.div_eq_mul_inv]
  have h1 := Field.mul_inv_cancel hb
  grind
theorem eq_div {a b c : F} (hb : b ≠ 0) (h : a * b = c) : a = c / b := by
  rw [← h, Field.div_eq_mul_inv]
  have h1 := Field.mul_inv_cancel hb
  grind
theorem mul_left_cancel' {a b c : F} (ha : a ≠ 0) (h : a * b = a * c) : b = c := by
  have h1 := Field.mul_inv_cancel ha
  grind
/-- what the field must have -/
structure Nice (F : Type) [Field F] : Prop where
  two : (2 : F) ≠ 0
  cub : ∀ x : F, x * x * x + 7 ≠ 0
/-- a point by x / y and 1 / y: nothing is (0, 0) -/
def OnE (p : F × F) : Prop := p.2 = p.1 * p.1 * p.1 + 7 * (p.2 * p.2 * p.2)
def pa (x y : F) : F × F := (x / y, 1 / y)
def adE (p q : F × F) : F × F := (aX p.1 1 p.2 q.1 1 q.2 / aY p.1 1 p.2 q.1 1 q.2, aZ p.1 1 p.2 q.1 1 q.2 / aY p.1 1 p.2 q.1 1 q.2)
def ngE (p : F × F) : F × F := (-p.1, -p.2)
def OE : F × F := (0, 0)
theorem scX (a b x1 y1 z1 x2 y2 z2 : F) : aX (x1 * a) (y1 * a) (z1 * a) (x2 * b) (y2 * b) (z2 * b) = (a * b) * (a * b) * aX x1 y1 z1 x2 y2 z2 := by
  unfold aX; grind
theorem scY (a b x1 y1 z1 x2 y2 z2 : F) : aY (x1 * a) (y1 * a) (z1 * a) (x2 * b) (y2 * b) (z2 * b) = (a * b) * (a * b) * aY x1 y1 z1 x2 y2 z2 := by
  unfold aY; grind
theorem scZ (a b x1 y1 z1 x2 y2 z2 : F) : aZ (x1 * a) (y1 * a) (z1 * a) (x2 * b) (y2 * b) (z2 * b) = (a * b) * (a * b) * aZ x1 y1 z1 x2 y2 z2 := by
  unfold aZ; grind
theorem inv_ne {a : F} (h : a ≠ 0) : a⁻¹ ≠ 0 := fun k => h (Field.inv_eq_zero_iff.mp k)
theorem ad_hom {x1 y1 z1 x2 y2 z2 : F} (h1 : y1 ≠ 0) (h2 : y2 ≠ 0) : adE (x1 / y1, z1 / y1) (x2 / y2, z2 / y2) = (aX x1 y1 z1 x2 y2 z2 / aY x1 y1 z1 x2 y2 z2, aZ x1 y1 z1 x2 y2 z2 / aY x1 y1 z1 x2 y2 z2) := by
  have hk : (y1⁻¹ * y2⁻¹) * (y1⁻¹ * y2⁻¹) ≠ 0 := mul_ne (mul_ne (inv_ne h1) (inv_ne h2)) (mul_ne (inv_ne h1) (inv_ne h2))
  unfold adE
  simp only [Field.div_eq_mul_inv x1, Field.div_eq_mul_inv z1, Field.div_eq_mul_inv x2, Field.div_eq_mul_inv z2]
  have e1 := scX y1⁻¹ y2⁻¹ x1 y1 z1 x2 y2 z2
  have e2 := scY y1⁻¹ y2⁻¹ x1 y1 z1 x2 y2 z2
  have e3 := scZ y1⁻¹ y2⁻¹ x1 y1 z1 x2 y2 z2
  rw [Field.mul_inv_cancel h1, Field.mul_inv_cancel h2] at e1 e2 e3
  rw [e1, e2, e3, div_scale hk, div_scale hk]
theorem aY_hom {x1 y1 z1 x2 y2 z2 : F} (h1 : y1 ≠ 0) (h2 : y2 ≠ 0) (h : aY (x1 / y1) 1 (z1 / y1) (x2 / y2) 1 (z2 / y2) ≠ 0) : aY x1 y1 z1 x2 y2 z2 ≠ 0 := by
  simp only [Field.div_eq_mul_inv x1, Field.div_eq_mul_inv z1, Field.div_eq_mul_inv x2, Field.div_eq_mul_inv z2] at h
  have e2 := scY y1⁻¹ y2⁻¹ x1 y1 z1 x2 y2 z2
  rw [Field.mul_inv_cancel h1, Field.mul_inv_cancel h2] at e2
  rw [e2] at h
  intro k
  rw [k] at h
  exact h (Semiring.mul_zero _)
theorem aY_hom' {x1 y1 z1 x2 y2 z2 : F} (h1 : y1 ≠ 0) (h2 : y2 ≠ 0) (h : aY x1 y1 z1 x2 y2 z2 ≠ 0) : aY (x1 / y1) 1 (z1 / y1) (x2 / y2) 1 (z2 / y2) ≠ 0 := by
  simp only [Field.div_eq_mul_inv x1, Field.div_eq_mul_inv z1, Field.div_eq_mul_inv x2, Field.div_eq_mul_inv z2]
  have e2 := scY y1⁻¹ y2⁻¹ x1 y1 z1 x2 y2 z2
  rw [Field.mul_inv_cancel h1, Field.mul_inv_cancel h2] at e2
  rw [e2]
  exact mul_ne (mul_ne (mul_ne (inv_ne h1) (inv_ne h2)) (mul_ne (inv_ne h1) (inv_ne h2))) h
variable (nice : Nice F)
include nice
theorem y_ne {x y : F} (c : y * y = x * x * x + 7) : y ≠ 0 := by
  intro h
  apply nice.cub x
  rw [← c, h, Semiring.mul_zero]
/-- no point of the curve in three coordinates has ordinate nought -/
theorem yz_ne {x y z : F} (hz : z ≠ 0) (c : y * y = x * (x * x) + 7 * (z * (z * z) * (z * (z * z)))) : y ≠ 0 := by
  intro h
  apply nice.cub (x * (z⁻¹ * z⁻¹))
  have e := Field.mul_inv_cancel hz
  have : x * (x * x) + 7 * (z * (z * z) * (z * (z * z))) = 0 := by rw [← c, h, Semiring.mul_zero]
  have e2 : x * (z⁻¹ * z⁻¹) * (x * (z⁻¹ * z⁻¹)) * (x * (z⁻¹ * z⁻¹)) + 7 = (x * (x * x) + 7 * (z * (z * z) * (z * (z * z)))) * (z⁻¹ * z⁻¹ * (z⁻¹ * z⁻¹) * (z⁻¹ * z⁻¹)) := by grind
  rw [e2, this, Semiring.zero_mul]
theorem cases_pt {p : F × F} (h : OnE p) : p = OE ∨ ∃ x y, y ≠ 0 ∧ y * y = x * x * x + 7 ∧ p = pa x y := by
  obtain ⟨t, w⟩ := p
  unfold OnE at h
  dsimp only at h
  by_cases hw : w = 0
  · left
    subst hw
    have h3 : t * t * t = 0 := by grind
    have ht : t = 0 := by
      rcases Field.of_mul_eq_zero h3 with k | k
      · rcases Field.of_mul_eq_zero k with k | k <;> exact k
      · exact k
    rw [ht]; rfl
  · right
    have e := Field.mul_inv_cancel hw
    refine ⟨t * w⁻¹, w⁻¹, inv_ne hw, ?_, ?_⟩
    · have : w⁻¹ * w⁻¹ = w * (w⁻¹ * w⁻¹ * w⁻¹) := by grind
      rw [this, h]; grind
    · unfold pa
      rw [Field.div_eq_mul_inv, Field.div_eq_mul_inv, Field.inv_inv]
      congr 1 <;> grind
omit nice in
theorem onE_pa {x y : F} (hy : y ≠ 0) (c : y * y = x * x * x + 7) : OnE (pa x y) := by
  unfold OnE pa
  dsimp only
  rw [Field.div_eq_mul_inv, Field.div_eq_mul_inv]
  have e := Field.mul_inv_cancel hy
  grind
theorem dY_ne {x y : F} (c : y * y = x * x * x + 7) : dY y ≠ 0 := by
  have hy := y_ne nice c
  exact yz_ne nice (mul_ne nice.two hy) (onD_F c)
theorem nY_ne {x1 y1 x2 y2 : F} (c1 : y1 * y1 = x1 * x1 * x1 + 7) (c2 : y2 * y2 = x2 * x2 * x2 + 7) (h : x2 - x1 ≠ 0) : nY x1 y1 x2 (y2 - y1) ≠ 0 :=
  yz_ne nice h (onC_F c1 c2)
theorem nY2_ne {x1 y1 x2 y2 : F} (c1 : y1 * y1 = x1 * x1 * x1 + 7) (c2 : y2 * y2 = x2 * x2 * x2 + 7) (h : x2 - x1 ≠ 0) : nY x1 y1 x2 (0 - y2 - y1) ≠ 0 :=
  yz_ne nice h (onC2_F c1 c2)
omit nice in
theorem y_eq {x y1 y2 : F} (c1 : y1 * y1 = x * x * x + 7) (c2 : y2 * y2 = x * x * x + 7) : y2 = y1 ∨ y2 = -y1 := by
  have h : (y2 - y1) * (y2 + y1) = 0 := by grind
  rcases Field.of_mul_eq_zero h with k | k
  · left; grind
  · right; grind
theorem aY_ne {x1 y1 x2 y2 : F} (c1 : y1 * y1 = x1 * x1 * x1 + 7) (c2 : y2 * y2 = x2 * x2 * x2 + 7) : aY x1 y1 1 x2 y2 1 ≠ 0 := by
  by_cases hx : x2 - x1 = 0
  · have e : x2 = x1 := by grind
    subst e
    rcases y_eq c1 c2 with k | k
    · subst k; rw [(dbl_F c1).2.1]; exact dY_ne nice c1
    · subst k; rw [(opp_F c1).2.1]; exact dY_ne nice c1
  · intro h
    have e := chZ_F c1 c2
    rw [h, Semiring.mul_zero, chK_F c1 c2] at e
    exact mul_ne (nY_ne nice c1 c2 hx) (nY2_ne nice c1 c2 hx) e.symm
theorem ad_pa {x1 y1 x2 y2 : F} (c1 : y1 * y1 = x1 * x1 * x1 + 7) (c2 : y2 * y2 = x2 * x2 * x2 + 7) : adE (pa x1 y1) (pa x2 y2) = (aX x1 y1 1 x2 y2 1 / aY x1 y1 1 x2 y2 1, aZ x1 y1 1 x2 y2 1 / aY x1 y1 1 x2 y2 1) :=
  ad_hom (y_ne nice c1) (y_ne nice c2)
end field
end Mine
end SGrp2

section SGrp3
set_option maxRecDepth 100000
namespace Mine
open Lean.Grind
section grp
variable {F : Type} [Field F]
theorem adE_comm (p q : F × F) : adE p q = adE q p := by
  have e1 : ∀ a b c d : F, aX a 1 b c 1 d = aX c 1 d a 1 b := by intro a b c d; unfold aX; grind
  have e2 : ∀ a b c d : F, aY a 1 b c 1 d = aY c 1 d a 1 b := by intro a b c d; unfold aY; grind
  have e3 : ∀ a b c d : F, aZ a 1 b c 1 d = aZ c 1 d a 1 b := by intro a b c d; unfold aZ; grind
  unfold adE
  rw [e1, e2, e3]
theorem adE_O (p : F × F) : adE p OE = p := by
  obtain ⟨t, w⟩ := p
  have i1 : (1 : F)⁻¹ = 1 := Field.inv_one
  unfold adE OE aX aY aZ
  dsimp only
  have e : (1 * 1 + 21 * (w * 0)) * (1 * 1 - 21 * (w * 0)) + 63 * (t * 0 * (t * 0 + 0 * w)) = (1 : F) := by grind
  rw [e, Field.div_eq_mul_inv, Field.div_eq_mul_inv, i1]
  congr 1 <;> grind
theorem adE_O' (p : F × F) : adE OE p = p := by rw [adE_comm, adE_O]
theorem onE_O : OnE (OE : F × F) := by unfold OnE OE; grind
theorem adE_ng (p : F × F) : adE p (ngE p) = OE := by
  obtain ⟨t, w⟩ := p
  unfold adE ngE OE aX aY aZ
  dsimp only
  have e : (t * 1 + -t * 1) * (1 * 1 - 21 * (w * -w)) - 21 * ((1 * -w + 1 * w) * (t * -w + -t * w)) = (0 : F) := by grind
  have e' : (1 * -w + 1 * w) * (1 * 1 + 21 * (w * -w)) + 3 * (t * -t * (t * 1 + -t * 1)) = (0 : F) := by grind
  rw [e, e', Field.div_eq_mul_inv, Semiring.zero_mul]
variable (nice : Nice F)
include nice
theorem onE_ad {p q : F × F} (hp : OnE p) (hq : OnE q) : OnE (adE p q) := by
  rcases cases_pt nice hp with rfl | ⟨x1, y1, h1, c1, rfl⟩
  · rw [adE_O']; exact hq
  rcases cases_pt nice hq with rfl | ⟨x2, y2, h2, c2, rfl⟩
  · rw [adE_O]; exact hp
  rw [ad_pa nice c1 c2]
  have hn := aY_ne nice c1 c2
  have e := onS_F c1 c2
  unfold OnE
  dsimp only
  rw [Field.div_eq_mul_inv, Field.div_eq_mul_inv]
  have k := Field.mul_inv_cancel hn
  generalize aY x1 y1 1 x2 y2 1 = Y at *
  generalize aX x1 y1 1 x2 y2 1 = X at *
  generalize aZ x1 y1 1 x2 y2 1 = Z at *
  generalize Y⁻¹ = I at *
  have : Z * I = Y * Y * Z * (I * I * I) := by grind
  rw [this, e]
  grind
theorem aY_pt {p q : F × F} (hp : OnE p) (hq : OnE q) : aY p.1 1 p.2 q.1 1 q.2 ≠ 0 := by
  have one : (1 : F) ≠ 0 := fun h => Field.zero_ne_one h.symm
  rcases cases_pt nice hp with rfl | ⟨x1, y1, h1, c1, rfl⟩
  · unfold OE aY
    dsimp only
    have e : (1 * 1 + 21 * (0 * q.2)) * (1 * 1 - 21 * (0 * q.2)) + 63 * (0 * q.1 * (0 * q.2 + q.1 * 0)) = (1 : F) := by grind
    rw [e]; exact one
  rcases cases_pt nice hq with rfl | ⟨x2, y2, h2, c2, rfl⟩
  · generalize pa x1 y1 = p
    unfold OE aY
    dsimp only
    have e : (1 * 1 + 21 * (p.2 * 0)) * (1 * 1 - 21 * (p.2 * 0)) + 63 * (p.1 * 0 * (p.1 * 0 + 0 * p.2)) = (1 : F) := by grind
    rw [e]; exact one
  exact aY_hom' h1 h2 (aY_ne nice c1 c2)
theorem adE_assoc {p q r : F × F} (hp : OnE p) (hq : OnE q) (hr : OnE r) : adE (adE p q) r = adE p (adE q r) := by
  have hpq := onE_ad nice hp hq
  have hqr := onE_ad nice hq hr
  rcases cases_pt nice hp with rfl | ⟨x1, y1, h1, c1, rfl⟩
  · rw [adE_O', adE_O']
  rcases cases_pt nice hq with rfl | ⟨x2, y2, h2, c2, rfl⟩
  · rw [adE_O, adE_O']
  rcases cases_pt nice hr with rfl | ⟨x3, y3, h3, c3, rfl⟩
  · rw [adE_O, adE_O]
  have n12 := aY_ne nice c1 c2
  have n23 := aY_ne nice c2 c3
  have nl := aY_pt nice hpq hr
  have nr := aY_pt nice hp hqr
  rw [ad_pa nice c1 c2] at nl ⊢
  rw [ad_pa nice c2 c3] at nr ⊢
  unfold pa at *
  rw [ad_hom n12 h3, ad_hom h1 n23]
  have nl' := aY_hom n12 h3 nl
  have nr' := aY_hom h1 n23 nr
  rw [div_eq nl' nr' (assX_F c1 c2 c3), div_eq nl' nr' (assZ_F c1 c2 c3)]
omit nice in
/-- n times -/
noncomputable def nmE (p : F × F) : Nat → F × F
  | 0 => OE
  | n+1 => adE (nmE p n) p
theorem onE_nm {p : F × F} (hp : OnE p) (n : Nat) : OnE (nmE p n) := by
  induction n with
  | zero => exact onE_O
  | succ n ih => exact onE_ad nice ih hp
omit nice in
theorem nmE_one (p : F × F) : nmE p 1 = p := adE_O' p
omit nice in
theorem nmE_two (p : F × F) : nmE p 2 = adE p p := by
  show adE (nmE p 1) p = _
  rw [nmE_one]
theorem nmE_add {p : F × F} (hp : OnE p) (m n : Nat) : nmE p (m + n) = adE (nmE p m) (nmE p n) := by
  induction n with
  | zero => exact (adE_O _).symm
  | succ n ih =>
    show adE (nmE p (m + n)) p = adE (nmE p m) (adE (nmE p n) p)
    rw [ih, adE_assoc nice (onE_nm nice hp m) (onE_nm nice hp n) hp]
theorem nmE_mul {p : F × F} (hp : OnE p) (m n : Nat) : nmE (nmE p m) n = nmE p (m * n) := by
  induction n with
  | zero => rfl
  | succ n ih =>
    show adE (nmE (nmE p m) n) (nmE p m) = _
    rw [ih, Nat.mul_succ, nmE_add nice hp]
theorem nmE_O (n : Nat) : nmE (OE : F × F) n = OE := by
  induction n with
  | zero => rfl
  | succ n ih =>
    show adE (nmE OE n) OE = OE
    rw [adE_O, ih]
theorem nmE_ad {p q : F × F} (hp : OnE p) (hq : OnE q) (n : Nat) : nmE (adE p q) n = adE (nmE p n) (nmE q n) := by
  induction n with
  | zero => exact (adE_O _).symm
  | succ n ih =>
    show adE (nmE (adE p q) n) (adE p q) = adE (adE (nmE p n) p) (adE (nmE q n) q)
    have a := onE_nm nice hp n
    have b := onE_nm nice hq n
    rw [ih, adE_assoc nice a b (onE_ad nice hp hq), adE_assoc nice a hp (onE_ad nice b hq), ← adE_assoc nice b hp hq, adE_comm (nmE q n) p, adE_assoc nice hp b hq]
theorem onE_ng {p : F × F} (hp : OnE p) : OnE (ngE p) := by
  unfold OnE ngE at *
  dsimp only
  grind
end grp
end Mine
end SGrp3

section SFinF
set_option maxRecDepth 100000
namespace Mine
open Lean.Grind
section finf
variable {p : Nat} [NeZero p]
theorem fin_pow (a : Fin p) (n : Nat) : (a ^ n).val = a.val ^ n % p := by
  induction n with
  | zero => rfl
  | succ n ih =>
    have e : a ^ (n + 1) = a ^ n * a := rfl
    rw [e, Fin.val_mul, ih, Nat.pow_succ, Nat.mod_mul_mod]
theorem fin_inv (hp : IsPr p) (a : Fin p) (h : a ≠ 0) : a * a ^ (p - 2) = 1 := by
  have hv : ¬ p ∣ a.val := fun k => h (by
    apply Fin.ext
    have := Nat.eq_zero_of_dvd_of_lt k a.isLt
    simpa using this)
  have hf := fermat hp hv
  have h2 := hp.1
  apply Fin.ext
  rw [Fin.val_mul, fin_pow, Nat.mul_mod_mod, ← Nat.pow_succ', show (p - 2).succ = p - 1 by omega, hf]
  show 1 = 1 % p
  rw [Nat.mod_eq_of_lt (by omega)]
def finV (a : Fin p) : Fin p := if a = 0 then 0 else a ^ (p - 2)
theorem finV_mul (hp : IsPr p) {a : Fin p} (h : a ≠ 0) : a * finV a = 1 := by
  unfold finV; rw [if_neg h]; exact fin_inv hp a h
theorem finV_ne (hp : IsPr p) {a : Fin p} (h : a ≠ 0) : finV a ≠ 0 := by
  intro k
  have e := finV_mul hp h
  rw [k, Fin.mul_zero] at e
  have := congrArg Fin.val e
  have h2 := hp.1
  have e1 : (1 : Fin p).val = 1 % p := rfl
  have e0 : (0 : Fin p).val = 0 % p := rfl
  rw [e1, e0, Nat.zero_mod, Nat.mod_eq_of_lt (by omega)] at this
  omega
theorem finV_finV (hp : IsPr p) (a : Fin p) : finV (finV a) = a := by
  by_cases h : a = 0
  · subst h
    have e : finV (0 : Fin p) = 0 := by unfold finV; rw [if_pos rfl]
    rw [e, e]
  · have h1 := finV_mul hp h
    have h2 := finV_mul hp (finV_ne hp h)
    calc finV (finV a) = (a * finV a) * finV (finV a) := by rw [h1, Fin.one_mul]
      _ = a * (finV a * finV (finV a)) := Fin.mul_assoc _ _ _
      _ = a := by rw [h2, Fin.mul_one]
def finZ (a : Fin p) : Int → Fin p
  | .ofNat n => a ^ n
  | .negSucc n => finV (a ^ (n + 1))
@[reducible] def finField (hp : IsPr p) : Field (Fin p) where
  inv := finV
  div a b := a * finV b
  zpow := ⟨finZ⟩
  div_eq_mul_inv _ _ := rfl
  zero_ne_one := by
    intro k
    have := congrArg Fin.val k
    have h2 := hp.1
    have e1 : (1 : Fin p).val = 1 % p := rfl
    have e0 : (0 : Fin p).val = 0 % p := rfl
    rw [e1, e0, Nat.zero_mod, Nat.mod_eq_of_lt (by omega)] at this
    omega
  inv_zero := by show finV 0 = 0; unfold finV; rw [if_pos rfl]
  mul_inv_cancel h := finV_mul hp h
  zpow_zero _ := rfl
  zpow_succ _ _ := rfl
  zpow_neg a n := by
    show finZ a (-n) = finV (finZ a n)
    match n with
    | .ofNat 0 =>
      show (1 : Fin p) = finV 1
      have h1 : (1 : Fin p) ≠ 0 := by
        intro k
        have := congrArg Fin.val k
        have h2 := hp.1
        have e1 : (1 : Fin p).val = 1 % p := rfl
        have e0 : (0 : Fin p).val = 0 % p := rfl
        rw [e1, e0, Nat.zero_mod, Nat.mod_eq_of_lt (by omega)] at this
        omega
      have := finV_mul hp h1
      rw [Fin.one_mul] at this
      exact this.symm
    | .ofNat (n + 1) => rfl
    | .negSucc n =>
      show a ^ (n + 1) = finV (finV (a ^ (n + 1)))
      rw [finV_finV hp]
end finf
/-- what the law wants of the field -/
structure Mod (F : Type) [Field F] : Prop where
  nice : Nice F
  zer : ∀ n : Int, (ic n : F) = 0 ↔ n.fmod P = 0
end Mine
end SFinF

section SFinP
set_option maxRecDepth 100000
namespace Mine
open Lean.Grind
theorem fin_nice {p : Nat} [NeZero p] (hp : IsPr p) (h2 : 2 % p ≠ 0) (hc : ∀ x : Nat, ¬ p ∣ x ^ 3 + 7) : @Nice (Fin p) (finField hp) := by
  refine @Nice.mk (Fin p) (finField hp) ?_ ?_
  · intro k
    have k' : (Fin.ofNat p 2) = (Fin.ofNat p 0) := k
    have := congrArg Fin.val k'
    rw [Fin.val_ofNat, Fin.val_ofNat, Nat.zero_mod] at this
    exact h2 this
  · intro x k
    have k' : x * x * x + Fin.ofNat p 7 = Fin.ofNat p 0 := k
    have e := congrArg Fin.val k'
    rw [Fin.val_add, Fin.val_mul, Fin.val_mul, Fin.val_ofNat, Fin.val_ofNat, Nat.zero_mod] at e
    apply hc x.val
    apply Nat.dvd_of_mod_eq_zero
    rw [← e, Nat.pow_succ, Nat.pow_succ, Nat.pow_one]
    simp [Nat.add_mod, Nat.mul_mod]
theorem fin_zer {p : Nat} [NeZero p] (hp : IsPr p) (n : Int) : (@ic (Fin p) (finField hp).toCommRing n : Fin p) = 0 ↔ n % (p : Int) = 0 :=
  IsCharP.intCast_eq_zero_iff (α := Fin p) p n
theorem nzPN : NeZero PN := ⟨by decide⟩
@[reducible] def fieldP : Field (Fin PN) := @finField PN nzPN pr_PN
theorem mod_PN : @Mod (Fin PN) fieldP := by
  refine @Mod.mk (Fin PN) fieldP (@fin_nice PN nzPN pr_PN (by decide) (fun x h => no_cube h)) ?_
  intro n
  rw [Int.fmod_eq_emod_of_nonneg _ (by decide)]
  exact @fin_zer PN nzPN pr_PN n
end Mine
end SFinP

section SLink
set_option maxRecDepth 100000
namespace Mine
open Lean.Grind
section link
variable {F : Type} [Field F]
theorem ic_add (a b : Int) : (ic (a + b) : F) = ic a + ic b := Ring.intCast_add a b
theorem ic_sub (a b : Int) : (ic (a - b) : F) = ic a - ic b := Ring.intCast_sub a b
theorem ic_mul (a b : Int) : (ic (a * b) : F) = ic a * ic b := Ring.intCast_mul a b
theorem ic_neg (a : Int) : (ic (-a) : F) = -ic a := Ring.intCast_neg a
theorem ic_pow (a : Int) (k : Nat) : (ic (a ^ k) : F) = ic a ^ k := Ring.intCast_pow a k
theorem ic_8 : (ic 8 : F) = 8 := Ring.intCast_ofNat 8
theorem ic_4 : (ic 4 : F) = 4 := Ring.intCast_ofNat 4
variable (M : Mod F)
include M
theorem ic_P : (ic P : F) = 0 := (M.zer P).mpr (by decide)
theorem ic_fmod (n : Int) : (ic (n.fmod P) : F) = ic n := by
  have h := Int.mul_fdiv_add_fmod n P
  have e : (ic n : F) = ic (P * n.fdiv P + n.fmod P) := by rw [h]
  rw [e, ic_add, ic_mul, ic_P M, Semiring.zero_mul, Semiring.add_comm, Semiring.add_zero]
theorem ic_eq {a b : Int} : (ic a : F) = ic b ↔ a.fmod P = b.fmod P := by
  constructor
  · intro h
    have h1 : (ic (a - b) : F) = 0 := by rw [ic_sub, h]; grind
    have h2 := (M.zer _).mp h1
    rw [Int.fmod_eq_emod_of_nonneg _ (by decide)] at *
    rw [Int.fmod_eq_emod_of_nonneg _ (by decide)]
    exact Int.emod_eq_emod_iff_emod_sub_eq_zero.mpr h2
  · intro h
    rw [← ic_fmod M a, ← ic_fmod M b, h]
theorem ic_inj {a b : Int} (ha : InP a) (hb : InP b) (h : (ic a : F) = ic b) : a = b := by
  have h1 := (ic_eq M).mp h
  rw [Int.fmod_eq_of_lt ha.1 ha.2, Int.fmod_eq_of_lt hb.1 hb.2] at h1
  exact h1
theorem ic_ne {a : Int} (ha : InP a) (h : a ≠ 0) : (ic a : F) ≠ 0 := by
  intro k
  exact h (ic_inj M ha (by unfold InP; decide) (by rw [k, ic_zero]))
omit M in
theorem ne_of_ic {a : Int} (h : (ic a : F) ≠ 0) : a ≠ 0 := fun k => h (by rw [k, ic_zero])

/-- t tells the affine point (x, y) in three coordinates -/
structure Jac (t : T3) (x y : F) : Prop where
  rng : In3 t
  z : (ic t.2.2 : F) ≠ 0
  hx : (ic t.1 : F) = x * (ic t.2.2 * ic t.2.2)
  hy : (ic t.2.1 : F) = y * (ic t.2.2 * ic t.2.2 * ic t.2.2)
  c : y * y = x * x * x + 7
theorem Jac.y_ne {t : T3} {x y : F} (J : Jac t x y) : (ic t.2.1 : F) ≠ 0 := by
  rw [J.hy]
  exact mul_ne (Mine.y_ne M.nice J.c) (mul_ne (mul_ne J.z J.z) J.z)
theorem Jac.y0 {t : T3} {x y : F} (J : Jac t x y) : t.2.1 ≠ 0 := ne_of_ic (J.y_ne M)
theorem Jac.some {t : T3} {x y : F} (J : Jac t x y) : isNone t = false := by
  have h := J.y0 M
  unfold isNone
  have h1 : t ≠ (0, 0, 0) := fun k => h (by rw [k])
  have h2 : t ≠ (0, 0, 1) := fun k => h (by rw [k])
  simp [h1, h2]
omit M in
theorem none_cases {t : T3} (h : isNone t = true) : t = (0, 0, 0) ∨ t = (0, 0, 1) := by
  unfold isNone at h
  simpa using h
theorem mkJac {t : T3} (ht : In3 t) {K d nx ny : F} (hK : K ≠ 0) (hd : d ≠ 0) (ez : (ic t.2.2 : F) = K * d) (ex : (ic t.1 : F) = K * K * nx) (ey : (ic t.2.1 : F) = K * K * K * ny)
    (c : ny * ny = nx * (nx * nx) + 7 * (d * (d * d) * (d * (d * d)))) : ∃ x y : F, Jac t x y ∧ x * (d * d) = nx ∧ y * (d * d * d) = ny := by
  have e := Field.mul_inv_cancel hd
  refine ⟨nx * (d⁻¹ * d⁻¹), ny * (d⁻¹ * d⁻¹ * d⁻¹), ⟨ht, ?_, ?_, ?_, ?_⟩, ?_, ?_⟩
  · rw [ez]; exact mul_ne hK hd
  · rw [ex, ez]; grind
  · rw [ey, ez]; grind
  · have : ny * (d⁻¹ * d⁻¹ * d⁻¹) * (ny * (d⁻¹ * d⁻¹ * d⁻¹)) = ny * ny * (d⁻¹ * d⁻¹ * d⁻¹ * (d⁻¹ * d⁻¹ * d⁻¹)) := by grind
    rw [this, c]; grind
  · grind
  · grind
/-- double -/
theorem jac_dbl {a : T3} {x y : F} (J : Jac a x y) : ∃ x' y' : F, Jac (jdbl a) x' y' ∧ adE (pa x y) (pa x y) = pa x' y' := by
  have hy := Mine.y_ne M.nice J.c
  have h2y : 2 * y ≠ 0 := mul_ne M.nice.two hy
  have hz := J.z
  have hx := J.hx
  have hY := J.hy
  have c := J.c
  have hin : In3 (jdbl a) := In3.dbl a
  have hk : (ic a.2.2 : F) * ic a.2.2 * (ic a.2.2 * ic a.2.2) ≠ 0 := mul_ne (mul_ne hz hz) (mul_ne hz hz)
  have ez : (ic (jdbl a).2.2 : F) = ic a.2.2 * ic a.2.2 * (ic a.2.2 * ic a.2.2) * (2 * y) := by
    unfold jdbl; rw [if_neg (J.y0 M)]
    simp only [ic_fmod M, ic_mul, ic2, hY]
    grind
  have ex : (ic (jdbl a).1 : F) = ic a.2.2 * ic a.2.2 * (ic a.2.2 * ic a.2.2) * (ic a.2.2 * ic a.2.2 * (ic a.2.2 * ic a.2.2)) * (9 * (x * x * (x * x)) - 8 * (x * (y * y))) := by
    unfold jdbl; rw [if_neg (J.y0 M)]
    simp only [ic_fmod M, ic_mul, ic_sub, ic_add, ic_pow, ic2, ic3, ic_4, ic_zero, hY, hx]
    grind
  have ey : (ic (jdbl a).2.1 : F) = ic a.2.2 * ic a.2.2 * (ic a.2.2 * ic a.2.2) * (ic a.2.2 * ic a.2.2 * (ic a.2.2 * ic a.2.2)) * (ic a.2.2 * ic a.2.2 * (ic a.2.2 * ic a.2.2)) * (36 * (x * x * x * (y * y)) - 27 * (x * x * x * (x * x * x)) - 8 * (y * y * (y * y))) := by
    unfold jdbl; rw [if_neg (J.y0 M)]
    simp only [ic_fmod M, ic_mul, ic_sub, ic_add, ic_pow, ic2, ic3, ic_4, ic_8, ic_zero, hY, hx]
    grind
  have ed : 36 * (x * x * x * (y * y)) - 27 * (x * x * x * (x * x * x)) - 8 * (y * y * (y * y)) = dY y := by
    unfold dY
    have : x * x * x = y * y - 7 := by rw [c]; grind
    rw [this]; grind
  rw [ed] at ey
  obtain ⟨x', y', J', e1, e2⟩ := mkJac M hin hk h2y ez ex ey (onD_F c)
  refine ⟨x', y', J', ?_⟩
  rw [ad_pa M.nice c c]
  obtain ⟨dX, dYY, dZ⟩ := dbl_F c
  have hn := aY_ne M.nice c c
  have hy' := Mine.y_ne M.nice J'.c
  rw [dX, dYY, dZ]
  rw [dYY] at hn
  unfold pa
  rw [div_eq (c := x') (d := y') hn hy' (by rw [← e1, ← e2]; grind), div_eq (c := (1 : F)) (d := y') hn hy' (by rw [← e2]; grind)]
end link
end Mine
end SLink

section SLink2
set_option maxRecDepth 100000
namespace Mine
open Lean.Grind
section link
variable {F : Type} [Field F] (M : Mod F)
include M
theorem jac_cross {a b : T3} {x1 y1 x2 y2 : F} (J : Jac a x1 y1) (K : Jac b x2 y2) :
    ((a.1 * b.2.2 ^ 2).fmod P = (b.1 * a.2.2 ^ 2).fmod P ↔ x1 = x2) ∧ ((a.2.1 * b.2.2 ^ 3).fmod P = (b.2.1 * a.2.2 ^ 3).fmod P ↔ y1 = y2) := by
  have hz := J.z
  have hw := K.z
  have hk := mul_ne hz hw
  rw [← ic_eq M, ← ic_eq M]
  simp only [ic_mul, ic_pow, J.hx, J.hy, K.hx, K.hy]
  constructor
  · constructor
    · intro h
      refine mul_left_cancel' (mul_ne hk hk) ?_
      grind
    · intro h; subst h; grind
  · constructor
    · intro h
      refine mul_left_cancel' (mul_ne hk (mul_ne hk hk)) ?_
      grind
    · intro h; subst h; grind
/-- the chord -/
theorem jac_ne {a b : T3} {x1 y1 x2 y2 : F} (J : Jac a x1 y1) (K : Jac b x2 y2) (hx : x1 ≠ x2) :
    ∃ x' y' : F, Jac (jadd a b) x' y' ∧ adE (pa x1 y1) (pa x2 y2) = pa x' y' ∧ x' * ((x2 - x1) * (x2 - x1)) = nX x1 x2 (y2 - y1) ∧ y' * ((x2 - x1) * (x2 - x1) * (x2 - x1)) = nY x1 y1 x2 (y2 - y1) := by
  have hd : x2 - x1 ≠ 0 := by
    intro k; apply hx; grind
  have hz := J.z
  have hw := K.z
  have e1 := J.hx
  have e2 := J.hy
  have e3 := K.hx
  have e4 := K.hy
  have c1 := J.c
  have c2 := K.c
  have hk := mul_ne hz hw
  have hin : In3 (jadd a b) := In3.add J.rng K.rng
  have hne : (a.1 * b.2.2 ^ 2).fmod P ≠ (b.1 * a.2.2 ^ 2).fmod P := fun k => hx ((jac_cross M J K).1.mp k)
  have hj := jadd_4 (J.y0 M) (K.y0 M) hne
  have ez : (ic (jadd a b).2.2 : F) = (ic a.2.2 * ic b.2.2) * ((ic a.2.2 * ic b.2.2) * (ic a.2.2 * ic b.2.2)) * (x2 - x1) := by
    rw [hj]
    simp only [ic_fmod M, ic_mul, ic_sub, ic_pow, e1, e3]
    grind
  have ex : (ic (jadd a b).1 : F) = (ic a.2.2 * ic b.2.2) * ((ic a.2.2 * ic b.2.2) * (ic a.2.2 * ic b.2.2)) * ((ic a.2.2 * ic b.2.2) * ((ic a.2.2 * ic b.2.2) * (ic a.2.2 * ic b.2.2))) * nX x1 x2 (y2 - y1) := by
    rw [hj]
    simp only [ic_fmod M, ic_mul, ic_sub, ic_pow, ic2, e1, e2, e3, e4, nX]
    grind
  have ey : (ic (jadd a b).2.1 : F) = (ic a.2.2 * ic b.2.2) * ((ic a.2.2 * ic b.2.2) * (ic a.2.2 * ic b.2.2)) * ((ic a.2.2 * ic b.2.2) * ((ic a.2.2 * ic b.2.2) * (ic a.2.2 * ic b.2.2))) * ((ic a.2.2 * ic b.2.2) * ((ic a.2.2 * ic b.2.2) * (ic a.2.2 * ic b.2.2))) * nY x1 y1 x2 (y2 - y1) := by
    rw [hj]
    simp only [ic_fmod M, ic_mul, ic_sub, ic_pow, ic2, e1, e2, e3, e4, nX, nY]
    generalize (ic a.2.2 : F) = z
    generalize (ic b.2.2 : F) = w
    grind
  obtain ⟨x', y', J', f1, f2⟩ := mkJac M hin (mul_ne hk (mul_ne hk hk)) hd ez ex ey (onC_F c1 c2)
  refine ⟨x', y', J', ?_, f1, f2⟩
  rw [ad_pa M.nice c1 c2]
  have hn := aY_ne M.nice c1 c2
  have hy' := Mine.y_ne M.nice J'.c
  have g1 := chX_F c1 c2
  have g2 := chZ_F c1 c2
  rw [← f1, ← f2] at g1
  rw [← f2] at g2
  unfold pa
  have hd3 : (x2 - x1) * (x2 - x1) * (x2 - x1) ≠ 0 := mul_ne (mul_ne hd hd) hd
  rw [div_eq (c := x') (d := y') hn hy' (mul_left_cancel' hd3 (by grind)), div_eq (c := (1 : F)) (d := y') hn hy' (mul_left_cancel' hd3 (by grind))]
/-- opposite points -/
theorem jac_opp {a b : T3} {x y1 y2 : F} (J : Jac a x y1) (K : Jac b x y2) (hy : y1 ≠ y2) : jadd a b = (0, 0, 1) ∧ adE (pa x y1) (pa x y2) = OE := by
  refine ⟨jadd_2 (J.y0 M) (K.y0 M) ((jac_cross M J K).1.mpr rfl) (fun k => hy ((jac_cross M J K).2.mp k)), ?_⟩
  rcases y_eq J.c K.c with k | k
  · exact absurd k.symm hy
  · subst k
    rw [ad_pa M.nice J.c K.c, (opp_F J.c).1, (opp_F J.c).2.2, Field.div_eq_mul_inv, Semiring.zero_mul]
    rfl
theorem jac_same {a b : T3} {x y : F} (J : Jac a x y) (K : Jac b x y) : jadd a b = jdbl a :=
  jadd_3 (J.y0 M) (K.y0 M) ((jac_cross M J K).1.mpr rfl) ((jac_cross M J K).2.mpr rfl)

/-- t tells the point p: nothing, or an affine point -/
def Rep (t : T3) (p : F × F) : Prop := (isNone t = true ∧ p = OE) ∨ ∃ x y, Jac t x y ∧ p = pa x y
omit M in
theorem Rep.none0 : Rep (0, 0, 0) (OE : F × F) := .inl ⟨rfl, rfl⟩
omit M in
theorem Rep.none1 : Rep (0, 0, 1) (OE : F × F) := .inl ⟨rfl, rfl⟩
theorem Rep.on {t : T3} {p : F × F} (h : Rep t p) : OnE p := by
  rcases h with ⟨_, rfl⟩ | ⟨x, y, J, rfl⟩
  · exact onE_O
  · exact onE_pa (Mine.y_ne M.nice J.c) J.c
theorem Rep.add {a b : T3} {p q : F × F} (h : Rep a p) (k : Rep b q) : Rep (jadd a b) (adE p q) := by
  rcases h with ⟨na, rfl⟩ | ⟨x1, y1, J, rfl⟩
  · rw [adE_O']
    have : jadd a b = b := by rcases none_cases na with rfl | rfl <;> exact jadd_0 rfl
    rw [this]; exact k
  rcases k with ⟨nb, rfl⟩ | ⟨x2, y2, K, rfl⟩
  · rw [adE_O]
    have : jadd a b = a := by rcases none_cases nb with rfl | rfl <;> exact jadd_1 (J.y0 M) rfl
    rw [this]; exact .inr ⟨x1, y1, J, rfl⟩
  by_cases hx : x1 = x2
  · subst hx
    by_cases hy : y1 = y2
    · subst hy
      rw [jac_same M J K]
      obtain ⟨x', y', J', e⟩ := jac_dbl M J
      exact .inr ⟨x', y', J', e⟩
    · obtain ⟨e1, e2⟩ := jac_opp M J K hy
      rw [e1, e2]; exact Rep.none1
  · obtain ⟨x', y', J', e, _⟩ := jac_ne M J K hx
    exact .inr ⟨x', y', J', e⟩
theorem Rep.dbl {a : T3} {p : F × F} (h : Rep a p) : Rep (jdbl a) (adE p p) := by
  rcases h with ⟨na, rfl⟩ | ⟨x1, y1, J, rfl⟩
  · rw [adE_O]
    have : jdbl a = (0, 0, 0) := by rcases none_cases na with rfl | rfl <;> exact jdbl_0 rfl
    rw [this]; exact Rep.none0
  · obtain ⟨x', y', J', e⟩ := jac_dbl M J
    exact .inr ⟨x', y', J', e⟩
theorem Rep.mul {a : T3} {p : F × F} (h : Rep a p) (n : Nat) : Rep (jmul a n) (nmE p n) := by
  induction n using Nat.strongRecOn with
  | ind n ih =>
    have hp := h.on M
    unfold jmul
    split
    · rename_i c
      have e : nmE p n = OE := by
        rcases c with c | c
        · rcases h with ⟨_, rfl⟩ | ⟨x, y, J, _⟩
          · exact nmE_O M.nice n
          · exact absurd c (J.y0 M)
        · subst c; rfl
      rw [e]; exact Rep.none1
    rename_i c
    split
    · rename_i c1
      subst c1
      rw [nmE_one]; exact h
    split
    · rename_i c1 c2
      have := (ih (n / 2) (by omega)).dbl M
      rw [← nmE_add M.nice hp, show n / 2 + n / 2 = n by omega] at this
      exact this
    · rename_i c1 c2
      have := ((ih (n / 2) (by omega)).dbl M).add M h
      rw [← nmE_add M.nice hp] at this
      have e : adE (nmE p (n / 2 + n / 2)) p = nmE p n := by
        have : n = (n / 2 + n / 2) + 1 := by omega
        rw [this]
        have e2 : ((n / 2 + n / 2) + 1) / 2 + ((n / 2 + n / 2) + 1) / 2 = n / 2 + n / 2 := by omega
        show adE (nmE p (((n / 2 + n / 2) + 1) / 2 + ((n / 2 + n / 2) + 1) / 2)) p = adE (nmE p (n / 2 + n / 2)) p
        rw [e2]
      rw [e] at this
      exact this
omit M in
theorem pa_inj {x y x' y' : F} (h : y ≠ 0) (h' : y' ≠ 0) (e : pa x y = pa x' y') : x = x' ∧ y = y' := by
  unfold pa at e
  have e1 := congrArg Prod.fst e
  have e2 := congrArg Prod.snd e
  dsimp only at e1 e2
  rw [Field.div_eq_mul_inv, Field.div_eq_mul_inv] at e1 e2
  have i1 := Field.mul_inv_cancel h
  have i2 := Field.mul_inv_cancel h'
  have ey : y⁻¹ = y'⁻¹ := by grind
  have eyy : y = y' := by grind
  refine ⟨?_, eyy⟩
  rw [← ey] at e1
  grind
omit M in
theorem pa_ne {x y : F} (h : y ≠ 0) : pa x y ≠ OE := by
  intro e
  have e2 := congrArg Prod.snd e
  unfold pa OE at e2
  dsimp only at e2
  rw [Field.div_eq_mul_inv] at e2
  have i1 := Field.mul_inv_cancel h
  have := Field.zero_ne_one (α := F)
  grind
theorem Rep.same {a b : T3} {p : F × F} (h : Rep a p) (k : Rep b p) : same a b = true := by
  rcases h with ⟨na, rfl⟩ | ⟨x1, y1, J, rfl⟩
  · rcases k with ⟨nb, _⟩ | ⟨x2, y2, K, e⟩
    · unfold Mine.same; simp [na, nb]
    · exact absurd e.symm (pa_ne (Mine.y_ne M.nice K.c))
  · rcases k with ⟨nb, e⟩ | ⟨x2, y2, K, e⟩
    · exact absurd e (pa_ne (Mine.y_ne M.nice J.c))
    · obtain ⟨rfl, rfl⟩ := pa_inj (Mine.y_ne M.nice J.c) (Mine.y_ne M.nice K.c) e
      have n1 := J.some M
      have n2 := K.some M
      have z1 : a.2.2.fmod P ≠ 0 := fun k => J.z ((M.zer _).mpr k)
      have z2 : b.2.2.fmod P ≠ 0 := fun k => K.z ((M.zer _).mpr k)
      have c := J.c
      have e1 : (a.2.1 ^ 2 - a.1 ^ 3 - 7 * a.2.2 ^ 6).fmod P = 0 := by
        rw [← M.zer]
        simp only [ic_sub, ic_mul, ic_pow, ic7, J.hx, J.hy]
        grind
      have e2 : (a.1 * b.2.2 ^ 2 - b.1 * a.2.2 ^ 2).fmod P = 0 := by
        rw [← M.zer]
        simp only [ic_sub, ic_mul, ic_pow, J.hx, K.hx]
        grind
      have e3 : (a.2.1 * b.2.2 ^ 3 - b.2.1 * a.2.2 ^ 3).fmod P = 0 := by
        rw [← M.zer]
        simp only [ic_sub, ic_mul, ic_pow, J.hy, K.hy]
        grind
      unfold Mine.same
      simp [n1, n2, z1, z2, e1, e2, e3]
theorem Rep.none {t : T3} (h : Rep t (OE : F × F)) : isNone t = true := by
  rcases h with ⟨n, _⟩ | ⟨x, y, J, e⟩
  · exact n
  · exact absurd e.symm (pa_ne (Mine.y_ne M.nice J.c))
end link
end Mine
end SLink2

section SLink3
set_option maxRecDepth 100000
namespace Mine
open Lean.Grind
theorem pr_dvd {d a : Int} (ha : 0 < a) (hb : a < P) (h1 : d ∣ a) (h2 : d ∣ P) : d ∣ 1 := by
  have h3 : d.natAbs ∣ PN := by
    have := Int.natAbs_dvd_natAbs.mpr h2
    exact this
  rcases pr_PN.2 _ h3 with e | e
  · rw [← Int.natAbs_dvd_natAbs, e]; exact Nat.dvd_refl 1
  · exfalso
    have h4 : d.natAbs ∣ a.natAbs := Int.natAbs_dvd_natAbs.mpr h1
    have h5 := Nat.le_of_dvd (by omega) h4
    rw [e] at h5
    have h6 : (PN : Int) ≤ a := by omega
    have h7 : P = (PN : Int) := rfl
    omega
section link
variable {F : Type} [Field F] (M : Mod F)
include M
theorem invGo_ok (A : F) : ∀ (n : Nat) (lm low hm high : Int), low.toNat = n → 0 ≤ low → 1 < high → (∀ d : Int, d ∣ low → d ∣ high → d ∣ 1) → ic lm * A = ic low → ic hm * A = ic high → (ic (invGo lm low hm high) : F) * A = 1 := by
  intro n
  induction n using Nat.strongRecOn with
  | ind n ih =>
    intro lm low hm high hn h0 h1 hd e1 e2
    by_cases hl : low > 1
    · rw [invGo_step hl]
      have e : high.fmod low = high - low * high.fdiv low := by
        have := Int.mul_fdiv_add_fmod high low; omega
      have g2 := Int.fmod_lt_of_pos high (b := low) (by omega)
      have g3 := Int.fmod_nonneg_of_pos high (b := low) (by omega)
      refine ih (high - low * high.fdiv low).toNat (by omega) _ _ _ _ rfl (by omega) hl ?_ ?_ e1
      · intro d h2 h3
        refine hd d h3 ?_
        have : d ∣ low * high.fdiv low := Int.dvd_trans h3 (Int.dvd_mul_right _ _)
        have := Int.dvd_add h2 this
        rwa [Int.sub_add_cancel] at this
      · simp only [ic_sub, ic_mul]
        rw [← e1, ← e2]; grind
    · rw [invGo_stop hl]
      have hl0 : low ≠ 0 := by
        intro z
        have := hd high (by rw [z]; exact Int.dvd_zero _) (Int.dvd_refl _)
        have := Int.le_of_dvd (by decide) this
        omega
      have : low = 1 := by omega
      rw [e1, this, ic1]
theorem inv_ok {a : Int} (ha : InP a) (h0 : a ≠ 0) : (ic (Mine.inv a P) : F) * ic a = 1 := by
  unfold Mine.inv
  rw [if_neg h0, ic_fmod M]
  have e : a.fmod P = a := Int.fmod_eq_of_lt ha.1 ha.2
  refine invGo_ok M (ic a) _ _ _ _ _ rfl (by rw [e]; exact ha.1) (by decide) ?_ ?_ ?_
  · intro d h1 h2
    rw [e] at h1
    have := ha.1
    exact pr_dvd (by omega) ha.2 h1 h2
  · rw [ic1, Semiring.one_mul, ic_fmod M]
  · rw [ic_zero, Semiring.zero_mul, ic_P M]
theorem Jac.fromJ {t : T3} {x y : F} (J : Jac t x y) : (ic (fromJ t).1 : F) = x ∧ (ic (fromJ t).2 : F) = y := by
  have h := inv_ok M J.rng.2.2 (ne_of_ic J.z)
  have hx := J.hx
  have hy := J.hy
  unfold Mine.fromJ
  simp only [ic_fmod M, ic_mul, ic_pow]
  constructor
  · rw [hx]; grind
  · rw [hy]; grind
theorem curve_of {u : Int × Int} (h : onB u = false) : (ic u.2 : F) * ic u.2 = ic u.1 * ic u.1 * ic u.1 + 7 := by
  unfold onB at h
  have h1 : (u.2 * u.2 - u.1 * u.1 * u.1 - 7).fmod P = 0 := by
    have := _root_.of_decide_eq_false h
    exact Classical.not_not.mp this
  rw [← M.zer (F := F)] at h1
  simp only [ic_sub, ic_mul, ic7] at h1
  grind
theorem jac_told {w : Int × Int} (c : (ic w.2 : F) * ic w.2 = ic w.1 * ic w.1 * ic w.1 + 7) (z : Int) : Jac (told w z) (ic w.1 : F) (ic w.2) := by
  have hr : In3 (told w z) := In3.told w z
  have h1 := Int.fmod_nonneg_of_pos z (b := P - 1) (by decide)
  refine ⟨hr, ic_ne M hr.2.2 ?_, ?_, ?_, c⟩
  · show 1 + z.fmod (P - 1) ≠ 0; omega
  · show (ic ((w.1 * (1 + z.fmod (P - 1)) * (1 + z.fmod (P - 1))).fmod P) : F) = ic w.1 * (ic (1 + z.fmod (P - 1)) * ic (1 + z.fmod (P - 1)))
    simp only [ic_fmod M, ic_mul]; grind
  · show (ic ((w.2 * (1 + z.fmod (P - 1)) * (1 + z.fmod (P - 1)) * (1 + z.fmod (P - 1))).fmod P) : F) = ic w.2 * (ic (1 + z.fmod (P - 1)) * ic (1 + z.fmod (P - 1)) * ic (1 + z.fmod (P - 1)))
    simp only [ic_fmod M, ic_mul]; grind
theorem jac_turned {t : T3} {x y : F} (J : Jac t x y) : Jac (turned t) x (-y) := by
  have c := J.c
  refine ⟨In3.turned J.rng, J.z, J.hx, ?_, by grind⟩
  show (ic ((P - t.2.1).fmod P) : F) = -y * (ic t.2.2 * ic t.2.2 * ic t.2.2)
  simp only [ic_fmod M, ic_sub, ic_P M, J.hy]
  grind
theorem jac_one {u : Int × Int} (hu : In2 u) (c : (ic u.2 : F) * ic u.2 = ic u.1 * ic u.1 * ic u.1 + 7) : Jac (u.1, u.2, 1) (ic u.1 : F) (ic u.2) := by
  have h1 : InP 1 := ⟨by decide, by decide⟩
  refine ⟨⟨hu.1, hu.2, h1⟩, ic_ne M h1 (show (1 : Int) ≠ 0 by decide), ?_, ?_, c⟩
  · show (ic u.1 : F) = ic u.1 * (ic 1 * ic 1); rw [ic1]; grind
  · show (ic u.2 : F) = ic u.2 * (ic 1 * ic 1 * ic 1); rw [ic1]; grind
theorem Rep.fromJ_eq {a b : T3} {p : F × F} (h : Rep a p) (k : Rep b p) : fromJ a = fromJ b := by
  have f0 : fromJ (0, 0, 0) = (0, 0) := by unfold fromJ; simp
  have f1 : fromJ (0, 0, 1) = (0, 0) := by unfold fromJ; simp
  rcases h with ⟨na, rfl⟩ | ⟨x1, y1, J, rfl⟩
  · rcases k with ⟨nb, _⟩ | ⟨x2, y2, K, e⟩
    · have g : ∀ {t : T3}, isNone t = true → fromJ t = (0, 0) := by
        intro t ht
        rcases none_cases ht with rfl | rfl
        · exact f0
        · exact f1
      rw [g na, g nb]
    · exact absurd e.symm (pa_ne (Mine.y_ne M.nice K.c))
  · rcases k with ⟨nb, e⟩ | ⟨x2, y2, K, e⟩
    · exact absurd e (pa_ne (Mine.y_ne M.nice J.c))
    · obtain ⟨rfl, rfl⟩ := pa_inj (Mine.y_ne M.nice J.c) (Mine.y_ne M.nice K.c) e
      have i1 := In2.fromJ a
      have i2 := In2.fromJ b
      have j1 := J.fromJ M
      have j2 := K.fromJ M
      exact Prod.ext (ic_inj M i1.1 i2.1 (j1.1.trans j2.1.symm)) (ic_inj M i1.2 i2.2 (j1.2.trans j2.2.symm))
end link
end Mine
end SLink3

section SLawFT
set_option maxRecDepth 100000
namespace Mine
open Lean.Grind
/-- a root of x^2 + x + 1, as the law reckons it -/
def RHO : Int := 60197513588986302554485582024885075108884032450952339817679072026166228089408
structure LawF (u v : Int × Int) (p q r : T3) (m n : Int) : Prop where
  c1 : same (jadd p q) (jadd q p) = true
  c2 : same (jadd (jadd p q) r) (jadd p (jadd q r)) = true
  c3 : same (jadd p q) (jadd p q) = true
  n1 : u.1 = v.1 → u.2 ≠ v.2 → isNone (jadd p q) = true
  n2 : u.1 = v.1 → u.2 = v.2 → isNone (jadd p q) = false
  n3 : u.1 ≠ v.1 → isNone (jadd p q) = false
  d1 : same (jadd p (0, 0, 0)) p = true
  d2 : same (jadd (0, 0, 0) p) p = true
  d3 : isNone (jadd (0, 0, 0) (0, 0, 0)) = true
  d4 : isNone (jdbl (0, 0, 0)) = true
  d5 : isNone (jmul (0, 0, 0) m.toNat) = true
  e1 : same (jadd p (0, 0, 1)) p = true
  e2 : same (jadd (0, 0, 1) p) p = true
  e3 : isNone (jadd (0, 0, 1) (0, 0, 1)) = true
  e4 : isNone (jdbl (0, 0, 1)) = true
  e5 : isNone (jmul (0, 0, 1) m.toNat) = true
  f1 : isNone (jadd p (turned (told u 77))) = true
  f2 : same (jadd p (told u 78)) (jdbl p) = true
  g1 : u.1 ≠ 0 → isNone (jadd (jadd p (told ((u.1 * RHO).fmod P, u.2) 5)) (told ((u.1 * RHO * RHO).fmod P, u.2) 6)) = true
  g2 : u.1 ≠ 0 → same (jadd p (told ((u.1 * RHO).fmod P, u.2) 5)) (turned (told ((u.1 * RHO * RHO).fmod P, u.2) 6)) = true
  h1 : same (jmul (jadd p q) m.toNat) (jadd (jmul p m.toNat) (jmul q m.toNat)) = true
  h2 : same (jmul p (m + n).toNat) (jadd (jmul p m.toNat) (jmul p n.toNat)) = true
  h3 : same (jmul (jmul p m.toNat) n.toNat) (jmul p (m * n).toNat) = true
  k1 : same (jmul p (Int.toNat 2)) (jdbl p) = true
  k2 : same (jmul p (Int.toNat 1)) p = true
  k3 : isNone (jmul p (Int.toNat 0)) = true
  l1 : u.1 ≠ v.1 → ((v.1 - u.1) * (-(fromJ (jadd p q)).2 - u.2) - (v.2 - u.2) * ((fromJ (jadd p q)).1 - u.1)).fmod P = 0
  l2 : isNone (jadd p q) = false → ((fromJ (jadd p q)).1 * (jadd p q).2.2 ^ 2 - (jadd p q).1).fmod P = 0
  l3 : isNone (jadd p q) = false → ((fromJ (jadd p q)).2 * (jadd p q).2.2 ^ 3 - (jadd p q).2.1).fmod P = 0
  o1 : fromJ (jadd (u.1, u.2, 1) (v.1, v.2, 1)) = fromJ (jadd p q)
theorem rho_F : (RHO * RHO + RHO + 1).fmod P = 0 := by decide +kernel
section law
variable {F : Type} [Field F] (M : Mod F)
include M
theorem rhoE : (ic RHO : F) * ic RHO + ic RHO + 1 = 0 := by
  have h := (M.zer (RHO * RHO + RHO + 1)).mpr rho_F
  simp only [ic_add, ic_mul, ic1] at h
  exact h
theorem three_ne : (3 : F) ≠ 0 := by
  intro h
  have e : (ic 3 : F) = 0 := by rw [ic3]; exact h
  have := (M.zer 3).mp e
  revert this; decide
/-- the three points of one height -/
theorem height {u : Int × Int} {p : T3} (J : Jac p (ic u.1 : F) (ic u.2)) (hu : In2 u) (h0 : u.1 ≠ 0) :
    Jac (told ((u.1 * RHO * RHO).fmod P, u.2) 6) (ic u.1 * ic RHO * ic RHO : F) (ic u.2) ∧ Jac (jadd p (told ((u.1 * RHO).fmod P, u.2) 5)) (ic u.1 * ic RHO * ic RHO : F) (-ic u.2) := by
  have hr := rhoE M
  have h3 := three_ne M
  have c := J.c
  have hx : (ic u.1 : F) ≠ 0 := ic_ne M hu.1 h0
  have r3 : (ic RHO : F) * ic RHO * ic RHO = 1 := by grind
  have cs : (ic u.2 : F) * ic u.2 = ic u.1 * ic RHO * (ic u.1 * ic RHO) * (ic u.1 * ic RHO) + 7 := by grind
  have ct : (ic u.2 : F) * ic u.2 = ic u.1 * ic RHO * ic RHO * (ic u.1 * ic RHO * ic RHO) * (ic u.1 * ic RHO * ic RHO) + 7 := by grind
  have e2 : (ic ((u.1 * RHO).fmod P) : F) = ic u.1 * ic RHO := by rw [ic_fmod M, ic_mul]
  have e3 : (ic ((u.1 * RHO * RHO).fmod P) : F) = ic u.1 * ic RHO * ic RHO := by rw [ic_fmod M, ic_mul, ic_mul]
  have K2 : Jac (told ((u.1 * RHO).fmod P, u.2) 5) (ic u.1 * ic RHO : F) (ic u.2) := by
    have := jac_told M (w := ((u.1 * RHO).fmod P, u.2)) (by dsimp only; rw [e2]; exact cs) 5
    dsimp only at this
    rwa [e2] at this
  have K3 : Jac (told ((u.1 * RHO * RHO).fmod P, u.2) 6) (ic u.1 * ic RHO * ic RHO : F) (ic u.2) := by
    have := jac_told M (w := ((u.1 * RHO * RHO).fmod P, u.2)) (by dsimp only; rw [e3]; exact ct) 6
    dsimp only at this
    rwa [e3] at this
  refine ⟨K3, ?_⟩
  have hne : (ic u.1 : F) ≠ ic u.1 * ic RHO := by
    intro k
    have : ic u.1 * (ic RHO : F) = ic u.1 * 1 := by rw [← k]; grind
    have := mul_left_cancel' hx this
    apply h3
    rw [this] at hr
    grind
  obtain ⟨x', y', J', _, f1, f2⟩ := jac_ne M J K2 hne
  have hd : (ic u.1 * ic RHO - ic u.1 : F) ≠ 0 := by intro k; apply hne; grind
  have ex : x' = ic u.1 * ic RHO * ic RHO := by
    refine mul_left_cancel' (mul_ne hd hd) ?_
    unfold nX at f1
    grind
  have ey : y' = -ic u.2 := by
    refine mul_left_cancel' (mul_ne (mul_ne hd hd) hd) ?_
    unfold nY at f2
    grind
  rw [ex, ey] at J'
  exact J'
theorem neg_ne {x y : F} (c : y * y = x * x * x + 7) : y ≠ -y := by
  intro k
  exact mul_ne M.nice.two (Mine.y_ne M.nice c) (by grind)
theorem lawF_gen {u v t : Int × Int} (hu : In2 u) (hv : In2 v) (ou : onB u = false) (ov : onB v = false) (ot : onB t = false) (zu zv zt m n : Int) (hm : 0 ≤ m) (hn : 0 ≤ n) :
    LawF u v (told u zu) (told v zv) (told t zt) m n := by
  have cu := curve_of M ou
  have cv := curve_of M ov
  have ct := curve_of M ot
  have Ju := jac_told M cu zu
  have Jv := jac_told M cv zv
  have Jt := jac_told M ct zt
  generalize told u zu = p at *
  generalize told v zv = q at *
  generalize told t zt = r at *
  have Rp : Rep p (pa (ic u.1 : F) (ic u.2)) := .inr ⟨_, _, Ju, rfl⟩
  have Rq : Rep q (pa (ic v.1 : F) (ic v.2)) := .inr ⟨_, _, Jv, rfl⟩
  have Rr : Rep r (pa (ic t.1 : F) (ic t.2)) := .inr ⟨_, _, Jt, rfl⟩
  have op := Rp.on M
  have oq := Rq.on M
  have orr := Rr.on M
  have Rpq := Rp.add M Rq
  have opq := Rpq.on M
  have J1 := jac_one M hu cu
  have J2 := jac_one M hv cv
  have eqp : ic u.1 = (ic v.1 : F) → u.1 = v.1 := ic_inj M hu.1 hv.1
  have eqq : ic u.2 = (ic v.2 : F) → u.2 = v.2 := ic_inj M hu.2 hv.2
  have Rn0 : Rep (0, 0, 0) (OE : F × F) := Rep.none0
  have Rn1 : Rep (0, 0, 1) (OE : F × F) := Rep.none1
  constructor
  case c1 => exact Rpq.same M (adE_comm (pa (ic u.1 : F) (ic u.2)) _ ▸ Rq.add M Rp)
  case c2 =>
    have h := Rpq.add M Rr
    rw [adE_assoc M.nice op oq orr] at h
    exact h.same M (Rp.add M (Rq.add M Rr))
  case c3 => exact Rpq.same M Rpq
  case n1 =>
    intro h1 h2
    rw [← h1] at Jv
    rw [(jac_opp M Ju Jv (fun k => h2 (eqq k))).1]; rfl
  case n2 =>
    intro h1 h2
    rw [← h1, ← h2] at Jv
    rw [jac_same M Ju Jv]
    obtain ⟨x', y', J', _⟩ := jac_dbl M Ju
    exact J'.some M
  case n3 =>
    intro h1
    obtain ⟨x', y', J', _⟩ := jac_ne M Ju Jv (fun k => h1 (eqp k))
    exact J'.some M
  case d1 =>
    have h := Rp.add M Rn0
    rw [adE_O] at h
    exact h.same M Rp
  case d2 =>
    have h := Rn0.add M Rp
    rw [adE_O'] at h
    exact h.same M Rp
  case d3 =>
    have h := Rn0.add M Rn0
    rw [adE_O] at h
    exact h.none M
  case d4 =>
    have h := Rn0.dbl M
    rw [adE_O] at h
    exact h.none M
  case d5 =>
    have h := Rn0.mul M m.toNat
    rw [nmE_O M.nice] at h
    exact h.none M
  case e1 =>
    have h := Rp.add M Rn1
    rw [adE_O] at h
    exact h.same M Rp
  case e2 =>
    have h := Rn1.add M Rp
    rw [adE_O'] at h
    exact h.same M Rp
  case e3 =>
    have h := Rn1.add M Rn1
    rw [adE_O] at h
    exact h.none M
  case e4 =>
    have h := Rn1.dbl M
    rw [adE_O] at h
    exact h.none M
  case e5 =>
    have h := Rn1.mul M m.toNat
    rw [nmE_O M.nice] at h
    exact h.none M
  case f1 =>
    rw [(jac_opp M Ju (jac_turned M (jac_told M cu 77)) (neg_ne M cu)).1]; rfl
  case f2 =>
    rw [jac_same M Ju (jac_told M cu 78)]
    exact (Rp.dbl M).same M (Rp.dbl M)
  case g1 =>
    intro h0
    obtain ⟨K3, K⟩ := height M Ju hu h0
    rw [(jac_opp M K K3 (fun k => neg_ne M cu k.symm)).1]; rfl
  case g2 =>
    intro h0
    obtain ⟨K3, K⟩ := height M Ju hu h0
    have a : Rep _ (pa (ic u.1 * ic RHO * ic RHO : F) (-ic u.2)) := .inr ⟨_, _, K, rfl⟩
    exact a.same M (.inr ⟨_, _, jac_turned M K3, rfl⟩)
  case h1 =>
    have h := Rpq.mul M m.toNat
    rw [nmE_ad M.nice op oq] at h
    exact h.same M ((Rp.mul M _).add M (Rq.mul M _))
  case h2 =>
    have h := Rp.mul M (m + n).toNat
    rw [Int.toNat_add hm hn, nmE_add M.nice op] at h
    rw [Int.toNat_add hm hn]
    exact h.same M ((Rp.mul M _).add M (Rp.mul M _))
  case h3 =>
    have h := (Rp.mul M m.toNat).mul M n.toNat
    rw [nmE_mul M.nice op] at h
    rw [Int.toNat_mul hm hn]
    exact h.same M (Rp.mul M _)
  case k1 =>
    have h := Rp.mul M 2
    rw [nmE_two] at h
    exact h.same M (Rp.dbl M)
  case k2 =>
    have h := Rp.mul M 1
    rw [nmE_one] at h
    exact h.same M Rp
  case k3 =>
    have h := Rp.mul M 0
    exact h.none M
  case l1 =>
    intro h1
    have hne : (ic u.1 : F) ≠ ic v.1 := fun k => h1 (eqp k)
    obtain ⟨x', y', J', _, f1, f2⟩ := jac_ne M Ju Jv hne
    have hd : (ic v.1 - ic u.1 : F) ≠ 0 := by intro k; apply hne; grind
    rw [← M.zer (F := F)]
    simp only [ic_sub, ic_mul, ic_neg, (J'.fromJ M).1, (J'.fromJ M).2]
    refine mul_left_cancel' (mul_ne hd hd) ?_
    unfold nY at f2
    rw [← f1] at f2
    grind
  case l2 =>
    intro h1
    rcases Rpq with ⟨k, _⟩ | ⟨x', y', J', _⟩
    · rw [k] at h1; cases h1
    · rw [← M.zer (F := F)]
      simp only [ic_sub, ic_mul, ic_pow, (J'.fromJ M).1, J'.hx]
      grind
  case l3 =>
    intro h1
    rcases Rpq with ⟨k, _⟩ | ⟨x', y', J', _⟩
    · rw [k] at h1; cases h1
    · rw [← M.zer (F := F)]
      simp only [ic_sub, ic_mul, ic_pow, (J'.fromJ M).2, J'.hy]
      grind
  case o1 =>
    have R1 : Rep (u.1, u.2, 1) (pa (ic u.1 : F) (ic u.2)) := .inr ⟨_, _, J1, rfl⟩
    have R2 : Rep (v.1, v.2, 1) (pa (ic v.1 : F) (ic v.2)) := .inr ⟨_, _, J2, rfl⟩
    exact (R1.add M R2).fromJ_eq M Rpq
theorem in2_gen {u : Int × Int} (h : onB u = false) (h1 : InP u.1) (h2 : 0 ≤ u.2) (h3 : u.2 ≤ P) : In2 u := by
  refine ⟨h1, h2, ?_⟩
  rcases Int.lt_or_eq_of_le h3 with k | k
  · exact k
  · exfalso
    have c := curve_of M h
    rw [k, ic_P M] at c
    apply M.nice.cub (ic u.1)
    rw [← c]
    exact Semiring.mul_zero _
end law
theorem in2_of {u : Int × Int} (h : onB u = false) (h1 : InP u.1) (h2 : 0 ≤ u.2) (h3 : u.2 ≤ P) : In2 u := @in2_gen (Fin PN) fieldP mod_PN u h h1 h2 h3
theorem lawF {u v t : Int × Int} (hu : In2 u) (hv : In2 v) (ht : In2 t) (ou : onB u = false) (ov : onB v = false) (ot : onB t = false) (zu zv zt m n : Int) (hm : 0 ≤ m ∧ m < 16) (hn : 0 ≤ n ∧ n < 16) :
    LawF u v (told u zu) (told v zv) (told t zt) m n := @lawF_gen (Fin PN) fieldP mod_PN u v t hu hv ou ov ot zu zv zt m n hm.1 hn.1
end Mine
end SLawFT

section SWRoot
open PySem PySem.W PyProof.Rows PySem.Calls Builtin.Int PySem.Spec PyProof.V
set_option maxRecDepth 100000
namespace Mine
/-- the square root of -3 that pow gives -/
def S3 : Int := 4602937940656409685400179041082242364498080236264115595900560044423621507154
theorem pow_S3 : powI (115792089237316195423570985008687907853269984665640564039457584007908834671663 - 3) (Int.fdiv (115792089237316195423570985008687907853269984665640564039457584007908834671663 + 1) 4) 115792089237316195423570985008687907853269984665640564039457584007908834671663 = S3 := by decide +kernel
theorem rho_is : ((S3 - 1) * Int.fdiv (115792089237316195423570985008687907853269984665640564039457584007908834671663 + 1) 2).fmod 115792089237316195423570985008687907853269984665640564039457584007908834671663 = RHO := by decide +kernel
theorem rho_one : (RHO * RHO + RHO + 1).fmod 115792089237316195423570985008687907853269984665640564039457584007908834671663 = 0 := by decide +kernel
section
variable {prog : Program} {w : World} {A : Around} {E : Value → Shared → Prop} {s : Shared} {t u v : Tok} {Q : Value → Shared → Prop}
theorem pow_root (h : Q (.int S3 s.toks) { s with toks := s.toks + 1 }) :
    wpAny (model prog w) A (call (.builtin "pow") [.int (115792089237316195423570985008687907853269984665640564039457584007908834671663 - 3) t, .int (Int.fdiv (115792089237316195423570985008687907853269984665640564039457584007908834671663 + 1) 4) u, .int 115792089237316195423570985008687907853269984665640564039457584007908834671663 v]) Q E s :=
  pow3_int (by decide) (by decide) (by rw [pow_S3]; exact h)
theorem mod_rho (h : Q (.int RHO s.toks) { s with toks := s.toks + 1 }) :
    wpAny (model prog w) A (binaryOp .Mod (.int ((S3 - 1) * Int.fdiv (115792089237316195423570985008687907853269984665640564039457584007908834671663 + 1) 2) t) (.int 115792089237316195423570985008687907853269984665640564039457584007908834671663 u)) Q E s :=
  mod_int' (by decide) (by rw [rho_is]; exact h)
theorem mod_one (h : Q (.int 0 s.toks) { s with toks := s.toks + 1 }) :
    wpAny (model prog w) A (binaryOp .Mod (.int (RHO * RHO + RHO + 1) t) (.int 115792089237316195423570985008687907853269984665640564039457584007908834671663 u)) Q E s :=
  mod_int' (by decide) (by rw [rho_one]; exact h)
end
theorem Bd.s3 : Bd 256 S3 := by unfold Bd S3; decide
theorem Bd.rho : Bd 256 RHO := by unfold Bd RHO; decide
end Mine
end SWRoot

section SWB
open PySem PySem.W PyProof.Rows PySem.Calls Builtin.Int PySem.Spec PyProof.V
set_option maxRecDepth 100000
set_option maxHeartbeats 8000000
set_option pp.deepTerms false
namespace Mine
local macro_rules | `(tactic| k_mem) => `(tactic| first | with_reducible assumption | assumption)
local macro_rules | `(tactic| ktr_rel) => `(tactic| first | with_reducible assumption | ((with_reducible refine' Bd.fmod ?hb ?h1); (case hb => decide); (case h1 => ktr_rel)) | ((with_reducible refine' Bd.mul ?h1 ?h2); (case h1 => ktr_rel); (case h2 => ktr_rel)) | ((with_reducible refine' Bd.pow ?h1); (case h1 => ktr_rel)) | ((with_reducible refine' Bd.add ?h1 ?h2); (case h1 => ktr_rel); (case h2 => ktr_rel)) | ((with_reducible refine' Bd.sub ?h1 ?h2); (case h1 => ktr_rel); (case h2 => ktr_rel)) | ((with_reducible refine' Bd.neg ?h1); (case h1 => ktr_rel)) | ((with_reducible refine' Bd.p1 ?h1); (case h1 => with_reducible assumption)) | ((with_reducible refine' Bd.p2 ?h1); (case h1 => with_reducible assumption)) | ((with_reducible refine' Bd.p3 ?h1); (case h1 => with_reducible assumption)) | ((with_reducible refine' Bd.u1 ?h1); (case h1 => with_reducible assumption)) | ((with_reducible refine' Bd.u2 ?h1); (case h1 => with_reducible assumption)) | ((with_reducible refine' Bd.ofP ?h1); (case h1 => with_reducible assumption)) | ((with_reducible refine' Bd.lit4 ?h1); (case h1 => decide)) | ((with_reducible refine' Bd.lit ?h1); (case h1 => decide)))
local macro_rules | `(tactic| walk_at "binaryOp Mult int int") => `(tactic| (k_here; k_dflt ((with_reducible refine' mul_own ?mh ?mk ?mi ?_); (case mh => ktr_rel); (case mk => ktr_rel); (case mi => decide))))
local macro_rules | `(tactic| walk_at "binaryOp Pow int int") => `(tactic| (k_here; k_dflt (first
  | ((with_reducible refine' pow_own (k := 2) ?mn ?mh ?mi ?_); (case mn => rfl); (case mh => ktr_rel); (case mi => decide))
  | ((with_reducible refine' pow_own (k := 3) ?mn ?mh ?mi ?_); (case mn => rfl); (case mh => ktr_rel); (case mi => decide))
  | ((with_reducible refine' pow_own (k := 4) ?mn ?mh ?mi ?_); (case mn => rfl); (case mh => ktr_rel); (case mi => decide))
  | ((with_reducible refine' pow_own (k := 6) ?mn ?mh ?mi ?_); (case mn => rfl); (case mh => ktr_rel); (case mi => decide)))))
local macro_rules | `(tactic| k_ne) => `(tactic| (refine neN ?_; (try dsimp only); first | assumption | exact Ne.symm (by assumption) | exact Nat.ne_of_lt (by assumption) | exact Nat.ne_of_gt (by assumption)))
local macro_rules | `(tactic| ktr_rel) => `(tactic| ((with_reducible refine' bd_at ?h1 ?h2); (case h1 => with_reducible assumption); (case h2 => decide)))
local macro_rules | `(tactic| ktr_rel) => `(tactic| first | with_reducible exact Bd.s3 | with_reducible exact Bd.rho)
local macro_rules | `(tactic| ktr_rel) => `(tactic| with_reducible assumption)
theorem cutL {prog : Program} {w : World} {A : Around} {Q : Flow → Shared → Prop} {E' : Value → Shared → Prop} {t : Sem Flow} {s₁ s : Shared} {h₀ : Heap} {L : Addr} {m : Str → Option Value} {news : List (Addr × Obj)}
    (F : Fr h₀ L s.heap m) (N : News h₀ L s.heap news) (hs : s = { s₁ with heap := s.heap, toks := s.toks })
    (h : ∀ (h' : Heap) (tk' : Nat), Fr h₀ L h' m → News h₀ L h' news → wpAny (model prog w) A t Q E' { s₁ with heap := h', toks := tk' }) : wpAny (model prog w) A t Q E' s := by rw [hs]; exact h _ _ F N
def LawQ (s₁ : Shared) (fl : Flow) (s2 : Shared) : Prop := ∃ (h2 : Heap) (tk2 : Nat) (m2 : Str → Option Value), fl = Flow.ret (.bool true) ∧ s2 = { s₁ with heap := h2, toks := tk2 } ∧ Fr s₁.heap s₁.heap.objs.size h2 m2
/-- a goal's proof, out of the way of what looks for facts -/
structure Hide (G : Prop) : Type where
  out : G
def piece1 : (G : Prop) ×' (Hide G → PySem.Challenge.rw_bh0024_01.Holds) := by
  refine' PSigma.mk _ (fun goal => ?body)
  case body =>
    refine Mine.hd ?_
    k_go0
    rename_i w s₀ s₁ mg mb G Y fa o pm doc ho hg KX X V GL T B TE TW bm1 bm2 M cdA cdB hcd ns hs hlay0 hL1 hr1 hl2 z6 z5 lA vs z2 hL ra w1 r0 hI hr hcond hcond' K0 hD h₁ tk₁ F o1 o0 left right N0 X0
    clear hcd hD X0
    have left2 : o1.data = Data.cell none := left
    have right2 : o0.data = Data.cell (some (.ref lA)) := right
    have F2 : Fr s₁.heap s₁.heap.objs.size h₁ (fun _ => none) := F
    have K1 : Below callerA s₁.heap [] s₁.heap := K0
    clear left right F K0
    dsimp only
    refine wpAny_mono (Q := fun (fl : Flow) (s2 : Shared) => LawQ s₁ fl s2) (E := fun _ _ => False) ?m ?hq ?he
    case he => exact fun _ _ h => h.elim
    case hq =>
      intro fl s2 hfl
      obtain ⟨h2, tk2, m2, rfl, rfl, Fz⟩ := hfl
      wrow_close
    clear G Y X V GL B TE TW M ra w1 r0 hr hcond' hlay0 hr1 hl2 hs ho hg
    have hlen : ns.length < 2 ^ 62 := by omega
    clear hcond
    (all_goals try k_fold)
    repeat' ((fail_if_success (with_reducible show wpAny _ _ (execs (Stmt.If _ _ _ _ :: _) _) _ _ _)); (first
      | ((with_reducible show wpAny _ _ (PySem.call (Value.ref 80) _) _ _ _); k_dflt (refine' (at_spec _ _ _ _ _ _ _ _ hI hlen _ _ _ _ ?hk0 ?hk2) _ _ _ _ _ _ _ _ _ _ _ _ _ _ _ _ _ ?k1 ?kl ?k2 ?k3 ?k4 ?k5 ?kK ?kd ?ku ?_; (case k1 => k_asm); (case kl => exact hL); (case k2 => k_asm); (case k3 => k_in); (case k4 => k_asm); (case k5 => k_asm); (case kK => exact rfl); (case kd => decide); (case ku => decide); (case hk0 => decide); (case hk2 => decide); intro t9 h9 tk9 F9 N9; (try dsimp only); (try k_fold)))
      | ((with_reducible show wpAny _ _ (PySem.call (Value.ref 87) _) _ _ _); k_dflt (refine' (point_spec _ _ _ _ _ _ _ _ _ ?hi) _ _ _ _ _ _ _ _ _ _ _ _ _ _ _ _ _ ?k1 ?k2 ?k3 ?k4 ?k5 ?kK ?kd ?ku ?_; (case k1 => k_asm); (case k2 => k_asm); (case k3 => k_in); (case k4 => k_asm); (case k5 => k_asm); (case kK => exact rfl); (case kd => decide); (case ku => decide); (case hi => (refine' Bd.mono ?m1 ?m2; (case m1 => ktr_rel); (case m2 => decide))); intro u9 D9 t91 t92 n9 h9 tk9 iu9 iv9 iw9 F9 N9 l9; (try simp only [AllLt, and_true] at l9); (try dsimp only); (try k_fold)))
      | ((with_reducible show wpAny _ _ (eval (Expr.ListComp _ [⟨Expr.Name _ _, Expr.Call _ _ _ _, _, _⟩] _ _) _) _ _ _); k_dflt (refine LCg.ListComp_U (F₀ := by k_asm) (by with_unfolding_all rfl) (by decide) (by rfl) (by decide) (by rfl) ?_))
      | ((with_reducible show LCg.CompSrc ..); k_dflt (refine LCg.CompSrc.range (by rfl) (by k_asm) (by k_asm) (by assumption) (by first | decide | rfl) (by first | rfl | decide) (by first | size_fits | exact Nat.le_of_ble_eq_true rfl) ?_; intro g'; lcg_lit))
      | (k_unfold; (try dsimp only)) | (k_end; wrow_close) | walk1 | (dsimp only; walk1) | (leave1; walk_say "STEP leave1"; try dsimp only) | fail "no step"))
    refine cutL (s₁ := s₁) (by k_asm) (by k_asm) rfl ?_
    (with_reducible rename Obj.data _ = Data.cell (some (Value.ref _)) => dP)
    revert iu9 iv9 iw9
    revert iu9 iv9 iw9
    revert iu9 iv9 iw9
    revert dP right2 left2 hL hI hL1 hlen KX T K1
    repeat ((with_reducible rename (_ ≠ _) ∧ (_ ≠ _) ∧ (_ ≠ _) => z9); clear z9)
    repeat ((with_reducible rename _ = some _ => z9); clear z9)
    repeat ((with_reducible rename News _ _ _ _ => z9); clear z9)
    repeat ((with_reducible rename Fr _ _ _ _ => z9); clear z9)
    rename_i op
    repeat (rename_i z9; clear z9)
    rename_i Dp
    repeat (first | clear l9 | clear h9 | clear tk9 | clear t9 | clear qk | clear ek | clear g' | clear o | clear pm | clear doc | clear bm1 | clear bm2 | clear cdB | clear z6 | clear z5 | clear z2 | clear h₁ | clear tk₁ | (rename_i z9; clear z9))
    revert u9 D9 t91 t92 n9
    repeat (first | clear l9 | clear h9 | clear tk9 | clear t9 | clear qk | clear ek | clear g' | clear o | clear pm | clear doc | clear bm1 | clear bm2 | clear cdB | clear z6 | clear z5 | clear z2 | clear h₁ | clear tk₁ | (rename_i z9; clear z9))
    revert u9 D9 t91 t92 n9
    repeat (first | clear l9 | clear h9 | clear tk9 | clear t9 | clear qk | clear ek | clear g' | clear o | clear pm | clear doc | clear bm1 | clear bm2 | clear cdB | clear z6 | clear z5 | clear z2 | clear h₁ | clear tk₁ | (rename_i z9; clear z9))
    revert u9 D9 t91 t92 n9
    repeat (first | clear l9 | clear h9 | clear tk9 | clear t9 | clear qk | clear ek | clear g' | clear o | clear pm | clear doc | clear bm1 | clear bm2 | clear cdB | clear z6 | clear z5 | clear z2 | clear h₁ | clear tk₁ | (rename_i z9; clear z9))
    intro u D9_0 t91_0 t92_0 n9_0 v D9_1 t91_1 t92_1 n9_1 t D9_2 t91_2 t92_2 n9_2
    revert w s₀ s₁ mg mb fa cdA ns lA vs o1 o0 Dp op u D9_0 t91_0 t92_0 n9_0 v D9_1 t91_1 t92_1 n9_1 t D9_2 t91_2 t92_2 n9_2
    exact goal.out
def piece2 : (G : Prop) ×' (Hide G → piece1.1) := by
  refine' PSigma.mk _ (fun goal => ?body)
  case body =>
    k_fill
    intro w s₀ s₁ mg mb fa cdA ns lA vs o1 o0 Dp op u D9_0 t91_0 t92_0 n9_0 v D9_1 t91_1 t92_1 n9_1 t D9_2 t91_2 t92_2 n9_2
    intro KX T hL1 hL hI left2 right2 K1 hlen dP iu9 iv9 iw9 iu9_1 iv9_1 iw9_1 iu9_2 iv9_2 iw9_2 h0 tk0 F0 N0
    refine wpAny_execs_cons ?_
    repeat' ((fail_if_success (with_reducible show wpAny _ _ (eval (Expr.ListComp _ _ _ _) _) _ _ _)); (first | (k_unfold; (try dsimp only)) | (k_end; wrow_close) | walk1 | (dsimp only; walk1) | (leave1; walk_say "STEP leave1"; try dsimp only) | fail "no step"))
    k_dflt (refine' pairs_comp (h₀ := s₁.heap) (L := s₁.heap.objs.size) (m := fun _ => none) [u, v, t] onB rfl (by with_unfolding_all rfl) (by decide) (by rfl) (by decide) (by rfl) (by rfl) (by decide) ?hsrc ?htest ?helt)
    case helt =>
      intro C s' E'
      k_dflt walk1
      exact ⟨_, _, _, rfl, rfl⟩
    case htest =>
      intro C m' u t1 t2 s' E' hu hNs hmx hmy F9
      have hB1 : Bd 256 u.1 := by
        simp only [List.mem_cons, List.not_mem_nil, or_false] at hu
        rcases hu with rfl | rfl | rfl
        · exact .ofP iu9
        · exact .ofP iu9_1
        · exact .ofP iu9_2
      have hB2 : Bd 257 u.2 := by
        simp only [List.mem_cons, List.not_mem_nil, or_false] at hu
        rcases hu with rfl | rfl | rfl
        · exact .leP iv9 iw9
        · exact .leP iv9_1 iw9_1
        · exact .leP iv9_2 iw9_2
      repeat' (first
        | ((with_reducible show wpAny _ _ (eval (Expr.Name (Str.ofString "x") _) _) _ _ _); k_dflt (refine ldVarK hNs hmx ?_ (by rfl) (by rfl) (by decide)))
        | ((with_reducible show wpAny _ _ (eval (Expr.Name (Str.ofString "y") _) _) _ _ _); k_dflt (refine ldVarK hNs hmy ?_ (by rfl) (by rfl) (by decide)))
        | ((with_reducible show wpAny _ _ (eval (Expr.Name (Str.ofString "_law_p") _) _) _ _ _); k_dflt (refine LCgL.ld_global F9 KX T (by k_is) ?_))
        | (k_unfold; (try dsimp only)) | (k_end; wrow_close) | walk1 | (dsimp only; walk1) | (leave1; walk_say "STEP leave1"; try dsimp only) | fail "no step")
      exact onB_eq u
    case hsrc =>
    walk1
    refine ⟨Dp, [.ref D9_0, .ref D9_1, .ref D9_2], _, rfl, F0, N0, List.Mem.head _, ⟨⟨D9_0, _, _, _, rfl, by k_mem⟩, ⟨D9_1, _, _, _, rfl, by k_mem⟩, ⟨D9_2, _, _, _, rfl, by k_mem⟩, trivial⟩, Nat.le_of_ble_eq_true rfl, ?_⟩
    clear F0 N0
    intro Dc ys ks h8 tk8 F8 N8 hik hkl hkt
    (try dsimp only)
    repeat' ((fail_if_success (with_reducible show wpAny _ _ (execs (Stmt.Assign _ _ _ :: _) _) _ _ _)); (first
      | (k_unfold; (try dsimp only)) | (k_end; wrow_close) | walk1 | (dsimp only; walk1) | (leave1; walk_say "STEP leave1"; try dsimp only) | fail "no step"))
    all_goals (try dsimp only)
    rotate_left
    exact ⟨_, _, _, rfl, rfl, by k_asm⟩
    (with_reducible rename decide (_ = _) = true => hdk)
    have hon : ∀ k ∈ [u, v, t], onB k = false := hkt.mp (of_decide_eq_true hdk)
    refine cutL (s₁ := s₁) (news := [(Dp, LCg.lst [.ref D9_0, .ref D9_1, .ref D9_2]), (D9_2, tupU t t91_2 t92_2 n9_2), (D9_1, tupU v t91_1 t92_1 n9_1), (D9_0, tupU u t91_0 t92_0 n9_0), (s₁.heap.objs.size + 1 + 1, op), (s₁.heap.objs.size + 1, o0)]) (by k_asm) (cb_drop (by k_asm) (by (intro p hp; repeat (first | exact hp | exact List.Mem.tail _ hp | refine List.Mem.tail _ ?_)))) rfl ?_
    clear hkt hkl hdk
    revert hon KX T hL1 hL hI left2 right2 K1 hlen dP iu9 iv9 iw9 iu9_1 iv9_1 iw9_1 iu9_2 iv9_2 iw9_2
    repeat ((with_reducible rename News _ _ _ _ => z9); clear z9)
    repeat ((with_reducible rename Fr _ _ _ _ => z9); clear z9)
    repeat (first | clear h0 | clear tk0 | clear Dc | clear ys | clear ks | clear h8 | clear tk8 | clear hik | (rename_i z9; clear z9))
    revert w s₀ s₁ mg mb fa cdA ns lA vs o1 o0 Dp op u D9_0 t91_0 t92_0 n9_0 v D9_1 t91_1 t92_1 n9_1 t D9_2 t91_2 t92_2 n9_2
    exact goal.out
def piece3 : (G : Prop) ×' (Hide G → piece2.1) := by
  refine' PSigma.mk _ (fun goal => ?body)
  case body =>
    k_fill
    intro w s₀ s₁ mg mb fa cdA ns lA vs o1 o0 Dp op u D9_0 t91_0 t92_0 n9_0 v D9_1 t91_1 t92_1 n9_1 t D9_2 t91_2 t92_2 n9_2
    intro KX T hL1 hL hI left2 right2 K1 hlen dP iu9 iv9 iw9 iu9_1 iv9_1 iw9_1 iu9_2 iv9_2 iw9_2 hon h0 tk0 F0 N0
    have hi0 : In2 u := in2_of (hon _ (by simp)) iu9 iv9 iw9
    have hi1 : In2 v := in2_of (hon _ (by simp)) iu9_1 iv9_1 iw9_1
    have hi2 : In2 t := in2_of (hon _ (by simp)) iu9_2 iv9_2 iw9_2
    repeat' ((fail_if_success (with_reducible show wpAny _ _ (execs (Stmt.Assign [Expr.Name (Str.ofString "both") _] _ _ :: _) _) _ _ _)); (first
      | ((with_reducible show wpAny _ _ (PySem.call (Value.ref 80) _) _ _ _); k_dflt (refine' (at_spec _ _ _ _ _ _ _ _ hI hlen _ _ _ _ ?hk0 ?hk2) _ _ _ _ _ _ _ _ _ _ _ _ _ _ _ _ _ ?k1 ?kl ?k2 ?k3 ?k4 ?k5 ?kK ?kd ?ku ?_; (case k1 => k_asm); (case kl => exact hL); (case k2 => k_asm); (case k3 => k_in); (case k4 => k_asm); (case k5 => k_asm); (case kK => exact rfl); (case kd => decide); (case ku => decide); (case hk0 => decide); (case hk2 => decide); intro t9 h9 tk9 F9 N9; (try dsimp only); (try k_fold)))
      | ((with_reducible show wpAny _ _ (PySem.call (Value.ref 94) _) _ _ _); k_dflt ((first | (refine' (told_spec _ _ _ _ _ _ _ _ _ _ ?hD ?hp _ _ ?hz) _ _ _ _ _ _ _ _ _ _ _ _ _ _ _ _ _ ?k1 ?k2 ?k3 ?k4 ?k5 ?kK ?kd ?ku ?_; (case k1 => k_asm); (case k2 => k_asm); (case k3 => k_in); (case k4 => k_asm); (case k5 => k_asm); (case kK => first | exact rfl | assumption); (case kd => decide); (case ku => decide); (case hD => k_mem); (case hp => first | with_reducible assumption | exact ⟨InP.fmod _, And.right (by assumption)⟩); (case hz => (refine' Bd.mono ?m1 ?m2; (case m1 => ktr_rel); (case m2 => decide))); ) | (refine' (told_spec _ _ _ _ _ _ (_, _) _ _ _ ?hD ?hp _ _ ?hz) _ _ _ _ _ _ _ _ _ _ _ _ _ _ _ _ _ ?k1 ?k2 ?k3 ?k4 ?k5 ?kK ?kd ?ku ?_; (case k1 => k_asm); (case k2 => k_asm); (case k3 => k_in); (case k4 => k_asm); (case k5 => k_asm); (case kK => first | exact rfl | assumption); (case kd => decide); (case ku => decide); (case hD => k_mem); (case hp => first | with_reducible assumption | exact ⟨InP.fmod _, And.right (by assumption)⟩); (case hz => (refine' Bd.mono ?m1 ?m2; (case m1 => ktr_rel); (case m2 => decide))); )); intro D9 t91 t92 t93 n9 h9 tk9 I9 F9 N9 l9; (try simp only [AllLt, and_true] at l9); (try dsimp only); (try k_fold)))
      | ((with_reducible show wpAny _ _ (eval (Expr.ListComp _ [⟨Expr.Name _ _, Expr.Call _ _ _ _, _, _⟩] _ _) _) _ _ _); k_dflt (refine LCg.ListComp_U (F₀ := by k_asm) (by with_unfolding_all rfl) (by decide) (by rfl) (by decide) (by rfl) ?_))
      | ((with_reducible show LCg.CompSrc ..); k_dflt (refine LCg.CompSrc.range (by rfl) (by k_asm) (by k_asm) (by assumption) (by first | decide | rfl) (by first | rfl | decide) (by first | size_fits | exact Nat.le_of_ble_eq_true rfl) ?_; intro g'; lcg_lit))
      | ((with_reducible show LCg.CompRest ..); (try clear l9); (repeat ((with_reducible rename (_ ≠ _) ∧ (_ ≠ _) ∧ (_ ≠ _) => z9); clear z9)); (repeat ((with_reducible rename ((_ ≠ _) ∧ (_ ≠ _) ∧ (_ ≠ _)) ∧ _ => z9); clear z9)); (repeat ((with_reducible rename LCg.NsObj _ _ => z9); clear z9)); walk1)
      | ((with_reducible show LCg.CompEnd ..); (repeat ((with_reducible rename _ ∧ _ => z9); (obtain ⟨z8, z7⟩ := z9))); walk1; (repeat ((with_reducible rename _ ≠ _ => z9); clear z9)))
      | (k_unfold; (try dsimp only)) | (k_end; wrow_close) | walk1 | (dsimp only; walk1) | (leave1; walk_say "STEP leave1"; try dsimp only) | fail "no step"))
    refine cutL (s₁ := s₁) (by k_asm) (by k_asm) rfl ?_
    revert I9
    revert I9
    revert I9
    revert hi0 hi1 hi2 hon KX T K1 dP
    clear hL1 hL hI left2 right2 iu9 iv9 iw9 iu9_1 iv9_1 iw9_1 iu9_2 iv9_2 iw9_2
    (repeat ((with_reducible rename _ = some _ => z9); clear z9))
    (repeat ((with_reducible rename _ < _ => z9); clear z9))
    repeat ((with_reducible rename News _ _ _ _ => z9); clear z9)
    repeat ((with_reducible rename Fr _ _ _ _ => z9); clear z9)
    repeat (rename_i z9; clear z9)
    rename_i Dt
    repeat (first | clear h0 | clear tk0 | clear g' | clear t9 | clear h9 | clear qk | clear ek | clear tk | clear tk9 | clear lA | clear vs | clear o1 | clear l9 | (rename_i z9; clear z9))
    revert tk9
    repeat (first | clear h0 | clear tk0 | clear g' | clear t9 | clear h9 | clear qk | clear ek | clear tk | clear tk9 | clear lA | clear vs | clear o1 | clear l9 | (rename_i z9; clear z9))
    revert tk9
    repeat (first | clear h0 | clear tk0 | clear g' | clear t9 | clear h9 | clear qk | clear ek | clear tk | clear tk9 | clear lA | clear vs | clear o1 | clear l9 | (rename_i z9; clear z9))
    rename_i Dl
    repeat (first | clear h0 | clear tk0 | clear g' | clear t9 | clear h9 | clear qk | clear ek | clear tk | clear tk9 | clear lA | clear vs | clear o1 | clear l9 | (rename_i z9; clear z9))
    revert D9 t91 t92 t93 n9
    repeat (first | clear h0 | clear tk0 | clear g' | clear t9 | clear h9 | clear qk | clear ek | clear tk | clear tk9 | clear lA | clear vs | clear o1 | clear l9 | (rename_i z9; clear z9))
    revert D9 t91 t92 t93 n9
    repeat (first | clear h0 | clear tk0 | clear g' | clear t9 | clear h9 | clear qk | clear ek | clear tk | clear tk9 | clear lA | clear vs | clear o1 | clear l9 | (rename_i z9; clear z9))
    revert D9 t91 t92 t93 n9
    repeat (first | clear h0 | clear tk0 | clear g' | clear t9 | clear h9 | clear qk | clear ek | clear tk | clear tk9 | clear lA | clear vs | clear o1 | clear l9 | (rename_i z9; clear z9))
    intro Pp tp1 tp2 tp3 np Pq tq1 tq2 tq3 nq Pr tr1 tr2 tr3 nr tkm tkn
    revert w s₀ s₁ mg mb fa cdA ns o0 Dp op u D9_0 t91_0 t92_0 n9_0 v D9_1 t91_1 t92_1 n9_1 t D9_2 t91_2 t92_2 n9_2 Dl Dt Pp tp1 tp2 tp3 np Pq tq1 tq2 tq3 nq Pr tr1 tr2 tr3 nr tkm tkn
    exact goal.out
def piece4 : (G : Prop) ×' (Hide G → piece3.1) := by
  refine' PSigma.mk _ (fun goal => ?body)
  case body =>
    k_fill
    intro w s₀ s₁ mg mb fa cdA ns o0 Dp op u D9_0 t91_0 t92_0 n9_0 v D9_1 t91_1 t92_1 n9_1 t D9_2 t91_2 t92_2 n9_2 Dl Dt Pp tp1 tp2 tp3 np Pq tq1 tq2 tq3 nq Pr tr1 tr2 tr3 nr tkm tkn
    intro KX T K1 dP hon hi0 hi1 hi2 Ip Iq Ir h0 tk0 F0 N0
    have hm : 0 ≤ (ns.getD (Int.toNat 9) 2).fmod 16 ∧ (ns.getD (Int.toNat 9) 2).fmod 16 < 16 := ⟨Int.fmod_nonneg_of_pos _ (by decide), Int.fmod_lt_of_pos _ (by decide)⟩
    have hn : 0 ≤ (ns.getD (Int.toNat 10) 3).fmod 16 ∧ (ns.getD (Int.toNat 10) 3).fmod 16 < 16 := ⟨Int.fmod_nonneg_of_pos _ (by decide), Int.fmod_lt_of_pos _ (by decide)⟩
    have LF := lawF hi0 hi1 hi2 (hon _ (by simp)) (hon _ (by simp)) (hon _ (by simp)) (ns.getD (6 + (0 + ((0 : Nat) : Int))).toNat (1 + (0 + ((0 : Nat) : Int)))) (ns.getD (6 + (0 + ((0 + 1 : Nat) : Int))).toNat (1 + (0 + ((0 + 1 : Nat) : Int)))) (ns.getD (6 + (0 + ((0 + 1 + 1 : Nat) : Int))).toNat (1 + (0 + ((0 + 1 + 1 : Nat) : Int)))) _ _ hm hn
    generalize (ns.getD (Int.toNat 9) 2).fmod 16 = m at *
    generalize (ns.getD (Int.toNat 10) 3).fmod 16 = n at *
    generalize told u (ns.getD (6 + (0 + ((0 : Nat) : Int))).toNat (1 + (0 + ((0 : Nat) : Int)))) = p at *
    generalize told v (ns.getD (6 + (0 + ((0 + 1 : Nat) : Int))).toNat (1 + (0 + ((0 + 1 : Nat) : Int)))) = q at *
    generalize told t (ns.getD (6 + (0 + ((0 + 1 + 1 : Nat) : Int))).toNat (1 + (0 + ((0 + 1 + 1 : Nat) : Int)))) = r at *
    have c1 := LF.c1
    have c2 := LF.c2
    have c3 := LF.c3
    repeat' ((fail_if_success (with_reducible show wpAny _ _ (execs (Stmt.If _ _ _ _ :: _) _) _ _ _)); (first
      | ((with_reducible show wpAny _ _ (PySem.call (Value.ref 45) _) _ _ _); k_dflt ((first | (refine' (add_spec _ _ _ _ _ _ _ _ _ _ _ ?hD ?hp _ _ _ _ _ _ ?hE ?hq) _ _ _ _ _ _ _ _ _ _ _ _ _ _ _ _ _ ?k1 ?k2 ?k3 ?k4 ?k5 ?kK ?kd ?ku ?_; (case k1 => k_asm); (case k2 => k_asm); (case k3 => k_in); (case k4 => k_asm); (case k5 => k_asm); (case kK => first | exact rfl | assumption); (case kd => decide); (case ku => decide); (case hD => k_mem); (case hp => with_reducible assumption); (case hE => k_mem); (case hq => with_reducible assumption); ) | (refine' (add_spec _ _ _ _ _ _ _ _ _ _ _ ?hD ?hp _ (_, _, _) _ _ _ _ ?hE ?hq) _ _ _ _ _ _ _ _ _ _ _ _ _ _ _ _ _ ?k1 ?k2 ?k3 ?k4 ?k5 ?kK ?kd ?ku ?_; (case k1 => k_asm); (case k2 => k_asm); (case k3 => k_in); (case k4 => k_asm); (case k5 => k_asm); (case kK => first | exact rfl | assumption); (case kd => decide); (case ku => decide); (case hD => k_mem); (case hp => with_reducible assumption); (case hE => k_mem); (case hq => with_reducible assumption); ) | (refine' (add_spec _ _ _ _ _ _ (_, _, _) _ _ _ _ ?hD ?hp _ _ _ _ _ _ ?hE ?hq) _ _ _ _ _ _ _ _ _ _ _ _ _ _ _ _ _ ?k1 ?k2 ?k3 ?k4 ?k5 ?kK ?kd ?ku ?_; (case k1 => k_asm); (case k2 => k_asm); (case k3 => k_in); (case k4 => k_asm); (case k5 => k_asm); (case kK => first | exact rfl | assumption); (case kd => decide); (case ku => decide); (case hD => k_mem); (case hp => with_reducible assumption); (case hE => k_mem); (case hq => with_reducible assumption); ) | (refine' (add_spec _ _ _ _ _ _ (_, _, _) _ _ _ _ ?hD ?hp _ (_, _, _) _ _ _ _ ?hE ?hq) _ _ _ _ _ _ _ _ _ _ _ _ _ _ _ _ _ ?k1 ?k2 ?k3 ?k4 ?k5 ?kK ?kd ?ku ?_; (case k1 => k_asm); (case k2 => k_asm); (case k3 => k_in); (case k4 => k_asm); (case k5 => k_asm); (case kK => first | exact rfl | assumption); (case kd => decide); (case ku => decide); (case hD => k_mem); (case hp => with_reducible assumption); (case hE => k_mem); (case hq => with_reducible assumption); )); intro D9 t91 t92 t93 n9 h9 tk9 I9 F9 N9; (try dsimp only); (try k_fold)))
      | (k_unfold; (try dsimp only)) | (k_end; wrow_close) | walk1 | (dsimp only; walk1) | (leave1; walk_say "STEP leave1"; try dsimp only) | fail "no step"))
    rename_i Fb Nb
    have zc1 := LF.c1
    have zc2 := LF.c2
    refine wpAny_execs_cons ?_
    refine if_false Fb Nb ?hc1 ?hk1
    case hc1 =>
      repeat' (first
        | ((with_reducible show wpAny _ _ (PySem.call (Value.ref 45) _) _ _ _); k_dflt ((first | (refine' (add_spec _ _ _ _ _ _ _ _ _ _ _ ?hD ?hp _ _ _ _ _ _ ?hE ?hq) _ _ _ _ _ _ _ _ _ _ _ _ _ _ _ _ _ ?k1 ?k2 ?k3 ?k4 ?k5 ?kK ?kd ?ku ?_; (case k1 => k_asm); (case k2 => k_asm); (case k3 => k_in); (case k4 => k_asm); (case k5 => k_asm); (case kK => first | exact rfl | assumption); (case kd => decide); (case ku => decide); (case hD => k_mem); (case hp => with_reducible assumption); (case hE => k_mem); (case hq => with_reducible assumption); ) | (refine' (add_spec _ _ _ _ _ _ _ _ _ _ _ ?hD ?hp _ (_, _, _) _ _ _ _ ?hE ?hq) _ _ _ _ _ _ _ _ _ _ _ _ _ _ _ _ _ ?k1 ?k2 ?k3 ?k4 ?k5 ?kK ?kd ?ku ?_; (case k1 => k_asm); (case k2 => k_asm); (case k3 => k_in); (case k4 => k_asm); (case k5 => k_asm); (case kK => first | exact rfl | assumption); (case kd => decide); (case ku => decide); (case hD => k_mem); (case hp => with_reducible assumption); (case hE => k_mem); (case hq => with_reducible assumption); ) | (refine' (add_spec _ _ _ _ _ _ (_, _, _) _ _ _ _ ?hD ?hp _ _ _ _ _ _ ?hE ?hq) _ _ _ _ _ _ _ _ _ _ _ _ _ _ _ _ _ ?k1 ?k2 ?k3 ?k4 ?k5 ?kK ?kd ?ku ?_; (case k1 => k_asm); (case k2 => k_asm); (case k3 => k_in); (case k4 => k_asm); (case k5 => k_asm); (case kK => first | exact rfl | assumption); (case kd => decide); (case ku => decide); (case hD => k_mem); (case hp => with_reducible assumption); (case hE => k_mem); (case hq => with_reducible assumption); ) | (refine' (add_spec _ _ _ _ _ _ (_, _, _) _ _ _ _ ?hD ?hp _ (_, _, _) _ _ _ _ ?hE ?hq) _ _ _ _ _ _ _ _ _ _ _ _ _ _ _ _ _ ?k1 ?k2 ?k3 ?k4 ?k5 ?kK ?kd ?ku ?_; (case k1 => k_asm); (case k2 => k_asm); (case k3 => k_in); (case k4 => k_asm); (case k5 => k_asm); (case kK => first | exact rfl | assumption); (case kd => decide); (case ku => decide); (case hD => k_mem); (case hp => with_reducible assumption); (case hE => k_mem); (case hq => with_reducible assumption); )); intro D9 t91 t92 t93 n9 h9 tk9 I9 F9 N9; (try dsimp only); (try k_fold)))
        | ((with_reducible show wpAny _ _ (PySem.call (Value.ref 115) _) _ _ _); k_dflt ((first | (refine' (same_spec _ _ _ _ _ _ _ _ _ _ _ ?hD ?hp _ _ _ _ _ _ ?hE ?hq) _ _ _ _ _ _ _ _ _ _ _ _ _ _ _ _ _ ?k1 ?k2 ?k3 ?k4 ?k5 ?kK ?kd ?ku ?_; (case k1 => k_asm); (case k2 => k_asm); (case k3 => k_in); (case k4 => k_asm); (case k5 => k_asm); (case kK => first | exact rfl | assumption); (case kd => decide); (case ku => decide); (case hD => k_mem); (case hp => with_reducible assumption); (case hE => k_mem); (case hq => with_reducible assumption); ) | (refine' (same_spec _ _ _ _ _ _ _ _ _ _ _ ?hD ?hp _ (_, _, _) _ _ _ _ ?hE ?hq) _ _ _ _ _ _ _ _ _ _ _ _ _ _ _ _ _ ?k1 ?k2 ?k3 ?k4 ?k5 ?kK ?kd ?ku ?_; (case k1 => k_asm); (case k2 => k_asm); (case k3 => k_in); (case k4 => k_asm); (case k5 => k_asm); (case kK => first | exact rfl | assumption); (case kd => decide); (case ku => decide); (case hD => k_mem); (case hp => with_reducible assumption); (case hE => k_mem); (case hq => with_reducible assumption); ) | (refine' (same_spec _ _ _ _ _ _ (_, _, _) _ _ _ _ ?hD ?hp _ _ _ _ _ _ ?hE ?hq) _ _ _ _ _ _ _ _ _ _ _ _ _ _ _ _ _ ?k1 ?k2 ?k3 ?k4 ?k5 ?kK ?kd ?ku ?_; (case k1 => k_asm); (case k2 => k_asm); (case k3 => k_in); (case k4 => k_asm); (case k5 => k_asm); (case kK => first | exact rfl | assumption); (case kd => decide); (case ku => decide); (case hD => k_mem); (case hp => with_reducible assumption); (case hE => k_mem); (case hq => with_reducible assumption); ) | (refine' (same_spec _ _ _ _ _ _ (_, _, _) _ _ _ _ ?hD ?hp _ (_, _, _) _ _ _ _ ?hE ?hq) _ _ _ _ _ _ _ _ _ _ _ _ _ _ _ _ _ ?k1 ?k2 ?k3 ?k4 ?k5 ?kK ?kd ?ku ?_; (case k1 => k_asm); (case k2 => k_asm); (case k3 => k_in); (case k4 => k_asm); (case k5 => k_asm); (case kK => first | exact rfl | assumption); (case kd => decide); (case ku => decide); (case hD => k_mem); (case hp => with_reducible assumption); (case hE => k_mem); (case hq => with_reducible assumption); )); intro h9 tk9 F9 N9; (try dsimp only); (try k_fold)))
        | (k_unfold; (try dsimp only)) | (k_end; wrow_close) | walk1 | (dsimp only; walk1) | (leave1; walk_say "STEP leave1"; try dsimp only) | fail "no step")
      all_goals first | k_asm | exact cb_drop (by k_asm) (by (intro p' hp'; repeat (first | exact hp' | exact List.Mem.tail _ hp' | refine List.Mem.tail _ ?_))) | exact (nb1 (by assumption) (by assumption) zn1 zn2).elim | exact (nb2 (by assumption) (by assumption)).elim | exact trivial
    clear Fb Nb zc1 zc2
    intro ha tka Fb Nb
    (try dsimp only)
    have zc3 := LF.c3
    have zn1 := LF.n1
    have zn2 := LF.n2
    have zn3 := LF.n3
    refine wpAny_execs_cons ?_
    refine if_false Fb Nb ?hc2 ?hk2
    case hc2 =>
      repeat' (first
        | ((with_reducible show wpAny _ _ (PySem.call (Value.ref 45) _) _ _ _); k_dflt ((first | (refine' (add_spec _ _ _ _ _ _ _ _ _ _ _ ?hD ?hp _ _ _ _ _ _ ?hE ?hq) _ _ _ _ _ _ _ _ _ _ _ _ _ _ _ _ _ ?k1 ?k2 ?k3 ?k4 ?k5 ?kK ?kd ?ku ?_; (case k1 => k_asm); (case k2 => k_asm); (case k3 => k_in); (case k4 => k_asm); (case k5 => k_asm); (case kK => first | exact rfl | assumption); (case kd => decide); (case ku => decide); (case hD => k_mem); (case hp => with_reducible assumption); (case hE => k_mem); (case hq => with_reducible assumption); ) | (refine' (add_spec _ _ _ _ _ _ _ _ _ _ _ ?hD ?hp _ (_, _, _) _ _ _ _ ?hE ?hq) _ _ _ _ _ _ _ _ _ _ _ _ _ _ _ _ _ ?k1 ?k2 ?k3 ?k4 ?k5 ?kK ?kd ?ku ?_; (case k1 => k_asm); (case k2 => k_asm); (case k3 => k_in); (case k4 => k_asm); (case k5 => k_asm); (case kK => first | exact rfl | assumption); (case kd => decide); (case ku => decide); (case hD => k_mem); (case hp => with_reducible assumption); (case hE => k_mem); (case hq => with_reducible assumption); ) | (refine' (add_spec _ _ _ _ _ _ (_, _, _) _ _ _ _ ?hD ?hp _ _ _ _ _ _ ?hE ?hq) _ _ _ _ _ _ _ _ _ _ _ _ _ _ _ _ _ ?k1 ?k2 ?k3 ?k4 ?k5 ?kK ?kd ?ku ?_; (case k1 => k_asm); (case k2 => k_asm); (case k3 => k_in); (case k4 => k_asm); (case k5 => k_asm); (case kK => first | exact rfl | assumption); (case kd => decide); (case ku => decide); (case hD => k_mem); (case hp => with_reducible assumption); (case hE => k_mem); (case hq => with_reducible assumption); ) | (refine' (add_spec _ _ _ _ _ _ (_, _, _) _ _ _ _ ?hD ?hp _ (_, _, _) _ _ _ _ ?hE ?hq) _ _ _ _ _ _ _ _ _ _ _ _ _ _ _ _ _ ?k1 ?k2 ?k3 ?k4 ?k5 ?kK ?kd ?ku ?_; (case k1 => k_asm); (case k2 => k_asm); (case k3 => k_in); (case k4 => k_asm); (case k5 => k_asm); (case kK => first | exact rfl | assumption); (case kd => decide); (case ku => decide); (case hD => k_mem); (case hp => with_reducible assumption); (case hE => k_mem); (case hq => with_reducible assumption); )); intro D9 t91 t92 t93 n9 h9 tk9 I9 F9 N9; (try dsimp only); (try k_fold)))
        | ((with_reducible show wpAny _ _ (PySem.call (Value.ref 115) _) _ _ _); k_dflt ((first | (refine' (same_spec _ _ _ _ _ _ _ _ _ _ _ ?hD ?hp _ _ _ _ _ _ ?hE ?hq) _ _ _ _ _ _ _ _ _ _ _ _ _ _ _ _ _ ?k1 ?k2 ?k3 ?k4 ?k5 ?kK ?kd ?ku ?_; (case k1 => k_asm); (case k2 => k_asm); (case k3 => k_in); (case k4 => k_asm); (case k5 => k_asm); (case kK => first | exact rfl | assumption); (case kd => decide); (case ku => decide); (case hD => k_mem); (case hp => with_reducible assumption); (case hE => k_mem); (case hq => with_reducible assumption); ) | (refine' (same_spec _ _ _ _ _ _ _ _ _ _ _ ?hD ?hp _ (_, _, _) _ _ _ _ ?hE ?hq) _ _ _ _ _ _ _ _ _ _ _ _ _ _ _ _ _ ?k1 ?k2 ?k3 ?k4 ?k5 ?kK ?kd ?ku ?_; (case k1 => k_asm); (case k2 => k_asm); (case k3 => k_in); (case k4 => k_asm); (case k5 => k_asm); (case kK => first | exact rfl | assumption); (case kd => decide); (case ku => decide); (case hD => k_mem); (case hp => with_reducible assumption); (case hE => k_mem); (case hq => with_reducible assumption); ) | (refine' (same_spec _ _ _ _ _ _ (_, _, _) _ _ _ _ ?hD ?hp _ _ _ _ _ _ ?hE ?hq) _ _ _ _ _ _ _ _ _ _ _ _ _ _ _ _ _ ?k1 ?k2 ?k3 ?k4 ?k5 ?kK ?kd ?ku ?_; (case k1 => k_asm); (case k2 => k_asm); (case k3 => k_in); (case k4 => k_asm); (case k5 => k_asm); (case kK => first | exact rfl | assumption); (case kd => decide); (case ku => decide); (case hD => k_mem); (case hp => with_reducible assumption); (case hE => k_mem); (case hq => with_reducible assumption); ) | (refine' (same_spec _ _ _ _ _ _ (_, _, _) _ _ _ _ ?hD ?hp _ (_, _, _) _ _ _ _ ?hE ?hq) _ _ _ _ _ _ _ _ _ _ _ _ _ _ _ _ _ ?k1 ?k2 ?k3 ?k4 ?k5 ?kK ?kd ?ku ?_; (case k1 => k_asm); (case k2 => k_asm); (case k3 => k_in); (case k4 => k_asm); (case k5 => k_asm); (case kK => first | exact rfl | assumption); (case kd => decide); (case ku => decide); (case hD => k_mem); (case hp => with_reducible assumption); (case hE => k_mem); (case hq => with_reducible assumption); )); intro h9 tk9 F9 N9; (try dsimp only); (try k_fold)))
        | ((with_reducible show wpAny _ _ (PySem.call (Value.ref 108) _) _ _ _); k_dflt ((first | (refine' (none_spec _ _ _ _ _ _ _ _ _ _ _ ?hD ?hp) _ _ _ _ _ _ _ _ _ _ _ _ _ _ _ _ _ ?k1 ?k2 ?k3 ?k4 ?k5 ?kK ?kd ?ku ?_; (case k1 => k_asm); (case k2 => k_asm); (case k3 => k_in); (case k4 => k_asm); (case k5 => k_asm); (case kK => first | exact rfl | assumption); (case kd => decide); (case ku => decide); (case hD => k_mem); (case hp => with_reducible assumption); ) | (refine' (none_spec _ _ _ _ _ _ (_, _, _) _ _ _ _ ?hD ?hp) _ _ _ _ _ _ _ _ _ _ _ _ _ _ _ _ _ ?k1 ?k2 ?k3 ?k4 ?k5 ?kK ?kd ?ku ?_; (case k1 => k_asm); (case k2 => k_asm); (case k3 => k_in); (case k4 => k_asm); (case k5 => k_asm); (case kK => first | exact rfl | assumption); (case kd => decide); (case ku => decide); (case hD => k_mem); (case hp => with_reducible assumption); )); intro h9 tk9 F9 N9; (try dsimp only); (try k_fold)))
        | ((with_reducible show wpAny _ _ (compareOp CmpOp.NotEq (Value.bool (isNone _)) (Value.bool _)) _ _ _); (first
          | (rw [zn3 (by assumption)])
          | (by_cases hy9 : u.2 = v.2
             · rw [zn2 (by assumption) hy9]; simp only [hy9]
             · rw [zn1 (by assumption) hy9]; simp only [hy9])))
        | (k_unfold; (try dsimp only)) | (k_end; wrow_close) | walk1 | (dsimp only; walk1) | (leave1; walk_say "STEP leave1"; try dsimp only) | fail "no step")
      all_goals first | k_asm | exact cb_drop (by k_asm) (by (intro p' hp'; repeat (first | exact hp' | exact List.Mem.tail _ hp' | refine List.Mem.tail _ ?_))) | exact (nb1 (by assumption) (by assumption) zn1 zn2).elim | exact (nb2 (by assumption) (by assumption)).elim | exact trivial
    clear Fb Nb zc3 zn1 zn2 zn3
    intro ha tka Fb Nb
    (try dsimp only)
    repeat (first | revert Fb | revert Nb | revert ha | revert tka | revert hc | revert tkc | revert D9 | revert t91 | revert t92 | revert t93 | revert n9 | revert h9 | revert tk9 | revert I9 | revert F9 | revert N9 | revert l9 | revert I00 | revert I01 | revert hmn | revert hbm | revert hbn | revert h0 | revert tk0 | revert F0 | revert N0 | (rename_i z9; revert z9))
    revert w s₀ s₁ mg mb fa cdA ns o0 Dp op u D9_0 t91_0 t92_0 n9_0 v D9_1 t91_1 t92_1 n9_1 t D9_2 t91_2 t92_2 n9_2 Dl Dt Pp tp1 tp2 tp3 np Pq tq1 tq2 tq3 nq Pr tr1 tr2 tr3 nr tkm tkn KX T K1 dP hon hi0 hi1 hi2 m hm n hn p Ip q Iq r Ir LF c1 c2 c3
    exact goal.out
def piece5 : (G : Prop) ×' (Hide G → piece4.1) := by
  refine' PSigma.mk _ (fun goal => ?body)
  case body =>
    k_fill
    intro w s₀ s₁ mg mb fa cdA ns o0 Dp op u D9_0 t91_0 t92_0 n9_0 v D9_1 t91_1 t92_1 n9_1 t D9_2 t91_2 t92_2 n9_2 Dl Dt Pp tp1 tp2 tp3 np Pq tq1 tq2 tq3 nq Pr tr1 tr2 tr3 nr tkm tkn KX T K1 dP hon hi0 hi1 hi2 m hm n hn p Ip q Iq r Ir LF c1 c2 c3
    intros
    repeat' ((fail_if_success (with_reducible show wpAny _ _ (execs (Stmt.If _ _ _ _ :: _) _) _ _ _)); (first
      | (k_unfold; (try dsimp only)) | (k_end; wrow_close) | walk1 | (dsimp only; walk1) | (leave1; walk_say "STEP leave1"; try dsimp only) | fail "no step"))
    (with_reducible rename Fr _ _ _ _ => Fb)
    (with_reducible rename News _ _ _ _ => Nb)
    have I00 := In3.none0
    have I01 := In3.none1
    have zd1 := LF.d1
    have zd2 := LF.d2
    have zd3 := LF.d3
    refine wpAny_execs_cons ?_
    refine if_false Fb Nb ?hc3 ?hk3
    case hc3 =>
      repeat' (first
        | ((with_reducible show wpAny _ _ (PySem.call (Value.ref 45) _) _ _ _); k_dflt ((first | (refine' (add_spec _ _ _ _ _ _ _ _ _ _ _ ?hD ?hp _ _ _ _ _ _ ?hE ?hq) _ _ _ _ _ _ _ _ _ _ _ _ _ _ _ _ _ ?k1 ?k2 ?k3 ?k4 ?k5 ?kK ?kd ?ku ?_; (case k1 => k_asm); (case k2 => k_asm); (case k3 => k_in); (case k4 => k_asm); (case k5 => k_asm); (case kK => first | exact rfl | assumption); (case kd => decide); (case ku => decide); (case hD => k_mem); (case hp => with_reducible assumption); (case hE => k_mem); (case hq => with_reducible assumption); ) | (refine' (add_spec _ _ _ _ _ _ _ _ _ _ _ ?hD ?hp _ (_, _, _) _ _ _ _ ?hE ?hq) _ _ _ _ _ _ _ _ _ _ _ _ _ _ _ _ _ ?k1 ?k2 ?k3 ?k4 ?k5 ?kK ?kd ?ku ?_; (case k1 => k_asm); (case k2 => k_asm); (case k3 => k_in); (case k4 => k_asm); (case k5 => k_asm); (case kK => first | exact rfl | assumption); (case kd => decide); (case ku => decide); (case hD => k_mem); (case hp => with_reducible assumption); (case hE => k_mem); (case hq => with_reducible assumption); ) | (refine' (add_spec _ _ _ _ _ _ (_, _, _) _ _ _ _ ?hD ?hp _ _ _ _ _ _ ?hE ?hq) _ _ _ _ _ _ _ _ _ _ _ _ _ _ _ _ _ ?k1 ?k2 ?k3 ?k4 ?k5 ?kK ?kd ?ku ?_; (case k1 => k_asm); (case k2 => k_asm); (case k3 => k_in); (case k4 => k_asm); (case k5 => k_asm); (case kK => first | exact rfl | assumption); (case kd => decide); (case ku => decide); (case hD => k_mem); (case hp => with_reducible assumption); (case hE => k_mem); (case hq => with_reducible assumption); ) | (refine' (add_spec _ _ _ _ _ _ (_, _, _) _ _ _ _ ?hD ?hp _ (_, _, _) _ _ _ _ ?hE ?hq) _ _ _ _ _ _ _ _ _ _ _ _ _ _ _ _ _ ?k1 ?k2 ?k3 ?k4 ?k5 ?kK ?kd ?ku ?_; (case k1 => k_asm); (case k2 => k_asm); (case k3 => k_in); (case k4 => k_asm); (case k5 => k_asm); (case kK => first | exact rfl | assumption); (case kd => decide); (case ku => decide); (case hD => k_mem); (case hp => with_reducible assumption); (case hE => k_mem); (case hq => with_reducible assumption); )); intro D9 t91 t92 t93 n9 h9 tk9 I9 F9 N9; (try dsimp only); (try k_fold)))
        | ((with_reducible show wpAny _ _ (PySem.call (Value.ref 115) _) _ _ _); k_dflt ((first | (refine' (same_spec _ _ _ _ _ _ _ _ _ _ _ ?hD ?hp _ _ _ _ _ _ ?hE ?hq) _ _ _ _ _ _ _ _ _ _ _ _ _ _ _ _ _ ?k1 ?k2 ?k3 ?k4 ?k5 ?kK ?kd ?ku ?_; (case k1 => k_asm); (case k2 => k_asm); (case k3 => k_in); (case k4 => k_asm); (case k5 => k_asm); (case kK => first | exact rfl | assumption); (case kd => decide); (case ku => decide); (case hD => k_mem); (case hp => with_reducible assumption); (case hE => k_mem); (case hq => with_reducible assumption); ) | (refine' (same_spec _ _ _ _ _ _ _ _ _ _ _ ?hD ?hp _ (_, _, _) _ _ _ _ ?hE ?hq) _ _ _ _ _ _ _ _ _ _ _ _ _ _ _ _ _ ?k1 ?k2 ?k3 ?k4 ?k5 ?kK ?kd ?ku ?_; (case k1 => k_asm); (case k2 => k_asm); (case k3 => k_in); (case k4 => k_asm); (case k5 => k_asm); (case kK => first | exact rfl | assumption); (case kd => decide); (case ku => decide); (case hD => k_mem); (case hp => with_reducible assumption); (case hE => k_mem); (case hq => with_reducible assumption); ) | (refine' (same_spec _ _ _ _ _ _ (_, _, _) _ _ _ _ ?hD ?hp _ _ _ _ _ _ ?hE ?hq) _ _ _ _ _ _ _ _ _ _ _ _ _ _ _ _ _ ?k1 ?k2 ?k3 ?k4 ?k5 ?kK ?kd ?ku ?_; (case k1 => k_asm); (case k2 => k_asm); (case k3 => k_in); (case k4 => k_asm); (case k5 => k_asm); (case kK => first | exact rfl | assumption); (case kd => decide); (case ku => decide); (case hD => k_mem); (case hp => with_reducible assumption); (case hE => k_mem); (case hq => with_reducible assumption); ) | (refine' (same_spec _ _ _ _ _ _ (_, _, _) _ _ _ _ ?hD ?hp _ (_, _, _) _ _ _ _ ?hE ?hq) _ _ _ _ _ _ _ _ _ _ _ _ _ _ _ _ _ ?k1 ?k2 ?k3 ?k4 ?k5 ?kK ?kd ?ku ?_; (case k1 => k_asm); (case k2 => k_asm); (case k3 => k_in); (case k4 => k_asm); (case k5 => k_asm); (case kK => first | exact rfl | assumption); (case kd => decide); (case ku => decide); (case hD => k_mem); (case hp => with_reducible assumption); (case hE => k_mem); (case hq => with_reducible assumption); )); intro h9 tk9 F9 N9; (try dsimp only); (try k_fold)))
        | ((with_reducible show wpAny _ _ (PySem.call (Value.ref 108) _) _ _ _); k_dflt ((first | (refine' (none_spec _ _ _ _ _ _ _ _ _ _ _ ?hD ?hp) _ _ _ _ _ _ _ _ _ _ _ _ _ _ _ _ _ ?k1 ?k2 ?k3 ?k4 ?k5 ?kK ?kd ?ku ?_; (case k1 => k_asm); (case k2 => k_asm); (case k3 => k_in); (case k4 => k_asm); (case k5 => k_asm); (case kK => first | exact rfl | assumption); (case kd => decide); (case ku => decide); (case hD => k_mem); (case hp => with_reducible assumption); ) | (refine' (none_spec _ _ _ _ _ _ (_, _, _) _ _ _ _ ?hD ?hp) _ _ _ _ _ _ _ _ _ _ _ _ _ _ _ _ _ ?k1 ?k2 ?k3 ?k4 ?k5 ?kK ?kd ?ku ?_; (case k1 => k_asm); (case k2 => k_asm); (case k3 => k_in); (case k4 => k_asm); (case k5 => k_asm); (case kK => first | exact rfl | assumption); (case kd => decide); (case ku => decide); (case hD => k_mem); (case hp => with_reducible assumption); )); intro h9 tk9 F9 N9; (try dsimp only); (try k_fold)))
        | (k_unfold; (try dsimp only)) | (k_end; wrow_close) | walk1 | (dsimp only; walk1) | (leave1; walk_say "STEP leave1"; try dsimp only) | fail "no step")
      all_goals first | k_asm | exact cb_drop (by k_asm) (by (intro p' hp'; repeat (first | exact hp' | exact List.Mem.tail _ hp' | refine List.Mem.tail _ ?_))) | exact (nb1 (by assumption) (by assumption) zn1 zn2).elim | exact (nb2 (by assumption) (by assumption)).elim | exact trivial
    clear Fb Nb zd1 zd2 zd3
    intro ha tka Fb Nb
    (try dsimp only)
    have zd4 := LF.d4
    have zd5 := LF.d5
    refine wpAny_execs_cons ?_
    refine if_false Fb Nb ?hc4 ?hk4
    case hc4 =>
      repeat' (first
        | ((with_reducible show wpAny _ _ (PySem.call (Value.ref 38) _) _ _ _); k_dflt ((first | (refine' (dbl_spec _ _ _ _ _ _ _ _ _ _ _ ?hD ?hp) _ _ _ _ _ _ _ _ _ _ _ _ _ _ _ _ _ ?k1 ?k2 ?k3 ?k4 ?k5 ?kK ?kd ?ku ?_; (case k1 => k_asm); (case k2 => k_asm); (case k3 => k_in); (case k4 => k_asm); (case k5 => k_asm); (case kK => first | exact rfl | assumption); (case kd => decide); (case ku => decide); (case hD => k_mem); (case hp => with_reducible assumption); ) | (refine' (dbl_spec _ _ _ _ _ _ (_, _, _) _ _ _ _ ?hD ?hp) _ _ _ _ _ _ _ _ _ _ _ _ _ _ _ _ _ ?k1 ?k2 ?k3 ?k4 ?k5 ?kK ?kd ?ku ?_; (case k1 => k_asm); (case k2 => k_asm); (case k3 => k_in); (case k4 => k_asm); (case k5 => k_asm); (case kK => first | exact rfl | assumption); (case kd => decide); (case ku => decide); (case hD => k_mem); (case hp => with_reducible assumption); )); intro D9 t91 t92 t93 n9 h9 tk9 I9 F9 N9; (try dsimp only); (try k_fold)))
        | ((with_reducible show wpAny _ _ (PySem.call (Value.ref 59) _) _ _ _); k_dflt ((first | (refine' (mulB_spec _ _ _ _ _ _ _ _ _ _ _ ?hD ?hp _ _ ?h0 ?h1) _ _ _ _ _ _ _ _ _ _ _ _ _ _ _ _ _ ?k1 ?k2 ?k3 ?k4 ?k5 ?kK ?kd ?ku ?_; (case k1 => k_asm); (case k2 => k_asm); (case k3 => k_in); (case k4 => k_asm); (case k5 => k_asm); (case kK => first | exact rfl | assumption); (case kd => decide); (case ku => decide); (case hD => k_mem); (case hp => with_reducible assumption); (case h0 => first | decide | omega); (case h1 => first | decide | omega); ) | (refine' (mulB_spec _ _ _ _ _ _ (_, _, _) _ _ _ _ ?hD ?hp _ _ ?h0 ?h1) _ _ _ _ _ _ _ _ _ _ _ _ _ _ _ _ _ ?k1 ?k2 ?k3 ?k4 ?k5 ?kK ?kd ?ku ?_; (case k1 => k_asm); (case k2 => k_asm); (case k3 => k_in); (case k4 => k_asm); (case k5 => k_asm); (case kK => first | exact rfl | assumption); (case kd => decide); (case ku => decide); (case hD => k_mem); (case hp => with_reducible assumption); (case h0 => first | decide | omega); (case h1 => first | decide | omega); )); intro D9 t91 t92 t93 n9 h9 tk9 I9 F9 N9; (try dsimp only); (try k_fold)))
        | ((with_reducible show wpAny _ _ (PySem.call (Value.ref 108) _) _ _ _); k_dflt ((first | (refine' (none_spec _ _ _ _ _ _ _ _ _ _ _ ?hD ?hp) _ _ _ _ _ _ _ _ _ _ _ _ _ _ _ _ _ ?k1 ?k2 ?k3 ?k4 ?k5 ?kK ?kd ?ku ?_; (case k1 => k_asm); (case k2 => k_asm); (case k3 => k_in); (case k4 => k_asm); (case k5 => k_asm); (case kK => first | exact rfl | assumption); (case kd => decide); (case ku => decide); (case hD => k_mem); (case hp => with_reducible assumption); ) | (refine' (none_spec _ _ _ _ _ _ (_, _, _) _ _ _ _ ?hD ?hp) _ _ _ _ _ _ _ _ _ _ _ _ _ _ _ _ _ ?k1 ?k2 ?k3 ?k4 ?k5 ?kK ?kd ?ku ?_; (case k1 => k_asm); (case k2 => k_asm); (case k3 => k_in); (case k4 => k_asm); (case k5 => k_asm); (case kK => first | exact rfl | assumption); (case kd => decide); (case ku => decide); (case hD => k_mem); (case hp => with_reducible assumption); )); intro h9 tk9 F9 N9; (try dsimp only); (try k_fold)))
        | (k_unfold; (try dsimp only)) | (k_end; wrow_close) | walk1 | (dsimp only; walk1) | (leave1; walk_say "STEP leave1"; try dsimp only) | fail "no step")
      all_goals first | k_asm | exact cb_drop (by k_asm) (by (intro p' hp'; repeat (first | exact hp' | exact List.Mem.tail _ hp' | refine List.Mem.tail _ ?_))) | exact (nb1 (by assumption) (by assumption) zn1 zn2).elim | exact (nb2 (by assumption) (by assumption)).elim | exact trivial
    clear Fb Nb zd4 zd5
    intro ha tka Fb Nb
    (try dsimp only)
    repeat' ((fail_if_success (with_reducible show wpAny _ _ (execs (Stmt.If _ _ _ _ :: _) _) _ _ _)); (first
      | (k_unfold; (try dsimp only)) | (k_end; wrow_close) | walk1 | (dsimp only; walk1) | (leave1; walk_say "STEP leave1"; try dsimp only) | fail "no step"))
    (with_reducible rename Fr _ _ _ _ => Fb)
    (with_reducible rename News _ _ _ _ => Nb)
    have ze1 := LF.e1
    have ze2 := LF.e2
    have ze3 := LF.e3
    refine wpAny_execs_cons ?_
    refine if_false Fb Nb ?hc5 ?hk5
    case hc5 =>
      repeat' (first
        | ((with_reducible show wpAny _ _ (PySem.call (Value.ref 45) _) _ _ _); k_dflt ((first | (refine' (add_spec _ _ _ _ _ _ _ _ _ _ _ ?hD ?hp _ _ _ _ _ _ ?hE ?hq) _ _ _ _ _ _ _ _ _ _ _ _ _ _ _ _ _ ?k1 ?k2 ?k3 ?k4 ?k5 ?kK ?kd ?ku ?_; (case k1 => k_asm); (case k2 => k_asm); (case k3 => k_in); (case k4 => k_asm); (case k5 => k_asm); (case kK => first | exact rfl | assumption); (case kd => decide); (case ku => decide); (case hD => k_mem); (case hp => with_reducible assumption); (case hE => k_mem); (case hq => with_reducible assumption); ) | (refine' (add_spec _ _ _ _ _ _ _ _ _ _ _ ?hD ?hp _ (_, _, _) _ _ _ _ ?hE ?hq) _ _ _ _ _ _ _ _ _ _ _ _ _ _ _ _ _ ?k1 ?k2 ?k3 ?k4 ?k5 ?kK ?kd ?ku ?_; (case k1 => k_asm); (case k2 => k_asm); (case k3 => k_in); (case k4 => k_asm); (case k5 => k_asm); (case kK => first | exact rfl | assumption); (case kd => decide); (case ku => decide); (case hD => k_mem); (case hp => with_reducible assumption); (case hE => k_mem); (case hq => with_reducible assumption); ) | (refine' (add_spec _ _ _ _ _ _ (_, _, _) _ _ _ _ ?hD ?hp _ _ _ _ _ _ ?hE ?hq) _ _ _ _ _ _ _ _ _ _ _ _ _ _ _ _ _ ?k1 ?k2 ?k3 ?k4 ?k5 ?kK ?kd ?ku ?_; (case k1 => k_asm); (case k2 => k_asm); (case k3 => k_in); (case k4 => k_asm); (case k5 => k_asm); (case kK => first | exact rfl | assumption); (case kd => decide); (case ku => decide); (case hD => k_mem); (case hp => with_reducible assumption); (case hE => k_mem); (case hq => with_reducible assumption); ) | (refine' (add_spec _ _ _ _ _ _ (_, _, _) _ _ _ _ ?hD ?hp _ (_, _, _) _ _ _ _ ?hE ?hq) _ _ _ _ _ _ _ _ _ _ _ _ _ _ _ _ _ ?k1 ?k2 ?k3 ?k4 ?k5 ?kK ?kd ?ku ?_; (case k1 => k_asm); (case k2 => k_asm); (case k3 => k_in); (case k4 => k_asm); (case k5 => k_asm); (case kK => first | exact rfl | assumption); (case kd => decide); (case ku => decide); (case hD => k_mem); (case hp => with_reducible assumption); (case hE => k_mem); (case hq => with_reducible assumption); )); intro D9 t91 t92 t93 n9 h9 tk9 I9 F9 N9; (try dsimp only); (try k_fold)))
        | ((with_reducible show wpAny _ _ (PySem.call (Value.ref 115) _) _ _ _); k_dflt ((first | (refine' (same_spec _ _ _ _ _ _ _ _ _ _ _ ?hD ?hp _ _ _ _ _ _ ?hE ?hq) _ _ _ _ _ _ _ _ _ _ _ _ _ _ _ _ _ ?k1 ?k2 ?k3 ?k4 ?k5 ?kK ?kd ?ku ?_; (case k1 => k_asm); (case k2 => k_asm); (case k3 => k_in); (case k4 => k_asm); (case k5 => k_asm); (case kK => first | exact rfl | assumption); (case kd => decide); (case ku => decide); (case hD => k_mem); (case hp => with_reducible assumption); (case hE => k_mem); (case hq => with_reducible assumption); ) | (refine' (same_spec _ _ _ _ _ _ _ _ _ _ _ ?hD ?hp _ (_, _, _) _ _ _ _ ?hE ?hq) _ _ _ _ _ _ _ _ _ _ _ _ _ _ _ _ _ ?k1 ?k2 ?k3 ?k4 ?k5 ?kK ?kd ?ku ?_; (case k1 => k_asm); (case k2 => k_asm); (case k3 => k_in); (case k4 => k_asm); (case k5 => k_asm); (case kK => first | exact rfl | assumption); (case kd => decide); (case ku => decide); (case hD => k_mem); (case hp => with_reducible assumption); (case hE => k_mem); (case hq => with_reducible assumption); ) | (refine' (same_spec _ _ _ _ _ _ (_, _, _) _ _ _ _ ?hD ?hp _ _ _ _ _ _ ?hE ?hq) _ _ _ _ _ _ _ _ _ _ _ _ _ _ _ _ _ ?k1 ?k2 ?k3 ?k4 ?k5 ?kK ?kd ?ku ?_; (case k1 => k_asm); (case k2 => k_asm); (case k3 => k_in); (case k4 => k_asm); (case k5 => k_asm); (case kK => first | exact rfl | assumption); (case kd => decide); (case ku => decide); (case hD => k_mem); (case hp => with_reducible assumption); (case hE => k_mem); (case hq => with_reducible assumption); ) | (refine' (same_spec _ _ _ _ _ _ (_, _, _) _ _ _ _ ?hD ?hp _ (_, _, _) _ _ _ _ ?hE ?hq) _ _ _ _ _ _ _ _ _ _ _ _ _ _ _ _ _ ?k1 ?k2 ?k3 ?k4 ?k5 ?kK ?kd ?ku ?_; (case k1 => k_asm); (case k2 => k_asm); (case k3 => k_in); (case k4 => k_asm); (case k5 => k_asm); (case kK => first | exact rfl | assumption); (case kd => decide); (case ku => decide); (case hD => k_mem); (case hp => with_reducible assumption); (case hE => k_mem); (case hq => with_reducible assumption); )); intro h9 tk9 F9 N9; (try dsimp only); (try k_fold)))
        | ((with_reducible show wpAny _ _ (PySem.call (Value.ref 108) _) _ _ _); k_dflt ((first | (refine' (none_spec _ _ _ _ _ _ _ _ _ _ _ ?hD ?hp) _ _ _ _ _ _ _ _ _ _ _ _ _ _ _ _ _ ?k1 ?k2 ?k3 ?k4 ?k5 ?kK ?kd ?ku ?_; (case k1 => k_asm); (case k2 => k_asm); (case k3 => k_in); (case k4 => k_asm); (case k5 => k_asm); (case kK => first | exact rfl | assumption); (case kd => decide); (case ku => decide); (case hD => k_mem); (case hp => with_reducible assumption); ) | (refine' (none_spec _ _ _ _ _ _ (_, _, _) _ _ _ _ ?hD ?hp) _ _ _ _ _ _ _ _ _ _ _ _ _ _ _ _ _ ?k1 ?k2 ?k3 ?k4 ?k5 ?kK ?kd ?ku ?_; (case k1 => k_asm); (case k2 => k_asm); (case k3 => k_in); (case k4 => k_asm); (case k5 => k_asm); (case kK => first | exact rfl | assumption); (case kd => decide); (case ku => decide); (case hD => k_mem); (case hp => with_reducible assumption); )); intro h9 tk9 F9 N9; (try dsimp only); (try k_fold)))
        | (k_unfold; (try dsimp only)) | (k_end; wrow_close) | walk1 | (dsimp only; walk1) | (leave1; walk_say "STEP leave1"; try dsimp only) | fail "no step")
      all_goals first | k_asm | exact cb_drop (by k_asm) (by (intro p' hp'; repeat (first | exact hp' | exact List.Mem.tail _ hp' | refine List.Mem.tail _ ?_))) | exact (nb1 (by assumption) (by assumption) zn1 zn2).elim | exact (nb2 (by assumption) (by assumption)).elim | exact trivial
    clear Fb Nb ze1 ze2 ze3
    intro ha tka Fb Nb
    (try dsimp only)
    have ze4 := LF.e4
    have ze5 := LF.e5
    refine wpAny_execs_cons ?_
    refine if_false Fb Nb ?hc6 ?hk6
    case hc6 =>
      repeat' (first
        | ((with_reducible show wpAny _ _ (PySem.call (Value.ref 38) _) _ _ _); k_dflt ((first | (refine' (dbl_spec _ _ _ _ _ _ _ _ _ _ _ ?hD ?hp) _ _ _ _ _ _ _ _ _ _ _ _ _ _ _ _ _ ?k1 ?k2 ?k3 ?k4 ?k5 ?kK ?kd ?ku ?_; (case k1 => k_asm); (case k2 => k_asm); (case k3 => k_in); (case k4 => k_asm); (case k5 => k_asm); (case kK => first | exact rfl | assumption); (case kd => decide); (case ku => decide); (case hD => k_mem); (case hp => with_reducible assumption); ) | (refine' (dbl_spec _ _ _ _ _ _ (_, _, _) _ _ _ _ ?hD ?hp) _ _ _ _ _ _ _ _ _ _ _ _ _ _ _ _ _ ?k1 ?k2 ?k3 ?k4 ?k5 ?kK ?kd ?ku ?_; (case k1 => k_asm); (case k2 => k_asm); (case k3 => k_in); (case k4 => k_asm); (case k5 => k_asm); (case kK => first | exact rfl | assumption); (case kd => decide); (case ku => decide); (case hD => k_mem); (case hp => with_reducible assumption); )); intro D9 t91 t92 t93 n9 h9 tk9 I9 F9 N9; (try dsimp only); (try k_fold)))
        | ((with_reducible show wpAny _ _ (PySem.call (Value.ref 59) _) _ _ _); k_dflt ((first | (refine' (mulB_spec _ _ _ _ _ _ _ _ _ _ _ ?hD ?hp _ _ ?h0 ?h1) _ _ _ _ _ _ _ _ _ _ _ _ _ _ _ _ _ ?k1 ?k2 ?k3 ?k4 ?k5 ?kK ?kd ?ku ?_; (case k1 => k_asm); (case k2 => k_asm); (case k3 => k_in); (case k4 => k_asm); (case k5 => k_asm); (case kK => first | exact rfl | assumption); (case kd => decide); (case ku => decide); (case hD => k_mem); (case hp => with_reducible assumption); (case h0 => first | decide | omega); (case h1 => first | decide | omega); ) | (refine' (mulB_spec _ _ _ _ _ _ (_, _, _) _ _ _ _ ?hD ?hp _ _ ?h0 ?h1) _ _ _ _ _ _ _ _ _ _ _ _ _ _ _ _ _ ?k1 ?k2 ?k3 ?k4 ?k5 ?kK ?kd ?ku ?_; (case k1 => k_asm); (case k2 => k_asm); (case k3 => k_in); (case k4 => k_asm); (case k5 => k_asm); (case kK => first | exact rfl | assumption); (case kd => decide); (case ku => decide); (case hD => k_mem); (case hp => with_reducible assumption); (case h0 => first | decide | omega); (case h1 => first | decide | omega); )); intro D9 t91 t92 t93 n9 h9 tk9 I9 F9 N9; (try dsimp only); (try k_fold)))
        | ((with_reducible show wpAny _ _ (PySem.call (Value.ref 108) _) _ _ _); k_dflt ((first | (refine' (none_spec _ _ _ _ _ _ _ _ _ _ _ ?hD ?hp) _ _ _ _ _ _ _ _ _ _ _ _ _ _ _ _ _ ?k1 ?k2 ?k3 ?k4 ?k5 ?kK ?kd ?ku ?_; (case k1 => k_asm); (case k2 => k_asm); (case k3 => k_in); (case k4 => k_asm); (case k5 => k_asm); (case kK => first | exact rfl | assumption); (case kd => decide); (case ku => decide); (case hD => k_mem); (case hp => with_reducible assumption); ) | (refine' (none_spec _ _ _ _ _ _ (_, _, _) _ _ _ _ ?hD ?hp) _ _ _ _ _ _ _ _ _ _ _ _ _ _ _ _ _ ?k1 ?k2 ?k3 ?k4 ?k5 ?kK ?kd ?ku ?_; (case k1 => k_asm); (case k2 => k_asm); (case k3 => k_in); (case k4 => k_asm); (case k5 => k_asm); (case kK => first | exact rfl | assumption); (case kd => decide); (case ku => decide); (case hD => k_mem); (case hp => with_reducible assumption); )); intro h9 tk9 F9 N9; (try dsimp only); (try k_fold)))
        | (k_unfold; (try dsimp only)) | (k_end; wrow_close) | walk1 | (dsimp only; walk1) | (leave1; walk_say "STEP leave1"; try dsimp only) | fail "no step")
      all_goals first | k_asm | exact cb_drop (by k_asm) (by (intro p' hp'; repeat (first | exact hp' | exact List.Mem.tail _ hp' | refine List.Mem.tail _ ?_))) | exact (nb1 (by assumption) (by assumption) zn1 zn2).elim | exact (nb2 (by assumption) (by assumption)).elim | exact trivial
    clear Fb Nb ze4 ze5
    intro ha tka Fb Nb
    (try dsimp only)
    repeat' ((fail_if_success (with_reducible show wpAny _ _ (execs (Stmt.If _ _ _ _ :: _) _) _ _ _)); (first
      | (k_unfold; (try dsimp only)) | (k_end; wrow_close) | walk1 | (dsimp only; walk1) | (leave1; walk_say "STEP leave1"; try dsimp only) | fail "no step"))
    (with_reducible rename Fr _ _ _ _ => Fb)
    (with_reducible rename News _ _ _ _ => Nb)
    (try dsimp only)
    repeat (first | revert Fb | revert Nb | revert ha | revert tka | revert hc | revert tkc | revert D9 | revert t91 | revert t92 | revert t93 | revert n9 | revert h9 | revert tk9 | revert I9 | revert F9 | revert N9 | revert l9 | revert I00 | revert I01 | revert hmn | revert hbm | revert hbn | revert h0 | revert tk0 | revert F0 | revert N0 | (rename_i z9; revert z9))
    revert w s₀ s₁ mg mb fa cdA ns o0 Dp op u D9_0 t91_0 t92_0 n9_0 v D9_1 t91_1 t92_1 n9_1 t D9_2 t91_2 t92_2 n9_2 Dl Dt Pp tp1 tp2 tp3 np Pq tq1 tq2 tq3 nq Pr tr1 tr2 tr3 nr tkm tkn KX T K1 dP hon hi0 hi1 hi2 m hm n hn p Ip q Iq r Ir LF c1 c2 c3
    exact goal.out
def piece6 : (G : Prop) ×' (Hide G → piece5.1) := by
  refine' PSigma.mk _ (fun goal => ?body)
  case body =>
    k_fill
    intro w s₀ s₁ mg mb fa cdA ns o0 Dp op u D9_0 t91_0 t92_0 n9_0 v D9_1 t91_1 t92_1 n9_1 t D9_2 t91_2 t92_2 n9_2 Dl Dt Pp tp1 tp2 tp3 np Pq tq1 tq2 tq3 nq Pr tr1 tr2 tr3 nr tkm tkn KX T K1 dP hon hi0 hi1 hi2 m hm n hn p Ip q Iq r Ir LF c1 c2 c3
    intros
    (with_reducible rename Fr _ _ _ _ => Fb)
    (with_reducible rename News _ _ _ _ => Nb)
    have zf1 := LF.f1
    have zf2 := LF.f2
    refine wpAny_execs_cons ?_
    refine if_false Fb Nb ?hc7 ?hk7
    case hc7 =>
      repeat' (first
        | ((with_reducible show wpAny _ _ (PySem.call (Value.ref 45) _) _ _ _); k_dflt ((first | (refine' (add_spec _ _ _ _ _ _ _ _ _ _ _ ?hD ?hp _ _ _ _ _ _ ?hE ?hq) _ _ _ _ _ _ _ _ _ _ _ _ _ _ _ _ _ ?k1 ?k2 ?k3 ?k4 ?k5 ?kK ?kd ?ku ?_; (case k1 => k_asm); (case k2 => k_asm); (case k3 => k_in); (case k4 => k_asm); (case k5 => k_asm); (case kK => first | exact rfl | assumption); (case kd => decide); (case ku => decide); (case hD => k_mem); (case hp => with_reducible assumption); (case hE => k_mem); (case hq => with_reducible assumption); ) | (refine' (add_spec _ _ _ _ _ _ _ _ _ _ _ ?hD ?hp _ (_, _, _) _ _ _ _ ?hE ?hq) _ _ _ _ _ _ _ _ _ _ _ _ _ _ _ _ _ ?k1 ?k2 ?k3 ?k4 ?k5 ?kK ?kd ?ku ?_; (case k1 => k_asm); (case k2 => k_asm); (case k3 => k_in); (case k4 => k_asm); (case k5 => k_asm); (case kK => first | exact rfl | assumption); (case kd => decide); (case ku => decide); (case hD => k_mem); (case hp => with_reducible assumption); (case hE => k_mem); (case hq => with_reducible assumption); ) | (refine' (add_spec _ _ _ _ _ _ (_, _, _) _ _ _ _ ?hD ?hp _ _ _ _ _ _ ?hE ?hq) _ _ _ _ _ _ _ _ _ _ _ _ _ _ _ _ _ ?k1 ?k2 ?k3 ?k4 ?k5 ?kK ?kd ?ku ?_; (case k1 => k_asm); (case k2 => k_asm); (case k3 => k_in); (case k4 => k_asm); (case k5 => k_asm); (case kK => first | exact rfl | assumption); (case kd => decide); (case ku => decide); (case hD => k_mem); (case hp => with_reducible assumption); (case hE => k_mem); (case hq => with_reducible assumption); ) | (refine' (add_spec _ _ _ _ _ _ (_, _, _) _ _ _ _ ?hD ?hp _ (_, _, _) _ _ _ _ ?hE ?hq) _ _ _ _ _ _ _ _ _ _ _ _ _ _ _ _ _ ?k1 ?k2 ?k3 ?k4 ?k5 ?kK ?kd ?ku ?_; (case k1 => k_asm); (case k2 => k_asm); (case k3 => k_in); (case k4 => k_asm); (case k5 => k_asm); (case kK => first | exact rfl | assumption); (case kd => decide); (case ku => decide); (case hD => k_mem); (case hp => with_reducible assumption); (case hE => k_mem); (case hq => with_reducible assumption); )); intro D9 t91 t92 t93 n9 h9 tk9 I9 F9 N9; (try dsimp only); (try k_fold)))
        | ((with_reducible show wpAny _ _ (PySem.call (Value.ref 115) _) _ _ _); k_dflt ((first | (refine' (same_spec _ _ _ _ _ _ _ _ _ _ _ ?hD ?hp _ _ _ _ _ _ ?hE ?hq) _ _ _ _ _ _ _ _ _ _ _ _ _ _ _ _ _ ?k1 ?k2 ?k3 ?k4 ?k5 ?kK ?kd ?ku ?_; (case k1 => k_asm); (case k2 => k_asm); (case k3 => k_in); (case k4 => k_asm); (case k5 => k_asm); (case kK => first | exact rfl | assumption); (case kd => decide); (case ku => decide); (case hD => k_mem); (case hp => with_reducible assumption); (case hE => k_mem); (case hq => with_reducible assumption); ) | (refine' (same_spec _ _ _ _ _ _ _ _ _ _ _ ?hD ?hp _ (_, _, _) _ _ _ _ ?hE ?hq) _ _ _ _ _ _ _ _ _ _ _ _ _ _ _ _ _ ?k1 ?k2 ?k3 ?k4 ?k5 ?kK ?kd ?ku ?_; (case k1 => k_asm); (case k2 => k_asm); (case k3 => k_in); (case k4 => k_asm); (case k5 => k_asm); (case kK => first | exact rfl | assumption); (case kd => decide); (case ku => decide); (case hD => k_mem); (case hp => with_reducible assumption); (case hE => k_mem); (case hq => with_reducible assumption); ) | (refine' (same_spec _ _ _ _ _ _ (_, _, _) _ _ _ _ ?hD ?hp _ _ _ _ _ _ ?hE ?hq) _ _ _ _ _ _ _ _ _ _ _ _ _ _ _ _ _ ?k1 ?k2 ?k3 ?k4 ?k5 ?kK ?kd ?ku ?_; (case k1 => k_asm); (case k2 => k_asm); (case k3 => k_in); (case k4 => k_asm); (case k5 => k_asm); (case kK => first | exact rfl | assumption); (case kd => decide); (case ku => decide); (case hD => k_mem); (case hp => with_reducible assumption); (case hE => k_mem); (case hq => with_reducible assumption); ) | (refine' (same_spec _ _ _ _ _ _ (_, _, _) _ _ _ _ ?hD ?hp _ (_, _, _) _ _ _ _ ?hE ?hq) _ _ _ _ _ _ _ _ _ _ _ _ _ _ _ _ _ ?k1 ?k2 ?k3 ?k4 ?k5 ?kK ?kd ?ku ?_; (case k1 => k_asm); (case k2 => k_asm); (case k3 => k_in); (case k4 => k_asm); (case k5 => k_asm); (case kK => first | exact rfl | assumption); (case kd => decide); (case ku => decide); (case hD => k_mem); (case hp => with_reducible assumption); (case hE => k_mem); (case hq => with_reducible assumption); )); intro h9 tk9 F9 N9; (try dsimp only); (try k_fold)))
        | ((with_reducible show wpAny _ _ (PySem.call (Value.ref 108) _) _ _ _); k_dflt ((first | (refine' (none_spec _ _ _ _ _ _ _ _ _ _ _ ?hD ?hp) _ _ _ _ _ _ _ _ _ _ _ _ _ _ _ _ _ ?k1 ?k2 ?k3 ?k4 ?k5 ?kK ?kd ?ku ?_; (case k1 => k_asm); (case k2 => k_asm); (case k3 => k_in); (case k4 => k_asm); (case k5 => k_asm); (case kK => first | exact rfl | assumption); (case kd => decide); (case ku => decide); (case hD => k_mem); (case hp => with_reducible assumption); ) | (refine' (none_spec _ _ _ _ _ _ (_, _, _) _ _ _ _ ?hD ?hp) _ _ _ _ _ _ _ _ _ _ _ _ _ _ _ _ _ ?k1 ?k2 ?k3 ?k4 ?k5 ?kK ?kd ?ku ?_; (case k1 => k_asm); (case k2 => k_asm); (case k3 => k_in); (case k4 => k_asm); (case k5 => k_asm); (case kK => first | exact rfl | assumption); (case kd => decide); (case ku => decide); (case hD => k_mem); (case hp => with_reducible assumption); )); intro h9 tk9 F9 N9; (try dsimp only); (try k_fold)))
        | ((with_reducible show wpAny _ _ (PySem.call (Value.ref 94) _) _ _ _); k_dflt ((first | (refine' (told_spec _ _ _ _ _ _ _ _ _ _ ?hD ?hp _ _ ?hz) _ _ _ _ _ _ _ _ _ _ _ _ _ _ _ _ _ ?k1 ?k2 ?k3 ?k4 ?k5 ?kK ?kd ?ku ?_; (case k1 => k_asm); (case k2 => k_asm); (case k3 => k_in); (case k4 => k_asm); (case k5 => k_asm); (case kK => first | exact rfl | assumption); (case kd => decide); (case ku => decide); (case hD => k_mem); (case hp => first | with_reducible assumption | exact ⟨InP.fmod _, And.right (by assumption)⟩); (case hz => (refine' Bd.mono ?m1 ?m2; (case m1 => ktr_rel); (case m2 => decide))); ) | (refine' (told_spec _ _ _ _ _ _ (_, _) _ _ _ ?hD ?hp _ _ ?hz) _ _ _ _ _ _ _ _ _ _ _ _ _ _ _ _ _ ?k1 ?k2 ?k3 ?k4 ?k5 ?kK ?kd ?ku ?_; (case k1 => k_asm); (case k2 => k_asm); (case k3 => k_in); (case k4 => k_asm); (case k5 => k_asm); (case kK => first | exact rfl | assumption); (case kd => decide); (case ku => decide); (case hD => k_mem); (case hp => first | with_reducible assumption | exact ⟨InP.fmod _, And.right (by assumption)⟩); (case hz => (refine' Bd.mono ?m1 ?m2; (case m1 => ktr_rel); (case m2 => decide))); )); intro D9 t91 t92 t93 n9 h9 tk9 I9 F9 N9 l9; (try simp only [AllLt, and_true] at l9); (try dsimp only); (try k_fold)))
        | ((with_reducible show wpAny _ _ (PySem.call (Value.ref 101) _) _ _ _); k_dflt ((first | (refine' (turned_spec _ _ _ _ _ _ _ _ _ _ _ ?hD ?hp) _ _ _ _ _ _ _ _ _ _ _ _ _ _ _ _ _ ?k1 ?k2 ?k3 ?k4 ?k5 ?kK ?kd ?ku ?_; (case k1 => k_asm); (case k2 => k_asm); (case k3 => k_in); (case k4 => k_asm); (case k5 => k_asm); (case kK => first | exact rfl | assumption); (case kd => decide); (case ku => decide); (case hD => k_mem); (case hp => with_reducible assumption); )); intro D9 t91 t92 t93 n9 h9 tk9 I9 F9 N9 l9; (try simp only [AllLt, and_true] at l9); (try dsimp only); (try k_fold)))
        | ((with_reducible show wpAny _ _ (PySem.call (Value.ref 38) _) _ _ _); k_dflt ((first | (refine' (dbl_spec _ _ _ _ _ _ _ _ _ _ _ ?hD ?hp) _ _ _ _ _ _ _ _ _ _ _ _ _ _ _ _ _ ?k1 ?k2 ?k3 ?k4 ?k5 ?kK ?kd ?ku ?_; (case k1 => k_asm); (case k2 => k_asm); (case k3 => k_in); (case k4 => k_asm); (case k5 => k_asm); (case kK => first | exact rfl | assumption); (case kd => decide); (case ku => decide); (case hD => k_mem); (case hp => with_reducible assumption); ) | (refine' (dbl_spec _ _ _ _ _ _ (_, _, _) _ _ _ _ ?hD ?hp) _ _ _ _ _ _ _ _ _ _ _ _ _ _ _ _ _ ?k1 ?k2 ?k3 ?k4 ?k5 ?kK ?kd ?ku ?_; (case k1 => k_asm); (case k2 => k_asm); (case k3 => k_in); (case k4 => k_asm); (case k5 => k_asm); (case kK => first | exact rfl | assumption); (case kd => decide); (case ku => decide); (case hD => k_mem); (case hp => with_reducible assumption); )); intro D9 t91 t92 t93 n9 h9 tk9 I9 F9 N9; (try dsimp only); (try k_fold)))
        | (k_unfold; (try dsimp only)) | (k_end; wrow_close) | walk1 | (dsimp only; walk1) | (leave1; walk_say "STEP leave1"; try dsimp only) | fail "no step")
      all_goals first | k_asm | exact cb_drop (by k_asm) (by (intro p' hp'; repeat (first | exact hp' | exact List.Mem.tail _ hp' | refine List.Mem.tail _ ?_))) | exact (nb1 (by assumption) (by assumption) zn1 zn2).elim | exact (nb2 (by assumption) (by assumption)).elim | exact trivial
    clear Fb Nb zf1 zf2
    intro ha tka Fb Nb
    (try dsimp only)
    repeat (first | revert Fb | revert Nb | revert ha | revert tka | revert hc | revert tkc | revert D9 | revert t91 | revert t92 | revert t93 | revert n9 | revert h9 | revert tk9 | revert I9 | revert F9 | revert N9 | revert l9 | revert I00 | revert I01 | revert hmn | revert hbm | revert hbn | revert h0 | revert tk0 | revert F0 | revert N0 | (rename_i z9; revert z9))
    revert w s₀ s₁ mg mb fa cdA ns o0 Dp op u D9_0 t91_0 t92_0 n9_0 v D9_1 t91_1 t92_1 n9_1 t D9_2 t91_2 t92_2 n9_2 Dl Dt Pp tp1 tp2 tp3 np Pq tq1 tq2 tq3 nq Pr tr1 tr2 tr3 nr tkm tkn KX T K1 dP hon hi0 hi1 hi2 m hm n hn p Ip q Iq r Ir LF c1 c2 c3
    exact goal.out
def piece7 : (G : Prop) ×' (Hide G → piece6.1) := by
  refine' PSigma.mk _ (fun goal => ?body)
  case body =>
    k_fill
    intro w s₀ s₁ mg mb fa cdA ns o0 Dp op u D9_0 t91_0 t92_0 n9_0 v D9_1 t91_1 t92_1 n9_1 t D9_2 t91_2 t92_2 n9_2 Dl Dt Pp tp1 tp2 tp3 np Pq tq1 tq2 tq3 nq Pr tr1 tr2 tr3 nr tkm tkn KX T K1 dP hon hi0 hi1 hi2 m hm n hn p Ip q Iq r Ir LF c1 c2 c3
    intros
    repeat' ((fail_if_success (with_reducible show wpAny _ _ (execs (Stmt.Assign [Expr.Name (Str.ofString "second") _] _ _ :: _) _) _ _ _)); (first
      | ((with_reducible show wpAny _ _ (PySem.call (Value.builtin "pow") _) _ _ _); k_dflt (refine pow_root ?_))
      | ((with_reducible show wpAny _ _ (binaryOp Operator.Mod (Value.int ((S3 - 1) * _) _) _) _ _ _); k_dflt (refine mod_rho ?_))
      | (k_unfold; (try dsimp only)) | (k_end; wrow_close) | walk1 | (dsimp only; walk1) | (leave1; walk_say "STEP leave1"; try dsimp only) | fail "no step"))
    (with_reducible rename Fr _ _ _ _ => Fb)
    (with_reducible rename News _ _ _ _ => Nb)
    refine cutL (s₁ := s₁) Fb Nb rfl ?_
    clear Fb Nb
    intro hc tkc Fb Nb
    (try dsimp only)
    repeat' ((fail_if_success (with_reducible show wpAny _ _ (execs (Stmt.Assign [Expr.Name (Str.ofString "third") _] _ _ :: _) _) _ _ _)); (first
      | ((with_reducible show wpAny _ _ (PySem.call (Value.ref 94) _) _ _ _); k_dflt ((first | (refine' (told_spec _ _ _ _ _ _ ((u.1 * RHO).fmod P, u.2) _ _ _ ?hD ?hp _ _ ?hz) _ _ _ _ _ _ _ _ _ _ _ _ _ _ _ _ _ ?k1 ?k2 ?k3 ?k4 ?k5 ?kK ?kd ?ku ?_; (case k1 => k_asm); (case k2 => k_asm); (case k3 => k_in); (case k4 => k_asm); (case k5 => k_asm); (case kK => first | exact rfl | assumption); (case kd => decide); (case ku => decide); (case hD => k_mem); (case hp => first | with_reducible assumption | exact ⟨InP.fmod _, And.right (by assumption)⟩); (case hz => (refine' Bd.mono ?m1 ?m2; (case m1 => ktr_rel); (case m2 => decide))); ) | (refine' (told_spec _ _ _ _ _ _ (_, _) _ _ _ ?hD ?hp _ _ ?hz) _ _ _ _ _ _ _ _ _ _ _ _ _ _ _ _ _ ?k1 ?k2 ?k3 ?k4 ?k5 ?kK ?kd ?ku ?_; (case k1 => k_asm); (case k2 => k_asm); (case k3 => k_in); (case k4 => k_asm); (case k5 => k_asm); (case kK => first | exact rfl | assumption); (case kd => decide); (case ku => decide); (case hD => k_mem); (case hp => first | with_reducible assumption | exact ⟨InP.fmod _, And.right (by assumption)⟩); (case hz => (refine' Bd.mono ?m1 ?m2; (case m1 => ktr_rel); (case m2 => decide))); )); intro D9 t91 t92 t93 n9 h9 tk9 I9 F9 N9 l9; (try simp only [AllLt, and_true] at l9); (try dsimp only); (try k_fold)))
      | (k_unfold; (try dsimp only)) | (k_end; wrow_close) | walk1 | (dsimp only; walk1) | (leave1; walk_say "STEP leave1"; try dsimp only) | fail "no step"))
    (with_reducible rename Fr _ _ _ _ => Fb)
    (with_reducible rename News _ _ _ _ => Nb)
    refine cutL (s₁ := s₁) Fb Nb rfl ?_
    clear Fb Nb
    intro hc tkc Fb Nb
    (try dsimp only)
    repeat' ((fail_if_success (with_reducible show wpAny _ _ (execs (Stmt.If _ _ _ _ :: _) _) _ _ _)); (first
      | ((with_reducible show wpAny _ _ (PySem.call (Value.ref 94) _) _ _ _); k_dflt ((first | (refine' (told_spec _ _ _ _ _ _ ((u.1 * RHO * RHO).fmod P, u.2) _ _ _ ?hD ?hp _ _ ?hz) _ _ _ _ _ _ _ _ _ _ _ _ _ _ _ _ _ ?k1 ?k2 ?k3 ?k4 ?k5 ?kK ?kd ?ku ?_; (case k1 => k_asm); (case k2 => k_asm); (case k3 => k_in); (case k4 => k_asm); (case k5 => k_asm); (case kK => first | exact rfl | assumption); (case kd => decide); (case ku => decide); (case hD => k_mem); (case hp => first | with_reducible assumption | exact ⟨InP.fmod _, And.right (by assumption)⟩); (case hz => (refine' Bd.mono ?m1 ?m2; (case m1 => ktr_rel); (case m2 => decide))); ) | (refine' (told_spec _ _ _ _ _ _ (_, _) _ _ _ ?hD ?hp _ _ ?hz) _ _ _ _ _ _ _ _ _ _ _ _ _ _ _ _ _ ?k1 ?k2 ?k3 ?k4 ?k5 ?kK ?kd ?ku ?_; (case k1 => k_asm); (case k2 => k_asm); (case k3 => k_in); (case k4 => k_asm); (case k5 => k_asm); (case kK => first | exact rfl | assumption); (case kd => decide); (case ku => decide); (case hD => k_mem); (case hp => first | with_reducible assumption | exact ⟨InP.fmod _, And.right (by assumption)⟩); (case hz => (refine' Bd.mono ?m1 ?m2; (case m1 => ktr_rel); (case m2 => decide))); )); intro D9 t91 t92 t93 n9 h9 tk9 I9 F9 N9 l9; (try simp only [AllLt, and_true] at l9); (try dsimp only); (try k_fold)))
      | (k_unfold; (try dsimp only)) | (k_end; wrow_close) | walk1 | (dsimp only; walk1) | (leave1; walk_say "STEP leave1"; try dsimp only) | fail "no step"))
    (with_reducible rename Fr _ _ _ _ => Fb)
    (with_reducible rename News _ _ _ _ => Nb)
    refine cutL (s₁ := s₁) Fb Nb rfl ?_
    clear Fb Nb
    intro hc tkc Fb Nb
    (try dsimp only)
    repeat (first | revert Fb | revert Nb | revert ha | revert tka | revert hc | revert tkc | revert D9 | revert t91 | revert t92 | revert t93 | revert n9 | revert h9 | revert tk9 | revert I9 | revert F9 | revert N9 | revert l9 | revert I00 | revert I01 | revert hmn | revert hbm | revert hbn | revert h0 | revert tk0 | revert F0 | revert N0 | (rename_i z9; revert z9))
    revert w s₀ s₁ mg mb fa cdA ns o0 Dp op u D9_0 t91_0 t92_0 n9_0 v D9_1 t91_1 t92_1 n9_1 t D9_2 t91_2 t92_2 n9_2 Dl Dt Pp tp1 tp2 tp3 np Pq tq1 tq2 tq3 nq Pr tr1 tr2 tr3 nr tkm tkn KX T K1 dP hon hi0 hi1 hi2 m hm n hn p Ip q Iq r Ir LF c1 c2 c3
    exact goal.out
def piece8 : (G : Prop) ×' (Hide G → piece7.1) := by
  refine' PSigma.mk _ (fun goal => ?body)
  case body =>
    k_fill
    intro w s₀ s₁ mg mb fa cdA ns o0 Dp op u D9_0 t91_0 t92_0 n9_0 v D9_1 t91_1 t92_1 n9_1 t D9_2 t91_2 t92_2 n9_2 Dl Dt Pp tp1 tp2 tp3 np Pq tq1 tq2 tq3 nq Pr tr1 tr2 tr3 nr tkm tkn KX T K1 dP hon hi0 hi1 hi2 m hm n hn p Ip q Iq r Ir LF c1 c2 c3
    intros
    (with_reducible rename Fr _ _ _ _ => Fb)
    (with_reducible rename News _ _ _ _ => Nb)
    have zg1 := LF.g1
    have zg2 := LF.g2
    refine wpAny_execs_cons ?_
    refine if_false Fb Nb ?hc8 ?hk8
    case hc8 =>
      repeat' (first
        | ((with_reducible show wpAny _ _ (PySem.call (Value.ref 45) _) _ _ _); k_dflt ((first | (refine' (add_spec _ _ _ _ _ _ _ _ _ _ _ ?hD ?hp _ _ _ _ _ _ ?hE ?hq) _ _ _ _ _ _ _ _ _ _ _ _ _ _ _ _ _ ?k1 ?k2 ?k3 ?k4 ?k5 ?kK ?kd ?ku ?_; (case k1 => k_asm); (case k2 => k_asm); (case k3 => k_in); (case k4 => k_asm); (case k5 => k_asm); (case kK => first | exact rfl | assumption); (case kd => decide); (case ku => decide); (case hD => k_mem); (case hp => with_reducible assumption); (case hE => k_mem); (case hq => with_reducible assumption); ) | (refine' (add_spec _ _ _ _ _ _ _ _ _ _ _ ?hD ?hp _ (_, _, _) _ _ _ _ ?hE ?hq) _ _ _ _ _ _ _ _ _ _ _ _ _ _ _ _ _ ?k1 ?k2 ?k3 ?k4 ?k5 ?kK ?kd ?ku ?_; (case k1 => k_asm); (case k2 => k_asm); (case k3 => k_in); (case k4 => k_asm); (case k5 => k_asm); (case kK => first | exact rfl | assumption); (case kd => decide); (case ku => decide); (case hD => k_mem); (case hp => with_reducible assumption); (case hE => k_mem); (case hq => with_reducible assumption); ) | (refine' (add_spec _ _ _ _ _ _ (_, _, _) _ _ _ _ ?hD ?hp _ _ _ _ _ _ ?hE ?hq) _ _ _ _ _ _ _ _ _ _ _ _ _ _ _ _ _ ?k1 ?k2 ?k3 ?k4 ?k5 ?kK ?kd ?ku ?_; (case k1 => k_asm); (case k2 => k_asm); (case k3 => k_in); (case k4 => k_asm); (case k5 => k_asm); (case kK => first | exact rfl | assumption); (case kd => decide); (case ku => decide); (case hD => k_mem); (case hp => with_reducible assumption); (case hE => k_mem); (case hq => with_reducible assumption); ) | (refine' (add_spec _ _ _ _ _ _ (_, _, _) _ _ _ _ ?hD ?hp _ (_, _, _) _ _ _ _ ?hE ?hq) _ _ _ _ _ _ _ _ _ _ _ _ _ _ _ _ _ ?k1 ?k2 ?k3 ?k4 ?k5 ?kK ?kd ?ku ?_; (case k1 => k_asm); (case k2 => k_asm); (case k3 => k_in); (case k4 => k_asm); (case k5 => k_asm); (case kK => first | exact rfl | assumption); (case kd => decide); (case ku => decide); (case hD => k_mem); (case hp => with_reducible assumption); (case hE => k_mem); (case hq => with_reducible assumption); )); intro D9 t91 t92 t93 n9 h9 tk9 I9 F9 N9; (try dsimp only); (try k_fold)))
        | ((with_reducible show wpAny _ _ (PySem.call (Value.ref 115) _) _ _ _); k_dflt ((first | (refine' (same_spec _ _ _ _ _ _ _ _ _ _ _ ?hD ?hp _ _ _ _ _ _ ?hE ?hq) _ _ _ _ _ _ _ _ _ _ _ _ _ _ _ _ _ ?k1 ?k2 ?k3 ?k4 ?k5 ?kK ?kd ?ku ?_; (case k1 => k_asm); (case k2 => k_asm); (case k3 => k_in); (case k4 => k_asm); (case k5 => k_asm); (case kK => first | exact rfl | assumption); (case kd => decide); (case ku => decide); (case hD => k_mem); (case hp => with_reducible assumption); (case hE => k_mem); (case hq => with_reducible assumption); ) | (refine' (same_spec _ _ _ _ _ _ _ _ _ _ _ ?hD ?hp _ (_, _, _) _ _ _ _ ?hE ?hq) _ _ _ _ _ _ _ _ _ _ _ _ _ _ _ _ _ ?k1 ?k2 ?k3 ?k4 ?k5 ?kK ?kd ?ku ?_; (case k1 => k_asm); (case k2 => k_asm); (case k3 => k_in); (case k4 => k_asm); (case k5 => k_asm); (case kK => first | exact rfl | assumption); (case kd => decide); (case ku => decide); (case hD => k_mem); (case hp => with_reducible assumption); (case hE => k_mem); (case hq => with_reducible assumption); ) | (refine' (same_spec _ _ _ _ _ _ (_, _, _) _ _ _ _ ?hD ?hp _ _ _ _ _ _ ?hE ?hq) _ _ _ _ _ _ _ _ _ _ _ _ _ _ _ _ _ ?k1 ?k2 ?k3 ?k4 ?k5 ?kK ?kd ?ku ?_; (case k1 => k_asm); (case k2 => k_asm); (case k3 => k_in); (case k4 => k_asm); (case k5 => k_asm); (case kK => first | exact rfl | assumption); (case kd => decide); (case ku => decide); (case hD => k_mem); (case hp => with_reducible assumption); (case hE => k_mem); (case hq => with_reducible assumption); ) | (refine' (same_spec _ _ _ _ _ _ (_, _, _) _ _ _ _ ?hD ?hp _ (_, _, _) _ _ _ _ ?hE ?hq) _ _ _ _ _ _ _ _ _ _ _ _ _ _ _ _ _ ?k1 ?k2 ?k3 ?k4 ?k5 ?kK ?kd ?ku ?_; (case k1 => k_asm); (case k2 => k_asm); (case k3 => k_in); (case k4 => k_asm); (case k5 => k_asm); (case kK => first | exact rfl | assumption); (case kd => decide); (case ku => decide); (case hD => k_mem); (case hp => with_reducible assumption); (case hE => k_mem); (case hq => with_reducible assumption); )); intro h9 tk9 F9 N9; (try dsimp only); (try k_fold)))
        | ((with_reducible show wpAny _ _ (PySem.call (Value.ref 108) _) _ _ _); k_dflt ((first | (refine' (none_spec _ _ _ _ _ _ _ _ _ _ _ ?hD ?hp) _ _ _ _ _ _ _ _ _ _ _ _ _ _ _ _ _ ?k1 ?k2 ?k3 ?k4 ?k5 ?kK ?kd ?ku ?_; (case k1 => k_asm); (case k2 => k_asm); (case k3 => k_in); (case k4 => k_asm); (case k5 => k_asm); (case kK => first | exact rfl | assumption); (case kd => decide); (case ku => decide); (case hD => k_mem); (case hp => with_reducible assumption); ) | (refine' (none_spec _ _ _ _ _ _ (_, _, _) _ _ _ _ ?hD ?hp) _ _ _ _ _ _ _ _ _ _ _ _ _ _ _ _ _ ?k1 ?k2 ?k3 ?k4 ?k5 ?kK ?kd ?ku ?_; (case k1 => k_asm); (case k2 => k_asm); (case k3 => k_in); (case k4 => k_asm); (case k5 => k_asm); (case kK => first | exact rfl | assumption); (case kd => decide); (case ku => decide); (case hD => k_mem); (case hp => with_reducible assumption); )); intro h9 tk9 F9 N9; (try dsimp only); (try k_fold)))
        | ((with_reducible show wpAny _ _ (PySem.call (Value.ref 101) _) _ _ _); k_dflt ((first | (refine' (turned_spec _ _ _ _ _ _ _ _ _ _ _ ?hD ?hp) _ _ _ _ _ _ _ _ _ _ _ _ _ _ _ _ _ ?k1 ?k2 ?k3 ?k4 ?k5 ?kK ?kd ?ku ?_; (case k1 => k_asm); (case k2 => k_asm); (case k3 => k_in); (case k4 => k_asm); (case k5 => k_asm); (case kK => first | exact rfl | assumption); (case kd => decide); (case ku => decide); (case hD => k_mem); (case hp => with_reducible assumption); )); intro D9 t91 t92 t93 n9 h9 tk9 I9 F9 N9 l9; (try simp only [AllLt, and_true] at l9); (try dsimp only); (try k_fold)))
        | ((with_reducible show wpAny _ _ (binaryOp Operator.Mod (Value.int (RHO * RHO + RHO + 1) _) _) _ _ _); k_dflt (refine mod_one ?_))
        | (k_unfold; (try dsimp only)) | (k_end; wrow_close) | walk1 | (dsimp only; walk1) | (leave1; walk_say "STEP leave1"; try dsimp only) | fail "no step")
      all_goals first | k_asm | exact cb_drop (by k_asm) (by (intro p' hp'; repeat (first | exact hp' | exact List.Mem.tail _ hp' | refine List.Mem.tail _ ?_))) | exact (nb1 (by assumption) (by assumption) zn1 zn2).elim | exact (nb2 (by assumption) (by assumption)).elim | exact (nbi zg1 (by assumption) (by assumption)).elim | exact (nbi zg2 (by assumption) (by assumption)).elim | exact trivial
    clear Fb Nb zg1 zg2
    intro ha tka Fb Nb
    (try dsimp only)
    repeat (first | revert Fb | revert Nb | revert ha | revert tka | revert hc | revert tkc | revert D9 | revert t91 | revert t92 | revert t93 | revert n9 | revert h9 | revert tk9 | revert I9 | revert F9 | revert N9 | revert l9 | revert I00 | revert I01 | revert hmn | revert hbm | revert hbn | revert h0 | revert tk0 | revert F0 | revert N0 | (rename_i z9; revert z9))
    revert w s₀ s₁ mg mb fa cdA ns o0 Dp op u D9_0 t91_0 t92_0 n9_0 v D9_1 t91_1 t92_1 n9_1 t D9_2 t91_2 t92_2 n9_2 Dl Dt Pp tp1 tp2 tp3 np Pq tq1 tq2 tq3 nq Pr tr1 tr2 tr3 nr tkm tkn KX T K1 dP hon hi0 hi1 hi2 m hm n hn p Ip q Iq r Ir LF c1 c2 c3
    exact goal.out
def piece9 : (G : Prop) ×' (Hide G → piece8.1) := by
  refine' PSigma.mk _ (fun goal => ?body)
  case body =>
    k_fill
    intro w s₀ s₁ mg mb fa cdA ns o0 Dp op u D9_0 t91_0 t92_0 n9_0 v D9_1 t91_1 t92_1 n9_1 t D9_2 t91_2 t92_2 n9_2 Dl Dt Pp tp1 tp2 tp3 np Pq tq1 tq2 tq3 nq Pr tr1 tr2 tr3 nr tkm tkn KX T K1 dP hon hi0 hi1 hi2 m hm n hn p Ip q Iq r Ir LF c1 c2 c3
    intros
    (with_reducible rename Fr _ _ _ _ => Fb)
    (with_reducible rename News _ _ _ _ => Nb)
    have hmn : 0 ≤ m * n ∧ m * n < 256 := mulmn hm hn
    have hbm : Bd 256 m := bdm hm
    have hbn : Bd 256 n := bdm hn
    have zh1 := LF.h1
    refine wpAny_execs_cons ?_
    refine if_false Fb Nb ?hc9 ?hk9
    case hc9 =>
      repeat' (first
        | ((with_reducible show wpAny _ _ (PySem.call (Value.ref 45) _) _ _ _); k_dflt ((first | (refine' (add_spec _ _ _ _ _ _ _ _ _ _ _ ?hD ?hp _ _ _ _ _ _ ?hE ?hq) _ _ _ _ _ _ _ _ _ _ _ _ _ _ _ _ _ ?k1 ?k2 ?k3 ?k4 ?k5 ?kK ?kd ?ku ?_; (case k1 => k_asm); (case k2 => k_asm); (case k3 => k_in); (case k4 => k_asm); (case k5 => k_asm); (case kK => first | exact rfl | assumption); (case kd => decide); (case ku => decide); (case hD => k_mem); (case hp => with_reducible assumption); (case hE => k_mem); (case hq => with_reducible assumption); ) | (refine' (add_spec _ _ _ _ _ _ _ _ _ _ _ ?hD ?hp _ (_, _, _) _ _ _ _ ?hE ?hq) _ _ _ _ _ _ _ _ _ _ _ _ _ _ _ _ _ ?k1 ?k2 ?k3 ?k4 ?k5 ?kK ?kd ?ku ?_; (case k1 => k_asm); (case k2 => k_asm); (case k3 => k_in); (case k4 => k_asm); (case k5 => k_asm); (case kK => first | exact rfl | assumption); (case kd => decide); (case ku => decide); (case hD => k_mem); (case hp => with_reducible assumption); (case hE => k_mem); (case hq => with_reducible assumption); ) | (refine' (add_spec _ _ _ _ _ _ (_, _, _) _ _ _ _ ?hD ?hp _ _ _ _ _ _ ?hE ?hq) _ _ _ _ _ _ _ _ _ _ _ _ _ _ _ _ _ ?k1 ?k2 ?k3 ?k4 ?k5 ?kK ?kd ?ku ?_; (case k1 => k_asm); (case k2 => k_asm); (case k3 => k_in); (case k4 => k_asm); (case k5 => k_asm); (case kK => first | exact rfl | assumption); (case kd => decide); (case ku => decide); (case hD => k_mem); (case hp => with_reducible assumption); (case hE => k_mem); (case hq => with_reducible assumption); ) | (refine' (add_spec _ _ _ _ _ _ (_, _, _) _ _ _ _ ?hD ?hp _ (_, _, _) _ _ _ _ ?hE ?hq) _ _ _ _ _ _ _ _ _ _ _ _ _ _ _ _ _ ?k1 ?k2 ?k3 ?k4 ?k5 ?kK ?kd ?ku ?_; (case k1 => k_asm); (case k2 => k_asm); (case k3 => k_in); (case k4 => k_asm); (case k5 => k_asm); (case kK => first | exact rfl | assumption); (case kd => decide); (case ku => decide); (case hD => k_mem); (case hp => with_reducible assumption); (case hE => k_mem); (case hq => with_reducible assumption); )); intro D9 t91 t92 t93 n9 h9 tk9 I9 F9 N9; (try dsimp only); (try k_fold)))
        | ((with_reducible show wpAny _ _ (PySem.call (Value.ref 115) _) _ _ _); k_dflt ((first | (refine' (same_spec _ _ _ _ _ _ _ _ _ _ _ ?hD ?hp _ _ _ _ _ _ ?hE ?hq) _ _ _ _ _ _ _ _ _ _ _ _ _ _ _ _ _ ?k1 ?k2 ?k3 ?k4 ?k5 ?kK ?kd ?ku ?_; (case k1 => k_asm); (case k2 => k_asm); (case k3 => k_in); (case k4 => k_asm); (case k5 => k_asm); (case kK => first | exact rfl | assumption); (case kd => decide); (case ku => decide); (case hD => k_mem); (case hp => with_reducible assumption); (case hE => k_mem); (case hq => with_reducible assumption); ) | (refine' (same_spec _ _ _ _ _ _ _ _ _ _ _ ?hD ?hp _ (_, _, _) _ _ _ _ ?hE ?hq) _ _ _ _ _ _ _ _ _ _ _ _ _ _ _ _ _ ?k1 ?k2 ?k3 ?k4 ?k5 ?kK ?kd ?ku ?_; (case k1 => k_asm); (case k2 => k_asm); (case k3 => k_in); (case k4 => k_asm); (case k5 => k_asm); (case kK => first | exact rfl | assumption); (case kd => decide); (case ku => decide); (case hD => k_mem); (case hp => with_reducible assumption); (case hE => k_mem); (case hq => with_reducible assumption); ) | (refine' (same_spec _ _ _ _ _ _ (_, _, _) _ _ _ _ ?hD ?hp _ _ _ _ _ _ ?hE ?hq) _ _ _ _ _ _ _ _ _ _ _ _ _ _ _ _ _ ?k1 ?k2 ?k3 ?k4 ?k5 ?kK ?kd ?ku ?_; (case k1 => k_asm); (case k2 => k_asm); (case k3 => k_in); (case k4 => k_asm); (case k5 => k_asm); (case kK => first | exact rfl | assumption); (case kd => decide); (case ku => decide); (case hD => k_mem); (case hp => with_reducible assumption); (case hE => k_mem); (case hq => with_reducible assumption); ) | (refine' (same_spec _ _ _ _ _ _ (_, _, _) _ _ _ _ ?hD ?hp _ (_, _, _) _ _ _ _ ?hE ?hq) _ _ _ _ _ _ _ _ _ _ _ _ _ _ _ _ _ ?k1 ?k2 ?k3 ?k4 ?k5 ?kK ?kd ?ku ?_; (case k1 => k_asm); (case k2 => k_asm); (case k3 => k_in); (case k4 => k_asm); (case k5 => k_asm); (case kK => first | exact rfl | assumption); (case kd => decide); (case ku => decide); (case hD => k_mem); (case hp => with_reducible assumption); (case hE => k_mem); (case hq => with_reducible assumption); )); intro h9 tk9 F9 N9; (try dsimp only); (try k_fold)))
        | ((with_reducible show wpAny _ _ (PySem.call (Value.ref 59) _) _ _ _); k_dflt ((first | (refine' (mulB_spec _ _ _ _ _ _ _ _ _ _ _ ?hD ?hp _ _ ?h0 ?h1) _ _ _ _ _ _ _ _ _ _ _ _ _ _ _ _ _ ?k1 ?k2 ?k3 ?k4 ?k5 ?kK ?kd ?ku ?_; (case k1 => k_asm); (case k2 => k_asm); (case k3 => k_in); (case k4 => k_asm); (case k5 => k_asm); (case kK => first | exact rfl | assumption); (case kd => decide); (case ku => decide); (case hD => k_mem); (case hp => with_reducible assumption); (case h0 => first | decide | omega); (case h1 => first | decide | omega); ) | (refine' (mulB_spec _ _ _ _ _ _ (_, _, _) _ _ _ _ ?hD ?hp _ _ ?h0 ?h1) _ _ _ _ _ _ _ _ _ _ _ _ _ _ _ _ _ ?k1 ?k2 ?k3 ?k4 ?k5 ?kK ?kd ?ku ?_; (case k1 => k_asm); (case k2 => k_asm); (case k3 => k_in); (case k4 => k_asm); (case k5 => k_asm); (case kK => first | exact rfl | assumption); (case kd => decide); (case ku => decide); (case hD => k_mem); (case hp => with_reducible assumption); (case h0 => first | decide | omega); (case h1 => first | decide | omega); )); intro D9 t91 t92 t93 n9 h9 tk9 I9 F9 N9; (try dsimp only); (try k_fold)))
        | (k_unfold; (try dsimp only)) | (k_end; wrow_close) | walk1 | (dsimp only; walk1) | (leave1; walk_say "STEP leave1"; try dsimp only) | fail "no step")
      all_goals first | k_asm | exact cb_drop (by k_asm) (by (intro p' hp'; repeat (first | exact hp' | exact List.Mem.tail _ hp' | refine List.Mem.tail _ ?_))) | exact (nb1 (by assumption) (by assumption) zn1 zn2).elim | exact (nb2 (by assumption) (by assumption)).elim | (rw [zh1]; rfl) | exact trivial
    clear Fb Nb zh1
    intro ha tka Fb Nb
    (try dsimp only)
    repeat (first | revert Fb | revert Nb | revert ha | revert tka | revert hc | revert tkc | revert D9 | revert t91 | revert t92 | revert t93 | revert n9 | revert h9 | revert tk9 | revert I9 | revert F9 | revert N9 | revert l9 | revert I00 | revert I01 | revert hmn | revert hbm | revert hbn | revert h0 | revert tk0 | revert F0 | revert N0 | (rename_i z9; revert z9))
    revert w s₀ s₁ mg mb fa cdA ns o0 Dp op u D9_0 t91_0 t92_0 n9_0 v D9_1 t91_1 t92_1 n9_1 t D9_2 t91_2 t92_2 n9_2 Dl Dt Pp tp1 tp2 tp3 np Pq tq1 tq2 tq3 nq Pr tr1 tr2 tr3 nr tkm tkn KX T K1 dP hon hi0 hi1 hi2 m hm n hn p Ip q Iq r Ir LF c1 c2 c3
    exact goal.out
def piece10 : (G : Prop) ×' (Hide G → piece9.1) := by
  refine' PSigma.mk _ (fun goal => ?body)
  case body =>
    k_fill
    intro w s₀ s₁ mg mb fa cdA ns o0 Dp op u D9_0 t91_0 t92_0 n9_0 v D9_1 t91_1 t92_1 n9_1 t D9_2 t91_2 t92_2 n9_2 Dl Dt Pp tp1 tp2 tp3 np Pq tq1 tq2 tq3 nq Pr tr1 tr2 tr3 nr tkm tkn KX T K1 dP hon hi0 hi1 hi2 m hm n hn p Ip q Iq r Ir LF c1 c2 c3
    intros
    (with_reducible rename Fr _ _ _ _ => Fb)
    (with_reducible rename News _ _ _ _ => Nb)
    have zh2 := LF.h2
    have zh3 := LF.h3
    refine wpAny_execs_cons ?_
    refine if_false Fb Nb ?hc10 ?hk10
    case hc10 =>
      repeat' (first
        | ((with_reducible show wpAny _ _ (PySem.call (Value.ref 45) _) _ _ _); k_dflt ((first | (refine' (add_spec _ _ _ _ _ _ _ _ _ _ _ ?hD ?hp _ _ _ _ _ _ ?hE ?hq) _ _ _ _ _ _ _ _ _ _ _ _ _ _ _ _ _ ?k1 ?k2 ?k3 ?k4 ?k5 ?kK ?kd ?ku ?_; (case k1 => k_asm); (case k2 => k_asm); (case k3 => k_in); (case k4 => k_asm); (case k5 => k_asm); (case kK => first | exact rfl | assumption); (case kd => decide); (case ku => decide); (case hD => k_mem); (case hp => with_reducible assumption); (case hE => k_mem); (case hq => with_reducible assumption); ) | (refine' (add_spec _ _ _ _ _ _ _ _ _ _ _ ?hD ?hp _ (_, _, _) _ _ _ _ ?hE ?hq) _ _ _ _ _ _ _ _ _ _ _ _ _ _ _ _ _ ?k1 ?k2 ?k3 ?k4 ?k5 ?kK ?kd ?ku ?_; (case k1 => k_asm); (case k2 => k_asm); (case k3 => k_in); (case k4 => k_asm); (case k5 => k_asm); (case kK => first | exact rfl | assumption); (case kd => decide); (case ku => decide); (case hD => k_mem); (case hp => with_reducible assumption); (case hE => k_mem); (case hq => with_reducible assumption); ) | (refine' (add_spec _ _ _ _ _ _ (_, _, _) _ _ _ _ ?hD ?hp _ _ _ _ _ _ ?hE ?hq) _ _ _ _ _ _ _ _ _ _ _ _ _ _ _ _ _ ?k1 ?k2 ?k3 ?k4 ?k5 ?kK ?kd ?ku ?_; (case k1 => k_asm); (case k2 => k_asm); (case k3 => k_in); (case k4 => k_asm); (case k5 => k_asm); (case kK => first | exact rfl | assumption); (case kd => decide); (case ku => decide); (case hD => k_mem); (case hp => with_reducible assumption); (case hE => k_mem); (case hq => with_reducible assumption); ) | (refine' (add_spec _ _ _ _ _ _ (_, _, _) _ _ _ _ ?hD ?hp _ (_, _, _) _ _ _ _ ?hE ?hq) _ _ _ _ _ _ _ _ _ _ _ _ _ _ _ _ _ ?k1 ?k2 ?k3 ?k4 ?k5 ?kK ?kd ?ku ?_; (case k1 => k_asm); (case k2 => k_asm); (case k3 => k_in); (case k4 => k_asm); (case k5 => k_asm); (case kK => first | exact rfl | assumption); (case kd => decide); (case ku => decide); (case hD => k_mem); (case hp => with_reducible assumption); (case hE => k_mem); (case hq => with_reducible assumption); )); intro D9 t91 t92 t93 n9 h9 tk9 I9 F9 N9; (try dsimp only); (try k_fold)))
        | ((with_reducible show wpAny _ _ (PySem.call (Value.ref 115) _) _ _ _); k_dflt ((first | (refine' (same_spec _ _ _ _ _ _ _ _ _ _ _ ?hD ?hp _ _ _ _ _ _ ?hE ?hq) _ _ _ _ _ _ _ _ _ _ _ _ _ _ _ _ _ ?k1 ?k2 ?k3 ?k4 ?k5 ?kK ?kd ?ku ?_; (case k1 => k_asm); (case k2 => k_asm); (case k3 => k_in); (case k4 => k_asm); (case k5 => k_asm); (case kK => first | exact rfl | assumption); (case kd => decide); (case ku => decide); (case hD => k_mem); (case hp => with_reducible assumption); (case hE => k_mem); (case hq => with_reducible assumption); ) | (refine' (same_spec _ _ _ _ _ _ _ _ _ _ _ ?hD ?hp _ (_, _, _) _ _ _ _ ?hE ?hq) _ _ _ _ _ _ _ _ _ _ _ _ _ _ _ _ _ ?k1 ?k2 ?k3 ?k4 ?k5 ?kK ?kd ?ku ?_; (case k1 => k_asm); (case k2 => k_asm); (case k3 => k_in); (case k4 => k_asm); (case k5 => k_asm); (case kK => first | exact rfl | assumption); (case kd => decide); (case ku => decide); (case hD => k_mem); (case hp => with_reducible assumption); (case hE => k_mem); (case hq => with_reducible assumption); ) | (refine' (same_spec _ _ _ _ _ _ (_, _, _) _ _ _ _ ?hD ?hp _ _ _ _ _ _ ?hE ?hq) _ _ _ _ _ _ _ _ _ _ _ _ _ _ _ _ _ ?k1 ?k2 ?k3 ?k4 ?k5 ?kK ?kd ?ku ?_; (case k1 => k_asm); (case k2 => k_asm); (case k3 => k_in); (case k4 => k_asm); (case k5 => k_asm); (case kK => first | exact rfl | assumption); (case kd => decide); (case ku => decide); (case hD => k_mem); (case hp => with_reducible assumption); (case hE => k_mem); (case hq => with_reducible assumption); ) | (refine' (same_spec _ _ _ _ _ _ (_, _, _) _ _ _ _ ?hD ?hp _ (_, _, _) _ _ _ _ ?hE ?hq) _ _ _ _ _ _ _ _ _ _ _ _ _ _ _ _ _ ?k1 ?k2 ?k3 ?k4 ?k5 ?kK ?kd ?ku ?_; (case k1 => k_asm); (case k2 => k_asm); (case k3 => k_in); (case k4 => k_asm); (case k5 => k_asm); (case kK => first | exact rfl | assumption); (case kd => decide); (case ku => decide); (case hD => k_mem); (case hp => with_reducible assumption); (case hE => k_mem); (case hq => with_reducible assumption); )); intro h9 tk9 F9 N9; (try dsimp only); (try k_fold)))
        | ((with_reducible show wpAny _ _ (PySem.call (Value.ref 59) _) _ _ _); k_dflt ((first | (refine' (mulB_spec _ _ _ _ _ _ _ _ _ _ _ ?hD ?hp _ _ ?h0 ?h1) _ _ _ _ _ _ _ _ _ _ _ _ _ _ _ _ _ ?k1 ?k2 ?k3 ?k4 ?k5 ?kK ?kd ?ku ?_; (case k1 => k_asm); (case k2 => k_asm); (case k3 => k_in); (case k4 => k_asm); (case k5 => k_asm); (case kK => first | exact rfl | assumption); (case kd => decide); (case ku => decide); (case hD => k_mem); (case hp => with_reducible assumption); (case h0 => first | decide | omega); (case h1 => first | decide | omega); ) | (refine' (mulB_spec _ _ _ _ _ _ (_, _, _) _ _ _ _ ?hD ?hp _ _ ?h0 ?h1) _ _ _ _ _ _ _ _ _ _ _ _ _ _ _ _ _ ?k1 ?k2 ?k3 ?k4 ?k5 ?kK ?kd ?ku ?_; (case k1 => k_asm); (case k2 => k_asm); (case k3 => k_in); (case k4 => k_asm); (case k5 => k_asm); (case kK => first | exact rfl | assumption); (case kd => decide); (case ku => decide); (case hD => k_mem); (case hp => with_reducible assumption); (case h0 => first | decide | omega); (case h1 => first | decide | omega); )); intro D9 t91 t92 t93 n9 h9 tk9 I9 F9 N9; (try dsimp only); (try k_fold)))
        | (k_unfold; (try dsimp only)) | (k_end; wrow_close) | walk1 | (dsimp only; walk1) | (leave1; walk_say "STEP leave1"; try dsimp only) | fail "no step")
      all_goals first | k_asm | exact cb_drop (by k_asm) (by (intro p' hp'; repeat (first | exact hp' | exact List.Mem.tail _ hp' | refine List.Mem.tail _ ?_))) | exact (nb1 (by assumption) (by assumption) zn1 zn2).elim | exact (nb2 (by assumption) (by assumption)).elim | exact trivial
    clear Fb Nb zh2 zh3
    intro ha tka Fb Nb
    (try dsimp only)
    repeat (first | revert Fb | revert Nb | revert ha | revert tka | revert hc | revert tkc | revert D9 | revert t91 | revert t92 | revert t93 | revert n9 | revert h9 | revert tk9 | revert I9 | revert F9 | revert N9 | revert l9 | revert I00 | revert I01 | revert hmn | revert hbm | revert hbn | revert h0 | revert tk0 | revert F0 | revert N0 | (rename_i z9; revert z9))
    revert w s₀ s₁ mg mb fa cdA ns o0 Dp op u D9_0 t91_0 t92_0 n9_0 v D9_1 t91_1 t92_1 n9_1 t D9_2 t91_2 t92_2 n9_2 Dl Dt Pp tp1 tp2 tp3 np Pq tq1 tq2 tq3 nq Pr tr1 tr2 tr3 nr tkm tkn KX T K1 dP hon hi0 hi1 hi2 m hm n hn p Ip q Iq r Ir LF c1 c2 c3
    exact goal.out
def piece11 : (G : Prop) ×' (Hide G → piece10.1) := by
  refine' PSigma.mk _ (fun goal => ?body)
  case body =>
    k_fill
    intro w s₀ s₁ mg mb fa cdA ns o0 Dp op u D9_0 t91_0 t92_0 n9_0 v D9_1 t91_1 t92_1 n9_1 t D9_2 t91_2 t92_2 n9_2 Dl Dt Pp tp1 tp2 tp3 np Pq tq1 tq2 tq3 nq Pr tr1 tr2 tr3 nr tkm tkn KX T K1 dP hon hi0 hi1 hi2 m hm n hn p Ip q Iq r Ir LF c1 c2 c3
    intros
    (with_reducible rename Fr _ _ _ _ => Fb)
    (with_reducible rename News _ _ _ _ => Nb)
    have zk1 := LF.k1
    have zk2 := LF.k2
    have zk3 := LF.k3
    refine wpAny_execs_cons ?_
    refine if_false Fb Nb ?hc11 ?hk11
    case hc11 =>
      repeat' (first
        | ((with_reducible show wpAny _ _ (PySem.call (Value.ref 45) _) _ _ _); k_dflt ((first | (refine' (add_spec _ _ _ _ _ _ _ _ _ _ _ ?hD ?hp _ _ _ _ _ _ ?hE ?hq) _ _ _ _ _ _ _ _ _ _ _ _ _ _ _ _ _ ?k1 ?k2 ?k3 ?k4 ?k5 ?kK ?kd ?ku ?_; (case k1 => k_asm); (case k2 => k_asm); (case k3 => k_in); (case k4 => k_asm); (case k5 => k_asm); (case kK => first | exact rfl | assumption); (case kd => decide); (case ku => decide); (case hD => k_mem); (case hp => with_reducible assumption); (case hE => k_mem); (case hq => with_reducible assumption); ) | (refine' (add_spec _ _ _ _ _ _ _ _ _ _ _ ?hD ?hp _ (_, _, _) _ _ _ _ ?hE ?hq) _ _ _ _ _ _ _ _ _ _ _ _ _ _ _ _ _ ?k1 ?k2 ?k3 ?k4 ?k5 ?kK ?kd ?ku ?_; (case k1 => k_asm); (case k2 => k_asm); (case k3 => k_in); (case k4 => k_asm); (case k5 => k_asm); (case kK => first | exact rfl | assumption); (case kd => decide); (case ku => decide); (case hD => k_mem); (case hp => with_reducible assumption); (case hE => k_mem); (case hq => with_reducible assumption); ) | (refine' (add_spec _ _ _ _ _ _ (_, _, _) _ _ _ _ ?hD ?hp _ _ _ _ _ _ ?hE ?hq) _ _ _ _ _ _ _ _ _ _ _ _ _ _ _ _ _ ?k1 ?k2 ?k3 ?k4 ?k5 ?kK ?kd ?ku ?_; (case k1 => k_asm); (case k2 => k_asm); (case k3 => k_in); (case k4 => k_asm); (case k5 => k_asm); (case kK => first | exact rfl | assumption); (case kd => decide); (case ku => decide); (case hD => k_mem); (case hp => with_reducible assumption); (case hE => k_mem); (case hq => with_reducible assumption); ) | (refine' (add_spec _ _ _ _ _ _ (_, _, _) _ _ _ _ ?hD ?hp _ (_, _, _) _ _ _ _ ?hE ?hq) _ _ _ _ _ _ _ _ _ _ _ _ _ _ _ _ _ ?k1 ?k2 ?k3 ?k4 ?k5 ?kK ?kd ?ku ?_; (case k1 => k_asm); (case k2 => k_asm); (case k3 => k_in); (case k4 => k_asm); (case k5 => k_asm); (case kK => first | exact rfl | assumption); (case kd => decide); (case ku => decide); (case hD => k_mem); (case hp => with_reducible assumption); (case hE => k_mem); (case hq => with_reducible assumption); )); intro D9 t91 t92 t93 n9 h9 tk9 I9 F9 N9; (try dsimp only); (try k_fold)))
        | ((with_reducible show wpAny _ _ (PySem.call (Value.ref 115) _) _ _ _); k_dflt ((first | (refine' (same_spec _ _ _ _ _ _ _ _ _ _ _ ?hD ?hp _ _ _ _ _ _ ?hE ?hq) _ _ _ _ _ _ _ _ _ _ _ _ _ _ _ _ _ ?k1 ?k2 ?k3 ?k4 ?k5 ?kK ?kd ?ku ?_; (case k1 => k_asm); (case k2 => k_asm); (case k3 => k_in); (case k4 => k_asm); (case k5 => k_asm); (case kK => first | exact rfl | assumption); (case kd => decide); (case ku => decide); (case hD => k_mem); (case hp => with_reducible assumption); (case hE => k_mem); (case hq => with_reducible assumption); ) | (refine' (same_spec _ _ _ _ _ _ _ _ _ _ _ ?hD ?hp _ (_, _, _) _ _ _ _ ?hE ?hq) _ _ _ _ _ _ _ _ _ _ _ _ _ _ _ _ _ ?k1 ?k2 ?k3 ?k4 ?k5 ?kK ?kd ?ku ?_; (case k1 => k_asm); (case k2 => k_asm); (case k3 => k_in); (case k4 => k_asm); (case k5 => k_asm); (case kK => first | exact rfl | assumption); (case kd => decide); (case ku => decide); (case hD => k_mem); (case hp => with_reducible assumption); (case hE => k_mem); (case hq => with_reducible assumption); ) | (refine' (same_spec _ _ _ _ _ _ (_, _, _) _ _ _ _ ?hD ?hp _ _ _ _ _ _ ?hE ?hq) _ _ _ _ _ _ _ _ _ _ _ _ _ _ _ _ _ ?k1 ?k2 ?k3 ?k4 ?k5 ?kK ?kd ?ku ?_; (case k1 => k_asm); (case k2 => k_asm); (case k3 => k_in); (case k4 => k_asm); (case k5 => k_asm); (case kK => first | exact rfl | assumption); (case kd => decide); (case ku => decide); (case hD => k_mem); (case hp => with_reducible assumption); (case hE => k_mem); (case hq => with_reducible assumption); ) | (refine' (same_spec _ _ _ _ _ _ (_, _, _) _ _ _ _ ?hD ?hp _ (_, _, _) _ _ _ _ ?hE ?hq) _ _ _ _ _ _ _ _ _ _ _ _ _ _ _ _ _ ?k1 ?k2 ?k3 ?k4 ?k5 ?kK ?kd ?ku ?_; (case k1 => k_asm); (case k2 => k_asm); (case k3 => k_in); (case k4 => k_asm); (case k5 => k_asm); (case kK => first | exact rfl | assumption); (case kd => decide); (case ku => decide); (case hD => k_mem); (case hp => with_reducible assumption); (case hE => k_mem); (case hq => with_reducible assumption); )); intro h9 tk9 F9 N9; (try dsimp only); (try k_fold)))
        | ((with_reducible show wpAny _ _ (PySem.call (Value.ref 108) _) _ _ _); k_dflt ((first | (refine' (none_spec _ _ _ _ _ _ _ _ _ _ _ ?hD ?hp) _ _ _ _ _ _ _ _ _ _ _ _ _ _ _ _ _ ?k1 ?k2 ?k3 ?k4 ?k5 ?kK ?kd ?ku ?_; (case k1 => k_asm); (case k2 => k_asm); (case k3 => k_in); (case k4 => k_asm); (case k5 => k_asm); (case kK => first | exact rfl | assumption); (case kd => decide); (case ku => decide); (case hD => k_mem); (case hp => with_reducible assumption); ) | (refine' (none_spec _ _ _ _ _ _ (_, _, _) _ _ _ _ ?hD ?hp) _ _ _ _ _ _ _ _ _ _ _ _ _ _ _ _ _ ?k1 ?k2 ?k3 ?k4 ?k5 ?kK ?kd ?ku ?_; (case k1 => k_asm); (case k2 => k_asm); (case k3 => k_in); (case k4 => k_asm); (case k5 => k_asm); (case kK => first | exact rfl | assumption); (case kd => decide); (case ku => decide); (case hD => k_mem); (case hp => with_reducible assumption); )); intro h9 tk9 F9 N9; (try dsimp only); (try k_fold)))
        | ((with_reducible show wpAny _ _ (PySem.call (Value.ref 59) _) _ _ _); k_dflt ((first | (refine' (mulB_spec _ _ _ _ _ _ _ _ _ _ _ ?hD ?hp _ _ ?h0 ?h1) _ _ _ _ _ _ _ _ _ _ _ _ _ _ _ _ _ ?k1 ?k2 ?k3 ?k4 ?k5 ?kK ?kd ?ku ?_; (case k1 => k_asm); (case k2 => k_asm); (case k3 => k_in); (case k4 => k_asm); (case k5 => k_asm); (case kK => first | exact rfl | assumption); (case kd => decide); (case ku => decide); (case hD => k_mem); (case hp => with_reducible assumption); (case h0 => first | decide | omega); (case h1 => first | decide | omega); ) | (refine' (mulB_spec _ _ _ _ _ _ (_, _, _) _ _ _ _ ?hD ?hp _ _ ?h0 ?h1) _ _ _ _ _ _ _ _ _ _ _ _ _ _ _ _ _ ?k1 ?k2 ?k3 ?k4 ?k5 ?kK ?kd ?ku ?_; (case k1 => k_asm); (case k2 => k_asm); (case k3 => k_in); (case k4 => k_asm); (case k5 => k_asm); (case kK => first | exact rfl | assumption); (case kd => decide); (case ku => decide); (case hD => k_mem); (case hp => with_reducible assumption); (case h0 => first | decide | omega); (case h1 => first | decide | omega); )); intro D9 t91 t92 t93 n9 h9 tk9 I9 F9 N9; (try dsimp only); (try k_fold)))
        | ((with_reducible show wpAny _ _ (PySem.call (Value.ref 38) _) _ _ _); k_dflt ((first | (refine' (dbl_spec _ _ _ _ _ _ _ _ _ _ _ ?hD ?hp) _ _ _ _ _ _ _ _ _ _ _ _ _ _ _ _ _ ?k1 ?k2 ?k3 ?k4 ?k5 ?kK ?kd ?ku ?_; (case k1 => k_asm); (case k2 => k_asm); (case k3 => k_in); (case k4 => k_asm); (case k5 => k_asm); (case kK => first | exact rfl | assumption); (case kd => decide); (case ku => decide); (case hD => k_mem); (case hp => with_reducible assumption); ) | (refine' (dbl_spec _ _ _ _ _ _ (_, _, _) _ _ _ _ ?hD ?hp) _ _ _ _ _ _ _ _ _ _ _ _ _ _ _ _ _ ?k1 ?k2 ?k3 ?k4 ?k5 ?kK ?kd ?ku ?_; (case k1 => k_asm); (case k2 => k_asm); (case k3 => k_in); (case k4 => k_asm); (case k5 => k_asm); (case kK => first | exact rfl | assumption); (case kd => decide); (case ku => decide); (case hD => k_mem); (case hp => with_reducible assumption); )); intro D9 t91 t92 t93 n9 h9 tk9 I9 F9 N9; (try dsimp only); (try k_fold)))
        | (k_unfold; (try dsimp only)) | (k_end; wrow_close) | walk1 | (dsimp only; walk1) | (leave1; walk_say "STEP leave1"; try dsimp only) | fail "no step")
      all_goals first | k_asm | exact cb_drop (by k_asm) (by (intro p' hp'; repeat (first | exact hp' | exact List.Mem.tail _ hp' | refine List.Mem.tail _ ?_))) | exact (nb1 (by assumption) (by assumption) zn1 zn2).elim | exact (nb2 (by assumption) (by assumption)).elim | exact trivial
    clear Fb Nb zk1 zk2 zk3
    intro ha tka Fb Nb
    (try dsimp only)
    repeat (first | revert Fb | revert Nb | revert ha | revert tka | revert hc | revert tkc | revert D9 | revert t91 | revert t92 | revert t93 | revert n9 | revert h9 | revert tk9 | revert I9 | revert F9 | revert N9 | revert l9 | revert I00 | revert I01 | revert hmn | revert hbm | revert hbn | revert h0 | revert tk0 | revert F0 | revert N0 | (rename_i z9; revert z9))
    revert w s₀ s₁ mg mb fa cdA ns o0 Dp op u D9_0 t91_0 t92_0 n9_0 v D9_1 t91_1 t92_1 n9_1 t D9_2 t91_2 t92_2 n9_2 Dl Dt Pp tp1 tp2 tp3 np Pq tq1 tq2 tq3 nq Pr tr1 tr2 tr3 nr tkm tkn KX T K1 dP hon hi0 hi1 hi2 m hm n hn p Ip q Iq r Ir LF c1 c2 c3
    exact goal.out
def piece12 : (G : Prop) ×' (Hide G → piece11.1) := by
  refine' PSigma.mk _ (fun goal => ?body)
  case body =>
    k_fill
    intro w s₀ s₁ mg mb fa cdA ns o0 Dp op u D9_0 t91_0 t92_0 n9_0 v D9_1 t91_1 t92_1 n9_1 t D9_2 t91_2 t92_2 n9_2 Dl Dt Pp tp1 tp2 tp3 np Pq tq1 tq2 tq3 nq Pr tr1 tr2 tr3 nr tkm tkn KX T K1 dP hon hi0 hi1 hi2 m hm n hn p Ip q Iq r Ir LF c1 c2 c3
    intros
    repeat' ((fail_if_success (with_reducible show wpAny _ _ (execs (Stmt.Assign [Expr.Tuple _ _ _] _ _ :: _) _) _ _ _)); (first
      | ((with_reducible show wpAny _ _ (PySem.call (Value.ref 52) _) _ _ _); k_dflt ((first | (refine' (fromj_spec _ _ _ _ _ _ _ _ _ _ _ ?hD ?hp) _ _ _ _ _ _ _ _ _ _ _ _ _ _ _ _ _ ?k1 ?k2 ?k3 ?k4 ?k5 ?kK ?kd ?ku ?_; (case k1 => k_asm); (case k2 => k_asm); (case k3 => k_in); (case k4 => k_asm); (case k5 => k_asm); (case kK => first | exact rfl | assumption); (case kd => decide); (case ku => decide); (case hD => k_mem); (case hp => with_reducible assumption); )); intro D9 t91 t92 n9 h9 tk9 I9 F9 N9 l9; (try simp only [AllLt, and_true] at l9); (try dsimp only); (try k_fold)))
      | (k_unfold; (try dsimp only)) | (k_end; wrow_close) | walk1 | (dsimp only; walk1) | (leave1; walk_say "STEP leave1"; try dsimp only) | fail "no step"))
    (with_reducible rename Fr _ _ _ _ => Fb)
    (with_reducible rename News _ _ _ _ => Nb)
    refine cutL (s₁ := s₁) Fb Nb rfl ?_
    clear Fb Nb
    intro hc tkc Fb Nb
    (try dsimp only)
    repeat' ((fail_if_success (with_reducible show wpAny _ _ (execs (Stmt.If _ _ _ _ :: _) _) _ _ _)); (first
      | (k_unfold; (try dsimp only)) | (k_end; wrow_close) | walk1 | (dsimp only; walk1) | (leave1; walk_say "STEP leave1"; try dsimp only) | fail "no step"))
    (with_reducible rename Fr _ _ _ _ => Fb)
    (with_reducible rename News _ _ _ _ => Nb)
    refine cutL (s₁ := s₁) Fb Nb rfl ?_
    clear Fb Nb
    intro hc tkc Fb Nb
    (try dsimp only)
    repeat (first | revert Fb | revert Nb | revert ha | revert tka | revert hc | revert tkc | revert D9 | revert t91 | revert t92 | revert t93 | revert n9 | revert h9 | revert tk9 | revert I9 | revert F9 | revert N9 | revert l9 | revert I00 | revert I01 | revert hmn | revert hbm | revert hbn | revert h0 | revert tk0 | revert F0 | revert N0 | (rename_i z9; revert z9))
    revert w s₀ s₁ mg mb fa cdA ns o0 Dp op u D9_0 t91_0 t92_0 n9_0 v D9_1 t91_1 t92_1 n9_1 t D9_2 t91_2 t92_2 n9_2 Dl Dt Pp tp1 tp2 tp3 np Pq tq1 tq2 tq3 nq Pr tr1 tr2 tr3 nr tkm tkn KX T K1 dP hon hi0 hi1 hi2 m hm n hn p Ip q Iq r Ir LF c1 c2 c3
    exact goal.out
def piece13 : (G : Prop) ×' (Hide G → piece12.1) := by
  refine' PSigma.mk _ (fun goal => ?body)
  case body =>
    k_fill
    intro w s₀ s₁ mg mb fa cdA ns o0 Dp op u D9_0 t91_0 t92_0 n9_0 v D9_1 t91_1 t92_1 n9_1 t D9_2 t91_2 t92_2 n9_2 Dl Dt Pp tp1 tp2 tp3 np Pq tq1 tq2 tq3 nq Pr tr1 tr2 tr3 nr tkm tkn KX T K1 dP hon hi0 hi1 hi2 m hm n hn p Ip q Iq r Ir LF c1 c2 c3
    intros
    (with_reducible rename Fr _ _ _ _ => Fb)
    (with_reducible rename News _ _ _ _ => Nb)
    have zl1 := LF.l1
    refine wpAny_execs_cons ?_
    refine if_false Fb Nb ?hc12 ?hk12
    case hc12 =>
      repeat' (first
        | ((with_reducible show wpAny _ _ (binaryOp Operator.Mod (Value.int _ _) (Value.int _ _)) _ _ _); k_dflt ((refine' mod_hid ?hb ?_); (case hb => decide); intro v9 e9; (try dsimp only)))
        | (k_unfold; (try dsimp only)) | (k_end; wrow_close) | walk1 | (dsimp only; walk1) | (leave1; walk_say "STEP leave1"; try dsimp only) | fail "no step")
      all_goals first | k_asm | exact cb_drop (by k_asm) (by (intro p' hp'; repeat (first | exact hp' | exact List.Mem.tail _ hp' | refine List.Mem.tail _ ?_))) | exact (nb1 (by assumption) (by assumption) zn1 zn2).elim | exact (nb2 (by assumption) (by assumption)).elim | exact (nbl zl1 (by assumption) (by assumption) (by assumption)).elim | exact trivial
    clear Fb Nb zl1
    intro ha tka Fb Nb
    (try dsimp only)
    repeat (first | revert Fb | revert Nb | revert ha | revert tka | revert hc | revert tkc | revert D9 | revert t91 | revert t92 | revert t93 | revert n9 | revert h9 | revert tk9 | revert I9 | revert F9 | revert N9 | revert l9 | revert I00 | revert I01 | revert hmn | revert hbm | revert hbn | revert h0 | revert tk0 | revert F0 | revert N0 | (rename_i z9; revert z9))
    revert w s₀ s₁ mg mb fa cdA ns o0 Dp op u D9_0 t91_0 t92_0 n9_0 v D9_1 t91_1 t92_1 n9_1 t D9_2 t91_2 t92_2 n9_2 Dl Dt Pp tp1 tp2 tp3 np Pq tq1 tq2 tq3 nq Pr tr1 tr2 tr3 nr tkm tkn KX T K1 dP hon hi0 hi1 hi2 m hm n hn p Ip q Iq r Ir LF c1 c2 c3
    exact goal.out
def piece14 : (G : Prop) ×' (Hide G → piece13.1) := by
  refine' PSigma.mk _ (fun goal => ?body)
  case body =>
    k_fill
    intro w s₀ s₁ mg mb fa cdA ns o0 Dp op u D9_0 t91_0 t92_0 n9_0 v D9_1 t91_1 t92_1 n9_1 t D9_2 t91_2 t92_2 n9_2 Dl Dt Pp tp1 tp2 tp3 np Pq tq1 tq2 tq3 nq Pr tr1 tr2 tr3 nr tkm tkn KX T K1 dP hon hi0 hi1 hi2 m hm n hn p Ip q Iq r Ir LF c1 c2 c3
    intros
    (with_reducible rename Fr _ _ _ _ => Fb)
    (with_reducible rename News _ _ _ _ => Nb)
    have zl2 := LF.l2
    have zl3 := LF.l3
    refine wpAny_execs_cons ?_
    refine if_false Fb Nb ?hc13 ?hk13
    case hc13 =>
      repeat' (first
        | ((with_reducible show wpAny _ _ (PySem.call (Value.ref 108) _) _ _ _); k_dflt ((first | (refine' (none_spec _ _ _ _ _ _ _ _ _ _ _ ?hD ?hp) _ _ _ _ _ _ _ _ _ _ _ _ _ _ _ _ _ ?k1 ?k2 ?k3 ?k4 ?k5 ?kK ?kd ?ku ?_; (case k1 => k_asm); (case k2 => k_asm); (case k3 => k_in); (case k4 => k_asm); (case k5 => k_asm); (case kK => first | exact rfl | assumption); (case kd => decide); (case ku => decide); (case hD => k_mem); (case hp => with_reducible assumption); ) | (refine' (none_spec _ _ _ _ _ _ (_, _, _) _ _ _ _ ?hD ?hp) _ _ _ _ _ _ _ _ _ _ _ _ _ _ _ _ _ ?k1 ?k2 ?k3 ?k4 ?k5 ?kK ?kd ?ku ?_; (case k1 => k_asm); (case k2 => k_asm); (case k3 => k_in); (case k4 => k_asm); (case k5 => k_asm); (case kK => first | exact rfl | assumption); (case kd => decide); (case ku => decide); (case hD => k_mem); (case hp => with_reducible assumption); )); intro h9 tk9 F9 N9; (try dsimp only); (try k_fold)))
        | ((with_reducible show wpAny _ _ (binaryOp Operator.Mod (Value.int _ _) (Value.int _ _)) _ _ _); k_dflt ((refine' mod_hid ?hb ?_); (case hb => decide); intro v9 e9; (try dsimp only)))
        | (k_unfold; (try dsimp only)) | (k_end; wrow_close) | walk1 | (dsimp only; walk1) | (leave1; walk_say "STEP leave1"; try dsimp only) | fail "no step")
      all_goals first | k_asm | exact cb_drop (by k_asm) (by (intro p' hp'; repeat (first | exact hp' | exact List.Mem.tail _ hp' | refine List.Mem.tail _ ?_))) | exact (nb1 (by assumption) (by assumption) zn1 zn2).elim | exact (nb2 (by assumption) (by assumption)).elim | exact (nbl zl2 (by assumption) (by assumption) (by assumption)).elim | exact (nbl zl3 (by assumption) (by assumption) (by assumption)).elim | exact trivial
    clear Fb Nb zl2 zl3
    intro ha tka Fb Nb
    (try dsimp only)
    repeat (first | revert Fb | revert Nb | revert ha | revert tka | revert hc | revert tkc | revert D9 | revert t91 | revert t92 | revert t93 | revert n9 | revert h9 | revert tk9 | revert I9 | revert F9 | revert N9 | revert l9 | revert I00 | revert I01 | revert hmn | revert hbm | revert hbn | revert h0 | revert tk0 | revert F0 | revert N0 | (rename_i z9; revert z9))
    revert w s₀ s₁ mg mb fa cdA ns o0 Dp op u D9_0 t91_0 t92_0 n9_0 v D9_1 t91_1 t92_1 n9_1 t D9_2 t91_2 t92_2 n9_2 Dl Dt Pp tp1 tp2 tp3 np Pq tq1 tq2 tq3 nq Pr tr1 tr2 tr3 nr tkm tkn KX T K1 dP hon hi0 hi1 hi2 m hm n hn p Ip q Iq r Ir LF c1 c2 c3
    exact goal.out
theorem piece15 : piece14.1 := by
  k_fill
  intro w s₀ s₁ mg mb fa cdA ns o0 Dp op u D9_0 t91_0 t92_0 n9_0 v D9_1 t91_1 t92_1 n9_1 t D9_2 t91_2 t92_2 n9_2 Dl Dt Pp tp1 tp2 tp3 np Pq tq1 tq2 tq3 nq Pr tr1 tr2 tr3 nr tkm tkn KX T K1 dP hon hi0 hi1 hi2 m hm n hn p Ip q Iq r Ir LF c1 c2 c3
  intros
  repeat' ((fail_if_success (with_reducible show wpAny _ _ (compareOp CmpOp.Eq (Value.ref _) (Value.ref _)) _ _ _)); (first
    | ((with_reducible show wpAny _ _ (PySem.call (Value.ref 66) _) _ _ _); k_dflt ((first | (refine' (fast_spec _ _ _ _ _ _ _ _ _ _ ?hD ?hp _ _ _ _ _ ?hE ?hq) _ _ _ _ _ _ _ _ _ _ _ _ _ _ _ _ _ ?k1 ?k2 ?k3 ?k4 ?k5 ?kK ?kd ?ku ?_; (case k1 => k_asm); (case k2 => k_asm); (case k3 => k_in); (case k4 => k_asm); (case k5 => k_asm); (case kK => first | exact rfl | assumption); (case kd => decide); (case ku => decide); (case hD => k_mem); (case hp => with_reducible assumption); (case hE => k_mem); (case hq => with_reducible assumption); )); intro D9 t91 t92 n9 h9 tk9 I9 F9 N9 l9; (try simp only [AllLt, and_true] at l9); (try dsimp only); (try k_fold)))
    | (k_unfold; (try dsimp only)) | (k_end; wrow_close) | walk1 | (dsimp only; walk1) | (leave1; walk_say "STEP leave1"; try dsimp only) | fail "no step"))
  k_unfold; (try dsimp only)
  walk1
  (try dsimp only)
  have zo := LF.o1
  rw [zo]
  simp only [beq_self_eq_true, Bool.and_self]
  clear zo
  repeat' ((fail_if_success (with_reducible show wpAny _ _ (eval (Expr.ListComp _ _ _ _) _) _ _ _)); (first | (k_unfold; (try dsimp only)) | (k_end; wrow_close) | walk1 | (dsimp only; walk1) | (leave1; walk_say "STEP leave1"; try dsimp only) | fail "no step"))
  (with_reducible rename Fr _ _ _ _ => Fb)
  (with_reducible rename News _ _ _ _ => Nb)
  have hfr : In2 (fromJ (jadd p q)) := In2.fromJ _
  k_dflt (refine' pair_comp2 (h₀ := s₁.heap) (L := s₁.heap.objs.size) (fromJ (jadd p q)) Fb Nb ?hmem rfl (by with_unfolding_all rfl) (by decide) (by rfl) (by decide) (by rfl) ?hsrc ?htest ?hfin)
  case hmem => k_mem
  case hsrc =>
    walk1
    exact ⟨rfl, rfl⟩
  case hfin =>
    clear Fb Nb
    intro Dc hc tkc Fc Nc
    (try dsimp only)
    repeat' (first | (k_unfold; (try dsimp only)) | (k_end; wrow_close) | walk1 | (dsimp only; walk1) | (leave1; walk_say "STEP leave1"; try dsimp only) | fail "no step")
    all_goals exact ⟨_, _, _, rfl, rfl, by k_asm⟩
  case htest =>
    intro C m' k t s' E' hk hNs hmx F9
    have hk1 : 0 ≤ k ∧ k < 115792089237316195423570985008687907853269984665640564039457584007908834671663 := by
      rcases hk with rfl | rfl
      · exact hfr.1
      · exact hfr.2
    clear Fb Nb
    repeat' (first
      | ((with_reducible show wpAny _ _ (eval (Expr.Name (Str.ofString "one") _) _) _ _ _); k_dflt (refine ldVarK hNs hmx ?_ (by rfl) (by rfl) (by decide)))
      | ((with_reducible show wpAny _ _ (eval (Expr.Name (Str.ofString "_law_p") _) _) _ _ _); k_dflt (refine LCgL.ld_global F9 KX T (by k_is) ?_))
      | (k_unfold; (try dsimp only)) | (k_end; wrow_close) | walk1 | (dsimp only; walk1) | (leave1; walk_say "STEP leave1"; try dsimp only) | fail "no step")
    all_goals exact notLt hk1.2
theorem law_walk : PySem.Challenge.rw_bh0024_01.Holds :=
  piece1.2 ⟨piece2.2 ⟨piece3.2 ⟨piece4.2 ⟨piece5.2 ⟨piece6.2 ⟨piece7.2 ⟨piece8.2 ⟨piece9.2 ⟨piece10.2 ⟨piece11.2 ⟨piece12.2 ⟨piece13.2 ⟨piece14.2 ⟨piece15⟩⟩⟩⟩⟩⟩⟩⟩⟩⟩⟩⟩⟩⟩
end Mine
end SWB

open PySem PySem.W PyProof.Rows
theorem PySem.Challenge.cw_bh0024_01_holds : PySem.Challenge.rw_bh0024_01.Holds := by
  exact Mine.law_walk
