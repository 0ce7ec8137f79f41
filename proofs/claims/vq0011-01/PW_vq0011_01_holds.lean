import PyProof.Rows.All
import Wide.All
import OpenK.AllK
import Wide.FinOn
import PySem.Challenge.RW_vq0011_01
/-! The law of decode_packet_number, walked in pieces: lemmas; the head; the loop's rule; the turn in four segments; the rest; the join. -/
set_option Elab.async false
set_option maxRecDepth 100000
set_option maxHeartbeats 8000000
section
/-! Lem -/
open PySem PySem.W PyProof.Rows
namespace Mine
theorem turn_any {prog : Program} {w : World} {A : Around} {E : Value → Shared → Prop} {s : Shared} {value slice : PySem.Expr} {o i : Value} {Q : Value → Shared → Prop}
    (h : wpAny (model prog w) A (subscriptTail (PySem.Expr.Name (PySem.Str.ofString "_") ⟨0, 0, 0, 0⟩) slice o i) Q E s) : wpAny (model prog w) A (subscriptTail value slice o i) Q E s :=
  kba_turn (fun _ => rfl) h

theorem gen_toks {α : Type} {M : Model} {A : Around} {E : Value → Shared → Prop} {t : Sem α} {Q : α → Shared → Prop} {h g d tk os} (k : ∀ tk, wpAny M A t Q E ⟨h, g, d, tk, os⟩) : wpAny M A t Q E ⟨h, g, d, tk, os⟩ := k tk

theorem ite_split {c : Prop} [Decidable c] {p q : Prop} (h1 : c → p) (h2 : ¬ c → q) : if c then p else q := by
  by_cases h : c
  · rw [if_pos h]; exact h1 h
  · rw [if_neg h]; exact h2 h

theorem two_of {ns : List Int} {ws : List Value} (h : IntsAre ws (List.take 2 (List.take 2 ns ++ [0, 0]))) : ∃ a ta b tb, ws = [.int a ta, .int b tb] := by
  have key : ∃ a b, List.take 2 (List.take 2 ns ++ [0, 0]) = [a, b] := by
    match ns with
    | [] => exact ⟨0, 0, rfl⟩
    | [a] => exact ⟨a, 0, rfl⟩
    | a :: b :: r => exact ⟨a, b, by simp⟩
  obtain ⟨a, b, e⟩ := key
  rw [e] at h
  obtain ⟨t, vs', rfl, h1⟩ := h.cons_inv
  obtain ⟨u, vs2, rfl, h2⟩ := h1.cons_inv
  cases h2.nil_inv
  exact ⟨a, t, b, u, rfl⟩

/-! the digits, the window, its half -/
theorem wd_is : ∃ f : Int → Int, ∀ D, f D = 2 ^ D.toNat := ⟨_, fun _ => rfl⟩
theorem hf_is : ∃ f : Int → Int, ∀ D, f D = 2 ^ (D - 1).toNat := ⟨_, fun _ => rfl⟩
noncomputable def wd : Int → Int := Classical.choose wd_is
noncomputable def hf : Int → Int := Classical.choose hf_is
theorem wd_def (D : Int) : wd D = 2 ^ D.toNat := Classical.choose_spec wd_is D
theorem hf_def (D : Int) : hf D = 2 ^ (D - 1).toNat := Classical.choose_spec hf_is D
structure Dg (D : Int) : Prop where
  or : D = 8 ∨ D = 16 ∨ D = 24 ∨ D = 32

theorem Dg.w {D : Int} (h : Dg D) : wd D = 2 * hf D := by rw [wd_def, hf_def]; rcases h.or with rfl | rfl | rfl | rfl <;> decide
theorem Dg.lo {D : Int} (h : Dg D) : 128 ≤ hf D := by rw [hf_def]; rcases h.or with rfl | rfl | rfl | rfl <;> decide
theorem Dg.hi {D : Int} (h : Dg D) : hf D ≤ 2147483648 := by rw [hf_def]; rcases h.or with rfl | rfl | rfl | rfl <;> decide
theorem Dg.d8 {D : Int} (h : Dg D) : 8 ≤ D := by rcases h.or with rfl | rfl | rfl | rfl <;> decide
theorem Dg.d32 {D : Int} (h : Dg D) : D ≤ 32 := by rcases h.or with rfl | rfl | rfl | rfl <;> decide
theorem Dg.wpos {D : Int} (h : Dg D) : 0 < wd D := by have := h.w; have := h.lo; omega
theorem Dg.mod0 {D : Int} (h : Dg D) (a : Int) : 0 ≤ a % wd D := Int.emod_nonneg _ (by have := h.wpos; omega)
theorem Dg.mod1 {D : Int} (h : Dg D) (a : Int) : a % wd D < wd D := Int.emod_lt_of_pos _ h.wpos
theorem Dg.hmod0 {D : Int} (h : Dg D) (a : Int) : 0 ≤ a % hf D := Int.emod_nonneg _ (by have := h.lo; omega)
theorem Dg.hmod1 {D : Int} (h : Dg D) (a : Int) : a % hf D < hf D := Int.emod_lt_of_pos _ (by have := h.lo; omega)
theorem Dg.dvd {D : Int} (h : Dg D) : wd D ∣ 4611686018427387904 := by rw [wd_def]; rcases h.or with rfl | rfl | rfl | rfl <;> decide
theorem Dg.base {D E : Int} (h : Dg D) (_h0 : 0 ≤ E) (h1 : E < 4611686018427387904) : E - E % wd D + wd D ≤ 4611686018427387904 := by
  obtain ⟨p, hp⟩ := h.dvd
  have hw := h.wpos
  have e : E - E % wd D = wd D * (E / wd D) := by have := Int.mul_ediv_add_emod E (wd D); omega
  have hq : E / wd D < p := by
    refine Int.ediv_lt_of_lt_mul hw ?_
    rw [Int.mul_comm]; omega
  have : wd D * (E / wd D + 1) ≤ wd D * p := Int.mul_le_mul_of_nonneg_left (by omega) (by omega)
  rw [Int.mul_add, Int.mul_one] at this
  omega
theorem Dg.quot {D E : Int} (h : Dg D) (h1 : E < 4611686018427387904) : E / wd D < 2305843009213693952 := by
  have := h.w
  have := h.lo
  exact Int.ediv_lt_of_lt_mul h.wpos (by omega)
theorem Dg.base0 {D E : Int} (h : Dg D) (h0 : 0 ≤ E) : 0 ≤ E - E % wd D := by
  have e : E - E % wd D = wd D * (E / wd D) := by have := Int.mul_ediv_add_emod E (wd D); omega
  rw [e]
  exact Int.mul_nonneg (Int.le_of_lt h.wpos) (Int.ediv_nonneg h0 (Int.le_of_lt h.wpos))
theorem Dg.times {D E : Int} (_h : Dg D) (k : Int) : (E / wd D + k) * wd D = E - E % wd D + k * wd D := by
  have := Int.mul_ediv_add_emod E (wd D)
  rw [Int.add_mul, Int.mul_comm (E / wd D)]
  omega
/-- a step of less than a window leads to the same row of numbers or to a neighbour -/
theorem Dg.wrap {D E st : Int} (h : Dg D) (h0 : -wd D < st) (h1 : st < wd D) :
    ((E + st) % wd D = E % wd D + st ∧ 0 ≤ E % wd D + st ∧ E % wd D + st < wd D) ∨ ((E + st) % wd D = E % wd D + st - wd D ∧ wd D ≤ E % wd D + st) ∨ ((E + st) % wd D = E % wd D + st + wd D ∧ E % wd D + st < 0) := by
  have a := h.mod0 E
  have b := h.mod1 E
  have e : (E + st) % wd D = (E % wd D + st) % wd D := (Int.emod_add_emod E (wd D) st).symm
  rw [e]
  by_cases c0 : E % wd D + st < 0
  · right; right
    refine ⟨?_, c0⟩
    rw [← Int.add_emod_right]
    exact Int.emod_eq_of_lt (by omega) (by omega)
  · by_cases c1 : wd D ≤ E % wd D + st
    · right; left
      refine ⟨?_, c1⟩
      rw [← Int.sub_emod_right]
      exact Int.emod_eq_of_lt (by omega) (by omega)
    · left
      exact ⟨Int.emod_eq_of_lt (by omega) (by omega), by omega, by omega⟩

section
variable {prog : Program} {w : World} {A : Around} {E : Value → Shared → Prop} {s : Shared} {t u : Tok} {Q : Value → Shared → Prop} {D a b : Int}
theorem pow_wd (h : Dg D) (k : Q (.int (wd D) s.toks) { s with toks := s.toks + 1 }) : wpAny (model prog w) A (binaryOp .Pow (.int 2 t) (.int D u)) Q E s :=
  pow_int_small (by have := h.d8; omega) (by have := h.d32; omega) (by decide) (by rw [← wd_def]; exact k)
theorem pow_hf (h : Dg D) (k : Q (.int (hf D) s.toks) { s with toks := s.toks + 1 }) : wpAny (model prog w) A (binaryOp .Pow (.int 2 t) (.int (D - 1) u)) Q E s :=
  pow_int_small (by have := h.d8; omega) (by have := h.d32; omega) (by decide) (by rw [← hf_def]; exact k)
theorem pow_62 (k : Q (.int 4611686018427387904 s.toks) { s with toks := s.toks + 1 }) : wpAny (model prog w) A (binaryOp .Pow (.int 2 t) (.int 62 u)) Q E s :=
  pow_int_small (by decide) (by decide) (by decide) k
theorem shl_wd (h : Dg D) (k : Q (.int (wd D) s.toks) { s with toks := s.toks + 1 }) : wpAny (model prog w) A (binaryOp .LShift (.int 1 t) (.int D u)) Q E s :=
  lshift_int_small (by have := h.d8; omega) (by have := h.d32; omega) (by decide) (by rw [Int.one_mul, ← wd_def]; exact k)
theorem ne_same (e : a = b) (k : Q (.bool false) s) : wpAny (model prog w) A (compareOp .NotEq (.int a t) (.int b u)) Q E s :=
  ne_int (by subst e; simpa using k)
theorem lt_t (e : a < b) (k : Q (.bool true) s) : wpAny (model prog w) A (compareOp .Lt (.int a t) (.int b u)) Q E s := lt_int (by rw [decide_eq_true e]; exact k)
theorem lt_f (e : ¬ a < b) (k : Q (.bool false) s) : wpAny (model prog w) A (compareOp .Lt (.int a t) (.int b u)) Q E s := lt_int (by rw [decide_eq_false e]; exact k)
theorem gt_t (e : b < a) (k : Q (.bool true) s) : wpAny (model prog w) A (compareOp .Gt (.int a t) (.int b u)) Q E s := gt_int (by rw [decide_eq_true e]; exact k)
theorem gt_f (e : ¬ b < a) (k : Q (.bool false) s) : wpAny (model prog w) A (compareOp .Gt (.int a t) (.int b u)) Q E s := gt_int (by rw [decide_eq_false e]; exact k)
theorem eq_t (e : a = b) (k : Q (.bool true) s) : wpAny (model prog w) A (compareOp .Eq (.int a t) (.int b u)) Q E s := eq_int (by subst e; simpa using k)
theorem eq_f (e : ¬ a = b) (k : Q (.bool false) s) : wpAny (model prog w) A (compareOp .Eq (.int a t) (.int b u)) Q E s := eq_int (by rw [show (a == b) = false by simpa using e]; exact k)
theorem ne_t (e : ¬ a = b) (k : Q (.bool true) s) : wpAny (model prog w) A (compareOp .NotEq (.int a t) (.int b u)) Q E s := ne_int (by rw [show (a != b) = true by simpa using e]; exact k)
theorem ne_f (e : a = b) (k : Q (.bool false) s) : wpAny (model prog w) A (compareOp .NotEq (.int a t) (.int b u)) Q E s := ne_int (by subst e; simpa using k)
theorem le_t (e : a ≤ b) (k : Q (.bool true) s) : wpAny (model prog w) A (compareOp .LtE (.int a t) (.int b u)) Q E s := le_int (by rw [decide_eq_true e]; exact k)
theorem le_f (e : ¬ a ≤ b) (k : Q (.bool false) s) : wpAny (model prog w) A (compareOp .LtE (.int a t) (.int b u)) Q E s := le_int (by rw [decide_eq_false e]; exact k)
theorem ge_t (e : b ≤ a) (k : Q (.bool true) s) : wpAny (model prog w) A (compareOp .GtE (.int a t) (.int b u)) Q E s := ge_int (by rw [decide_eq_true e]; exact k)
theorem ge_f (e : ¬ b ≤ a) (k : Q (.bool false) s) : wpAny (model prog w) A (compareOp .GtE (.int a t) (.int b u)) Q E s := ge_int (by rw [decide_eq_false e]; exact k)
theorem shl_62 (k : Q (.int 4611686018427387904 s.toks) { s with toks := s.toks + 1 }) : wpAny (model prog w) A (binaryOp .LShift (.int 1 t) (.int 62 u)) Q E s :=
  lshift_int_small (by decide) (by decide) (by decide) k
theorem mod_any {b : Int} (hb : 0 < b) (k : Q (.int (a % b) s.toks) { s with toks := s.toks + 1 }) : wpAny (model prog w) A (binaryOp .Mod (.int a t) (.int b u)) Q E s :=
  mod_int' (by omega) (by rw [Int.fmod_eq_emod_of_nonneg _ (by omega)]; exact k)
theorem mod_wd (h : Dg D) (k : Q (.int (a % wd D) s.toks) { s with toks := s.toks + 1 }) : wpAny (model prog w) A (binaryOp .Mod (.int a t) (.int (wd D) u)) Q E s := mod_any h.wpos k
theorem mod_hf (h : Dg D) (k : Q (.int (a % hf D) s.toks) { s with toks := s.toks + 1 }) : wpAny (model prog w) A (binaryOp .Mod (.int a t) (.int (hf D) u)) Q E s := mod_any (by have := h.lo; omega) k
theorem mod_wd_m (h : Dg D) (k : Q (.int (a % wd D) s.toks) { s with toks := s.toks + 1 }) : wpAny (model prog w) A (binaryOp .Mod (.int (a % wd D) t) (.int (wd D) u)) Q E s := mod_wd h (by rw [Int.emod_emod]; exact k)
theorem mod_wd_a (h : Dg D) (k : Q (.int ((a + b) % wd D) s.toks) { s with toks := s.toks + 1 }) : wpAny (model prog w) A (binaryOp .Mod (.int (a % wd D + b) t) (.int (wd D) u)) Q E s := mod_wd h (by rw [Int.emod_add_emod]; exact k)
theorem mod_wd_s (h : Dg D) (k : Q (.int ((a - b) % wd D) s.toks) { s with toks := s.toks + 1 }) : wpAny (model prog w) A (binaryOp .Mod (.int (a % wd D - b) t) (.int (wd D) u)) Q E s := mod_wd h (by rw [Int.emod_sub_emod]; exact k)
theorem mod_wd_as (h : Dg D) (k : Q (.int (a % wd D) s.toks) { s with toks := s.toks + 1 }) : wpAny (model prog w) A (binaryOp .Mod (.int ((a + b) % wd D - b) t) (.int (wd D) u)) Q E s :=
  mod_wd h (by rw [Int.emod_sub_emod, show a + b - b = a by omega]; exact k)
theorem half_wd (h : Dg D) (k : Q (.int (hf D) s.toks) { s with toks := s.toks + 1 }) : wpAny (model prog w) A (binaryOp .FloorDiv (.int (wd D) t) (.int 2 u)) Q E s := by
  have e : (wd D).fdiv 2 = hf D := by rw [h.w, Int.fdiv_eq_ediv_of_nonneg _ (by decide)]; omega
  have h1 := h.lo
  have h2 := h.hi
  have h3 := h.w
  exact floordiv_int (by decide) (by rw [e]; exact k) (Or.inl (PyProof.noPylong_small (by omega)))
theorem noPy {x : Int} (h : Dg D) : Builtin.divisionGoesByPylong x (wd D) = false := PyProof.noPylong_of_log2 (by rw [wd_def]; rcases h.or with rfl | rfl | rfl | rfl <;> decide +kernel)
theorem noPyH {x : Int} (h : Dg D) : Builtin.divisionGoesByPylong x (hf D) = false := PyProof.noPylong_of_log2 (by rw [hf_def]; rcases h.or with rfl | rfl | rfl | rfl <;> decide +kernel)
theorem div_wd (h : Dg D) (k : Q (.int (a / wd D) s.toks) { s with toks := s.toks + 1 }) : wpAny (model prog w) A (binaryOp .FloorDiv (.int a t) (.int (wd D) u)) Q E s := by
  have e : a.fdiv (wd D) = a / wd D := Int.fdiv_eq_ediv_of_nonneg _ (Int.le_of_lt h.wpos)
  have h2 := h.wpos
  exact floordiv_int (by omega) (by rw [e]; exact k) (Or.inl (noPy h))
end
theorem or_low {D E t : Int} (h : Dg D) (h0 : 0 ≤ E) (t0 : 0 ≤ t) (t1 : t < wd D) : Builtin.bitOr (E - E % wd D) t = E - E % wd D + t := by
  have b0 := h.base0 h0
  have hk : wd D = ((2 ^ D.toNat : Nat) : Int) := (wd_def D).trans (kbt_cast D.toNat).symm
  have e1 : E - E % wd D = ((2 ^ D.toNat * (E / wd D).toNat : Nat) : Int) := by
    have := Int.mul_ediv_add_emod E (wd D)
    have hq := Int.ediv_nonneg h0 (Int.le_of_lt h.wpos)
    rw [Int.natCast_mul, ← hk, Int.toNat_of_nonneg hq]
    omega
  have e2 : t = ((t.toNat : Nat) : Int) := (Int.toNat_of_nonneg t0).symm
  have lt : t.toNat < 2 ^ D.toNat := by omega
  have key : ∀ x y : Nat, Builtin.bitOr (x : Int) (y : Int) = ((x ||| y : Nat) : Int) := by
    intro x y
    unfold Builtin.bitOr
    rw [bitAnd_nn (by unfold Builtin.bitNot; omega) (by unfold Builtin.bitNot; omega), bitNot_bitNot, bitNot_bitNot, bitNot_bitNot]
    simp
  rw [e1, e2, key, ← Nat.two_pow_add_eq_or_of_lt lt]
  simp
structure Dig (t D E : Int) : Prop where
  d : Dg D
  t0 : 0 ≤ t
  t1 : t < wd D
  e0 : 0 ≤ E
theorem andn_wd (h : Dg D) (k : Q (.int (a - a % wd D) s.toks) { s with toks := s.toks + 1 }) : wpAny (model prog w) A (binaryOp .BitAnd (.int a t) (.int (Builtin.bitNot (wd D - 1)) u)) Q E s :=
  let _ := h
  and_int (by rw [bitAnd_not, wd_def, kbt_mask, ← wd_def]; exact k)
theorem or_wd (h : Dig b D a) (k : Q (.int (a - a % wd D + b) s.toks) { s with toks := s.toks + 1 }) : wpAny (model prog w) A (binaryOp .BitOr (.int (a - a % wd D) t) (.int b u)) Q E s :=
  or_int (by rw [or_low h.d h.e0 h.t0 h.t1]; exact k)
theorem mul_q (h : Dg D) {k : Int} (h0 : -2 ≤ k) (h1 : k ≤ 2) (e0 : 0 ≤ a) (e1 : a < 4611686018427387904) (g : Q (.int (a - a % wd D + k * wd D) s.toks) { s with toks := s.toks + 1 }) : wpAny (model prog w) A (binaryOp .Mult (.int (a / wd D + k) t) (.int (wd D) u)) Q E s := by
  have h2 := h.lo
  have h3 := h.hi
  have h4 := h.w
  have hq0 : 0 ≤ a / wd D := Int.ediv_nonneg e0 (Int.le_of_lt h.wpos)
  have hq : a / wd D ≤ a := Int.ediv_le_self _ e0
  refine mul_int (by rw [h.times]; exact g) (IntMulOk.of_le (m := 64) (n := 64) (intBits_le_iff.mpr (by omega)) (intBits_le_iff.mpr (by omega)) (by decide))
/-- what decode_packet_number reckons -/
noncomputable def dec (t D E : Int) : Int :=
  if E - E % wd D + t ≤ E - hf D ∧ E - E % wd D + t < 4611686018427387904 - wd D then E - E % wd D + t + wd D
  else if E + hf D < E - E % wd D + t ∧ wd D ≤ E - E % wd D + t then E - E % wd D + t - wd D
  else E - E % wd D + t
theorem dec_told {D E st : Int} (h : Dg D) (s0 : -hf D < st) (s1 : st ≤ hf D) (w0 : 0 ≤ E + st) (w1 : E + st < 4611686018427387904) : dec ((E + st) % wd D) D E = E + st := by
  have a := h.w
  have b := h.lo
  have c := h.wrap (E := E) (st := st) (by omega) (by omega)
  have d := h.mod0 (E + st)
  have e := h.mod1 (E + st)
  unfold dec
  generalize (E + st) % wd D = t at *
  generalize E % wd D = r at *
  generalize wd D = W at *
  generalize hf D = H at *
  rcases c with ⟨c, _⟩ | ⟨c, _⟩ | ⟨c, _⟩ <;> subst c <;> split <;> (try split) <;> omega
structure Rng (D a : Int) : Prop where
  d : Dg D
  e0 : 0 ≤ a
  e1 : a < 4611686018427387904
theorem mul_m (h : Rng D a) {n : Int} (e : n = a / wd D + (-1)) (g : Q (.int (a - a % wd D - wd D) s.toks) { s with toks := s.toks + 1 }) : wpAny (model prog w) A (binaryOp .Mult (.int n t) (.int (wd D) u)) Q E s := by
  subst e
  refine mul_q h.d (by decide) (by decide) h.e0 h.e1 ?_
  rw [show a - a % wd D + -1 * wd D = a - a % wd D - wd D by omega]
  exact g
theorem mul_z (h : Rng D a) {n : Int} (e : n = a / wd D + 0) (g : Q (.int (a - a % wd D) s.toks) { s with toks := s.toks + 1 }) : wpAny (model prog w) A (binaryOp .Mult (.int n t) (.int (wd D) u)) Q E s := by
  subst e
  refine mul_q h.d (by decide) (by decide) h.e0 h.e1 ?_
  rw [show a - a % wd D + 0 * wd D = a - a % wd D by omega]
  exact g
theorem mul_p (h : Rng D a) {n : Int} (e : n = a / wd D + 1) (g : Q (.int (a - a % wd D + wd D) s.toks) { s with toks := s.toks + 1 }) : wpAny (model prog w) A (binaryOp .Mult (.int n t) (.int (wd D) u)) Q E s := by
  subst e
  refine mul_q h.d (by decide) (by decide) h.e0 h.e1 ?_
  rw [show a - a % wd D + 1 * wd D = a - a % wd D + wd D by omega]
  exact g
theorem rs3 (q : Int) : Builtin.Range.rangeSize (q - 1) (q + 2) 1 = ((3 : Nat) : Int) := by
  rw [rangeSize_nat]; omega
theorem menu_any {l : Addr} {k : Int} {v1 v2 v3 v4 : Tok} {value slice : PySem.Expr} (hl : s.heap.IsList l #[.int 8 v1, .int 16 v2, .int 24 v3, .int 32 v4]) (h0 : 0 ≤ k) (h1 : k < 4)
    (hs : subscripted slice false (.ref l) (.int k u) = operate [.ref l, .int k u] (getItem (.ref l) (.int k u)))
    (h : ∀ D t, Dg D → Q (.int D t) s) : wpAny (model prog w) A (subscriptTail value slice (.ref l) (.int k u)) Q E s := by
  have : k = 0 ∨ k = 1 ∨ k = 2 ∨ k = 3 := by omega
  rcases this with rfl | rfl | rfl | rfl
  · exact tail_any hl.typeIs slot_list_getitem.lookup (wpAny_getItem_list hl (by decide) (by decide) rfl (h 8 v1 ⟨.inl rfl⟩)) hs
  · exact tail_any hl.typeIs slot_list_getitem.lookup (wpAny_getItem_list hl (by decide) (by decide) rfl (h 16 v2 ⟨.inr (.inl rfl)⟩)) hs
  · exact tail_any hl.typeIs slot_list_getitem.lookup (wpAny_getItem_list hl (by decide) (by decide) rfl (h 24 v3 ⟨.inr (.inr (.inl rfl))⟩)) hs
  · exact tail_any hl.typeIs slot_list_getitem.lookup (wpAny_getItem_list hl (by decide) (by decide) rfl (h 32 v4 ⟨.inr (.inr (.inr rfl))⟩)) hs
end Mine
end
section
/-! Tup -/
open PySem PySem.W PyProof.Rows
namespace Mine
/-- a tuple of three ints stands at x -/
def Tup3 (h : Heap) (x : Addr) (a b c : Int) : Prop := ∃ t u v n d sl, h.get? x = some { cls := .type "tuple", dict := d, data := .seq #[.int a t, .int b u, .int c v] n, slots := sl }
def lex (a b a' b' : Int) : Bool := if a = a' then decide (b < b') else decide (a < a')
section
variable {prog : Program} {w : World} {A : Around} {E : Value → Shared → Prop} {s : Shared}

theorem tup_lt_tree {x y : Addr} {a b c a' b' c' : Int} {P : PySem.Fin → Shared → Prop} (hx : Tup3 s.heap x a b c) (hy : Tup3 s.heap y a' b' c') (hne : b ≠ b')
    (h : P (.done (.ret (.bool (lex a b a' b')))) s) :
    wpAny (model prog w) A (Builtin.«tuple.__lt__» ⟨[.ref x, .ref y], []⟩) P E s := by
  obtain ⟨t, u, v, n, d, sl, hx⟩ := hx
  obtain ⟨t', u', v', n', d', sl', hy⟩ := hy
  show wpAny _ _ (isInstance (.ref y) (.type "tuple") >>= _) _ _ s
  refine wpAny_bind (wpAny_isInstance ⟨_, hy, rfl⟩ isSubtype_tuple_tuple ?_)
  simp only [Bool.not_true, Bool.false_eq_true, if_false]
  refine wpAny_bind (wpAny_tupleItemsOf hx rfl ?_)
  refine wpAny_bind (wpAny_tupleItemsOf hy rfl ?_)
  refine wpAny_bind ?_
  show wpAny _ _ (forIn [(Value.int a t, Value.int a' t'), (Value.int b u, Value.int b' u'), (Value.int c v, Value.int c' v')] _ _) _ _ s
  rw [List.forIn_cons]
  refine wpAny_bind (wpAny_bind (wpAny_eqBool_int ?_))
  by_cases ha : a = a'
  · subst ha
    simp only [beq_self_eq_true, Bool.not_true, Bool.false_eq_true, if_false]
    refine wpAny_pure ?_
    dsimp only
    rw [List.forIn_cons]
    refine wpAny_bind (wpAny_bind (wpAny_eqBool_int ?_))
    have hb : (b == b') = false := by simpa using hne
    simp only [hb, Bool.not_false, if_true]
    refine wpAny_bind (wpAny_rule (wpAny_bind (lt_int (wpAny_bind (wpAny_pure (wpAny_pure (wpAny_pure ?_)))))))
    have e : lex a b a b' = decide (b < b') := by unfold lex; rw [if_pos rfl]
    rw [e] at h
    exact wpAny_pure h
  · have hb : (a == a') = false := by simpa using ha
    simp only [hb, Bool.not_false, if_true]
    refine wpAny_bind (wpAny_rule (wpAny_bind (lt_int (wpAny_bind (wpAny_pure (wpAny_pure (wpAny_pure ?_)))))))
    have e : lex a b a' b' = decide (a < a') := by unfold lex; rw [if_neg ha]
    rw [e] at h
    exact wpAny_pure h

theorem tup_lt {x y : Addr} {a b c a' b' c' : Int} {Q : Value → Shared → Prop} (hu : A.units < cLine) (hx : Tup3 s.heap x a b c) (hy : Tup3 s.heap y a' b' c') (hne : b ≠ b')
    (h : Q (.bool (lex a b a' b')) s) : wpAny (model prog w) A (richCompare .Lt (.ref x) (.ref y)) Q E s := by
  have hTx : s.TypeIs (.ref x) "tuple" := by obtain ⟨t, u, v, n, d, sl, hx⟩ := hx; exact ⟨_, hx, rfl⟩
  have hTy : s.TypeIs (.ref y) "tuple" := by obtain ⟨t, u, v, n, d, sl, hy⟩ := hy; exact ⟨_, hy, rfl⟩
  exact wpAny_richCompare_same_room (op := .Lt) hTx hTy F.slot_tuple_lt
    (wpAny_call_entry F.slot_tuple_lt hTx F.entry_tuple_lt (tup_lt_tree hx hy hne ⟨_, rfl, (fun e => nomatch e), h⟩) (F.args_tuple_lt_2 _ _)) hu

/-- the tuples of a list of refs: first, second, third -/
def TupsAt (h : Heap) (vs : List Value) (f g k : Nat → Int) : Prop := ∀ (i : Nat) (v : Value), vs[i]? = some v → ∃ x, v = Value.ref x ∧ Tup3 h x (f i) (g i) (k i)
theorem TupsAt.keeps {h h' : Heap} {vs : List Value} {f g k : Nat → Int} (T : TupsAt h vs f g k) (hk : ∀ (i : Nat) (v : Value) (x : Addr) (o : Obj), vs[i]? = some v → v = Value.ref x → h.get? x = some o → h'.get? x = some o) : TupsAt h' vs f g k := by
  intro i v hi
  obtain ⟨x, rfl, t, u, w, n, d, sl, e⟩ := T i v hi
  exact ⟨x, rfl, t, u, w, n, d, sl, hk i _ x _ hi rfl e⟩
def best (f g : Nat → Int) : Nat → Nat := argBest (fun i j => lex (f i) (g i) (f j) (g j))
theorem best_le (f g : Nat → Int) : ∀ n, best f g n ≤ n
  | 0 => Nat.le_refl _
  | n + 1 => by
    show (if _ then _ else _) ≤ _
    split
    · exact Nat.le_refl _
    · exact Nat.le_succ_of_le (best_le f g n)

section
variable {I : Addr} {fp wr : List Addr} {n : Nat} {St : Nat → Heap → Prop} {R : Result → Shared → Prop} {vs : List Value} {f g k : Nat → Int}
theorem min_loop (W : Walks prog w A.in1 I fp wr n (fun i v => vs[i]? = some v) St) (hu : A.in1.units < cLine) (hd : ∀ i j, i < n → j < n → g i = g j → i = j) (S : Addr) (hSf : S ∉ fp)
    (hoff : ∀ (i : Nat) (v : Value) (x : Addr), vs[i]? = some v → v = Value.ref x → x ∉ wr ∧ x ≠ S) :
    ∀ (kk j : Nat) (s : Shared) (vb : Value) (c : Nat), n - (j + 1) = kk → j + 1 ≤ n → St (j + 1) s.heap → vs[best f g j]? = some vb → TupsAt s.heap vs f g k →
    s.heap.get? S = some { cls := .type "list", dict := none, data := .seq #[vb, vb] c, slots := #[] } →
    (∀ v h' tk, vs[best f g (n - 1)]? = some v → (∀ b o, b ∉ wr → b ≠ S → s.heap.get? b = some o → h'.get? b = some o) → R (.ok (.ret v)) { s with heap := h', toks := tk }) →
    codeAny (model prog w) A (.builtin "min.loop" ⟨[.ref I, .none, .ref S], []⟩) R s := by
  have hSw : S ∉ wr := fun h => hSf (W.sub _ h)
  have hname : (toString "min" ++ toString ".loop" : String) = "min.loop" := by decide
  intro kk
  induction kk with
  | zero =>
    intro j s vb c hk hj hst hPb hT hS hR
    have hin : j + 1 = n := by omega
    refine codeAny_builtin F.entry_min_loop ?_
    rw [Around.under_plainId F.plain_min_loop _]
    show wpAny _ A.in1 (seqItems? (.ref S) >>= _) _ _ s
    refine wpAny_bind (wpAny_seqItems hS rfl ?_)
    show wpAny _ A.in1 (tryCatch (pyNext (.ref I)) _ >>= _) _ _ s
    refine wpAny_bind (wpAny_tryCatch (W.done s _ _ (hin ▸ hst) fun h' tk hk' => ?_))
    have hS' := hk' S _ hSw hS
    show wpAny _ A.in1 (updateSeq S (fun _ => #[]) >>= _) _ _ _
    refine wpAny_bind ?_
    refine wpAny_updateSeq hS' rfl (wpAny_bind (wpAny_letGo (wpAny_pure ?_)))
    exact hR vb _ tk (by rw [← hin]; exact hPb) fun b o hbw hbS e => (Heap.get?_update_other _ _ (Ne.symm hbS)).trans (hk' b o hbw e)
  | succ kk ih =>
    intro j s vb c hk hj hst hPb hT hS hR
    have hlt : j + 1 < n := by omega
    refine codeAny_builtin F.entry_min_loop ?_
    rw [Around.under_plainId F.plain_min_loop _]
    show wpAny _ A.in1 (seqItems? (.ref S) >>= _) _ _ s
    refine wpAny_bind (wpAny_seqItems hS rfl ?_)
    show wpAny _ A.in1 (tryCatch (pyNext (.ref I)) _ >>= _) _ _ s
    refine wpAny_bind (wpAny_tryCatch (W.item (j + 1) s _ _ hlt hst fun v h' tk hP hst' hk' => ?_))
    have hS' := hk' S _ hSw hS
    have hT' : TupsAt h' vs f g k := TupsAt.keeps hT fun i v x o hi hv e => hk' x o (hoff i v x hi hv).1 e
    obtain ⟨x, rfl, tx⟩ := hT' (j + 1) v hP
    obtain ⟨y, rfl, ty⟩ := hT' (best f g j) vb hPb
    have hle := best_le f g j
    show wpAny _ A.in1 (tryCatch (holding [Value.ref x, .ref x] (richCompare .Lt (.ref x) (.ref y) >>= _)) _ >>= _) _ _ _
    refine wpAny_bind (wpAny_tryCatch (wpAny_holding (wpAny_bind (tup_lt hu tx ty (fun e => by have := hd _ _ hlt (by omega) e; omega) ?_))))
    refine wpAny_bind (wpAny_holding (wpAny_truthy_bool ?_))
    refine wpAny_bind (wpAny_letGo (wpAny_pure ?_))
    have hb1 : best f g (j + 1) = if lex (f (j + 1)) (g (j + 1)) (f (best f g j)) (g (best f g j)) then j + 1 else best f g j := rfl
    cases hb : lex (f (j + 1)) (g (j + 1)) (f (best f g j)) (g (best f g j)) with
    | true =>
      simp only [if_true]
      refine wpAny_bind ?_
      refine wpAny_updateSeq hS' rfl (wpAny_bind (wpAny_letGo ?_))
      rw [hname]
      refine wpAny_pure ⟨plainId_quiet F.plain_min_loop _, ih (j + 1) _ (.ref x) _ (by omega) hlt (W.frame _ _ _ hst' fun b hbf o e => ?_) (by rw [hb1, hb, if_pos rfl]; exact hP) (TupsAt.keeps hT' fun i v z o hi hv e => ?_) (Heap.get?_update_self _ hS' rfl)
        fun v' h'' tk'' hP' hk'' => ?_⟩
      · exact (Heap.get?_update_other _ _ (fun h : S = b => hSf (by rw [h]; exact hbf))).trans e
      · exact (Heap.get?_update_other _ _ (Ne.symm (hoff i v z hi hv).2)).trans e
      · exact hR v' h'' tk'' hP' fun b o hbw hbS e => hk'' b o hbw hbS ((Heap.get?_update_other _ _ (Ne.symm hbS)).trans (hk' b o hbw e))
    | false =>
      simp only [Bool.false_eq_true, if_false]
      refine wpAny_bind (wpAny_letGo ?_)
      rw [hname]
      refine wpAny_pure ⟨plainId_quiet F.plain_min_loop _, ih (j + 1) _ (.ref y) c (by omega) hlt hst' (by rw [hb1, hb, if_neg Bool.false_ne_true]; exact hPb) hT' hS' fun v' h'' tk'' hP' hk'' => ?_⟩
      exact hR v' h'' tk'' hP' fun b o hbw hbS e => hk'' b o hbw hbS (hk' b o hbw e)
end

theorem min_tups {h₀ : Heap} {L l : Addr} {m : Str → Option Value} {news : List (Addr × Obj)} {vs : List Value} {f g k : Nat → Int} {Q : Value → Shared → Prop}
    (hh : A.handled = none) (hu : A.in1.units < cLine) (FR : Fr h₀ L s.heap m) (N : News h₀ L s.heap news) (hl : s.heap.IsList l vs.toArray) (hne : 0 < vs.length) (hT : TupsAt s.heap vs f g k)
    (hd : ∀ i j, i < vs.length → j < vs.length → g i = g j → i = j)
    (hQ : ∀ v h' tk, vs[best f g (vs.length - 1)]? = some v → Fr h₀ L h' m → News h₀ L h' news → Q v { s with heap := h', toks := tk }) :
    wpAny (model prog w) A (call (.builtin "min") [.ref l]) Q E s := by
  have hname : (toString "min" ++ toString ".loop" : String) = "min.loop" := by decide
  have hlt : l < s.heap.objs.size := by obtain ⟨_, e, _⟩ := hl; exact Heap.lt_size e
  refine call_function_tree F.kind_min F.plain_min F.entry_min (F.args_min1 _) ?_
  show wpAny _ A.in1 (Builtin.Builtins.bindParams "min" ["key", "default"] 0 ⟨[], []⟩ >>= _) _ _ s
  refine wpAny_bind (wpAny_of_eq (show Builtin.Builtins.bindParams "min" ["key", "default"] 0 ⟨[], []⟩ = pure [none, none] from rfl) ?_)
  refine wpAny_bind (wpAny_pure ?_)
  refine wpAny_bind (wpAny_pyIter_list hl ?_)
  refine wpAny_bind (wpAny_newObj_type ?_)
  rw [hname]
  generalize hH : (s.heap.push { cls := .type "list_iterator", data := .fields #[.ref l, .int 0 0] }) = H
  have hHs : H.objs.size = s.heap.objs.size + 1 := by rw [← hH, Heap.size_push]
  have up1 : ∀ b o, s.heap.get? b = some o → H.get? b = some o := fun b o e => by rw [← hH]; exact Heap.get?_push_of_some _ e
  have itH : H.IsListIter s.heap.objs.size l 0 := by rw [← hH]; exact ⟨_, Heap.get?_push_size _ rfl, rfl, rfl⟩
  refine wpAny_pure ⟨plainId_quiet F.plain_min_loop _, ?_⟩
  have up2 : ∀ b o, H.get? b = some o → (H.push { cls := .type "list", dict := none, data := .seq ([] : List Value).toArray }).get? b = some o := fun b o e => Heap.get?_push_of_some _ e
  have hS : (H.push { cls := .type "list", dict := none, data := .seq ([] : List Value).toArray }).get? H.objs.size = some { cls := .type "list", dict := none, data := .seq ([] : List Value).toArray } := Heap.get?_push_size _ rfl
  have W := Walks.list (prog := prog) (w := w) (A := A.in1) hh s.heap.objs.size l (Nat.ne_of_lt hlt) vs.toArray
  have hSf : H.objs.size ∉ [s.heap.objs.size, l] := by
    intro hm
    rcases List.mem_cons.mp hm with e | hm
    · rw [hHs] at e; exact absurd e (Nat.succ_ne_self _)
    · have e := List.mem_singleton.mp hm
      rw [← e, hHs] at hlt; exact absurd hlt (Nat.not_lt.mpr (Nat.le_succ _))
  have hSw : H.objs.size ∉ [s.heap.objs.size] := fun h => hSf (List.mem_cons.mpr (.inl (List.mem_singleton.mp h)))
  have hsz : vs.toArray.size = vs.length := List.size_toArray ..
  have hst : (fun i (h : Heap) => h.IsListIter s.heap.objs.size l i ∧ h.IsList l vs.toArray) 0 (H.push { cls := .type "list", dict := none, data := .seq ([] : List Value).toArray }) :=
    ⟨itH.at fun o e => up2 _ o e, (hl.at fun o e => up1 _ o e).at fun o e => up2 _ o e⟩
  have old : ∀ b o, s.heap.get? b = some o → b ∉ [s.heap.objs.size] ∧ b ≠ H.objs.size := fun b o e => by
    have := Heap.lt_size e
    exact ⟨fun h => by have := List.mem_singleton.mp h; exact absurd (this ▸ Heap.lt_size e) (Nat.lt_irrefl _), fun h => by rw [h, hHs] at this; exact absurd this (Nat.not_lt.mpr (Nat.le_succ _))⟩
  have hT2 : TupsAt (H.push { cls := .type "list", dict := none, data := .seq ([] : List Value).toArray }) vs f g k := TupsAt.keeps hT fun i v x o _ _ e => up2 _ o (up1 _ o e)
  have hoff : ∀ (i : Nat) (v : Value) (x : Addr), vs[i]? = some v → v = Value.ref x → x ∉ [s.heap.objs.size] ∧ x ≠ H.objs.size := by
    intro i v x hi hv
    obtain ⟨x', hx', t, u, c, n, d, sl, e⟩ := hT i v hi
    have : x = x' := by rw [hv] at hx'; exact Value.ref.inj hx'
    rw [this]
    exact old _ _ e
  refine codeAny_builtin F.entry_min_loop ?_
  rw [Around.under_plainId F.plain_min_loop _]
  show wpAny _ A.in1 (seqItems? (.ref H.objs.size) >>= _) _ _ _
  refine wpAny_bind (wpAny_seqItems hS rfl ?_)
  show wpAny _ A.in1 (tryCatch (pyNext (.ref s.heap.objs.size)) _ >>= _) _ _ _
  refine wpAny_bind (wpAny_tryCatch (W.item 0 _ _ _ (by rw [hsz]; exact hne) hst fun v h' tk hP hst' hk' => ?_))
  have hv : vs[0]? = some v := by simpa using hP
  have hS' := hk' _ _ hSw hS
  show wpAny _ A.in1 (updateSeq H.objs.size (fun _ => #[v, v]) >>= _) _ _ _
  refine wpAny_bind ?_
  refine wpAny_updateSeq hS' rfl ?_
  rw [hname]
  have W' : Walks prog w A.in1 s.heap.objs.size [s.heap.objs.size, l] [s.heap.objs.size] vs.toArray.size (fun i v => vs[i]? = some v) (fun i h => h.IsListIter s.heap.objs.size l i ∧ h.IsList l vs.toArray) := by
    simpa using W
  refine wpAny_pure ⟨plainId_quiet F.plain_min_loop _, min_loop (n := vs.toArray.size) W' hu (by rw [hsz]; exact hd) H.objs.size hSf hoff _ 0 _ v _ rfl (by rw [hsz]; exact hne) (W.frame _ _ _ hst' fun b hbf o e => ?_) hv
    (TupsAt.keeps hT2 fun i z x o hi hz e => ?_) (Heap.get?_update_self _ hS' rfl) fun v' h'' tk'' hP' hk'' => ?_⟩
  · exact (Heap.get?_update_other _ _ (fun h : H.objs.size = b => hSf (by rw [h]; exact hbf))).trans e
  · have := hoff i z x hi hz
    exact (Heap.get?_update_other _ _ (Ne.symm this.2)).trans (hk' _ _ this.1 e)
  · have keep : ∀ b o, s.heap.get? b = some o → h''.get? b = some o := fun b o e =>
      hk'' b o (old b o e).1 (old b o e).2 ((Heap.get?_update_other _ _ (Ne.symm (old b o e).2)).trans (hk' b o (old b o e).1 (up2 _ o (up1 _ o e))))
    rw [hsz] at hP'
    exact hQ v' h'' tk'' hP' (FR.keeps keep) (N.grown keep)

abbrev tupO (a b c : Int) (t u v : Tok) (n : Nat) (d : Option Addr) (sl : Array (Option Value)) : Obj := { cls := .type "tuple", dict := d, data := .seq #[.int a t, .int b u, .int c v] n, slots := sl }
def nth2 (a b : Int) : Nat → Int
  | 0 => a
  | _ => b
def nth3 (a b c : Int) : Nat → Int
  | 0 => a
  | 1 => b
  | _ => c
theorem min2 {h₀ : Heap} {L l : Addr} {m : Str → Option Value} {news : List (Addr × Obj)} {Q : Value → Shared → Prop} {x1 x2 : Addr} {a1 b1 c1 a2 b2 c2 : Int} {t1 u1 v1 t2 u2 v2 : Tok} {n1 n2 nl : Nat} {d1 d2 dl : Option Addr} {sl1 sl2 sl : Array (Option Value)} (R : Int)
    (hh : A.handled = none) (hu : A.in1.units < cLine) (FR : Fr h₀ L s.heap m) (N : News h₀ L s.heap news) (hl : (l, ({ cls := .type "list", dict := dl, data := .seq #[.ref x1, .ref x2] nl, slots := sl } : Obj)) ∈ news)
    (m1 : (x1, tupO a1 b1 c1 t1 u1 v1 n1 d1 sl1) ∈ news) (m2 : (x2, tupO a2 b2 c2 t2 u2 v2 n2 d2 sl2) ∈ news) (h12 : b1 ≠ b2)
    (hR : nth2 c1 c2 (best (nth2 a1 a2) (nth2 b1 b2) 1) = R)
    (hQ : ∀ r a b t u v n d sl h' tk, Fr h₀ L h' m → News h₀ L h' news → (r, tupO a b R t u v n d sl) ∈ news → Q (.ref r) { s with heap := h', toks := tk }) :
    wpAny (model prog w) A (call (.builtin "min") [.ref l]) Q E s := by
  have ht : TupsAt s.heap [.ref x1, .ref x2] (nth2 a1 a2) (nth2 b1 b2) (nth2 c1 c2) := by
    intro i v hi
    match i, hi with
    | 0, hi => cases hi; exact ⟨x1, rfl, _, _, _, _, _, _, (N _ m1).1⟩
    | 1, hi => cases hi; exact ⟨x2, rfl, _, _, _, _, _, _, (N _ m2).1⟩
    | i + 2, hi => simp at hi
  refine min_tups (vs := [.ref x1, .ref x2]) hh hu FR N ⟨_, (N _ hl).1, rfl, _, rfl⟩ (Nat.zero_lt_succ _) ht (fun i j hi hj e => ?_) fun v h' tk hv F' N' => ?_
  · have hi' : i < 2 := hi
    have hj' : j < 2 := hj
    have c1 : i = 0 ∨ i = 1 := by omega
    have c2 : j = 0 ∨ j = 1 := by omega
    rcases c1 with rfl | rfl <;> rcases c2 with rfl | rfl <;> first | rfl | exact absurd e h12 | exact absurd e.symm h12
  · subst hR
    have hle := best_le (nth2 a1 a2) (nth2 b1 b2) 1
    have hc : best (nth2 a1 a2) (nth2 b1 b2) 1 = 0 ∨ best (nth2 a1 a2) (nth2 b1 b2) 1 = 1 := by omega
    have hv' : [Value.ref x1, .ref x2][best (nth2 a1 a2) (nth2 b1 b2) 1]? = some v := hv
    rcases hc with e | e <;> rw [e] at hv' hQ <;> cases hv'
    · exact hQ _ _ _ _ _ _ _ _ _ _ _ F' N' m1
    · exact hQ _ _ _ _ _ _ _ _ _ _ _ F' N' m2
theorem min3 {h₀ : Heap} {L l : Addr} {m : Str → Option Value} {news : List (Addr × Obj)} {Q : Value → Shared → Prop} {x1 x2 x3 : Addr} {a1 b1 c1 a2 b2 c2 a3 b3 c3 : Int} {t1 u1 v1 t2 u2 v2 t3 u3 v3 : Tok} {n1 n2 n3 nl : Nat} {d1 d2 d3 dl : Option Addr} {sl1 sl2 sl3 sl : Array (Option Value)} (R : Int)
    (hh : A.handled = none) (hu : A.in1.units < cLine) (FR : Fr h₀ L s.heap m) (N : News h₀ L s.heap news) (hl : (l, ({ cls := .type "list", dict := dl, data := .seq #[.ref x1, .ref x2, .ref x3] nl, slots := sl } : Obj)) ∈ news)
    (m1 : (x1, tupO a1 b1 c1 t1 u1 v1 n1 d1 sl1) ∈ news) (m2 : (x2, tupO a2 b2 c2 t2 u2 v2 n2 d2 sl2) ∈ news) (m3 : (x3, tupO a3 b3 c3 t3 u3 v3 n3 d3 sl3) ∈ news) (h12 : b1 ≠ b2) (h13 : b1 ≠ b3) (h23 : b2 ≠ b3)
    (hR : nth3 c1 c2 c3 (best (nth3 a1 a2 a3) (nth3 b1 b2 b3) 2) = R)
    (hQ : ∀ r a b t u v n d sl h' tk, Fr h₀ L h' m → News h₀ L h' news → (r, tupO a b R t u v n d sl) ∈ news → Q (.ref r) { s with heap := h', toks := tk }) :
    wpAny (model prog w) A (call (.builtin "min") [.ref l]) Q E s := by
  have ht : TupsAt s.heap [.ref x1, .ref x2, .ref x3] (nth3 a1 a2 a3) (nth3 b1 b2 b3) (nth3 c1 c2 c3) := by
    intro i v hi
    match i, hi with
    | 0, hi => cases hi; exact ⟨x1, rfl, _, _, _, _, _, _, (N _ m1).1⟩
    | 1, hi => cases hi; exact ⟨x2, rfl, _, _, _, _, _, _, (N _ m2).1⟩
    | 2, hi => cases hi; exact ⟨x3, rfl, _, _, _, _, _, _, (N _ m3).1⟩
    | i + 3, hi => simp at hi
  refine min_tups (vs := [.ref x1, .ref x2, .ref x3]) hh hu FR N ⟨_, (N _ hl).1, rfl, _, rfl⟩ (Nat.zero_lt_succ _) ht (fun i j hi hj e => ?_) fun v h' tk hv F' N' => ?_
  · have hi' : i < 3 := hi
    have hj' : j < 3 := hj
    have c1 : i = 0 ∨ i = 1 ∨ i = 2 := by omega
    have c2 : j = 0 ∨ j = 1 ∨ j = 2 := by omega
    rcases c1 with rfl | rfl | rfl <;> rcases c2 with rfl | rfl | rfl <;> first | rfl | exact absurd e h12 | exact absurd e.symm h12 | exact absurd e h13 | exact absurd e.symm h13 | exact absurd e h23 | exact absurd e.symm h23
  · subst hR
    have hle := best_le (nth3 a1 a2 a3) (nth3 b1 b2 b3) 2
    have hc : best (nth3 a1 a2 a3) (nth3 b1 b2 b3) 2 = 0 ∨ best (nth3 a1 a2 a3) (nth3 b1 b2 b3) 2 = 1 ∨ best (nth3 a1 a2 a3) (nth3 b1 b2 b3) 2 = 2 := by omega
    have hv' : [Value.ref x1, .ref x2, .ref x3][best (nth3 a1 a2 a3) (nth3 b1 b2 b3) 2]? = some v := hv
    rcases hc with e | e | e <;> rw [e] at hv' hQ <;> cases hv'
    · exact hQ _ _ _ _ _ _ _ _ _ _ _ F' N' m1
    · exact hQ _ _ _ _ _ _ _ _ _ _ _ F' N' m2
    · exact hQ _ _ _ _ _ _ _ _ _ _ _ F' N' m3
/-- the third place of such a tuple -/
theorem tup_third {h₀ : Heap} {L x : Addr} {news : List (Addr × Obj)} {a b c : Int} {t u v : Tok} {n : Nat} {d : Option Addr} {sl : Array (Option Value)} {value slice : PySem.Expr} {i : Tok} {Q : Value → Shared → Prop} (N : News h₀ L s.heap news) (hm : (x, tupO a b c t u v n d sl) ∈ news)
    (hs : subscripted slice false (.ref x) (.int 2 i) = operate [.ref x, .int 2 i] (getItem (.ref x) (.int 2 i)))
    (h : Q (.int c v) s) : wpAny (model prog w) A (subscriptTail value slice (.ref x) (.int 2 i)) Q E s :=
  item_tupleT (N.isTup hm) (by decide) (by decide) rfl rfl h hs
/-- the end of an element that makes nothing -/
theorem comp_same {h₀ : Heap} {L I C D : Addr} {m : Str → Option Value} {s₁ : Shared} {oI oC oD : Obj} {S : List (Addr × Obj) → Prop} {rest : Value → List (Addr × Obj) → Prop} {y : Value} {h' : Heap} {tk : Nat} {news : List (Addr × Obj)}
    (FR : Fr h₀ L h' m) (N : News h₀ L h' ((I, oI) :: (C, oC) :: (D, oD) :: news)) (off : LCg.Off3 I C D news) (hS : S news) (r : rest y news) :
    LCg.CompEnd h₀ L m s₁ I oI C oC D oD S rest y { s₁ with heap := h', toks := tk } := LCg.CompEnd.intro FR N news (fun _ hp => hp) off hS r
/-- the end of an element that makes one object -/
theorem comp_one {h₀ : Heap} {L I C D x : Addr} {m : Str → Option Value} {s₁ : Shared} {oI oC oD o : Obj} {S : List (Addr × Obj) → Prop} {rest : Value → List (Addr × Obj) → Prop} {y : Value} {h' : Heap} {tk : Nat} {news : List (Addr × Obj)} {P : Prop}
    (FR : Fr h₀ L h' m) (N : News h₀ L h' ((x, o) :: (I, oI) :: (C, oC) :: (D, oD) :: news)) (off : LCg.Off3 I C D news) (lt : @LT.lt Nat _ I x ∧ @LT.lt Nat _ C x ∧ @LT.lt Nat _ D x ∧ P) (hS : S ((x, o) :: news)) (r : rest y ((x, o) :: news)) :
    LCg.CompEnd h₀ L m s₁ I oI C oC D oD S rest y { s₁ with heap := h', toks := tk } := by
  refine LCg.CompEnd.intro FR N ((x, o) :: news) (fun p hp => ?_) ⟨⟨Nat.ne_of_gt lt.1, Nat.ne_of_gt lt.2.1, Nat.ne_of_gt lt.2.2.1⟩, off⟩ hS r
  simp only [List.mem_cons] at hp ⊢
  rcases hp with h | h | h | h | h
  · exact .inr (.inl h)
  · exact .inr (.inr (.inl h))
  · exact .inr (.inr (.inr (.inl h)))
  · exact .inl h
  · exact .inr (.inr (.inr (.inr h)))
end
end Mine
end
section
/-! Law -/
open PySem PySem.W PyProof.Rows
namespace Mine
abbrev av (z : Int) : Int := if z < 0 then -z else z
theorem av_nonneg {z : Int} : 0 ≤ av z := by unfold av; split <;> omega
/-- which of two pairs is the less -/
theorem lex_iff {a b a' b' : Int} : lex a b a' b' = true ↔ a < a' ∨ (a = a' ∧ b < b') := by
  unfold lex
  split
  · rename_i h; subst h; simp
  · rename_i h; simp [h]
theorem best2_is {a1 a2 b1 b2 c1 c2 R : Int} (h : (¬ (a2 < a1 ∨ (a2 = a1 ∧ b2 < b1)) ∧ R = c1) ∨ ((a2 < a1 ∨ (a2 = a1 ∧ b2 < b1)) ∧ R = c2)) : nth2 c1 c2 (best (nth2 a1 a2) (nth2 b1 b2) 1) = R := by
  have e : best (nth2 a1 a2) (nth2 b1 b2) 1 = if lex a2 b2 a1 b1 then 1 else 0 := rfl
  rw [e]
  rcases h with ⟨h, rfl⟩ | ⟨h, rfl⟩
  · rw [if_neg (fun q => h (lex_iff.mp q))]; rfl
  · rw [if_pos (lex_iff.mpr h)]; rfl
theorem best3_is {a1 a2 a3 b1 b2 b3 c1 c2 c3 R : Int}
    (h : (¬ (a2 < a1 ∨ (a2 = a1 ∧ b2 < b1)) ∧ ((¬ (a3 < a1 ∨ (a3 = a1 ∧ b3 < b1)) ∧ R = c1) ∨ ((a3 < a1 ∨ (a3 = a1 ∧ b3 < b1)) ∧ R = c3))) ∨
      ((a2 < a1 ∨ (a2 = a1 ∧ b2 < b1)) ∧ ((¬ (a3 < a2 ∨ (a3 = a2 ∧ b3 < b2)) ∧ R = c2) ∨ ((a3 < a2 ∨ (a3 = a2 ∧ b3 < b2)) ∧ R = c3)))) : nth3 c1 c2 c3 (best (nth3 a1 a2 a3) (nth3 b1 b2 b3) 2) = R := by
  have e1 : best (nth3 a1 a2 a3) (nth3 b1 b2 b3) 1 = if lex a2 b2 a1 b1 then 1 else 0 := rfl
  have e : best (nth3 a1 a2 a3) (nth3 b1 b2 b3) 2 = if lex a3 b3 (nth3 a1 a2 a3 (best (nth3 a1 a2 a3) (nth3 b1 b2 b3) 1)) (nth3 b1 b2 b3 (best (nth3 a1 a2 a3) (nth3 b1 b2 b3) 1)) then 2 else best (nth3 a1 a2 a3) (nth3 b1 b2 b3) 1 := rfl
  rw [e, e1]
  rcases h with ⟨h, q⟩ | ⟨h, q⟩
  · rw [if_neg (fun p => h (lex_iff.mp p))]
    show nth3 c1 c2 c3 (if lex a3 b3 a1 b1 = true then 2 else 0) = R
    rcases q with ⟨q, rfl⟩ | ⟨q, rfl⟩
    · rw [if_neg (fun p => q (lex_iff.mp p))]; rfl
    · rw [if_pos (lex_iff.mpr q)]; rfl
  · rw [if_pos (lex_iff.mpr h)]
    show nth3 c1 c2 c3 (if lex a3 b3 a2 b2 = true then 2 else 1) = R
    rcases q with ⟨q, rfl⟩ | ⟨q, rfl⟩
    · rw [if_neg (fun p => q (lex_iff.mp p))]; rfl
    · rw [if_pos (lex_iff.mpr q)]; rfl

theorem ne_m {D a t : Int} (h : Dg D) : -(a - wd D + t) ≠ -(a + t) := by have := h.wpos; omega
theorem ne_p {D a t : Int} (h : Dg D) : -(a + t) ≠ -(a + wd D + t) := by have := h.wpos; omega
theorem ne_mp {D a t : Int} (h : Dg D) : -(a - wd D + t) ≠ -(a + wd D + t) := by have := h.wpos; omega
theorem law3 {t D E : Int} (h : Dig t D E) (lo : 0 ≤ E - E % wd D - wd D + t) (hi : E - E % wd D + wd D + t < 4611686018427387904) :
    nth3 (E - E % wd D - wd D + t) (E - E % wd D + t) (E - E % wd D + wd D + t)
      (best (nth3 (av (E - E % wd D - wd D + t - E)) (av (E - E % wd D + t - E)) (av (E - E % wd D + wd D + t - E))) (nth3 (-(E - E % wd D - wd D + t)) (-(E - E % wd D + t)) (-(E - E % wd D + wd D + t))) 2) = dec t D E := by
  have h1 := h.d.w
  have h2 := h.d.lo
  have h3 := h.d.mod0 E
  have h4 := h.d.mod1 E
  have h5 := h.t0
  have h6 := h.t1
  refine best3_is ?_
  unfold dec av
  generalize E % wd D = r at *
  generalize wd D = W at *
  generalize hf D = H at *
  have g1 : E - r - W + t - E < 0 := by omega
  have g3 : ¬ E - r + W + t - E < 0 := by omega
  rw [if_pos g1, if_neg g3]
  by_cases g2 : E - r + t - E < 0
  · rw [if_pos g2]
    split
    · right; constructor; omega; right; omega
    · split
      · omega
      · right; constructor; omega; left; omega
  · rw [if_neg g2]
    split
    · omega
    · split
      · left; constructor; omega; left; omega
      · right; constructor; omega; left; omega
/-- the row's last numbers: none above -/
theorem law_top {t D E : Int} (h : Dig t D E) (lo : 0 ≤ E - E % wd D - wd D + t) (hi : ¬ E - E % wd D + wd D + t < 4611686018427387904) :
    nth2 (E - E % wd D - wd D + t) (E - E % wd D + t)
      (best (nth2 (av (E - E % wd D - wd D + t - E)) (av (E - E % wd D + t - E))) (nth2 (-(E - E % wd D - wd D + t)) (-(E - E % wd D + t))) 1) = dec t D E := by
  have h1 := h.d.w
  have h2 := h.d.lo
  have h3 := h.d.mod0 E
  have h4 := h.d.mod1 E
  have h5 := h.t0
  have h6 := h.t1
  refine best2_is ?_
  unfold dec av
  generalize E % wd D = r at *
  generalize wd D = W at *
  generalize hf D = H at *
  have g1 : E - r - W + t - E < 0 := by omega
  rw [if_pos g1]
  by_cases g2 : E - r + t - E < 0
  · rw [if_pos g2]
    split
    · omega
    · split
      · omega
      · right; omega
  · rw [if_neg g2]
    split
    · omega
    · split
      · left; omega
      · right; omega
/-- the row's first numbers: none below -/
theorem law_low {t D E : Int} (h : Dig t D E) (lo : ¬ 0 ≤ E - E % wd D - wd D + t) :
    nth2 (E - E % wd D + t) (E - E % wd D + wd D + t)
      (best (nth2 (av (E - E % wd D + t - E)) (av (E - E % wd D + wd D + t - E))) (nth2 (-(E - E % wd D + t)) (-(E - E % wd D + wd D + t))) 1) = dec t D E := by
  have h1 := h.d.w
  have h2 := h.d.lo
  have h7 := h.d.hi
  have h3 := h.d.mod0 E
  have h4 := h.d.mod1 E
  have h5 := h.t0
  have h6 := h.t1
  refine best2_is ?_
  unfold dec av
  generalize E % wd D = r at *
  generalize wd D = W at *
  generalize hf D = H at *
  have g3 : ¬ E - r + W + t - E < 0 := by omega
  rw [if_neg g3]
  by_cases g2 : E - r + t - E < 0
  · rw [if_pos g2]
    split
    · right; omega
    · split
      · omega
      · left; omega
  · rw [if_neg g2]
    split
    · omega
    · split
      · omega
      · left; omega
end Mine
end
section
/-! LawD -/
open PySem PySem.W PyProof.Rows
namespace Mine
/-- the told and the expected number against one another: less -/
theorem cmp_told {D E st : Int} (h : Dg D) (s0 : -hf D < st) (s1 : st < hf D) :
    (((E + st) % wd D < E % wd D ∧ E % wd D - (E + st) % wd D < hf D) ∨ (E % wd D < (E + st) % wd D ∧ hf D < (E + st) % wd D - E % wd D) ↔ st < 0) ∧
    (((E + st) % wd D < E % wd D ∧ hf D < E % wd D - (E + st) % wd D) ∨ (E % wd D < (E + st) % wd D ∧ (E + st) % wd D - E % wd D < hf D) ↔ 0 < st) ∧
    ((E + st) % wd D = E % wd D ↔ st = 0) := by
  have a := h.w
  have b := h.lo
  have c := h.wrap (E := E) (st := st) (by omega) (by omega)
  have d := h.mod0 E
  have e := h.mod1 E
  generalize (E + st) % wd D = t at *
  generalize E % wd D = r at *
  generalize wd D = W at *
  generalize hf D = H at *
  rcases c with ⟨c, c1, c2⟩ | ⟨c, c1⟩ | ⟨c, c1⟩ <;> subst c <;> refine ⟨?_, ?_, ?_⟩ <;> omega
theorem cmp_half {D E : Int} (h : Dg D) :
    ¬ (((E + hf D) % wd D < E % wd D ∧ E % wd D - (E + hf D) % wd D < hf D) ∨ (E % wd D < (E + hf D) % wd D ∧ hf D < (E + hf D) % wd D - E % wd D)) ∧
    ¬ (((E + hf D) % wd D < E % wd D ∧ hf D < E % wd D - (E + hf D) % wd D) ∨ (E % wd D < (E + hf D) % wd D ∧ (E + hf D) % wd D - E % wd D < hf D)) ∧
    ¬ (E + hf D) % wd D = E % wd D := by
  have a := h.w
  have b := h.lo
  have c := h.wrap (E := E) (st := hf D) (by omega) (by omega)
  have d := h.mod0 E
  have e := h.mod1 E
  generalize (E + hf D) % wd D = t at *
  generalize E % wd D = r at *
  generalize wd D = W at *
  generalize hf D = H at *
  rcases c with ⟨c, c1, c2⟩ | ⟨c, c1⟩ | ⟨c, c1⟩ <;> subst c <;> refine ⟨?_, ?_, ?_⟩ <;> omega
end Mine
end
section
/-! Bools -/
open PySem PySem.W PyProof.Rows PyProof.V PySem.Spec
namespace Mine
theorem canB : ∀ bs : List Bool, PyData.canLayAll0 (bs.map PyData.bool) = true
  | [] => rfl
  | _ :: r => by simp [PyData.canLayAll0, PyData.canLay0, canB r]
theorem depB : ∀ bs : List Bool, PyData.depthAll (bs.map PyData.bool) = 0
  | [] => rfl
  | _ :: r => by simp [PyData.depthAll, PyData.depth, depB r]
theorem shapedB (bs : List Bool) : SeqAt.shaped (.list (bs.map PyData.bool)) = true := by
  simp [SeqAt.shaped, PyData.canLay0, PyData.depth, canB, depB]
theorem sameB : ∀ bs : List Bool, PySem.Spec.sameAll (bs.map PyData.bool) (bs.map PyData.bool) = true
  | [] => by simp [PySem.Spec.sameAll]
  | b :: r => by
    simp only [List.map_cons, PySem.Spec.sameAll, PySem.Spec.same, sameB r]
    simp
theorem carB : ∀ bs : List Bool, CarriedAll (bs.map Value.bool) (bs.map PyData.bool)
  | [] => .nil
  | b :: r => .cons (.bool b) (carB r)
theorem dec_eq (p : Prop) [Decidable p] (b : Bool) : (decide p = b) = (p ↔ b = true) := by cases b <;> simp
section
variable {prog : Program} {w : World} {A : Around} {E : Value → Shared → Prop} {s : Shared} {x y : Addr} {Q : Value → Shared → Prop}
theorem ne_bools (bs : List Bool) (hx : s.heap.IsList x (bs.map Value.bool).toArray) (hy : s.heap.IsList y (bs.map Value.bool).toArray) (hu : A.units + 64 < cLine) (h : Q (.bool false) s) :
    wpAny (model prog w) A (compareOp .NotEq (.ref x) (.ref y)) Q E s :=
  ne_dataH_same (reads_newData hx (carB bs)) (reads_newData hy (carB bs)) (shapedB _) (shapedB _) hu (SeqAt.noMix_of_shape (.list .bool) rfl _ _ (list_map_has fun _ => rfl) (list_map_has fun _ => rfl))
    (by rw [show PySem.Spec.same (.list (bs.map PyData.bool)) (.list (bs.map PyData.bool)) = true by simp only [PySem.Spec.same]; exact sameB bs]; exact h)
end
end Mine
end
section
/-! Cau -/
open PySem PySem.W PyProof.Rows PySem.Spec PySem.Calls
namespace Mine
section
variable {prog : Program} {w : World} {A₀ : Around} {E : Value → Shared → Prop} {s' : Shared} {h₀ h : Heap} {outer : List Env} {L a e : Addr} {m : Str → Option Value} {name : Str} {scope : Scope} {cd : Value}
  {b₀ : Stmt} {suite : List Stmt} {pos np : Pos} {rest : List ExceptHandler} {Q : Flow → Shared → Prop} {news : List (Addr × Obj)} {K : Frag}
  {p : Program} {loose : List Str} {mg mb : Str → Option Value} {x : Str} {X T' : String}
/-- an exception caught in a frame that has cells -/
theorem caught_cells (B : Below A₀ h₀ outer h₀) (F : Fr h₀ L h m) (hsm : h.UpToSlots s'.heap) (R : RaisedN h₀ (envOfC name scope L a cd :: outer) e (.type X) news s'.heap)
    (KX : K.In h₀) (T : TopRead p loose mg mb h₀) (e₁ : nsIn K mainGlobals x = some none) (hv : bootBuiltins x = some (.type T')) (hn : x ≠ "__name__")
    (hexc : isSubtype (.type T') (.type "BaseException") = pure true) (hnt : isSubtype (.type ((Manifest.find? T').elim "type" fun y => y.metatype)) (.type "tuple") = pure false) (hsub : isSubtype (.type X) (.type T') = pure true)
    (hE : PassesOwnAt (model prog w) ((A₀.deeper (envOfC name scope L a cd)).mark (some (.ref e))) (A₀.deeper (envOfC name scope L a cd)) (envOfC name scope L a cd) E)
    (k : ∀ h', Fr h₀ L h' m → News h₀ L h' news →
      wpAny (model prog w) ((A₀.deeper (envOfC name scope L a cd)).mark (some (.ref e))) (execs (b₀ :: suite) (envOfC name scope L a cd)) Q E { s' with heap := h' })
    (hk : scope.kind = .function := by rfl) (hx : (envOfC name scope L a cd).kindOf x = some .globalImplicit := by rfl) (hd : (x == ("__debug__" : Str)) = false := by decide) :
    wpAny (model prog w) (A₀.deeper (envOfC name scope L a cd)) (noteFrame (.ref e) (envOfC name scope L a cd))
      (fun _ s₂ => wpAny (model prog w) (A₀.deeper (envOfC name scope L a cd)) (setFlight (.ref e) none) (fun _ s₃ =>
        wpAny (model prog w) (A₀.deeper (envOfC name scope L a cd)) (handleBy (.ref e) (envOfC name scope L a cd) (.ExceptHandler (some (.Name x np)) none (b₀ :: suite) pos :: rest)) Q E s₃) E s₂) E s' := by
  obtain ⟨B', a0, hB, hl, hfl⟩ := R
  have hL : B'.get? L = none := by
    obtain ⟨_, ⟨L', _, hf, hn', _⟩, _⟩ := hfl.2.2.1
    obtain rfl : L = L' := Option.some.inj hf
    exact hn'
  refine wpAny_looks_onW (Around.frames_deeper B.stack) rfl hfl fun h₄ hh₄ sm₄ => ?_
  refine wpAny_landsW hh₄ fun h₅ hh₅ sm₅ => ?_
  have sm : h.UpToSlots h₅ := hsm.trans (sm₄.trans sm₅)
  have hb₅ := flyingW_base hB hh₅
  have F₅ : Fr h₀ L h₅ m := F.of_stays hb₅.1 sm
  obtain ⟨ob, hob, hoc⟩ := hb₅.there
  refine wpAny_handleBy_builtin (X := X) (T := T') (b := true) hexc hnt hsub (nameX_B F₅ KX T e₁ hv hn ⟨rfl, ⟨ob, hob, hoc⟩, ?_⟩ hk hx hd)
  refine lands_againW hh₅ fun h₆ hf₆ sm₆ => ?_
  exact wpAny_passesOwnAt hE (k h₆ (F₅.of_stays (flyingW_base hB hf₆).1 sm₆) fun q hq => ⟨hf₆.1 _ _ (hl q hq).1, (fun z => by have := (hl q hq).1; rw [z, hL] at this; cases this), (hl q hq).2⟩)
end
end Mine
end
section
/-! Hd -/
open PySem PySem.W PyProof.Rows
namespace Mine
open_top hd for PySem.Challenge.rw_vq0011_01
end Mine
end
section
/-! Seg -/
open PySem PySem.W PyProof.Rows
namespace Mine
/-! the law's text, read out of the row -/
def bodyOf : Stmt → List Stmt
  | .FunctionDef _ _ b _ _ _ _ _ _ _ => b
  | .For _ _ b _ _ => b
  | _ => []
def scopeOf : Stmt → Scope
  | .FunctionDef _ _ _ _ _ _ s _ _ _ => s
  | _ => default
def lawStmt : Stmt := match PySem.Challenge.pw_vq0011_01.main.body with
  | [_, _, _, _, _, d] => d
  | _ => .Pass ⟨0,0,0,0⟩
def lawBody : List Stmt := bodyOf lawStmt
def lawScope : Scope := scopeOf lawStmt
def loopBody : List Stmt := match lawBody with
  | [_, _, _, _, f, _, _] => bodyOf f
  | _ => []
def tailBody : List Stmt := match lawBody with
  | [_, _, _, _, _, f, r] => [f, r]
  | _ => []
def segA : List Stmt := match loopBody with
  | a0 :: a1 :: a2 :: a3 :: a4 :: _ => [a0, a1, a2, a3, a4]
  | _ => []
def segB : List Stmt := match loopBody with
  | _ :: _ :: _ :: _ :: _ :: a5 :: _ => [a5]
  | _ => []
def segC : List Stmt := match loopBody with
  | _ :: _ :: _ :: _ :: _ :: _ :: a6 :: a7 :: a8 :: _ => [a6, a7, a8]
  | _ => []
def segD : List Stmt := match loopBody with
  | _ :: _ :: _ :: _ :: _ :: _ :: _ :: _ :: _ :: r => r
  | _ => []
theorem loop_cut : loopBody = segA ++ (segB ++ (segC ++ segD)) := rfl
abbrev lawEnv (L fa : Addr) (ccd : Value) : Env := envOfC (Str.ofString "law") lawScope L fa ccd
abbrev lawA (L fa : Addr) (ccd : Value) : Around := callerA.deeper (lawEnv L fa ccd)

theorem execs_eq (env : Env) : ∀ l₁ l₂ : List Stmt, execs (l₁ ++ l₂) env = (execs l₁ env >>= fun f => match f with | .next => execs l₂ env | f => pure f)
  | [], l₂ => by rw [List.nil_append, execs_nil, pure_bind]
  | st :: r, l₂ => by
    rw [List.cons_append, execs_cons, execs_cons, bind_assoc]
    congr 1
    funext f
    cases f with
    | next => exact execs_eq env r l₂
    | _ => rfl
theorem execs_app {M : Model} {A : Around} {env : Env} {E : Value → Shared → Prop} {l₁ l₂ : List Stmt} {Q : Flow → Shared → Prop} {s : Shared}
    (h : wpAny M A (execs l₁ env) (fun f s' => match f with | .next => wpAny M A (execs l₂ env) Q E s' | f => Q f s') E s) : wpAny M A (execs (l₁ ++ l₂) env) Q E s := by
  rw [execs_eq]
  refine wpAny_bind (wpAny_mono h (fun f s' h' => ?_) fun _ _ x => x)
  cases f with
  | next => exact h'
  | _ => exact wpAny_pure h'

theorem fr_is {h₀ h : Heap} {L : Addr} {m : Str → Option Value} {n : Str} {v : Value} (F : Fr h₀ L h m) (e : m n = some v) : Fr h₀ L h (fun y => if y = n then some v else m y) := by
  have : (fun y => if y = n then some v else m y) = m := by
    funext y
    by_cases h : y = n
    · rw [if_pos h, h, e]
    · rw [if_neg h]
  rw [this]; exact F

theorem fr_are {h₀ h : Heap} {L : Addr} {m : Str → Option Value} (ps : List (Str × Value)) (F : Fr h₀ L h m) (e : ∀ p ∈ ps, m p.1 = some p.2) : Fr h₀ L h (kstB m ps) := by
  have : kstB m ps = m := by
    funext y
    exact kstB_eq e fun _ => rfl
  rw [this]; exact F

theorem fr_un {h₀ h : Heap} {L : Addr} {m : Str → Option Value} (ps : List (Str × Value)) (F : Fr h₀ L h (kstB m ps)) (e : ∀ p ∈ ps, m p.1 = some p.2) : Fr h₀ L h m := by
  have : kstB m ps = m := by
    funext y
    exact kstB_eq e fun _ => rfl
  rw [← this]; exact F

/-! what stands between the pieces -/
def has (m : Str → Option Value) (n : Str) (k : Int) : Prop := ∃ t, m n = some (.int k t)
structure Loc0 (m : Str → Option Value) (a b D g : Int) : Prop where
  aa : has m "a" a
  bb : has m "b" b
  dd : has m "digits" D
  hh : has m "half" (hf D)
  gg : has m "greatest" g
structure Loc (m : Str → Option Value) (a b D g x st : Int) : Prop extends Loc0 m a b D g where
  xx : has m "x" x
  ss : has m "step" st
  whole : has m "whole" (g + 1 + st)
  told : has m "told" ((g + 1 + st) % wd D)
def celI (o : Obj) (k : Int) : Prop := ∃ t, o.data = .cell (some (.int k t))
def celA (o : Obj) : Prop := ∃ v, o.data = .cell v
abbrev led (L : Addr) (oa oe ow : Obj) (own : List (Addr × Obj)) : List (Addr × Obj) := (L + 1 + 1 + 1, oa) :: (L + 1 + 1, oe) :: (L + 1, ow) :: own
abbrev off (L : Addr) (own : List (Addr × Obj)) : Prop := OwnOff own [L + 1 + 1 + 1, L + 1 + 1, L + 1]
structure Ok (D g st : Int) : Prop where
  d : Dg D
  e0 : 0 ≤ g + 1
  e1 : g + 1 < 4611686018427387904
  s0 : -hf D < st
  s1 : st ≤ hf D
  w0 : 0 ≤ g + 1 + st
  w1 : g + 1 + st < 4611686018427387904
/-- between the turns -/
def Inv (h₀ : Heap) (L : Addr) (own : List (Addr × Obj)) (a b D g : Int) (h : Heap) : Prop :=
  ∃ m oa oe ow, Fr h₀ L h m ∧ Loc0 m a b D g ∧ News h₀ L h (led L oa oe ow own) ∧ celI ow (wd D) ∧ celA oe ∧ celA oa
/-- within a turn, behind its first piece -/
def Mid (h₀ : Heap) (L : Addr) (own : List (Addr × Obj)) (a b D g x st : Int) (h : Heap) : Prop :=
  ∃ m oa oe ow, Fr h₀ L h m ∧ Loc m a b D g x st ∧ News h₀ L h (led L oa oe ow own) ∧ celI ow (wd D) ∧ celI oe (g + 1) ∧ celA oa
theorem fr_un1 {h₀ h : Heap} {L : Addr} {m : Str → Option Value} {n : Str} {v : Option Value} (ps : List (Str × Value)) (F : Fr h₀ L h (fun z => if z = n then v else kstB m ps z)) (e : ∀ p ∈ ps, m p.1 = some p.2) : Fr h₀ L h (fun z => if z = n then v else m z) := by
  have : kstB m ps = m := by
    funext y
    exact kstB_eq e fun _ => rfl
  rw [this] at F; exact F
theorem has.set {m : Str → Option Value} {n x : Str} {k : Int} {v : Option Value} (h : has m n k) (hn : n ≠ x) : has (fun z => if z = x then v else m z) n k := by
  obtain ⟨t, e⟩ := h
  exact ⟨t, by show (if n = x then v else m n) = _; rw [if_neg hn]; exact e⟩
theorem Loc0.set {m : Str → Option Value} {a b D g : Int} {x : Str} {v : Option Value} (h : Loc0 m a b D g) (hn : ∀ n ∈ [Str.ofString "a", "b", "digits", "half", "greatest"], n ≠ x) : Loc0 (fun z => if z = x then v else m z) a b D g := by
  simp only [List.forall_mem_cons, List.not_mem_nil, false_implies, implies_true, and_true] at hn
  exact ⟨h.aa.set hn.1, h.bb.set hn.2.1, h.dd.set hn.2.2.1, h.hh.set hn.2.2.2.1, h.gg.set hn.2.2.2.2⟩
theorem Loc.set {m : Str → Option Value} {a b D g y st : Int} {x : Str} {v : Option Value} (h : Loc m a b D g y st) (hn : ∀ n ∈ [Str.ofString "a", "b", "digits", "half", "greatest"], n ≠ x) (hm : ∀ n ∈ [Str.ofString "x", "step", "whole", "told"], n ≠ x) : Loc (fun z => if z = x then v else m z) a b D g y st := by
  refine ⟨h.toLoc0.set hn, ?_, ?_, ?_, ?_⟩
  all_goals simp only [List.forall_mem_cons, List.not_mem_nil, false_implies, implies_true, and_true] at hm
  · exact h.xx.set hm.1
  · exact h.ss.set hm.2.1
  · exact h.whole.set hm.2.2.1
  · exact h.told.set hm.2.2.2
end Mine
end
section
/-! Loop -/
open PySem PySem.W PyProof.Rows
namespace Mine
def Turn (h₀ : Heap) (L : Addr) (own : List (Addr × Obj)) (a b D : Int) (s : Shared) (Q : Flow → Shared → Prop) (f : Flow) (s₂ : Shared) : Prop :=
  match f with
  | .ret v => Q (.ret v) s₂
  | .brk => Q .next s₂
  | _ => f = .next ∧ ∃ h' tk' g', s₂ = { s with heap := h', toks := tk' } ∧ -1 ≤ g' ∧ g' < 4611686018427387904 ∧ Inv h₀ L own a b D g' h'
theorem news_cut {h₀ h : Heap} {L : Addr} {n₁ n₂ : List (Addr × Obj)} (N : News h₀ L h n₁) (hs : ∀ p ∈ n₂, p ∈ n₁) : News h₀ L h n₂ := fun p hp => N p (hs p hp)
theorem Inv.cut {h₀ h : Heap} {L : Addr} {o₁ o₂ : List (Addr × Obj)} {a b D g : Int} (hm : Inv h₀ L o₁ a b D g h) (hs : ∀ p ∈ o₂, p ∈ o₁) : Inv h₀ L o₂ a b D g h := by
  obtain ⟨m, oa, oe, ow, F, Lc, N, r⟩ := hm
  refine ⟨m, oa, oe, ow, F, Lc, news_cut N fun p hp => ?_, r⟩
  simp only [led, List.mem_cons] at hp ⊢
  exact hp.imp_right fun q => q.imp_right fun q => q.imp_right (hs p)
section
variable {prog : Program} {w : World} {A : Around} {E : Value → Shared → Prop} {s : Shared} {env : Env} {h₀ : Heap} {x : Str} {body : List Stmt} {Q : Flow → Shared → Prop}
theorem loop_ok {l : Addr} {vs : List Value} {ns : List Int} {nn : Nat} {m₀ : Str → Option Value} {a b D g₀ : Int} {oa oe ow : Obj}
    (hh : A.handled = none) (hi : IntsAre vs ns) (F : Fr h₀ env.locals s.heap m₀)
    (N : News h₀ env.locals s.heap (led env.locals oa oe ow [(l, listOf vs.toArray nn)]))
    (hw : celI ow (wd D)) (he : celA oe) (ha : celA oa) (hL : Loc0 m₀ a b D g₀) (hg0 : -1 ≤ g₀) (hg1 : g₀ < 4611686018427387904)
    (hl3 : env.locals + 1 + 1 + 1 < l)
    (turn : ∀ n t I oI m oa oe ow g h tk, l < I → -1 ≤ g → g < 4611686018427387904 → Loc0 m a b D g → celI ow (wd D) → celA oe → celA oa →
      Fr h₀ env.locals h (fun y => if y = x then some (.int n t) else m y) → News h₀ env.locals h (led env.locals oa oe ow [(I, oI), (l, listOf vs.toArray nn)]) →
      wpAny (model prog w) A (execs body env) (Turn h₀ env.locals [(I, oI), (l, listOf vs.toArray nn)] a b D s Q) E { s with heap := h, toks := tk })
    (done : ∀ g h tk, Inv h₀ env.locals [(l, listOf vs.toArray nn)] a b D g h → Q .next { s with heap := h, toks := tk }) :
    wpAny (model prog w) A (pyIter (.ref l)) (fun it s₂ => LoopAtV prog w A h₀ env x body Q E it s₂) E s := by
  have hlm : (l, listOf vs.toArray nn) ∈ led env.locals oa oe ow [(l, listOf vs.toArray nn)] := by simp [led]
  have hol : s.heap.get? l = some (listOf vs.toArray nn) := (N _ hlm).1
  have hls : s.heap.IsList l vs.toArray := ⟨_, hol, rfl, nn, rfl⟩
  have hlt : l < s.heap.objs.size := Heap.lt_size hol
  have hne : l ≠ s.heap.objs.size := Nat.ne_of_lt hlt
  have hLl : env.locals ≠ l := Nat.ne_of_lt (Nat.lt_trans (Nat.lt_add_of_pos_right (k := 3) (by decide)) hl3)
  have hnew : h₀.get? s.heap.objs.size = none := next_is_new F
  refine wpAny_pyIter_list hls ?_
  have W := Walks.list (prog := prog) (w := w) hh s.heap.objs.size l hne vs.toArray
  have off : ∀ {oa oe ow : Obj}, ∀ p ∈ led env.locals oa oe ow [(l, listOf vs.toArray nn)], p.1 ∉ [s.heap.objs.size] := by
    intro oa oe ow p hp hI
    have e := List.mem_singleton.mp hI
    simp only [led, List.mem_cons, List.not_mem_nil, or_false] at hp
    have h3 : env.locals + 1 + 1 + 1 < s.heap.objs.size := Nat.lt_trans hl3 hlt
    rcases hp with rfl | rfl | rfl | rfl
    · exact absurd h3 (by rw [← e]; exact Nat.lt_irrefl _)
    · exact absurd h3 (by rw [← e]; exact Nat.not_lt.mpr (Nat.le_succ _))
    · exact absurd h3 (by rw [← e]; exact Nat.not_lt.mpr (Nat.le_add_right _ 2))
    · exact absurd hlt (by rw [← e]; exact Nat.lt_irrefl _)
  refine ⟨_, _, _, _, _, _, m₀, _, (fun _ m nx => ∃ g oa oe ow, -1 ≤ g ∧ g < 4611686018427387904 ∧ Loc0 m a b D g ∧ nx = led env.locals oa oe ow [(l, listOf vs.toArray nn)] ∧ celI ow (wd D) ∧ celA oe ∧ celA oa), rfl, W, ?_, ?_, off, ⟨⟨_, Heap.get?_push_size _ rfl, rfl, rfl⟩, hls.at fun o e => Heap.get?_push_of_some _ e⟩, F.push _, (fun p hp => ⟨Heap.get?_push_of_some _ (N p hp).1, (N p hp).2⟩), ⟨g₀, oa, oe, ow, hg0, hg1, hL, rfl, hw, he, ha⟩, ?_, ?_⟩
  · intro hm
    rcases List.mem_cons.mp hm with e | hm
    · exact absurd F.ns.lt (e ▸ Nat.lt_irrefl _)
    · exact hLl (List.mem_singleton.mp hm)
  · intro b hb
    rw [List.mem_singleton.mp hb]
    exact hnew
  · rintro i v m₁ news₁ s₁ own ⟨h1, tk1, rfl⟩ hin hP ⟨g, oa, oe, ow, hg0, hg1, hL, rfl, hw, he, ha⟩ _ hown hget hfp hst F₁ N₁
    obtain ⟨⟨oI, hoI, _⟩, _⟩ := hst
    have hv : ∃ n t, v = .int n t := by
      have hP' : vs[i]? = some v := by simpa using hP
      have hlt' : i < ns.length := by
        have := hi.length
        have := (List.getElem?_eq_some_iff.mp hP').1
        omega
      obtain ⟨t, hx⟩ := hi.get i ns[i] (by simp [hlt'])
      rw [hx] at hP'
      exact ⟨_, t, (Option.some.inj hP').symm⟩
    obtain ⟨n, t, rfl⟩ := hv
    have hIo : (s.heap.objs.size, oI) ∈ own := hfp _ (List.mem_cons_self ..) hnew oI hoI
    have N₂ : News h₀ env.locals h1 (led env.locals oa oe ow [(s.heap.objs.size, oI), (l, listOf vs.toArray nn)]) := fun p hp => by
      simp only [led, List.mem_cons, List.not_mem_nil, or_false] at hp
      refine N₁ p (List.mem_append.mpr ?_)
      simp only [led, List.mem_cons, List.not_mem_nil, or_false]
      rcases hp with h | h | h | h | h
      · exact .inr (.inl h)
      · exact .inr (.inr (.inl h))
      · exact .inr (.inr (.inr (.inl h)))
      · exact .inl (h ▸ hIo)
      · exact .inr (.inr (.inr (.inr h)))
    have hlo : h1.get? l = some (listOf vs.toArray nn) := (N₂ (l, listOf vs.toArray nn) (by simp [led])).1
    refine wpAny_mono (turn n t s.heap.objs.size oI m₁ oa oe ow g h1 tk1 hlt hg0 hg1 hL hw he ha F₁ N₂) (fun f s₂ p => ?_) fun _ _ e => e
    have fin : (∃ h' tk' g', s₂ = { s with heap := h', toks := tk' } ∧ -1 ≤ g' ∧ g' < 4611686018427387904 ∧ Inv h₀ env.locals [(s.heap.objs.size, oI), (l, listOf vs.toArray nn)] a b D g' h') →
        LoopStepU h₀ env.locals [s.heap.objs.size] own (fun m nx => ∃ g oa oe ow, -1 ≤ g ∧ g < 4611686018427387904 ∧ Loc0 m a b D g ∧ nx = led env.locals oa oe ow [(l, listOf vs.toArray nn)] ∧ celI ow (wd D) ∧ celA oe ∧ celA oa) { s with heap := h1, toks := tk1 } .next s₂ := by
      rintro ⟨h', tk', g', rfl, hg, hg', m', oa', oe', ow', F', L', N', cw, ce, ca⟩
      refine ⟨rfl, h', tk', m', led env.locals oa' oe' ow' [(l, listOf vs.toArray nn)], rfl, F', fun p hp => ?_, off, g', oa', oe', ow', hg, hg', L', rfl, cw, ce, ca⟩
      rcases List.mem_append.mp hp with h | h
      · have h2 : h1.get? p.1 = some p.2 := hget p h
        rcases List.mem_cons.mp (hown p h) with e | e
        · rw [e, hoI] at h2
          have h3 : p = (s.heap.objs.size, oI) := Prod.ext e (Option.some.inj h2).symm
          exact N' p (by rw [h3]; simp [led])
        · have e := List.mem_singleton.mp e
          rw [e, hlo] at h2
          have h3 : p = (l, listOf vs.toArray nn) := Prod.ext e (Option.some.inj h2).symm
          exact N' p (by rw [h3]; simp [led])
      · refine N' p ?_
        simp only [led, List.mem_cons, List.not_mem_nil, or_false] at h ⊢
        rcases h with h | h | h | h
        · exact .inl h
        · exact .inr (.inl h)
        · exact .inr (.inr (.inl h))
        · exact .inr (.inr (.inr (.inr h)))
    cases f with
    | ret v => exact .ret p
    | brk => exact .brk p
    | next => exact .next (fin p.2)
    | cont => exact absurd p.1 (by intro q; cases q)
  · rintro h' tk m' news' F' N' _ ⟨g, oa, oe, ow, hg0, hg1, hL, rfl, hw, he, ha⟩
    exact done g h' tk ⟨m', oa, oe, ow, F', hL, N', hw, he, ha⟩
end
end Mine
end
section
/-! SA -/
open PySem PySem.W PyProof.Rows
namespace Mine
local macro_rules | `(tactic| walk_at "ite") => `(tactic| (k_here; k_openite; first | (refine ite_pos (by with_reducible assumption) ?_) | (refine ite_neg (by with_reducible assumption) ?_) | (refine ite_isFalse (by with_reducible assumption) ?_) | (k_spoken; first | (refine ite_pos (by k_dec) ?_) | (refine ite_neg (by k_dec) ?_)) | (refine Mine.ite_split ?_ ?_ <;> (intro hc; try simp only [Bool.not_eq_true, Bool.not_eq_false, Bool.not_eq_true', Bool.not_eq_false', decide_eq_true_eq, decide_eq_false_iff_not] at hc))))
local macro_rules | `(tactic| walk_at "execs cons") => `(tactic| (k_here; (try dsimp only); (try ((with_reducible refine Mine.gen_toks ?_); intro tk)); refine wpAny_execs_cons ?_))
local macro_rules | `(tactic| walk_at "subscriptTail BinOp") => `(tactic| (k_here; refine Mine.turn_any ?_))
local macro_rules | `(tactic| walk_at "subscriptTail List cons BinOp ref int") => `(tactic| (k_here; (with_unfolding_all refine' Mine.menu_any ?k1 ?k2 ?k3 ?k4 ?_); (case k1 => is_list); (case k2 => (try k_fmods); omega); (case k3 => (try k_fmods); omega); (case k4 => with_unfolding_all rfl); intro D t hD))
local macro_rules | `(tactic| walk_at "binaryOp Pow int int") => `(tactic| (k_here; first | (with_reducible refine Mine.pow_62 ?_) | ((with_reducible refine' Mine.pow_wd ?kx ?_); (case kx => with_reducible assumption)) | ((with_reducible refine' Mine.pow_hf ?kx ?_); (case kx => with_reducible assumption))))
local macro_rules | `(tactic| walk_at "binaryOp LShift int int") => `(tactic| (k_here; first | ((with_reducible refine' Mine.shl_wd ?kx ?_); (case kx => with_reducible assumption))))
local macro_rules | `(tactic| walk_at "binaryOp Mod int int") => `(tactic| (k_here; first | ((with_reducible refine' Mine.mod_wd_m ?kx ?_); (case kx => with_reducible assumption)) | ((with_reducible refine' Mine.mod_wd_as ?kx ?_); (case kx => with_reducible assumption)) | ((with_reducible refine' Mine.mod_wd_a ?kx ?_); (case kx => with_reducible assumption)) | ((with_reducible refine' Mine.mod_wd_s ?kx ?_); (case kx => with_reducible assumption)) | ((with_reducible refine' Mine.mod_wd ?kx ?_); (case kx => with_reducible assumption)) | ((with_reducible refine' Mine.mod_hf ?kx ?_); (case kx => with_reducible assumption))))
local macro_rules | `(tactic| walk_at "binaryOp FloorDiv int int") => `(tactic| (k_here; first | ((with_reducible refine' Mine.half_wd ?kx ?_); (case kx => with_reducible assumption)) | ((with_reducible refine' Mine.div_wd ?kx ?_); (case kx => with_reducible assumption))))
local macro_rules | `(tactic| walk_at "binaryOp BitAnd int int") => `(tactic| (k_here; first | ((with_reducible refine' Mine.andn_wd ?kx ?_); (case kx => with_reducible assumption))))
local macro_rules | `(tactic| walk_at "binaryOp BitOr int int") => `(tactic| (k_here; first | ((with_reducible refine' Mine.or_wd ?kx ?_); (case kx => with_reducible assumption))))
theorem segA_ok {w : World} {h₀ : Heap} {mg mb : Str → Option Value} {mean : ExcName → Option Value} {fa : Addr} {ccd : Value}
    (T : Top Mine.hd.view_39 (looseW Mine.hd.view_39 []) mean mg mb h₀) (KX : (Mine.hd.heap_39 w.params).In h₀) (K0 : Below callerA h₀ [] h₀) (hMk : KstMark)
    {s : Shared} {m : Str → Option Value} {x g D a b : Int} {ow oe oa : Obj} {own : List (Addr × Obj)} (hD : Dg D)
    (hg0 : -1 ≤ g) (hg1 : g < 4611686018427387904) (hw : celI ow (wd D)) (he : celA oe) (ha : celA oa)
    (F : Fr h₀ h₀.objs.size s.heap m) (hx : has m "x" x) (hl : Loc0 m a b D g)
    (hOff : off h₀.objs.size own) (N : News h₀ h₀.objs.size s.heap (led h₀.objs.size oa oe ow own))
    {Q : Flow → Shared → Prop} {E : Value → Shared → Prop}
    (hB : ∀ h' tk', Inv h₀ h₀.objs.size own a b D g h' → Q .brk { s with heap := h', toks := tk' })
    (hN : ∀ st h' tk', Ok D g st → Mid h₀ h₀.objs.size own a b D g x st h' → Q .next { s with heap := h', toks := tk' }) :
    wpAny (model PySem.Challenge.rw_vq0011_01.row.prog w) (lawA h₀.objs.size fa ccd) (execs (segA) (lawEnv h₀.objs.size fa ccd)) Q E s := by
  k_fill
  w_on
  obtain ⟨⟨ta, ea⟩, ⟨tb, eb⟩, ⟨td, ed⟩, ⟨th, eh⟩, ⟨tg, eg⟩⟩ := hl
  obtain ⟨tw, ew⟩ := hw
  obtain ⟨ve, ee⟩ := he
  obtain ⟨va, eva⟩ := ha
  obtain ⟨tx, ex⟩ := hx
  have F1 := fr_are [("x", .int x tx), ("a", .int a ta), ("b", .int b tb), ("digits", .int D td), ("half", .int (hf D) th), ("greatest", .int g tg)] F (by
    simp only [List.forall_mem_cons, List.not_mem_nil, false_implies, implies_true, and_true]
    exact ⟨ex, ea, eb, ed, eh, eg⟩)
  dsimp only [kstB] at F1
  clear F
  have hW := hD.w
  have hlo := hD.lo
  have hhi := hD.hi
  dsimp only [led, off] at N hOff
  dsimp only [lawA, lawEnv, segA, loopBody, lawBody, bodyOf, lawStmt, lawScope, scopeOf, PySem.Challenge.pw_vq0011_01]
  have hm0 := hD.hmod0 (x.fdiv 2)
  have hm1 := hD.hmod1 (x.fdiv 2)
  repeat' (first | walk1 | (dsimp only; walk1))
  all_goals (try dsimp only)
  all_goals first
    | (refine' hB _ _ ⟨_, _, _, _, ?f, ?l, ?n, ⟨_, ew⟩, ⟨_, ?c⟩, ⟨_, eva⟩⟩
       case f => with_reducible assumption
       case n => with_reducible assumption
       case c => with_reducible assumption
       case l => exact ⟨⟨_, by with_unfolding_all rfl⟩, ⟨_, by with_unfolding_all rfl⟩, ⟨_, by with_unfolding_all rfl⟩, ⟨_, by with_unfolding_all rfl⟩, ⟨_, by with_unfolding_all rfl⟩⟩)
    | (rename News _ _ _ _ => nE
       refine' hN _ _ _ ?ok ⟨_, _, _, _, ?f, ?l, kst_newsOf nE (l' := led _ _ _ _ _) (fun p hp => .tail _ hp), ⟨_, ew⟩, ⟨_, ?c⟩, ⟨_, eva⟩⟩
       case f => with_reducible assumption
       case c => with_reducible assumption
       case l => exact ⟨⟨⟨_, by with_unfolding_all rfl⟩, ⟨_, by with_unfolding_all rfl⟩, ⟨_, by with_unfolding_all rfl⟩, ⟨_, by with_unfolding_all rfl⟩, ⟨_, by with_unfolding_all rfl⟩⟩, ⟨_, by with_unfolding_all rfl⟩, ⟨_, by with_unfolding_all rfl⟩, ⟨_, by with_unfolding_all rfl⟩, ⟨_, by with_unfolding_all rfl⟩⟩
       case ok => exact ⟨hD, by omega, by omega, by omega, by omega, by omega, by omega⟩)
end Mine
end
section
/-! SB -/
open PySem PySem.W PyProof.Rows
namespace Mine
local macro_rules | `(tactic| walk_at "ite") => `(tactic| (k_here; k_openite; first | (refine ite_pos (by with_reducible assumption) ?_) | (refine ite_neg (by with_reducible assumption) ?_) | (refine ite_isFalse (by with_reducible assumption) ?_) | (k_spoken; first | (refine ite_pos (by k_dec) ?_) | (refine ite_neg (by k_dec) ?_)) | (refine Mine.ite_split ?_ ?_ <;> (intro hc; try simp only [Bool.not_eq_true, Bool.not_eq_false, Bool.not_eq_true', Bool.not_eq_false', decide_eq_true_eq, decide_eq_false_iff_not] at hc))))
local macro_rules | `(tactic| walk_at "execs cons") => `(tactic| (k_here; (try dsimp only); (try ((with_reducible refine Mine.gen_toks ?_); intro tk)); refine wpAny_execs_cons ?_))
local macro_rules | `(tactic| walk_at "subscriptTail BinOp") => `(tactic| (k_here; refine Mine.turn_any ?_))
local macro_rules | `(tactic| walk_at "subscriptTail List cons BinOp ref int") => `(tactic| (k_here; (with_unfolding_all refine' Mine.menu_any ?k1 ?k2 ?k3 ?k4 ?_); (case k1 => is_list); (case k2 => (try k_fmods); omega); (case k3 => (try k_fmods); omega); (case k4 => with_unfolding_all rfl); intro D t hD))
local macro_rules | `(tactic| walk_at "binaryOp Pow int int") => `(tactic| (k_here; first | (with_reducible refine Mine.pow_62 ?_) | ((with_reducible refine' Mine.pow_wd ?kx ?_); (case kx => first | with_reducible assumption | exact Mine.Dig.d (by with_reducible assumption))) | ((with_reducible refine' Mine.pow_hf ?kx ?_); (case kx => first | with_reducible assumption | exact Mine.Dig.d (by with_reducible assumption)))))
local macro_rules | `(tactic| walk_at "compareOp NotEq int int") => `(tactic| (k_here; (with_reducible refine' Mine.ne_same ?kx ?_); (case kx => first | with_reducible rfl | with_reducible assumption)))
local macro_rules | `(tactic| walk_at "binaryOp LShift int int") => `(tactic| (k_here; first | (with_reducible refine Mine.shl_62 ?_) | ((with_reducible refine' Mine.shl_wd ?kx ?_); (case kx => first | with_reducible assumption | exact Mine.Dig.d (by with_reducible assumption)))))
local macro_rules | `(tactic| walk_at "binaryOp Mod int int") => `(tactic| (k_here; first | ((with_reducible refine' Mine.mod_wd_m ?kx ?_); (case kx => first | with_reducible assumption | exact Mine.Dig.d (by with_reducible assumption))) | ((with_reducible refine' Mine.mod_wd_as ?kx ?_); (case kx => first | with_reducible assumption | exact Mine.Dig.d (by with_reducible assumption))) | ((with_reducible refine' Mine.mod_wd_a ?kx ?_); (case kx => first | with_reducible assumption | exact Mine.Dig.d (by with_reducible assumption))) | ((with_reducible refine' Mine.mod_wd_s ?kx ?_); (case kx => first | with_reducible assumption | exact Mine.Dig.d (by with_reducible assumption))) | ((with_reducible refine' Mine.mod_wd ?kx ?_); (case kx => first | with_reducible assumption | exact Mine.Dig.d (by with_reducible assumption))) | ((with_reducible refine' Mine.mod_hf ?kx ?_); (case kx => first | with_reducible assumption | exact Mine.Dig.d (by with_reducible assumption)))))
local macro_rules | `(tactic| walk_at "binaryOp FloorDiv int int") => `(tactic| (k_here; first | ((with_reducible refine' Mine.half_wd ?kx ?_); (case kx => first | with_reducible assumption | exact Mine.Dig.d (by with_reducible assumption))) | ((with_reducible refine' Mine.div_wd ?kx ?_); (case kx => first | with_reducible assumption | exact Mine.Dig.d (by with_reducible assumption)))))
local macro_rules | `(tactic| walk_at "binaryOp BitAnd int int") => `(tactic| (k_here; first | ((with_reducible refine' Mine.andn_wd ?kx ?_); (case kx => first | with_reducible assumption | exact Mine.Dig.d (by with_reducible assumption)))))
local macro_rules | `(tactic| walk_at "binaryOp BitOr int int") => `(tactic| (k_here; first | ((with_reducible refine' Mine.or_wd ?kx ?_); (case kx => first | with_reducible assumption | exact Mine.Dig.d (by with_reducible assumption)))))
theorem segB_ok {w : World} {h₀ : Heap} {mg mb : Str → Option Value} {mean : ExcName → Option Value} {fa : Addr} {ccd : Value}
    (T : Top Mine.hd.view_39 (looseW Mine.hd.view_39 []) mean mg mb h₀) (KX : (Mine.hd.heap_39 w.params).In h₀) (K0 : Below callerA h₀ [] h₀) (hMk : KstMark)
    {s : Shared} {a b D g x st : Int} {own : List (Addr × Obj)} (hok : Ok D g st)
    (hm : Mid h₀ h₀.objs.size own a b D g x st s.heap) (hOff : off h₀.objs.size own)
    {Q : Flow → Shared → Prop} {E : Value → Shared → Prop}
    (hN : ∀ h' tk', Mid h₀ h₀.objs.size own a b D g x st h' → Q .next { s with heap := h', toks := tk' }) :
    wpAny (model PySem.Challenge.rw_vq0011_01.row.prog w) (lawA h₀.objs.size fa ccd) (execs segB (lawEnv h₀.objs.size fa ccd)) Q E s := by
  revert KX; k_fill; intro KX
  w_on
  obtain ⟨m, oa, oe, ow, F, ⟨⟨⟨ta, ea⟩, ⟨tb, eb⟩, ⟨td, ed⟩, ⟨th, eh⟩, ⟨tg, eg⟩⟩, ⟨tx, ex⟩, ⟨ts, es⟩, ⟨tq, eq⟩, ⟨tt, et⟩⟩, N, ⟨tw, ew⟩, ⟨te, ee⟩, ⟨va, eva⟩⟩ := hm
  have hps : ∀ p ∈ [((Str.ofString "whole" : Str), Value.int (g + 1 + st) tq), ("told", .int ((g + 1 + st) % wd D) tt), ("digits", .int D td)], m p.1 = some p.2 := by
    simp only [List.forall_mem_cons, List.not_mem_nil, false_implies, implies_true, and_true]
    exact ⟨eq, et, ed⟩
  have F1 := fr_are [("whole", .int (g + 1 + st) tq), ("told", .int ((g + 1 + st) % wd D) tt), ("digits", .int D td)] F hps
  dsimp only [kstB] at F1
  clear F
  have hD := hok.d
  have hdig : Dig ((g + 1 + st) % wd D) D (g + 1) := ⟨hD, hD.mod0 _, hD.mod1 _, hok.e0⟩
  have hdec := dec_told hD hok.s0 hok.s1 hok.w0 hok.w1
  dsimp only [led, off] at N hOff
  dsimp only [lawA, lawEnv, segB, loopBody, lawBody, bodyOf, lawStmt, lawScope, scopeOf, PySem.Challenge.pw_vq0011_01]
  k_with "tree" => (unfold Mine.dec; split <;> (try split) <;> omega)

  iterate 14 walk1
  k_call_by "decode_packet_number" Mine.dec Mine.Dig
  repeat' (first | walk1 | (dsimp only; walk1))
  all_goals (try dsimp only)
  rename News _ _ _ _ => nE
  refine' hN _ _ ⟨_, _, _, _, ?f, ⟨⟨⟨ta, ea⟩, ⟨tb, eb⟩, ⟨td, ed⟩, ⟨th, eh⟩, ⟨tg, eg⟩⟩, ⟨tx, ex⟩, ⟨ts, es⟩, ⟨tq, eq⟩, ⟨tt, et⟩⟩, nE, ⟨tw, ew⟩, ⟨te, ee⟩, ⟨va, eva⟩⟩
  case f =>
    rename Fr _ _ _ _ => fE
    exact fr_un [("whole", .int (g + 1 + st) tq), ("told", .int ((g + 1 + st) % wd D) tt), ("digits", .int D td)] fE hps
end Mine
end
section
/-! SC -/
open PySem PySem.W PyProof.Rows
namespace Mine
local macro_rules | `(tactic| walk_at "ite") => `(tactic| (k_here; k_openite; first | (refine ite_pos (by with_reducible assumption) ?_) | (refine ite_neg (by with_reducible assumption) ?_) | (refine ite_isFalse (by with_reducible assumption) ?_) | (k_spoken; first | (refine ite_pos (by ((try simp only [Bool.not_eq_true, Bool.not_eq_false, Bool.not_eq_true', Bool.not_eq_false', decide_eq_true_eq, decide_eq_false_iff_not]); omega)) ?_) | (refine ite_neg (by ((try simp only [Bool.not_eq_true, Bool.not_eq_false, Bool.not_eq_true', Bool.not_eq_false', decide_eq_true_eq, decide_eq_false_iff_not]); omega)) ?_)) | (refine Mine.ite_split ?_ ?_ <;> (intro hc; try simp only [Bool.not_eq_true, Bool.not_eq_false, Bool.not_eq_true', Bool.not_eq_false', decide_eq_true_eq, decide_eq_false_iff_not] at hc))))
local macro_rules | `(tactic| walk_at "execs cons") => `(tactic| (k_here; (try dsimp only); (try ((with_reducible refine Mine.gen_toks ?_); intro tk)); refine wpAny_execs_cons ?_))
local macro_rules | `(tactic| walk_at "subscriptTail BinOp") => `(tactic| (k_here; refine Mine.turn_any ?_))
local macro_rules | `(tactic| walk_at "subscriptTail List cons BinOp ref int") => `(tactic| (k_here; (with_unfolding_all refine' Mine.menu_any ?k1 ?k2 ?k3 ?k4 ?_); (case k1 => is_list); (case k2 => (try k_fmods); omega); (case k3 => (try k_fmods); omega); (case k4 => with_unfolding_all rfl); intro D t hD))
local macro_rules | `(tactic| walk_at "exec Assign cons ListComp") => `(tactic| (k_here; lct_look; k_dflt (refine LCt.Assign_ListComp_T (F₀ := by k_asm) (by rfl) (by with_unfolding_all rfl) (by with_unfolding_all rfl) (by decide) (by rfl) (by decide) (by rfl) (by rfl) (by rfl) ?_)))
local macro_rules | `(tactic| walk_at "CompSrcT") => `(tactic| (k_here; k_dflt (refine LCt.CompSrcT.range (n := 3) (by rfl) (by k_asm) (by k_asm) (by assumption) (small_one (by omega) (by omega) (by omega) (by omega)) (Mine.rs3 _) (by decide) ?_; intro g')))
local macro_rules | `(tactic| walk_at "binaryOp Mult int int") => `(tactic| (k_here; first | ((with_reducible refine' Mine.mul_m ?kx ?ke ?_); (case kx => with_reducible assumption); (case ke => omega)) | ((with_reducible refine' Mine.mul_z ?kx ?ke ?_); (case kx => with_reducible assumption); (case ke => omega)) | ((with_reducible refine' Mine.mul_p ?kx ?ke ?_); (case kx => with_reducible assumption); (case ke => omega))))
local macro_rules | `(tactic| walk_at "eval ListComp Tuple cons") => `(tactic| (k_here; k_dflt (refine LCg.ListComp_U (F₀ := by k_asm) (by with_unfolding_all rfl) (by decide) (by rfl) (by decide) (by rfl) ?_)))
local macro_rules | `(tactic| walk_at "CompSrc") => `(tactic| (k_here; k_dflt (refine LCg.CompSrc.ledger (by rfl) (by k_asm) (by k_asm) (by k_mem) (by first | size_fits | exact Nat.le_of_ble_eq_true rfl) ?_; intro g'; lcg_lit)))
local macro_rules | `(tactic| walk_at "call ref cons nil") => `(tactic| (k_here; k_call_by "decode_packet_number" Mine.dec Mine.Dig))
local macro_rules | `(tactic| walk_at "CompEnd") => `(tactic| (k_here; k_dflt (first | (refine' Mine.comp_same ?kf ?kn ?ko ?ks ?_; (case kf => k_asm); (case kn => with_reducible assumption); (case ko => with_reducible assumption); (case ks => lcg_src)) | (refine' Mine.comp_one ?kf ?kn ?ko ?kl ?ks ?_; (case kf => k_asm); (case kn => with_reducible assumption); (case ko => with_reducible assumption); (case kl => with_reducible assumption); (case ks => lcg_src)))))
local macro_rules | `(tactic| walk_at "CompRestT") => `(tactic| (with_unfolding_all first | (refine LCt.CompRestT.succ ?_; intro v' I' oI' C' oC' D' m' h' tk' E' hv' hC' hx' F' N' off' _; (obtain ⟨t9', hv9'⟩ := hv'; subst hv9')) | refine LCt.CompRestT.zero ?_))
local macro_rules | `(tactic| walk_at "CompRest") => `(tactic| (with_unfolding_all first | (refine LCg.CompRest.succ ?_; intro v' I' oI' C' oC' D' m' h' tk' E' hv' hC' hx' F' N' off' _; lcg_open hv') | refine LCg.CompRest.zero ?_))
local macro_rules | `(tactic| walk_at "call builtin:min cons nil") => `(tactic| (k_here; k_dflt (first | (refine' Mine.min3 _ ?kh ?ku ?kf ?kn ?kl ?k1 ?k2 ?k3 ?k4 ?k5 ?k6 ?k7 ?_; (case kh => exact rfl); (case ku => k_units); (case kf => k_asm); (case kn => k_asm); (case kl => k_mem); (case k1 => k_mem); (case k2 => k_mem); (case k3 => k_mem); (case k4 => exact Mine.ne_m (by with_reducible assumption)); (case k5 => exact Mine.ne_mp (by with_reducible assumption)); (case k6 => exact Mine.ne_p (by with_reducible assumption)); (case k7 => exact Mine.law3 (by with_reducible assumption) (by with_reducible assumption) (by with_reducible assumption))) | (refine' Mine.min2 _ ?kh ?ku ?kf ?kn ?kl ?k1 ?k2 ?k4 ?k7 ?_; (case kh => exact rfl); (case ku => k_units); (case kf => k_asm); (case kn => k_asm); (case kl => k_mem); (case k1 => k_mem); (case k2 => k_mem); (case k4 => exact Mine.ne_m (by with_reducible assumption)); (case k7 => exact Mine.law_top (by with_reducible assumption) (by with_reducible assumption) (by with_reducible assumption))) | (refine' Mine.min2 _ ?kh ?ku ?kf ?kn ?kl ?k1 ?k2 ?k4 ?k7 ?_; (case kh => exact rfl); (case ku => k_units); (case kf => k_asm); (case kn => k_asm); (case kl => k_mem); (case k1 => k_mem); (case k2 => k_mem); (case k4 => exact Mine.ne_p (by with_reducible assumption)); (case k7 => exact Mine.law_low (by with_reducible assumption) (by with_reducible assumption)))); intro r a b t u v n d sl h' tk' F' N' hr'))
local macro_rules | `(tactic| walk_at "subscriptTail Call Name cons nil Constant ref int") => `(tactic| (k_here; k_dflt (refine' Mine.tup_third ?kn ?km ?ks ?_; (case kn => k_asm); (case km => with_reducible assumption); (case ks => with_unfolding_all rfl))))
local macro_rules | `(tactic| walk_at "binaryOp Pow int int") => `(tactic| (k_here; first | (with_reducible refine Mine.pow_62 ?_) | ((with_reducible refine' Mine.pow_wd ?kx ?_); (case kx => first | with_reducible assumption | exact Mine.Dig.d (by with_reducible assumption))) | ((with_reducible refine' Mine.pow_hf ?kx ?_); (case kx => first | with_reducible assumption | exact Mine.Dig.d (by with_reducible assumption)))))
local macro_rules | `(tactic| walk_at "compareOp NotEq int int") => `(tactic| (k_here; (with_reducible refine' Mine.ne_same ?kx ?_); (case kx => first | with_reducible rfl | with_reducible assumption)))
local macro_rules | `(tactic| walk_at "binaryOp LShift int int") => `(tactic| (k_here; first | (with_reducible refine Mine.shl_62 ?_) | ((with_reducible refine' Mine.shl_wd ?kx ?_); (case kx => first | with_reducible assumption | exact Mine.Dig.d (by with_reducible assumption)))))
local macro_rules | `(tactic| walk_at "binaryOp Mod int int") => `(tactic| (k_here; first | ((with_reducible refine' Mine.mod_wd_m ?kx ?_); (case kx => first | with_reducible assumption | exact Mine.Dig.d (by with_reducible assumption))) | ((with_reducible refine' Mine.mod_wd_as ?kx ?_); (case kx => first | with_reducible assumption | exact Mine.Dig.d (by with_reducible assumption))) | ((with_reducible refine' Mine.mod_wd_a ?kx ?_); (case kx => first | with_reducible assumption | exact Mine.Dig.d (by with_reducible assumption))) | ((with_reducible refine' Mine.mod_wd_s ?kx ?_); (case kx => first | with_reducible assumption | exact Mine.Dig.d (by with_reducible assumption))) | ((with_reducible refine' Mine.mod_wd ?kx ?_); (case kx => first | with_reducible assumption | exact Mine.Dig.d (by with_reducible assumption))) | ((with_reducible refine' Mine.mod_hf ?kx ?_); (case kx => first | with_reducible assumption | exact Mine.Dig.d (by with_reducible assumption)))))
local macro_rules | `(tactic| walk_at "binaryOp FloorDiv int int") => `(tactic| (k_here; first | ((with_reducible refine' Mine.half_wd ?kx ?_); (case kx => first | with_reducible assumption | exact Mine.Dig.d (by with_reducible assumption))) | ((with_reducible refine' Mine.div_wd ?kx ?_); (case kx => first | with_reducible assumption | exact Mine.Dig.d (by with_reducible assumption)))))
local macro_rules | `(tactic| walk_at "binaryOp BitAnd int int") => `(tactic| (k_here; first | ((with_reducible refine' Mine.andn_wd ?kx ?_); (case kx => first | with_reducible assumption | exact Mine.Dig.d (by with_reducible assumption)))))
local macro_rules | `(tactic| walk_at "binaryOp BitOr int int") => `(tactic| (k_here; first | ((with_reducible refine' Mine.or_wd ?kx ?_); (case kx => first | with_reducible assumption | exact Mine.Dig.d (by with_reducible assumption)))))
theorem segC_ok {w : World} {h₀ : Heap} {mg mb : Str → Option Value} {mean : ExcName → Option Value} {fa : Addr} {ccd : Value}
    (T : Top Mine.hd.view_39 (looseW Mine.hd.view_39 []) mean mg mb h₀) (KX : (Mine.hd.heap_39 w.params).In h₀) (K0 : Below callerA h₀ [] h₀) (hMk : KstMark)
    {s : Shared} {a b D g x st : Int} {I l : Addr} {oI ol : Obj} (hok : Ok D g st)
    (hm : Mid h₀ h₀.objs.size [(I, oI), (l, ol)] a b D g x st s.heap) (hl0 : h₀.objs.size + 1 + 1 + 1 < l) (hlI : l < I)
    {Q : Flow → Shared → Prop} {E : Value → Shared → Prop}
    (hN : ∀ h' tk', Mid h₀ h₀.objs.size [(I, oI), (l, ol)] a b D g x st h' → Q .next { s with heap := h', toks := tk' }) :
    wpAny (model PySem.Challenge.rw_vq0011_01.row.prog w) (lawA h₀.objs.size fa ccd) (execs segC (lawEnv h₀.objs.size fa ccd)) Q E s := by
  revert KX; k_fill; intro KX
  w_on
  obtain ⟨m, oa, oe, ow, F, ⟨⟨⟨ta, ea⟩, ⟨tb, eb⟩, ⟨td, ed⟩, ⟨th, eh⟩, ⟨tg, eg⟩⟩, ⟨tx, ex⟩, ⟨ts, es⟩, ⟨tq, eq⟩, ⟨tt, et⟩⟩, N, ⟨tw, ew⟩, ⟨te, ee⟩, ⟨va, eva⟩⟩ := hm
  have hps : ∀ p ∈ [((Str.ofString "x" : Str), Value.int x tx), ("a", .int a ta), ("digits", .int D td)], m p.1 = some p.2 := by
    simp only [List.forall_mem_cons, List.not_mem_nil, false_implies, implies_true, and_true]
    exact ⟨ex, ea, ed⟩
  have F1 := fr_are _ F hps
  dsimp only [kstB] at F1
  clear F
  have hD := hok.d
  have hdig : Dig ((x * 7 + a) % wd D) D (g + 1) := ⟨hD, hD.mod0 _, hD.mod1 _, hok.e0⟩
  replace hl0 := ltN hl0
  replace hlI := ltN hlI
  have hrng : Rng D (g + 1) := ⟨hD, hok.e0, hok.e1⟩
  have hW := hD.w
  have hlo := hD.lo
  have hhi := hD.hi
  have hb0 := hD.base0 hok.e0
  have hb1 := hD.base hok.e0 hok.e1
  have ht0 := hD.mod0 (x * 7 + a)
  have ht1 := hD.mod1 (x * 7 + a)
  have he0 := hok.e0
  have he1 := hok.e1
  have hq0 : 0 ≤ (g + 1) / wd D := Int.ediv_nonneg he0 (Int.le_of_lt hD.wpos)
  have hq1 := hD.quot he1
  dsimp only [led] at N
  dsimp only [lawA, lawEnv, segC, loopBody, lawBody, bodyOf, lawStmt, lawScope, scopeOf, PySem.Challenge.pw_vq0011_01]
  k_with "tree" => (unfold Mine.dec; split <;> (try split) <;> omega)
  repeat' (first | walk1 | (dsimp only; walk1))
  all_goals (try dsimp only)
  all_goals
    rename News _ _ _ _ => nE
    rename Fr _ _ _ _ => fE
    refine' hN _ _ ⟨_, _, _, _, fr_un1 [((Str.ofString "x" : Str), Value.int x tx), ("a", .int a ta), ("digits", .int D td)] fE hps, ?l, kst_newsOf nE (l' := led _ _ _ _ _) ?n, ⟨tw, ew⟩, ⟨te, ee⟩, ⟨_, ?c⟩⟩
    case l => exact Loc.set ⟨⟨⟨ta, ea⟩, ⟨tb, eb⟩, ⟨td, ed⟩, ⟨th, eh⟩, ⟨tg, eg⟩⟩, ⟨tx, ex⟩, ⟨ts, es⟩, ⟨tq, eq⟩, ⟨tt, et⟩⟩ (by decide) (by decide)
    case n => (dsimp only [led]; kst_inAny)
    case c => assumption
end Mine
end
section
/-! SM -/
open PySem PySem.W PyProof.Rows
namespace Mine
local macro_rules | `(tactic| walk_at "ite") => `(tactic| (k_here; k_openite; first | (refine ite_pos (by with_reducible assumption) ?_) | (refine ite_neg (by with_reducible assumption) ?_) | (refine ite_isFalse (by with_reducible assumption) ?_) | (k_spoken; first | (refine ite_pos (by ((try simp only [Bool.not_eq_true, Bool.not_eq_false, Bool.not_eq_true', Bool.not_eq_false', decide_eq_true_eq, decide_eq_false_iff_not]); omega)) ?_) | (refine ite_neg (by ((try simp only [Bool.not_eq_true, Bool.not_eq_false, Bool.not_eq_true', Bool.not_eq_false', decide_eq_true_eq, decide_eq_false_iff_not]); omega)) ?_)) | (refine Mine.ite_split ?_ ?_ <;> (intro hc; try simp only [Bool.not_eq_true, Bool.not_eq_false, Bool.not_eq_true', Bool.not_eq_false', decide_eq_true_eq, decide_eq_false_iff_not] at hc))))
local macro_rules | `(tactic| walk_at "execs cons") => `(tactic| (k_here; (try dsimp only); (try ((with_reducible refine Mine.gen_toks ?_); intro tk)); (try (rename News _ _ _ _ => nZ; dsimp only at nZ)); (try (rename Fr _ _ _ _ => fZ; dsimp only at fZ)); refine wpAny_execs_cons ?_))
local macro_rules | `(tactic| walk_at "subscriptTail BinOp") => `(tactic| (k_here; refine Mine.turn_any ?_))
local macro_rules | `(tactic| walk_at "subscriptTail List cons BinOp ref int") => `(tactic| (k_here; (with_unfolding_all refine' Mine.menu_any ?k1 ?k2 ?k3 ?k4 ?_); (case k1 => is_list); (case k2 => (try k_fmods); omega); (case k3 => (try k_fmods); omega); (case k4 => with_unfolding_all rfl); intro D t hD))
local macro_rules | `(tactic| walk_at "exec Assign cons ListComp") => `(tactic| (k_here; lct_look; k_dflt (refine LCt.Assign_ListComp_T (F₀ := by k_asm) (by rfl) (by with_unfolding_all rfl) (by with_unfolding_all rfl) (by decide) (by rfl) (by decide) (by rfl) (by rfl) (by rfl) ?_)))
local macro_rules | `(tactic| walk_at "CompSrcT") => `(tactic| (k_here; k_dflt (refine LCt.CompSrcT.range (n := 3) (by rfl) (by k_asm) (by k_asm) (by assumption) (small_one (by omega) (by omega) (by omega) (by omega)) (Mine.rs3 _) (by decide) ?_; intro g')))
local macro_rules | `(tactic| walk_at "binaryOp Mult int int") => `(tactic| (k_here; first | ((with_reducible refine' Mine.mul_m ?kx ?ke ?_); (case kx => with_reducible assumption); (case ke => omega)) | ((with_reducible refine' Mine.mul_z ?kx ?ke ?_); (case kx => with_reducible assumption); (case ke => omega)) | ((with_reducible refine' Mine.mul_p ?kx ?ke ?_); (case kx => with_reducible assumption); (case ke => omega))))
local macro_rules | `(tactic| walk_at "eval ListComp Tuple cons") => `(tactic| (k_here; k_dflt (refine LCg.ListComp_U (F₀ := by k_asm) (by with_unfolding_all rfl) (by decide) (by rfl) (by decide) (by rfl) ?_)))
local macro_rules | `(tactic| walk_at "CompSrc") => `(tactic| (k_here; k_dflt (refine LCg.CompSrc.ledger (by rfl) (by k_asm) (by k_asm) (by k_mem) (by first | size_fits | exact Nat.le_of_ble_eq_true rfl) ?_; intro g'; lcg_lit)))
local macro_rules | `(tactic| walk_at "call ref cons nil") => `(tactic| (k_here; k_call_by "decode_packet_number" Mine.dec Mine.Dig))
local macro_rules | `(tactic| walk_at "CompEnd") => `(tactic| (k_here; k_dflt (first | (refine' Mine.comp_same ?kf ?kn ?ko ?ks ?_; (case kf => k_asm); (case kn => with_reducible assumption); (case ko => with_reducible assumption); (case ks => lcg_src)) | (refine' Mine.comp_one ?kf ?kn ?ko ?kl ?ks ?_; (case kf => k_asm); (case kn => with_reducible assumption); (case ko => with_reducible assumption); (case kl => with_reducible assumption); (case ks => lcg_src)))))
local macro_rules | `(tactic| walk_at "CompRestT") => `(tactic| (with_unfolding_all first | (refine LCt.CompRestT.succ ?_; intro v' I' oI' C' oC' D' m' h' tk' E' hv' hC' hx' F' N' off' _; (obtain ⟨t9', hv9'⟩ := hv'; subst hv9')) | refine LCt.CompRestT.zero ?_))
local macro_rules | `(tactic| walk_at "CompRest") => `(tactic| (with_unfolding_all first | (refine LCg.CompRest.succ ?_; intro v' I' oI' C' oC' D' m' h' tk' E' hv' hC' hx' F' N' off' _; lcg_open hv') | refine LCg.CompRest.zero ?_))
local macro_rules | `(tactic| walk_at "call builtin:min cons nil") => `(tactic| (k_here; k_dflt (first | (refine' Mine.min3 _ ?kh ?ku ?kf ?kn ?kl ?k1 ?k2 ?k3 ?k4 ?k5 ?k6 ?k7 ?_; (case kh => exact rfl); (case ku => k_units); (case kf => k_asm); (case kn => k_asm); (case kl => k_mem); (case k1 => k_mem); (case k2 => k_mem); (case k3 => k_mem); (case k4 => exact Mine.ne_m (by with_reducible assumption)); (case k5 => exact Mine.ne_mp (by with_reducible assumption)); (case k6 => exact Mine.ne_p (by with_reducible assumption)); (case k7 => exact Mine.law3 (by with_reducible assumption) (by with_reducible assumption) (by with_reducible assumption))) | (refine' Mine.min2 _ ?kh ?ku ?kf ?kn ?kl ?k1 ?k2 ?k4 ?k7 ?_; (case kh => exact rfl); (case ku => k_units); (case kf => k_asm); (case kn => k_asm); (case kl => k_mem); (case k1 => k_mem); (case k2 => k_mem); (case k4 => exact Mine.ne_m (by with_reducible assumption)); (case k7 => exact Mine.law_top (by with_reducible assumption) (by with_reducible assumption) (by with_reducible assumption))) | (refine' Mine.min2 _ ?kh ?ku ?kf ?kn ?kl ?k1 ?k2 ?k4 ?k7 ?_; (case kh => exact rfl); (case ku => k_units); (case kf => k_asm); (case kn => k_asm); (case kl => k_mem); (case k1 => k_mem); (case k2 => k_mem); (case k4 => exact Mine.ne_p (by with_reducible assumption)); (case k7 => exact Mine.law_low (by with_reducible assumption) (by with_reducible assumption)))); intro r a b t u v n d sl h' tk' F' N' hr'))
local macro_rules | `(tactic| walk_at "subscriptTail Call Name cons nil Constant ref int") => `(tactic| (k_here; k_dflt (refine' Mine.tup_third ?kn ?km ?ks ?_; (case kn => k_asm); (case km => with_reducible assumption); (case ks => with_unfolding_all rfl))))
local macro_rules | `(tactic| walk_at "binaryOp Pow int int") => `(tactic| (k_here; first | (with_reducible refine Mine.pow_62 ?_) | ((with_reducible refine' Mine.pow_wd ?kx ?_); (case kx => first | with_reducible assumption | exact Mine.Dig.d (by with_reducible assumption))) | ((with_reducible refine' Mine.pow_hf ?kx ?_); (case kx => first | with_reducible assumption | exact Mine.Dig.d (by with_reducible assumption)))))
local macro_rules | `(tactic| walk_at "binaryOp LShift int int") => `(tactic| (k_here; first | (with_reducible refine Mine.shl_62 ?_) | ((with_reducible refine' Mine.shl_wd ?kx ?_); (case kx => first | with_reducible assumption | exact Mine.Dig.d (by with_reducible assumption)))))
local macro_rules | `(tactic| walk_at "binaryOp Mod int int") => `(tactic| (k_here; first | ((with_reducible refine' Mine.mod_wd_m ?kx ?_); (case kx => first | with_reducible assumption | exact Mine.Dig.d (by with_reducible assumption))) | ((with_reducible refine' Mine.mod_wd_as ?kx ?_); (case kx => first | with_reducible assumption | exact Mine.Dig.d (by with_reducible assumption))) | ((with_reducible refine' Mine.mod_wd_a ?kx ?_); (case kx => first | with_reducible assumption | exact Mine.Dig.d (by with_reducible assumption))) | ((with_reducible refine' Mine.mod_wd_s ?kx ?_); (case kx => first | with_reducible assumption | exact Mine.Dig.d (by with_reducible assumption))) | ((with_reducible refine' Mine.mod_wd ?kx ?_); (case kx => first | with_reducible assumption | exact Mine.Dig.d (by with_reducible assumption))) | ((with_reducible refine' Mine.mod_hf ?kx ?_); (case kx => first | with_reducible assumption | exact Mine.Dig.d (by with_reducible assumption)))))
local macro_rules | `(tactic| walk_at "binaryOp FloorDiv int int") => `(tactic| (k_here; first | ((with_reducible refine' Mine.half_wd ?kx ?_); (case kx => first | with_reducible assumption | exact Mine.Dig.d (by with_reducible assumption))) | ((with_reducible refine' Mine.div_wd ?kx ?_); (case kx => first | with_reducible assumption | exact Mine.Dig.d (by with_reducible assumption)))))
local macro_rules | `(tactic| walk_at "binaryOp BitAnd int int") => `(tactic| (k_here; first | ((with_reducible refine' Mine.andn_wd ?kx ?_); (case kx => first | with_reducible assumption | exact Mine.Dig.d (by with_reducible assumption)))))
local macro_rules | `(tactic| walk_at "binaryOp BitOr int int") => `(tactic| (k_here; first | ((with_reducible refine' Mine.or_wd ?kx ?_); (case kx => first | with_reducible assumption | exact Mine.Dig.d (by with_reducible assumption)))))
local macro_rules | `(tactic| walk_at "call builtin:isinstance cons nil") => `(tactic| (k_here; first | ((with_reducible show wpAny _ _ (call _ [Value.ref _, Value.type _]) _ _ _); k_dflt (refine' kia_one (kitx_own ?k4 ?k5 ?k6 ?k7 ?k8 ?k9) ?X ?I ?ee ?nb ?_; (case X => k_in); (case I => k_inst); (case ee => kit_is); (case nb => kit_nb); (case k4 => k_is); (case k5 => k_is); (case k6 => k_is); (case k7 => k_is); (case k8 => k_is); (case k9 => k_is); k_whole; intro _)) | ((with_reducible show wpAny _ _ (call _ [Value.ref _, Value.ref _]) _ _ _); k_dflt (refine' isi_call ?k1 ?k2 ?k3 ?k4 ?_; (case k1 => k_in); (case k2 => k_types); (case k3 => k_is); (case k4 => intro e; cases e); k_whole))))
local macro_rules | `(tactic| k_in) => `(tactic| first | with_reducible assumption | (refine' Frag.In.keeps ?kina (Fr.keep ?kinb); (case kinb => with_reducible assumption); (case kina => with_reducible assumption)))
local macro_rules | `(tactic| k_mem) => `(tactic| with_reducible assumption)
def ltB (v1 v2 H : Int) : Bool := decide ((v1 < v2 ∧ v2 - v1 < H) ∨ (v2 < v1 ∧ H < v1 - v2))
abbrev serD (v D : Int) (hv hb : Int) (k1 k2 t1 t2 : Tok) : Obj := dictOf [⟨hv, .str (Str.ofString "value") k1, .int v t1⟩, ⟨hb, .str (Str.ofString "bits") k2, .int D t2⟩] 2
theorem ret_b {Q : Value → Shared → Prop} {s : Shared} {b c : Bool} (h : Q (.bool b) s) (e : c = b) : Q (.bool c) s := e ▸ h
def gtB (v1 v2 H : Int) : Bool := decide ((v1 < v2 ∧ H < v2 - v1) ∨ (v2 < v1 ∧ v1 - v2 < H))
def eqB (v1 v2 _H : Int) : Bool := decide (v1 = v2)
def neB (v1 v2 _H : Int) : Bool := decide (¬ v1 = v2)
def leB (v1 v2 H : Int) : Bool := decide (v1 = v2 ∨ (v1 < v2 ∧ v2 - v1 < H) ∨ (v2 < v1 ∧ H < v1 - v2))
def geB (v1 v2 H : Int) : Bool := decide (v1 = v2 ∨ (v1 < v2 ∧ H < v2 - v1) ∨ (v2 < v1 ∧ v1 - v2 < H))
theorem bne_dec (a b : Int) : (a != b) = decide (¬ a = b) := by
  by_cases h : a = b <;> simp [h]
theorem lt_ser {w : World} {h₀ : Heap} {mg mb : Str → Option Value} {mean : ExcName → Option Value} {fa : Addr} {ccd : Value}
    (T : Top Mine.hd.view_39 (looseW Mine.hd.view_39 []) mean mg mb h₀) (KX : (Mine.hd.heap_39 w.params).In h₀) (K0 : Below callerA h₀ [] h₀)
    {s : Shared} {m : Str → Option Value} {news : List (Addr × Obj)} {D v1 v2 : Int} {x y dx dy : Addr} {hv hb : Int} {k1 k2 t1 t2 : Tok} {hv' hb' : Int} {k1' k2' t1' t2' : Tok} (hD : Dg D)
    (F : Fr h₀ h₀.objs.size s.heap m) (N : News h₀ h₀.objs.size s.heap news)
    (mx : (x, instObj 123 dx) ∈ news) (mdx : (dx, serD v1 D hv hb k1 k2 t1 t2) ∈ news) (my : (y, instObj 123 dy) ∈ news) (mdy : (dy, serD v2 D hv' hb' k1' k2' t1' t2') ∈ news)
    {Q : Value → Shared → Prop} {E : Value → Shared → Prop} {b : Bool} (hbb : ltB v1 v2 (hf D) = b)
    (hret : ∀ h' tk', Fr h₀ h₀.objs.size h' m → News h₀ h₀.objs.size h' news → Q (.bool b) { s with heap := h', toks := tk' }) :
    wpAny (model PySem.Challenge.rw_vq0011_01.row.prog w) (lawA h₀.objs.size fa ccd) (compareOp .Lt (.ref x) (.ref y)) Q E s := by
  revert KX; k_fill; intro KX
  w_on
  dsimp only [lawA, lawEnv, lawScope, scopeOf, lawStmt, PySem.Challenge.pw_vq0011_01]
  repeat' (first | walk1 | (dsimp only; walk1))
  all_goals
    rename Fr _ _ _ _ => fE
    rename News _ _ _ _ => nE
    refine ret_b (hret _ _ fE nE) ?_
    subst hbb
    unfold ltB
    first
      | exact (decide_eq_true (by omega)).symm
      | exact (decide_eq_false (by omega)).symm
      | rfl
      | (simp only [beq_iff_eq, bne_iff_ne, beq_eq_false_iff_ne, bne_eq_false_iff_eq] at *; first | exact (decide_eq_true (by omega)).symm | exact (decide_eq_false (by omega)).symm | (show decide (v1 = v2) = _; exact decide_eq_decide.mpr (by omega)))
      | exact bne_dec _ _
theorem gt_ser {w : World} {h₀ : Heap} {mg mb : Str → Option Value} {mean : ExcName → Option Value} {fa : Addr} {ccd : Value}
    (T : Top Mine.hd.view_39 (looseW Mine.hd.view_39 []) mean mg mb h₀) (KX : (Mine.hd.heap_39 w.params).In h₀) (K0 : Below callerA h₀ [] h₀)
    {s : Shared} {m : Str → Option Value} {news : List (Addr × Obj)} {D v1 v2 : Int} {x y dx dy : Addr} {hv hb : Int} {k1 k2 t1 t2 : Tok} {hv' hb' : Int} {k1' k2' t1' t2' : Tok} (hD : Dg D)
    (F : Fr h₀ h₀.objs.size s.heap m) (N : News h₀ h₀.objs.size s.heap news)
    (mx : (x, instObj 123 dx) ∈ news) (mdx : (dx, serD v1 D hv hb k1 k2 t1 t2) ∈ news) (my : (y, instObj 123 dy) ∈ news) (mdy : (dy, serD v2 D hv' hb' k1' k2' t1' t2') ∈ news)
    {Q : Value → Shared → Prop} {E : Value → Shared → Prop} {b : Bool} (hbb : gtB v1 v2 (hf D) = b)
    (hret : ∀ h' tk', Fr h₀ h₀.objs.size h' m → News h₀ h₀.objs.size h' news → Q (.bool b) { s with heap := h', toks := tk' }) :
    wpAny (model PySem.Challenge.rw_vq0011_01.row.prog w) (lawA h₀.objs.size fa ccd) (compareOp .Gt (.ref x) (.ref y)) Q E s := by
  revert KX; k_fill; intro KX
  w_on
  dsimp only [lawA, lawEnv, lawScope, scopeOf, lawStmt, PySem.Challenge.pw_vq0011_01]
  repeat' (first | walk1 | (dsimp only; walk1))
  all_goals
    rename Fr _ _ _ _ => fE
    rename News _ _ _ _ => nE
    refine ret_b (hret _ _ fE nE) ?_
    subst hbb
    unfold gtB
    first
      | exact (decide_eq_true (by omega)).symm
      | exact (decide_eq_false (by omega)).symm
      | rfl
      | (simp only [beq_iff_eq, bne_iff_ne, beq_eq_false_iff_ne, bne_eq_false_iff_eq] at *; first | exact (decide_eq_true (by omega)).symm | exact (decide_eq_false (by omega)).symm | (show decide (v1 = v2) = _; exact decide_eq_decide.mpr (by omega)))
      | exact bne_dec _ _
theorem eq_ser {w : World} {h₀ : Heap} {mg mb : Str → Option Value} {mean : ExcName → Option Value} {fa : Addr} {ccd : Value}
    (T : Top Mine.hd.view_39 (looseW Mine.hd.view_39 []) mean mg mb h₀) (KX : (Mine.hd.heap_39 w.params).In h₀) (K0 : Below callerA h₀ [] h₀)
    {s : Shared} {m : Str → Option Value} {news : List (Addr × Obj)} {D v1 v2 : Int} {x y dx dy : Addr} {hv hb : Int} {k1 k2 t1 t2 : Tok} {hv' hb' : Int} {k1' k2' t1' t2' : Tok} (hD : Dg D)
    (F : Fr h₀ h₀.objs.size s.heap m) (N : News h₀ h₀.objs.size s.heap news)
    (mx : (x, instObj 123 dx) ∈ news) (mdx : (dx, serD v1 D hv hb k1 k2 t1 t2) ∈ news) (my : (y, instObj 123 dy) ∈ news) (mdy : (dy, serD v2 D hv' hb' k1' k2' t1' t2') ∈ news)
    {Q : Value → Shared → Prop} {E : Value → Shared → Prop} {b : Bool} (hbb : eqB v1 v2 (hf D) = b)
    (hret : ∀ h' tk', Fr h₀ h₀.objs.size h' m → News h₀ h₀.objs.size h' news → Q (.bool b) { s with heap := h', toks := tk' }) :
    wpAny (model PySem.Challenge.rw_vq0011_01.row.prog w) (lawA h₀.objs.size fa ccd) (compareOp .Eq (.ref x) (.ref y)) Q E s := by
  revert KX; k_fill; intro KX
  w_on
  dsimp only [lawA, lawEnv, lawScope, scopeOf, lawStmt, PySem.Challenge.pw_vq0011_01]
  repeat' (first | walk1 | (dsimp only; walk1))
  all_goals
    rename Fr _ _ _ _ => fE
    rename News _ _ _ _ => nE
    refine ret_b (hret _ _ fE nE) ?_
    subst hbb
    unfold eqB
    first
      | exact (decide_eq_true (by omega)).symm
      | exact (decide_eq_false (by omega)).symm
      | rfl
      | (simp only [beq_iff_eq, bne_iff_ne, beq_eq_false_iff_ne, bne_eq_false_iff_eq] at *; first | exact (decide_eq_true (by omega)).symm | exact (decide_eq_false (by omega)).symm | (show decide (v1 = v2) = _; exact decide_eq_decide.mpr (by omega)))
      | exact bne_dec _ _
theorem ne_ser {w : World} {h₀ : Heap} {mg mb : Str → Option Value} {mean : ExcName → Option Value} {fa : Addr} {ccd : Value}
    (T : Top Mine.hd.view_39 (looseW Mine.hd.view_39 []) mean mg mb h₀) (KX : (Mine.hd.heap_39 w.params).In h₀) (K0 : Below callerA h₀ [] h₀)
    {s : Shared} {m : Str → Option Value} {news : List (Addr × Obj)} {D v1 v2 : Int} {x y dx dy : Addr} {hv hb : Int} {k1 k2 t1 t2 : Tok} {hv' hb' : Int} {k1' k2' t1' t2' : Tok} (hD : Dg D)
    (F : Fr h₀ h₀.objs.size s.heap m) (N : News h₀ h₀.objs.size s.heap news)
    (mx : (x, instObj 123 dx) ∈ news) (mdx : (dx, serD v1 D hv hb k1 k2 t1 t2) ∈ news) (my : (y, instObj 123 dy) ∈ news) (mdy : (dy, serD v2 D hv' hb' k1' k2' t1' t2') ∈ news)
    {Q : Value → Shared → Prop} {E : Value → Shared → Prop} {b : Bool} (hbb : neB v1 v2 (hf D) = b)
    (hret : ∀ h' tk', Fr h₀ h₀.objs.size h' m → News h₀ h₀.objs.size h' news → Q (.bool b) { s with heap := h', toks := tk' }) :
    wpAny (model PySem.Challenge.rw_vq0011_01.row.prog w) (lawA h₀.objs.size fa ccd) (compareOp .NotEq (.ref x) (.ref y)) Q E s := by
  revert KX; k_fill; intro KX
  w_on
  dsimp only [lawA, lawEnv, lawScope, scopeOf, lawStmt, PySem.Challenge.pw_vq0011_01]
  repeat' (first | walk1 | (dsimp only; walk1))
  all_goals
    rename Fr _ _ _ _ => fE
    rename News _ _ _ _ => nE
    refine ret_b (hret _ _ fE nE) ?_
    subst hbb
    unfold neB
    first
      | exact (decide_eq_true (by omega)).symm
      | exact (decide_eq_false (by omega)).symm
      | rfl
      | (simp only [beq_iff_eq, bne_iff_ne, beq_eq_false_iff_ne, bne_eq_false_iff_eq] at *; first | exact (decide_eq_true (by omega)).symm | exact (decide_eq_false (by omega)).symm | (show decide (v1 = v2) = _; exact decide_eq_decide.mpr (by omega)))
      | exact bne_dec _ _
theorem le_ser {w : World} {h₀ : Heap} {mg mb : Str → Option Value} {mean : ExcName → Option Value} {fa : Addr} {ccd : Value}
    (T : Top Mine.hd.view_39 (looseW Mine.hd.view_39 []) mean mg mb h₀) (KX : (Mine.hd.heap_39 w.params).In h₀) (K0 : Below callerA h₀ [] h₀)
    {s : Shared} {m : Str → Option Value} {news : List (Addr × Obj)} {D v1 v2 : Int} {x y dx dy : Addr} {hv hb : Int} {k1 k2 t1 t2 : Tok} {hv' hb' : Int} {k1' k2' t1' t2' : Tok} (hD : Dg D)
    (F : Fr h₀ h₀.objs.size s.heap m) (N : News h₀ h₀.objs.size s.heap news)
    (mx : (x, instObj 123 dx) ∈ news) (mdx : (dx, serD v1 D hv hb k1 k2 t1 t2) ∈ news) (my : (y, instObj 123 dy) ∈ news) (mdy : (dy, serD v2 D hv' hb' k1' k2' t1' t2') ∈ news)
    {Q : Value → Shared → Prop} {E : Value → Shared → Prop} {b : Bool} (hbb : leB v1 v2 (hf D) = b)
    (hret : ∀ h' tk', Fr h₀ h₀.objs.size h' m → News h₀ h₀.objs.size h' news → Q (.bool b) { s with heap := h', toks := tk' }) :
    wpAny (model PySem.Challenge.rw_vq0011_01.row.prog w) (lawA h₀.objs.size fa ccd) (compareOp .LtE (.ref x) (.ref y)) Q E s := by
  revert KX; k_fill; intro KX
  w_on
  dsimp only [lawA, lawEnv, lawScope, scopeOf, lawStmt, PySem.Challenge.pw_vq0011_01]
  repeat' (first | walk1 | (dsimp only; walk1))
  all_goals
    rename Fr _ _ _ _ => fE
    rename News _ _ _ _ => nE
    refine ret_b (hret _ _ fE nE) ?_
    subst hbb
    unfold leB
    first
      | exact (decide_eq_true (by omega)).symm
      | exact (decide_eq_false (by omega)).symm
      | rfl
      | (simp only [beq_iff_eq, bne_iff_ne, beq_eq_false_iff_ne, bne_eq_false_iff_eq] at *; first | exact (decide_eq_true (by omega)).symm | exact (decide_eq_false (by omega)).symm | (show decide (v1 = v2) = _; exact decide_eq_decide.mpr (by omega)))
      | exact bne_dec _ _
theorem ge_ser {w : World} {h₀ : Heap} {mg mb : Str → Option Value} {mean : ExcName → Option Value} {fa : Addr} {ccd : Value}
    (T : Top Mine.hd.view_39 (looseW Mine.hd.view_39 []) mean mg mb h₀) (KX : (Mine.hd.heap_39 w.params).In h₀) (K0 : Below callerA h₀ [] h₀)
    {s : Shared} {m : Str → Option Value} {news : List (Addr × Obj)} {D v1 v2 : Int} {x y dx dy : Addr} {hv hb : Int} {k1 k2 t1 t2 : Tok} {hv' hb' : Int} {k1' k2' t1' t2' : Tok} (hD : Dg D)
    (F : Fr h₀ h₀.objs.size s.heap m) (N : News h₀ h₀.objs.size s.heap news)
    (mx : (x, instObj 123 dx) ∈ news) (mdx : (dx, serD v1 D hv hb k1 k2 t1 t2) ∈ news) (my : (y, instObj 123 dy) ∈ news) (mdy : (dy, serD v2 D hv' hb' k1' k2' t1' t2') ∈ news)
    {Q : Value → Shared → Prop} {E : Value → Shared → Prop} {b : Bool} (hbb : geB v1 v2 (hf D) = b)
    (hret : ∀ h' tk', Fr h₀ h₀.objs.size h' m → News h₀ h₀.objs.size h' news → Q (.bool b) { s with heap := h', toks := tk' }) :
    wpAny (model PySem.Challenge.rw_vq0011_01.row.prog w) (lawA h₀.objs.size fa ccd) (compareOp .GtE (.ref x) (.ref y)) Q E s := by
  revert KX; k_fill; intro KX
  w_on
  dsimp only [lawA, lawEnv, lawScope, scopeOf, lawStmt, PySem.Challenge.pw_vq0011_01]
  repeat' (first | walk1 | (dsimp only; walk1))
  all_goals
    rename Fr _ _ _ _ => fE
    rename News _ _ _ _ => nE
    refine ret_b (hret _ _ fE nE) ?_
    subst hbb
    unfold geB
    first
      | exact (decide_eq_true (by omega)).symm
      | exact (decide_eq_false (by omega)).symm
      | rfl
      | (simp only [beq_iff_eq, bne_iff_ne, beq_eq_false_iff_ne, bne_eq_false_iff_eq] at *; first | exact (decide_eq_true (by omega)).symm | exact (decide_eq_false (by omega)).symm | (show decide (v1 = v2) = _; exact decide_eq_decide.mpr (by omega)))
      | exact bne_dec _ _
end Mine
end
section
/-! SD -/
open PySem PySem.W PyProof.Rows
namespace Mine
local macro_rules | `(tactic| walk_at "ite") => `(tactic| (k_here; k_openite; first | (refine ite_pos (by with_reducible assumption) ?_) | (refine ite_neg (by with_reducible assumption) ?_) | (refine ite_isFalse (by with_reducible assumption) ?_) | (k_spoken; first | (refine ite_pos (by ((try simp only [Bool.not_eq_true, Bool.not_eq_false, Bool.not_eq_true', Bool.not_eq_false', decide_eq_true_eq, decide_eq_false_iff_not]); omega)) ?_) | (refine ite_neg (by ((try simp only [Bool.not_eq_true, Bool.not_eq_false, Bool.not_eq_true', Bool.not_eq_false', decide_eq_true_eq, decide_eq_false_iff_not]); omega)) ?_)) | (refine Mine.ite_split ?_ ?_ <;> (intro hc; try simp only [Bool.not_eq_true, Bool.not_eq_false, Bool.not_eq_true', Bool.not_eq_false', decide_eq_true_eq, decide_eq_false_iff_not] at hc))))
local macro_rules | `(tactic| walk_at "execs cons") => `(tactic| (k_here; (try dsimp only); (try ((with_reducible refine Mine.gen_toks ?_); intro tk)); (try (rename News _ _ _ _ => nZ; dsimp only at nZ)); (try (rename Fr _ _ _ _ => fZ; dsimp only at fZ)); refine wpAny_execs_cons ?_))
local macro_rules | `(tactic| walk_at "subscriptTail BinOp") => `(tactic| (k_here; refine Mine.turn_any ?_))
local macro_rules | `(tactic| walk_at "subscriptTail List cons BinOp ref int") => `(tactic| (k_here; (with_unfolding_all refine' Mine.menu_any ?k1 ?k2 ?k3 ?k4 ?_); (case k1 => is_list); (case k2 => (try k_fmods); omega); (case k3 => (try k_fmods); omega); (case k4 => with_unfolding_all rfl); intro D t hD))
local macro_rules | `(tactic| walk_at "exec Assign cons ListComp") => `(tactic| (k_here; lct_look; k_dflt (refine LCt.Assign_ListComp_T (F₀ := by k_asm) (by rfl) (by with_unfolding_all rfl) (by with_unfolding_all rfl) (by decide) (by rfl) (by decide) (by rfl) (by rfl) (by rfl) ?_)))
local macro_rules | `(tactic| walk_at "CompSrcT") => `(tactic| (k_here; k_dflt (refine LCt.CompSrcT.range (n := 3) (by rfl) (by k_asm) (by k_asm) (by assumption) (small_one (by omega) (by omega) (by omega) (by omega)) (Mine.rs3 _) (by decide) ?_; intro g')))
local macro_rules | `(tactic| walk_at "binaryOp Mult int int") => `(tactic| (k_here; first | ((with_reducible refine' Mine.mul_m ?kx ?ke ?_); (case kx => with_reducible assumption); (case ke => omega)) | ((with_reducible refine' Mine.mul_z ?kx ?ke ?_); (case kx => with_reducible assumption); (case ke => omega)) | ((with_reducible refine' Mine.mul_p ?kx ?ke ?_); (case kx => with_reducible assumption); (case ke => omega))))
local macro_rules | `(tactic| walk_at "eval ListComp Tuple cons") => `(tactic| (k_here; k_dflt (refine LCg.ListComp_U (F₀ := by k_asm) (by with_unfolding_all rfl) (by decide) (by rfl) (by decide) (by rfl) ?_)))
local macro_rules | `(tactic| walk_at "CompSrc") => `(tactic| (k_here; k_dflt (refine LCg.CompSrc.ledger (by rfl) (by k_asm) (by k_asm) (by k_mem) (by first | size_fits | exact Nat.le_of_ble_eq_true rfl) ?_; intro g'; lcg_lit)))
local macro_rules | `(tactic| walk_at "call ref cons nil") => `(tactic| (k_here; k_call_by "decode_packet_number" Mine.dec Mine.Dig))
local macro_rules | `(tactic| walk_at "CompEnd") => `(tactic| (k_here; k_dflt (first | (refine' Mine.comp_same ?kf ?kn ?ko ?ks ?_; (case kf => k_asm); (case kn => with_reducible assumption); (case ko => with_reducible assumption); (case ks => lcg_src)) | (refine' Mine.comp_one ?kf ?kn ?ko ?kl ?ks ?_; (case kf => k_asm); (case kn => with_reducible assumption); (case ko => with_reducible assumption); (case kl => with_reducible assumption); (case ks => lcg_src)))))
local macro_rules | `(tactic| walk_at "CompRestT") => `(tactic| (with_unfolding_all first | (refine LCt.CompRestT.succ ?_; intro v' I' oI' C' oC' D' m' h' tk' E' hv' hC' hx' F' N' off' _; (obtain ⟨t9', hv9'⟩ := hv'; subst hv9')) | refine LCt.CompRestT.zero ?_))
local macro_rules | `(tactic| walk_at "CompRest") => `(tactic| (with_unfolding_all first | (refine LCg.CompRest.succ ?_; intro v' I' oI' C' oC' D' m' h' tk' E' hv' hC' hx' F' N' off' _; lcg_open hv') | refine LCg.CompRest.zero ?_))
local macro_rules | `(tactic| walk_at "call builtin:min cons nil") => `(tactic| (k_here; k_dflt (first | (refine' Mine.min3 _ ?kh ?ku ?kf ?kn ?kl ?k1 ?k2 ?k3 ?k4 ?k5 ?k6 ?k7 ?_; (case kh => exact rfl); (case ku => k_units); (case kf => k_asm); (case kn => k_asm); (case kl => k_mem); (case k1 => k_mem); (case k2 => k_mem); (case k3 => k_mem); (case k4 => exact Mine.ne_m (by with_reducible assumption)); (case k5 => exact Mine.ne_mp (by with_reducible assumption)); (case k6 => exact Mine.ne_p (by with_reducible assumption)); (case k7 => exact Mine.law3 (by with_reducible assumption) (by with_reducible assumption) (by with_reducible assumption))) | (refine' Mine.min2 _ ?kh ?ku ?kf ?kn ?kl ?k1 ?k2 ?k4 ?k7 ?_; (case kh => exact rfl); (case ku => k_units); (case kf => k_asm); (case kn => k_asm); (case kl => k_mem); (case k1 => k_mem); (case k2 => k_mem); (case k4 => exact Mine.ne_m (by with_reducible assumption)); (case k7 => exact Mine.law_top (by with_reducible assumption) (by with_reducible assumption) (by with_reducible assumption))) | (refine' Mine.min2 _ ?kh ?ku ?kf ?kn ?kl ?k1 ?k2 ?k4 ?k7 ?_; (case kh => exact rfl); (case ku => k_units); (case kf => k_asm); (case kn => k_asm); (case kl => k_mem); (case k1 => k_mem); (case k2 => k_mem); (case k4 => exact Mine.ne_p (by with_reducible assumption)); (case k7 => exact Mine.law_low (by with_reducible assumption) (by with_reducible assumption)))); intro r a b t u v n d sl h' tk' F' N' hr'))
local macro_rules | `(tactic| walk_at "subscriptTail Call Name cons nil Constant ref int") => `(tactic| (k_here; k_dflt (refine' Mine.tup_third ?kn ?km ?ks ?_; (case kn => k_asm); (case km => with_reducible assumption); (case ks => with_unfolding_all rfl))))
local macro_rules | `(tactic| walk_at "binaryOp Pow int int") => `(tactic| (k_here; first | (with_reducible refine Mine.pow_62 ?_) | ((with_reducible refine' Mine.pow_wd ?kx ?_); (case kx => first | with_reducible assumption | exact Mine.Dig.d (by with_reducible assumption))) | ((with_reducible refine' Mine.pow_hf ?kx ?_); (case kx => first | with_reducible assumption | exact Mine.Dig.d (by with_reducible assumption)))))
local macro_rules | `(tactic| walk_at "compareOp NotEq int int") => `(tactic| (k_here; (with_reducible refine' Mine.ne_same ?kx ?_); (case kx => first | with_reducible rfl | with_reducible assumption)))
local macro_rules | `(tactic| walk_at "binaryOp LShift int int") => `(tactic| (k_here; first | (with_reducible refine Mine.shl_62 ?_) | ((with_reducible refine' Mine.shl_wd ?kx ?_); (case kx => first | with_reducible assumption | exact Mine.Dig.d (by with_reducible assumption)))))
local macro_rules | `(tactic| walk_at "binaryOp Mod int int") => `(tactic| (k_here; first | ((with_reducible refine' Mine.mod_wd_m ?kx ?_); (case kx => first | with_reducible assumption | exact Mine.Dig.d (by with_reducible assumption))) | ((with_reducible refine' Mine.mod_wd_as ?kx ?_); (case kx => first | with_reducible assumption | exact Mine.Dig.d (by with_reducible assumption))) | ((with_reducible refine' Mine.mod_wd_a ?kx ?_); (case kx => first | with_reducible assumption | exact Mine.Dig.d (by with_reducible assumption))) | ((with_reducible refine' Mine.mod_wd_s ?kx ?_); (case kx => first | with_reducible assumption | exact Mine.Dig.d (by with_reducible assumption))) | ((with_reducible refine' Mine.mod_wd ?kx ?_); (case kx => first | with_reducible assumption | exact Mine.Dig.d (by with_reducible assumption))) | ((with_reducible refine' Mine.mod_hf ?kx ?_); (case kx => first | with_reducible assumption | exact Mine.Dig.d (by with_reducible assumption)))))
local macro_rules | `(tactic| walk_at "binaryOp FloorDiv int int") => `(tactic| (k_here; first | ((with_reducible refine' Mine.half_wd ?kx ?_); (case kx => first | with_reducible assumption | exact Mine.Dig.d (by with_reducible assumption))) | ((with_reducible refine' Mine.div_wd ?kx ?_); (case kx => first | with_reducible assumption | exact Mine.Dig.d (by with_reducible assumption)))))
local macro_rules | `(tactic| walk_at "binaryOp BitAnd int int") => `(tactic| (k_here; first | ((with_reducible refine' Mine.andn_wd ?kx ?_); (case kx => first | with_reducible assumption | exact Mine.Dig.d (by with_reducible assumption)))))
local macro_rules | `(tactic| walk_at "binaryOp BitOr int int") => `(tactic| (k_here; first | ((with_reducible refine' Mine.or_wd ?kx ?_); (case kx => first | with_reducible assumption | exact Mine.Dig.d (by with_reducible assumption)))))
local macro_rules | `(tactic| walk_at "call builtin:isinstance cons nil") => `(tactic| (k_here; first | ((with_reducible show wpAny _ _ (call _ [Value.ref _, Value.type _]) _ _ _); k_dflt (refine' kia_one (kitx_own ?k4 ?k5 ?k6 ?k7 ?k8 ?k9) ?X ?I ?ee ?nb ?_; (case X => k_in); (case I => k_inst); (case ee => kit_is); (case nb => kit_nb); (case k4 => k_is); (case k5 => k_is); (case k6 => k_is); (case k7 => k_is); (case k8 => k_is); (case k9 => k_is); k_whole; intro _)) | ((with_reducible show wpAny _ _ (call _ [Value.ref _, Value.ref _]) _ _ _); k_dflt (refine' isi_call ?k1 ?k2 ?k3 ?k4 ?_; (case k1 => k_in); (case k2 => k_types); (case k3 => k_is); (case k4 => intro e; cases e); k_whole))))
local macro_rules | `(tactic| k_in) => `(tactic| first | with_reducible assumption | (refine' Frag.In.keeps ?kina (Fr.keep ?kinb); (case kinb => with_reducible assumption); (case kina => with_reducible assumption)))
local macro_rules | `(tactic| walk_at "compareOp Lt ref ref") => `(tactic| (k_here; k_dflt (refine' Mine.lt_ser ?kt ?kk ?kb ?kd ?kf ?kn ?m1 ?m2 ?m3 ?m4 ?ke ?_; (case kt => with_reducible assumption); (case kk => with_reducible assumption); (case kb => with_reducible assumption); (case kd => with_reducible assumption); (case kf => with_reducible assumption); (case kn => with_reducible assumption); (case m1 => k_mem); (case m2 => k_mem); (case m3 => k_mem); (case m4 => k_mem); (case ke => with_reducible assumption)); intro h' tk' F' N'; (try k_sweep)))
local macro_rules | `(tactic| walk_at "compareOp Gt ref ref") => `(tactic| (k_here; k_dflt (refine' Mine.gt_ser ?kt ?kk ?kb ?kd ?kf ?kn ?m1 ?m2 ?m3 ?m4 ?ke ?_; (case kt => with_reducible assumption); (case kk => with_reducible assumption); (case kb => with_reducible assumption); (case kd => with_reducible assumption); (case kf => with_reducible assumption); (case kn => with_reducible assumption); (case m1 => k_mem); (case m2 => k_mem); (case m3 => k_mem); (case m4 => k_mem); (case ke => with_reducible assumption)); intro h' tk' F' N'; (try k_sweep)))
local macro_rules | `(tactic| walk_at "compareOp Eq ref ref") => `(tactic| (k_here; k_dflt (refine' Mine.eq_ser ?kt ?kk ?kb ?kd ?kf ?kn ?m1 ?m2 ?m3 ?m4 ?ke ?_; (case kt => with_reducible assumption); (case kk => with_reducible assumption); (case kb => with_reducible assumption); (case kd => with_reducible assumption); (case kf => with_reducible assumption); (case kn => with_reducible assumption); (case m1 => k_mem); (case m2 => k_mem); (case m3 => k_mem); (case m4 => k_mem); (case ke => with_reducible assumption)); intro h' tk' F' N'; (try k_sweep)))
local macro_rules | `(tactic| walk_at "compareOp NotEq ref ref") => `(tactic| (k_here; k_dflt (refine' Mine.ne_ser ?kt ?kk ?kb ?kd ?kf ?kn ?m1 ?m2 ?m3 ?m4 ?ke ?_; (case kt => with_reducible assumption); (case kk => with_reducible assumption); (case kb => with_reducible assumption); (case kd => with_reducible assumption); (case kf => with_reducible assumption); (case kn => with_reducible assumption); (case m1 => k_mem); (case m2 => k_mem); (case m3 => k_mem); (case m4 => k_mem); (case ke => with_reducible assumption)); intro h' tk' F' N'; (try k_sweep)))
local macro_rules | `(tactic| walk_at "compareOp LtE ref ref") => `(tactic| (k_here; k_dflt (refine' Mine.le_ser ?kt ?kk ?kb ?kd ?kf ?kn ?m1 ?m2 ?m3 ?m4 ?ke ?_; (case kt => with_reducible assumption); (case kk => with_reducible assumption); (case kb => with_reducible assumption); (case kd => with_reducible assumption); (case kf => with_reducible assumption); (case kn => with_reducible assumption); (case m1 => k_mem); (case m2 => k_mem); (case m3 => k_mem); (case m4 => k_mem); (case ke => with_reducible assumption)); intro h' tk' F' N'; (try k_sweep)))
local macro_rules | `(tactic| walk_at "compareOp GtE ref ref") => `(tactic| (k_here; k_dflt (refine' Mine.ge_ser ?kt ?kk ?kb ?kd ?kf ?kn ?m1 ?m2 ?m3 ?m4 ?ke ?_; (case kt => with_reducible assumption); (case kk => with_reducible assumption); (case kb => with_reducible assumption); (case kd => with_reducible assumption); (case kf => with_reducible assumption); (case kn => with_reducible assumption); (case m1 => k_mem); (case m2 => k_mem); (case m3 => k_mem); (case m4 => k_mem); (case ke => with_reducible assumption)); intro h' tk' F' N'; (try k_sweep)))
local macro_rules | `(tactic| walk_at "compareOp NotEq ref ref") => `(tactic| (k_here; k_dflt (refine' Mine.ne_bools _ ?kx ?ky ?ku ?_; (case kx => is_list); (case ky => is_list); (case ku => k_units))))
local macro_rules | `(tactic| walk_at "ite") => `(tactic| (k_here; k_openite; first | (refine ite_pos (by with_reducible assumption) ?_) | (refine ite_neg (by with_reducible assumption) ?_) | (refine ite_isFalse (by with_reducible assumption) ?_) | (first | (refine ite_pos (by ((try simp only [Mine.dec_eq, iff_true, not_true_eq_false, not_false_eq_true, beq_iff_eq, bne_iff_ne, ne_eq, Bool.not_eq_true, Bool.not_eq_false, Bool.not_eq_true', Bool.not_eq_false', decide_eq_true_eq, decide_eq_false_iff_not]); (first | done | omega))) ?_) | (refine ite_neg (by ((try simp only [Mine.dec_eq, iff_true, not_true_eq_false, not_false_eq_true, beq_iff_eq, bne_iff_ne, ne_eq, Bool.not_eq_true, Bool.not_eq_false, Bool.not_eq_true', Bool.not_eq_false', decide_eq_true_eq, decide_eq_false_iff_not]); (first | done | omega))) ?_)) | (refine Mine.ite_split ?_ ?_ <;> (intro hc; try simp only [beq_iff_eq, bne_iff_ne, ne_eq, Bool.not_eq_true, Bool.not_eq_false, Bool.not_eq_true', Bool.not_eq_false', decide_eq_true_eq, decide_eq_false_iff_not] at hc))))
theorem segD_ok {w : World} {h₀ : Heap} {mg mb : Str → Option Value} {mean : ExcName → Option Value} {fa : Addr} {ccd : Value}
    (T : Top Mine.hd.view_39 (looseW Mine.hd.view_39 []) mean mg mb h₀) (KX : (Mine.hd.heap_39 w.params).In h₀) (K0 : Below callerA h₀ [] h₀) (hMk : KstMark)
    {s : Shared} {a b D g x st : Int} {I l : Addr} {oI ol : Obj} (hok : Ok D g st)
    (hm : Mid h₀ h₀.objs.size [(I, oI), (l, ol)] a b D g x st s.heap) (hl0 : h₀.objs.size + 1 + 1 + 1 < l) (hlI : l < I)
    {Q : Flow → Shared → Prop} {E : Value → Shared → Prop}
    (hN : ∀ g' h' tk', -1 ≤ g' → g' < 4611686018427387904 → Inv h₀ h₀.objs.size [(I, oI), (l, ol)] a b D g' h' → Q .next { s with heap := h', toks := tk' }) :
    wpAny (model PySem.Challenge.rw_vq0011_01.row.prog w) (lawA h₀.objs.size fa ccd) (execs segD (lawEnv h₀.objs.size fa ccd)) Q E s := by
  revert KX; k_fill; intro KX
  w_on
  obtain ⟨m, oa, oe, ow, F, ⟨⟨⟨ta, ea⟩, ⟨tb, eb⟩, ⟨td, ed⟩, ⟨th, eh⟩, ⟨tg, eg⟩⟩, ⟨tx, ex⟩, ⟨ts, es⟩, ⟨tq, eq⟩, ⟨tt, et⟩⟩, N, ⟨tw, ew⟩, ⟨te, ee⟩, ⟨va, eva⟩⟩ := hm
  have hps : ∀ p ∈ [((Str.ofString "told" : Str), Value.int ((g + 1 + st) % wd D) tt), ("a", .int a ta), ("b", .int b tb), ("digits", .int D td), ("step", .int st ts), ("half", .int (hf D) th), ("greatest", .int g tg), ("whole", .int (g + 1 + st) tq)], m p.1 = some p.2 := by
    simp only [List.forall_mem_cons, List.not_mem_nil, false_implies, implies_true, and_true]
    exact ⟨et, ea, eb, ed, es, eh, eg, eq⟩
  have F1 := fr_are _ F hps
  dsimp only [kstB] at F1
  clear F
  have hD := hok.d
  replace hl0 := ltN hl0
  replace hlI := ltN hlI
  have hW := hD.w
  have hlo := hD.lo
  have hr0 := hD.mod0 (g + 1)
  have hr1 := hD.mod1 (g + 1)
  have hs0 := hok.s0
  have hs1 := hok.s1
  have hw := hD.wrap (E := g + 1) (st := st) (by omega) (by omega)
  dsimp only [led] at N
  dsimp only [lawA, lawEnv, segD, loopBody, lawBody, bodyOf, lawStmt, lawScope, scopeOf, PySem.Challenge.pw_vq0011_01]
  by_cases hst : st = hf D
  · subst hst
    obtain ⟨c1, c2, c3⟩ := cmp_half (E := g + 1) hD
    have b1 : ltB ((g + 1 + hf D) % wd D) ((g + 1) % wd D) (hf D) = false := decide_eq_false c1
    have b2 : gtB ((g + 1 + hf D) % wd D) ((g + 1) % wd D) (hf D) = false := decide_eq_false c2
    have b3 : eqB ((g + 1 + hf D) % wd D) ((g + 1) % wd D) (hf D) = false := decide_eq_false c3
    have b4 : neB ((g + 1 + hf D) % wd D) ((g + 1) % wd D) (hf D) = true := decide_eq_true c3
    have b5 : leB ((g + 1 + hf D) % wd D) ((g + 1) % wd D) (hf D) = false := decide_eq_false (fun q => q.elim c3 c1)
    have b6 : geB ((g + 1 + hf D) % wd D) ((g + 1) % wd D) (hf D) = false := decide_eq_false (fun q => q.elim c3 c2)
    clear hw c1 c2 c3
    have q1 : (hf D == hf D) = true := beq_self_eq_true _
    have q2 : (hf D != hf D) = false := by rw [bne, q1]; rfl
    repeat' (first | walk1 | (dsimp only; walk1))
    all_goals (try dsimp only)
    all_goals
      rename News _ _ _ _ => nE
      rename Fr _ _ _ _ => fE
      refine' hN _ _ _ ?g0 ?g1 ⟨_, _, _, _, fE, ?l, kst_newsOf nE (l' := led _ _ _ _ _) ?n, ⟨tw, ew⟩, ⟨_, ee⟩, ⟨va, eva⟩⟩
      case l => exact ⟨⟨_, by with_unfolding_all rfl⟩, ⟨_, by with_unfolding_all rfl⟩, ⟨_, by with_unfolding_all rfl⟩, ⟨_, by with_unfolding_all rfl⟩, ⟨_, by with_unfolding_all rfl⟩⟩
      case n => (dsimp only [led]; kst_inAny)
      case g0 =>
        have e0 := hok.e0
        have w0 := hok.w0
        split <;> omega
      case g1 =>
        have e1 := hok.e1
        have w1 := hok.w1
        split <;> omega
  · obtain ⟨c1, c2, c3⟩ := cmp_told (E := g + 1) hD hs0 (by omega)
    have b1 : ltB ((g + 1 + st) % wd D) ((g + 1) % wd D) (hf D) = decide (st < 0) := decide_eq_decide.mpr c1
    have b2 : gtB ((g + 1 + st) % wd D) ((g + 1) % wd D) (hf D) = decide (0 < st) := decide_eq_decide.mpr c2
    have b3 : eqB ((g + 1 + st) % wd D) ((g + 1) % wd D) (hf D) = (st == 0) := decide_eq_decide.mpr c3
    have b4 : neB ((g + 1 + st) % wd D) ((g + 1) % wd D) (hf D) = (st != 0) := (decide_eq_decide.mpr (not_congr c3)).trans (bne_dec _ _).symm
    have b5 : leB ((g + 1 + st) % wd D) ((g + 1) % wd D) (hf D) = decide (st ≤ 0) := decide_eq_decide.mpr ((or_congr c3 c1).trans (by omega))
    have b6 : geB ((g + 1 + st) % wd D) ((g + 1) % wd D) (hf D) = decide (0 ≤ st) := decide_eq_decide.mpr ((or_congr c3 c2).trans (by omega))
    clear hw c1 c2 c3
    have q1 : (st == hf D) = false := beq_false_of_ne hst
    have q2 : (st != hf D) = true := by rw [bne, q1]; rfl
    repeat' (first | walk1 | (dsimp only; walk1))
    all_goals (try dsimp only)
    all_goals
      rename News _ _ _ _ => nE
      rename Fr _ _ _ _ => fE
      refine' hN _ _ _ ?g0 ?g1 ⟨_, _, _, _, fE, ?l, kst_newsOf nE (l' := led _ _ _ _ _) ?n, ⟨tw, ew⟩, ⟨_, ee⟩, ⟨va, eva⟩⟩
      case l => exact ⟨⟨_, by with_unfolding_all rfl⟩, ⟨_, by with_unfolding_all rfl⟩, ⟨_, by with_unfolding_all rfl⟩, ⟨_, by with_unfolding_all rfl⟩, ⟨_, by with_unfolding_all rfl⟩⟩
      case n => (dsimp only [led]; kst_inAny)
      case g0 =>
        have e0 := hok.e0
        have w0 := hok.w0
        split <;> omega
      case g1 =>
        have e1 := hok.e1
        have w1 := hok.w1
        split <;> omega
end Mine
end
section
/-! SR -/
open PySem PySem.W PyProof.Rows
namespace Mine
local macro_rules | `(tactic| walk_at "ite") => `(tactic| (k_here; k_openite; first | (refine ite_pos (by with_reducible assumption) ?_) | (refine ite_neg (by with_reducible assumption) ?_) | (refine ite_isFalse (by with_reducible assumption) ?_) | (k_spoken; first | (refine ite_pos (by ((try simp only [Bool.not_eq_true, Bool.not_eq_false, Bool.not_eq_true', Bool.not_eq_false', decide_eq_true_eq, decide_eq_false_iff_not]); omega)) ?_) | (refine ite_neg (by ((try simp only [Bool.not_eq_true, Bool.not_eq_false, Bool.not_eq_true', Bool.not_eq_false', decide_eq_true_eq, decide_eq_false_iff_not]); omega)) ?_)) | (refine Mine.ite_split ?_ ?_ <;> (intro hc; try simp only [Bool.not_eq_true, Bool.not_eq_false, Bool.not_eq_true', Bool.not_eq_false', decide_eq_true_eq, decide_eq_false_iff_not] at hc))))
local macro_rules | `(tactic| walk_at "execs cons") => `(tactic| (k_here; (try dsimp only); (try ((with_reducible refine Mine.gen_toks ?_); intro tk)); (try (rename News _ _ _ _ => nZ; dsimp only at nZ)); (try (rename Fr _ _ _ _ => fZ; dsimp only at fZ)); refine wpAny_execs_cons ?_))
local macro_rules | `(tactic| walk_at "subscriptTail BinOp") => `(tactic| (k_here; refine Mine.turn_any ?_))
local macro_rules | `(tactic| walk_at "subscriptTail List cons BinOp ref int") => `(tactic| (k_here; (with_unfolding_all refine' Mine.menu_any ?k1 ?k2 ?k3 ?k4 ?_); (case k1 => is_list); (case k2 => (try k_fmods); omega); (case k3 => (try k_fmods); omega); (case k4 => with_unfolding_all rfl); intro D t hD))
local macro_rules | `(tactic| walk_at "exec Assign cons ListComp") => `(tactic| (k_here; lct_look; k_dflt (refine LCt.Assign_ListComp_T (F₀ := by k_asm) (by rfl) (by with_unfolding_all rfl) (by with_unfolding_all rfl) (by decide) (by rfl) (by decide) (by rfl) (by rfl) (by rfl) ?_)))
local macro_rules | `(tactic| walk_at "CompSrcT") => `(tactic| (k_here; k_dflt (refine LCt.CompSrcT.range (n := 3) (by rfl) (by k_asm) (by k_asm) (by assumption) (small_one (by omega) (by omega) (by omega) (by omega)) (Mine.rs3 _) (by decide) ?_; intro g')))
local macro_rules | `(tactic| walk_at "binaryOp Mult int int") => `(tactic| (k_here; first | ((with_reducible refine' Mine.mul_m ?kx ?ke ?_); (case kx => with_reducible assumption); (case ke => omega)) | ((with_reducible refine' Mine.mul_z ?kx ?ke ?_); (case kx => with_reducible assumption); (case ke => omega)) | ((with_reducible refine' Mine.mul_p ?kx ?ke ?_); (case kx => with_reducible assumption); (case ke => omega))))
local macro_rules | `(tactic| walk_at "eval ListComp Tuple cons") => `(tactic| (k_here; k_dflt (refine LCg.ListComp_U (F₀ := by k_asm) (by with_unfolding_all rfl) (by decide) (by rfl) (by decide) (by rfl) ?_)))
local macro_rules | `(tactic| walk_at "CompSrc") => `(tactic| (k_here; k_dflt (refine LCg.CompSrc.ledger (by rfl) (by k_asm) (by k_asm) (by k_mem) (by first | size_fits | exact Nat.le_of_ble_eq_true rfl) ?_; intro g'; lcg_lit)))
local macro_rules | `(tactic| walk_at "call ref cons nil") => `(tactic| (k_here; k_call_by "decode_packet_number" Mine.dec Mine.Dig))
local macro_rules | `(tactic| walk_at "CompEnd") => `(tactic| (k_here; k_dflt (first | (refine' Mine.comp_same ?kf ?kn ?ko ?ks ?_; (case kf => k_asm); (case kn => with_reducible assumption); (case ko => with_reducible assumption); (case ks => lcg_src)) | (refine' Mine.comp_one ?kf ?kn ?ko ?kl ?ks ?_; (case kf => k_asm); (case kn => with_reducible assumption); (case ko => with_reducible assumption); (case kl => with_reducible assumption); (case ks => lcg_src)))))
local macro_rules | `(tactic| walk_at "CompRestT") => `(tactic| (with_unfolding_all first | (refine LCt.CompRestT.succ ?_; intro v' I' oI' C' oC' D' m' h' tk' E' hv' hC' hx' F' N' off' _; (obtain ⟨t9', hv9'⟩ := hv'; subst hv9')) | refine LCt.CompRestT.zero ?_))
local macro_rules | `(tactic| walk_at "CompRest") => `(tactic| (with_unfolding_all first | (refine LCg.CompRest.succ ?_; intro v' I' oI' C' oC' D' m' h' tk' E' hv' hC' hx' F' N' off' _; lcg_open hv') | refine LCg.CompRest.zero ?_))
local macro_rules | `(tactic| walk_at "call builtin:min cons nil") => `(tactic| (k_here; k_dflt (first | (refine' Mine.min3 _ ?kh ?ku ?kf ?kn ?kl ?k1 ?k2 ?k3 ?k4 ?k5 ?k6 ?k7 ?_; (case kh => exact rfl); (case ku => k_units); (case kf => k_asm); (case kn => k_asm); (case kl => k_mem); (case k1 => k_mem); (case k2 => k_mem); (case k3 => k_mem); (case k4 => exact Mine.ne_m (by with_reducible assumption)); (case k5 => exact Mine.ne_mp (by with_reducible assumption)); (case k6 => exact Mine.ne_p (by with_reducible assumption)); (case k7 => exact Mine.law3 (by with_reducible assumption) (by with_reducible assumption) (by with_reducible assumption))) | (refine' Mine.min2 _ ?kh ?ku ?kf ?kn ?kl ?k1 ?k2 ?k4 ?k7 ?_; (case kh => exact rfl); (case ku => k_units); (case kf => k_asm); (case kn => k_asm); (case kl => k_mem); (case k1 => k_mem); (case k2 => k_mem); (case k4 => exact Mine.ne_m (by with_reducible assumption)); (case k7 => exact Mine.law_top (by with_reducible assumption) (by with_reducible assumption) (by with_reducible assumption))) | (refine' Mine.min2 _ ?kh ?ku ?kf ?kn ?kl ?k1 ?k2 ?k4 ?k7 ?_; (case kh => exact rfl); (case ku => k_units); (case kf => k_asm); (case kn => k_asm); (case kl => k_mem); (case k1 => k_mem); (case k2 => k_mem); (case k4 => exact Mine.ne_p (by with_reducible assumption)); (case k7 => exact Mine.law_low (by with_reducible assumption) (by with_reducible assumption)))); intro r a b t u v n d sl h' tk' F' N' hr'))
local macro_rules | `(tactic| walk_at "subscriptTail Call Name cons nil Constant ref int") => `(tactic| (k_here; k_dflt (refine' Mine.tup_third ?kn ?km ?ks ?_; (case kn => k_asm); (case km => with_reducible assumption); (case ks => with_unfolding_all rfl))))
local macro_rules | `(tactic| walk_at "binaryOp Pow int int") => `(tactic| (k_here; first | (with_reducible refine Mine.pow_62 ?_) | ((with_reducible refine' Mine.pow_wd ?kx ?_); (case kx => first | with_reducible assumption | exact Mine.Dig.d (by with_reducible assumption))) | ((with_reducible refine' Mine.pow_hf ?kx ?_); (case kx => first | with_reducible assumption | exact Mine.Dig.d (by with_reducible assumption)))))
local macro_rules | `(tactic| walk_at "compareOp NotEq int int") => `(tactic| (k_here; (with_reducible refine' Mine.ne_same ?kx ?_); (case kx => first | with_reducible rfl | with_reducible assumption)))
local macro_rules | `(tactic| walk_at "binaryOp LShift int int") => `(tactic| (k_here; first | (with_reducible refine Mine.shl_62 ?_) | ((with_reducible refine' Mine.shl_wd ?kx ?_); (case kx => first | with_reducible assumption | exact Mine.Dig.d (by with_reducible assumption)))))
local macro_rules | `(tactic| walk_at "binaryOp Mod int int") => `(tactic| (k_here; first | ((with_reducible refine' Mine.mod_wd_m ?kx ?_); (case kx => first | with_reducible assumption | exact Mine.Dig.d (by with_reducible assumption))) | ((with_reducible refine' Mine.mod_wd_as ?kx ?_); (case kx => first | with_reducible assumption | exact Mine.Dig.d (by with_reducible assumption))) | ((with_reducible refine' Mine.mod_wd_a ?kx ?_); (case kx => first | with_reducible assumption | exact Mine.Dig.d (by with_reducible assumption))) | ((with_reducible refine' Mine.mod_wd_s ?kx ?_); (case kx => first | with_reducible assumption | exact Mine.Dig.d (by with_reducible assumption))) | ((with_reducible refine' Mine.mod_wd ?kx ?_); (case kx => first | with_reducible assumption | exact Mine.Dig.d (by with_reducible assumption))) | ((with_reducible refine' Mine.mod_hf ?kx ?_); (case kx => first | with_reducible assumption | exact Mine.Dig.d (by with_reducible assumption)))))
local macro_rules | `(tactic| walk_at "binaryOp FloorDiv int int") => `(tactic| (k_here; first | ((with_reducible refine' Mine.half_wd ?kx ?_); (case kx => first | with_reducible assumption | exact Mine.Dig.d (by with_reducible assumption))) | ((with_reducible refine' Mine.div_wd ?kx ?_); (case kx => first | with_reducible assumption | exact Mine.Dig.d (by with_reducible assumption)))))
local macro_rules | `(tactic| walk_at "binaryOp BitAnd int int") => `(tactic| (k_here; first | ((with_reducible refine' Mine.andn_wd ?kx ?_); (case kx => first | with_reducible assumption | exact Mine.Dig.d (by with_reducible assumption)))))
local macro_rules | `(tactic| walk_at "binaryOp BitOr int int") => `(tactic| (k_here; first | ((with_reducible refine' Mine.or_wd ?kx ?_); (case kx => first | with_reducible assumption | exact Mine.Dig.d (by with_reducible assumption)))))
local macro_rules | `(tactic| walk_at "compareOp Lt int int") => `(tactic| (k_here; first | ((with_reducible refine' Mine.lt_t ?kx ?_); (case kx => omega)) | ((with_reducible refine' Mine.lt_f ?kx ?_); (case kx => omega))))
local macro_rules | `(tactic| walk_at "compareOp Gt int int") => `(tactic| (k_here; first | ((with_reducible refine' Mine.gt_t ?kx ?_); (case kx => omega)) | ((with_reducible refine' Mine.gt_f ?kx ?_); (case kx => omega))))
local macro_rules | `(tactic| walk_at "compareOp Eq int int") => `(tactic| (k_here; first | ((with_reducible refine' Mine.eq_t ?kx ?_); (case kx => with_reducible rfl)) | ((with_reducible refine' Mine.eq_t ?kx ?_); (case kx => omega)) | ((with_reducible refine' Mine.eq_f ?kx ?_); (case kx => omega))))
local macro_rules | `(tactic| walk_at "compareOp NotEq int int") => `(tactic| (k_here; first | ((with_reducible refine' Mine.ne_f ?kx ?_); (case kx => with_reducible rfl)) | ((with_reducible refine' Mine.ne_t ?kx ?_); (case kx => omega)) | ((with_reducible refine' Mine.ne_f ?kx ?_); (case kx => omega))))
local macro_rules | `(tactic| walk_at "compareOp LtE int int") => `(tactic| (k_here; first | ((with_reducible refine' Mine.le_t ?kx ?_); (case kx => omega)) | ((with_reducible refine' Mine.le_f ?kx ?_); (case kx => omega))))
local macro_rules | `(tactic| walk_at "compareOp GtE int int") => `(tactic| (k_here; first | ((with_reducible refine' Mine.ge_t ?kx ?_); (case kx => omega)) | ((with_reducible refine' Mine.ge_f ?kx ?_); (case kx => omega))))
local macro_rules | `(tactic| walk_at "call builtin:isinstance cons nil") => `(tactic| (k_here; first | ((with_reducible show wpAny _ _ (call _ [Value.ref _, Value.type _]) _ _ _); k_dflt (refine' kia_one (kitx_own ?k4 ?k5 ?k6 ?k7 ?k8 ?k9) ?X ?I ?ee ?nb ?_; (case X => k_in); (case I => k_inst); (case ee => kit_is); (case nb => kit_nb); (case k4 => k_is); (case k5 => k_is); (case k6 => k_is); (case k7 => k_is); (case k8 => k_is); (case k9 => k_is); k_whole; intro _)) | ((with_reducible show wpAny _ _ (call _ [Value.ref _, Value.ref _]) _ _ _); k_dflt (refine' isi_call ?k1 ?k2 ?k3 ?k4 ?_; (case k1 => k_in); (case k2 => k_types); (case k3 => k_is); (case k4 => intro e; cases e); k_whole))))
local macro_rules | `(tactic| k_in) => `(tactic| first | with_reducible assumption | (refine' Frag.In.keeps ?kina (Fr.keep ?kinb); (case kinb => with_reducible assumption); (case kina => with_reducible assumption)))
local macro_rules | `(tactic| walk_at "exec Raise some none") => `(tactic| (k_here; (with_reducible show wpAny _ _ (exec (Stmt.Raise (some (Expr.Name ("ValueError" : Str) _)) none _) _) _ _ _); (with_reducible rename Fr _ _ _ _ => kF); k_dflt (refine' Raise_classB ?hh excClass_ValueError ?hs ?hx ?_; (case hh => rfl); (case hs => (rw [isSubtype_type]; kernel_rfl)); (case hx => (refine' name_B kF ?k1 ?k2 ?k3 ?k4 ?k5 ?_; (case k1 => k_asm); (case k2 => k_asm); (case k3 => k_is); (case k4 => boot_by_name); (case k5 => decide); exact ⟨rfl, rfl⟩)); intro h' e' X')))
local macro_rules | `(tactic| walk_at "PassesOwn") => `(tactic| with_reducible assumption)
local macro_rules | `(tactic| walk_at "noteFrame ref") => `(tactic| (k_here; (with_reducible rename RaisedN _ _ _ _ _ _ => rkX); k_dflt (refine' Mine.caught_cells (T' := "ValueError") ?kB ?kF ?kU rkX ?kK ?kT ?k3 PyProof.Rows.Boot.«ValueError» ?kn PySem.F.isExc_ValueError PySem.F.notTuple_ValueError ?ks ?kE ?_; (case kB => with_reducible assumption); (case kU => with_reducible assumption); (case kF => with_reducible assumption); (case kK => with_reducible assumption); (case kT => k_asm); (case k3 => k_is); (case kn => decide); (case ks => (rw [isSubtype_type]; kernel_rfl)); (case kE => ((with_reducible rename (∀ v, PassesOwnAt _ _ _ _ _) => hV); with_reducible exact hV _))); intro h' F' N'; (try k_sweep)))
local macro_rules | `(tactic| walk_at "pyIter ref") => `(tactic| (k_here; (with_reducible show wpAny _ _ (pyIter (Value.ref _)) (fun it s₂ => TurnsAt _ _ _ _ _ _ _ _ _ it s₂) _ _); ktu_seq))
theorem segR_ok {w : World} {h₀ : Heap} {mg mb : Str → Option Value} {mean : ExcName → Option Value} {fa : Addr} {ccd : Value}
    (T : Top Mine.hd.view_39 (looseW Mine.hd.view_39 []) mean mg mb h₀) (KX : (Mine.hd.heap_39 w.params).In h₀) (K0 : Below callerA h₀ [] h₀) (hMk : KstMark)
    {s : Shared} {a b D g : Int} {l : Addr} {ol : Obj} (hD : Dg D)
    (hm : Inv h₀ h₀.objs.size [(l, ol)] a b D g s.heap) (hl0 : h₀.objs.size + 1 + 1 + 1 < l)
    {Q : Flow → Shared → Prop} {E : Value → Shared → Prop}
    (hE : PassesOwn (model PySem.Challenge.rw_vq0011_01.row.prog w) (lawA h₀.objs.size fa ccd) (lawEnv h₀.objs.size fa ccd) E)
    (hE2 : ∀ v, PassesOwnAt (model PySem.Challenge.rw_vq0011_01.row.prog w) ((lawA h₀.objs.size fa ccd).mark v) (lawA h₀.objs.size fa ccd) (lawEnv h₀.objs.size fa ccd) E)
    (hN : ∀ h' tk' m', Fr h₀ h₀.objs.size h' m' → Q (.ret (.bool true)) { s with heap := h', toks := tk' }) :
    wpAny (model PySem.Challenge.rw_vq0011_01.row.prog w) (lawA h₀.objs.size fa ccd) (execs tailBody (lawEnv h₀.objs.size fa ccd)) Q E s := by
  revert KX; k_fill; intro KX
  w_on
  obtain ⟨m, oa, oe, ow, F, ⟨⟨ta, ea⟩, ⟨tb, eb⟩, ⟨td, ed⟩, ⟨th, eh⟩, ⟨tg, eg⟩⟩, N, ⟨tw, ew⟩, ⟨ve, ee⟩, ⟨va, eva⟩⟩ := hm
  have hps : ∀ p ∈ [((Str.ofString "b" : Str), Value.int b tb), ("digits", .int D td), ("half", .int (hf D) th)], m p.1 = some p.2 := by
    simp only [List.forall_mem_cons, List.not_mem_nil, false_implies, implies_true, and_true]
    exact ⟨eb, ed, eh⟩
  have F1 := fr_are _ F hps
  dsimp only [kstB] at F1
  clear F
  replace hl0 := ltN hl0
  have hW := hD.w
  have hlo := hD.lo
  have hb0 : 0 ≤ b.fmod 1000 := Int.fmod_nonneg_of_pos b (by decide)
  have hb1 : b.fmod 1000 < 1000 := Int.fmod_lt_of_pos b (by decide)
  dsimp only [led] at N
  dsimp only [lawA, lawEnv, tailBody, lawBody, bodyOf, lawStmt, lawScope, scopeOf, PySem.Challenge.pw_vq0011_01]
  dsimp only [lawA, lawEnv, lawBody, bodyOf, lawStmt, lawScope, scopeOf, PySem.Challenge.pw_vq0011_01] at hE hE2
  repeat' (first | walk1 | (dsimp only; walk1))
  all_goals (try dsimp only)
  rename Fr _ _ _ _ => fE
  exact hN _ _ _ fE
end Mine
end
section
/-! STurn -/
open PySem PySem.W PyProof.Rows
namespace Mine
theorem turn_ok {w : World} {h₀ : Heap} {mg mb : Str → Option Value} {mean : ExcName → Option Value} {fa : Addr} {ccd : Value}
    (T : Top Mine.hd.view_39 (looseW Mine.hd.view_39 []) mean mg mb h₀) (KX : (Mine.hd.heap_39 w.params).In h₀) (K0 : Below callerA h₀ [] h₀) (hMk : KstMark)
    {s : Shared} {m : Str → Option Value} {n g D a b : Int} {t : Tok} {ow oe oa : Obj} {I l : Addr} {oI ol : Obj} {h : Heap} {tk : Nat} (hD : Dg D)
    (hg0 : -1 ≤ g) (hg1 : g < 4611686018427387904) (hL : Loc0 m a b D g) (hw : celI ow (wd D)) (he : celA oe) (ha : celA oa)
    (F : Fr h₀ h₀.objs.size h (fun y => if y = Str.ofString "x" then some (.int n t) else m y))
    (N : News h₀ h₀.objs.size h (led h₀.objs.size oa oe ow [(I, oI), (l, ol)])) (hl3 : h₀.objs.size + 1 + 1 + 1 < l) (hlI : l < I)
    {Q : Flow → Shared → Prop} {E : Value → Shared → Prop}
    (done : ∀ g h tk, Inv h₀ h₀.objs.size [(l, ol)] a b D g h → Q .next { s with heap := h, toks := tk }) :
    wpAny (model PySem.Challenge.rw_vq0011_01.row.prog w) (lawA h₀.objs.size fa ccd) (execs loopBody (lawEnv h₀.objs.size fa ccd)) (Turn h₀ h₀.objs.size [(I, oI), (l, ol)] a b D s Q) E { s with heap := h, toks := tk } := by
  have h1 : h₀.objs.size + 1 < l := Nat.lt_trans (Nat.lt_add_of_pos_right (k := 2) (by decide)) hl3
  have h2 : h₀.objs.size + 1 + 1 < l := Nat.lt_trans (Nat.lt_succ_self _) hl3
  have hOff : off h₀.objs.size [(I, oI), (l, ol)] := by
    intro p hp q hq e
    simp only [List.mem_cons, List.not_mem_nil, or_false] at hp hq
    rcases hp with rfl | rfl <;> rcases hq with rfl | rfl | rfl <;> dsimp only at e <;> subst e
    · exact absurd (Nat.lt_trans hl3 hlI) (Nat.lt_irrefl _)
    · exact absurd (Nat.lt_trans h2 hlI) (Nat.lt_irrefl _)
    · exact absurd (Nat.lt_trans h1 hlI) (Nat.lt_irrefl _)
    · exact absurd hl3 (Nat.lt_irrefl _)
    · exact absurd h2 (Nat.lt_irrefl _)
    · exact absurd h1 (Nat.lt_irrefl _)
  rw [loop_cut]
  refine execs_app (segA_ok T KX K0 hMk (x := n) hD hg0 hg1 hw he ha F ⟨t, if_pos rfl⟩ (hL.set (by decide)) hOff N ?_ ?_)
  · intro h' tk' hi
    exact done g h' tk' (hi.cut fun p hp => .tail _ hp)
  · intro st h' tk' hok hm
    refine execs_app (segB_ok (s := { s with heap := h', toks := tk' }) T KX K0 hMk hok hm hOff ?_)
    intro h' tk' hm
    refine execs_app (segC_ok (s := { s with heap := h', toks := tk' }) T KX K0 hMk hok hm hl3 hlI ?_)
    intro h' tk' hm
    refine segD_ok (s := { s with heap := h', toks := tk' }) T KX K0 hMk hok hm hl3 hlI ?_
    intro g' h' tk' h1 h2 hi
    exact ⟨rfl, h', tk', g', rfl, h1, h2, hi⟩
theorem loop_rest {w : World} {h₀ : Heap} {mg mb : Str → Option Value} {mean : ExcName → Option Value} {fa : Addr} {ccd : Value}
    (T : Top Mine.hd.view_39 (looseW Mine.hd.view_39 []) mean mg mb h₀) (KX : (Mine.hd.heap_39 w.params).In h₀) (K0 : Below callerA h₀ [] h₀) (hMk : KstMark)
    {s : Shared} {m₀ : Str → Option Value} {g₀ D a b : Int} {ow oe oa : Obj} {l : Addr} {vs : List Value} {ns : List Int} {nn : Nat} (hD : Dg D)
    (hi : IntsAre vs ns) (F : Fr h₀ h₀.objs.size s.heap m₀) (N : News h₀ h₀.objs.size s.heap (led h₀.objs.size oa oe ow [(l, listOf vs.toArray nn)]))
    (hw : celI ow (wd D)) (he : celA oe) (ha : celA oa) (hL : Loc0 m₀ a b D g₀) (hg0 : -1 ≤ g₀) (hg1 : g₀ < 4611686018427387904)
    (hl3 : h₀.objs.size + 1 + 1 + 1 < l) {Q : Flow → Shared → Prop} {E : Value → Shared → Prop}
    (hE : PassesOwn (model PySem.Challenge.rw_vq0011_01.row.prog w) (lawA h₀.objs.size fa ccd) (lawEnv h₀.objs.size fa ccd) E)
    (hE2 : ∀ v, PassesOwnAt (model PySem.Challenge.rw_vq0011_01.row.prog w) ((lawA h₀.objs.size fa ccd).mark v) (lawA h₀.objs.size fa ccd) (lawEnv h₀.objs.size fa ccd) E)
    (fin : ∀ h' tk' m', Fr h₀ h₀.objs.size h' m' → Q (.ret (.bool true)) { s with heap := h', toks := tk' }) :
    wpAny (model PySem.Challenge.rw_vq0011_01.row.prog w) (lawA h₀.objs.size fa ccd) (pyIter (.ref l))
      (fun it s₂ => LoopAtV PySem.Challenge.rw_vq0011_01.row.prog w (lawA h₀.objs.size fa ccd) h₀ (lawEnv h₀.objs.size fa ccd) (Str.ofString "x") loopBody
        (fun f s' => match f with
          | .next => wpAny (model PySem.Challenge.rw_vq0011_01.row.prog w) (lawA h₀.objs.size fa ccd) (execs tailBody (lawEnv h₀.objs.size fa ccd)) Q E s'
          | f => Q f s') E it s₂) E s := by
  have done : ∀ g h tk, Inv h₀ h₀.objs.size [(l, listOf vs.toArray nn)] a b D g h → wpAny (model PySem.Challenge.rw_vq0011_01.row.prog w) (lawA h₀.objs.size fa ccd) (execs tailBody (lawEnv h₀.objs.size fa ccd)) Q E { s with heap := h, toks := tk } := by
    intro g h tk hi
    exact segR_ok (s := { s with heap := h, toks := tk }) T KX K0 hMk hD hi hl3 hE hE2 fun h' tk' m' F => fin h' tk' m' F
  refine loop_ok rfl hi F N hw he ha hL hg0 hg1 hl3 ?_ done
  intro n t I oI m oa oe ow g h tk hlI hg0 hg1 hL hw he ha F N
  exact turn_ok T KX K0 hMk hD hg0 hg1 hL hw he ha F N hl3 hlI done
end Mine
end
section
/-! SZ -/
open PySem PySem.W PyProof.Rows
local macro_rules | `(tactic| walk_at "ite") => `(tactic| (k_here; k_openite; first | (refine ite_pos (by with_reducible assumption) ?_) | (refine ite_neg (by with_reducible assumption) ?_) | (refine ite_isFalse (by with_reducible assumption) ?_) | (k_spoken; first | (refine ite_pos (by ((try simp only [Bool.not_eq_true, Bool.not_eq_false, Bool.not_eq_true', Bool.not_eq_false', decide_eq_true_eq, decide_eq_false_iff_not]); omega)) ?_) | (refine ite_neg (by ((try simp only [Bool.not_eq_true, Bool.not_eq_false, Bool.not_eq_true', Bool.not_eq_false', decide_eq_true_eq, decide_eq_false_iff_not]); omega)) ?_)) | (refine Mine.ite_split ?_ ?_ <;> (intro hc; try simp only [Bool.not_eq_true, Bool.not_eq_false, Bool.not_eq_true', Bool.not_eq_false', decide_eq_true_eq, decide_eq_false_iff_not] at hc))))
local macro_rules | `(tactic| walk_at "execs cons") => `(tactic| (k_here; (try dsimp only); (try ((with_reducible refine Mine.gen_toks ?_); intro tk)); (try (rename News _ _ _ _ => nZ; dsimp only at nZ)); (try (rename Fr _ _ _ _ => fZ; dsimp only at fZ)); refine wpAny_execs_cons ?_))
local macro_rules | `(tactic| walk_at "subscriptTail BinOp") => `(tactic| (k_here; refine Mine.turn_any ?_))
local macro_rules | `(tactic| walk_at "subscriptTail List cons BinOp ref int") => `(tactic| (k_here; (with_unfolding_all refine' Mine.menu_any ?k1 ?k2 ?k3 ?k4 ?_); (case k1 => is_list); (case k2 => (try k_fmods); omega); (case k3 => (try k_fmods); omega); (case k4 => with_unfolding_all rfl); intro D t hD))
local macro_rules | `(tactic| walk_at "exec Assign cons ListComp") => `(tactic| (k_here; lct_look; k_dflt (refine LCt.Assign_ListComp_T (F₀ := by k_asm) (by rfl) (by with_unfolding_all rfl) (by with_unfolding_all rfl) (by decide) (by rfl) (by decide) (by rfl) (by rfl) (by rfl) ?_)))
local macro_rules | `(tactic| walk_at "CompSrcT") => `(tactic| (k_here; k_dflt (refine LCt.CompSrcT.range (n := 3) (by rfl) (by k_asm) (by k_asm) (by assumption) (small_one (by omega) (by omega) (by omega) (by omega)) (Mine.rs3 _) (by decide) ?_; intro g')))
local macro_rules | `(tactic| walk_at "binaryOp Mult int int") => `(tactic| (k_here; first | ((with_reducible refine' Mine.mul_m ?kx ?ke ?_); (case kx => with_reducible assumption); (case ke => omega)) | ((with_reducible refine' Mine.mul_z ?kx ?ke ?_); (case kx => with_reducible assumption); (case ke => omega)) | ((with_reducible refine' Mine.mul_p ?kx ?ke ?_); (case kx => with_reducible assumption); (case ke => omega))))
local macro_rules | `(tactic| walk_at "eval ListComp Tuple cons") => `(tactic| (k_here; k_dflt (refine LCg.ListComp_U (F₀ := by k_asm) (by with_unfolding_all rfl) (by decide) (by rfl) (by decide) (by rfl) ?_)))
local macro_rules | `(tactic| walk_at "CompSrc") => `(tactic| (k_here; k_dflt (refine LCg.CompSrc.ledger (by rfl) (by k_asm) (by k_asm) (by k_mem) (by first | size_fits | exact Nat.le_of_ble_eq_true rfl) ?_; intro g'; lcg_lit)))
local macro_rules | `(tactic| walk_at "call ref cons nil") => `(tactic| (k_here; k_call_by "decode_packet_number" Mine.dec Mine.Dig))
local macro_rules | `(tactic| walk_at "CompEnd") => `(tactic| (k_here; k_dflt (first | (refine' Mine.comp_same ?kf ?kn ?ko ?ks ?_; (case kf => k_asm); (case kn => with_reducible assumption); (case ko => with_reducible assumption); (case ks => lcg_src)) | (refine' Mine.comp_one ?kf ?kn ?ko ?kl ?ks ?_; (case kf => k_asm); (case kn => with_reducible assumption); (case ko => with_reducible assumption); (case kl => with_reducible assumption); (case ks => lcg_src)))))
local macro_rules | `(tactic| walk_at "CompRestT") => `(tactic| (with_unfolding_all first | (refine LCt.CompRestT.succ ?_; intro v' I' oI' C' oC' D' m' h' tk' E' hv' hC' hx' F' N' off' _; (obtain ⟨t9', hv9'⟩ := hv'; subst hv9')) | refine LCt.CompRestT.zero ?_))
local macro_rules | `(tactic| walk_at "CompRest") => `(tactic| (with_unfolding_all first | (refine LCg.CompRest.succ ?_; intro v' I' oI' C' oC' D' m' h' tk' E' hv' hC' hx' F' N' off' _; lcg_open hv') | refine LCg.CompRest.zero ?_))
local macro_rules | `(tactic| walk_at "call builtin:min cons nil") => `(tactic| (k_here; k_dflt (first | (refine' Mine.min3 _ ?kh ?ku ?kf ?kn ?kl ?k1 ?k2 ?k3 ?k4 ?k5 ?k6 ?k7 ?_; (case kh => exact rfl); (case ku => k_units); (case kf => k_asm); (case kn => k_asm); (case kl => k_mem); (case k1 => k_mem); (case k2 => k_mem); (case k3 => k_mem); (case k4 => exact Mine.ne_m (by with_reducible assumption)); (case k5 => exact Mine.ne_mp (by with_reducible assumption)); (case k6 => exact Mine.ne_p (by with_reducible assumption)); (case k7 => exact Mine.law3 (by with_reducible assumption) (by with_reducible assumption) (by with_reducible assumption))) | (refine' Mine.min2 _ ?kh ?ku ?kf ?kn ?kl ?k1 ?k2 ?k4 ?k7 ?_; (case kh => exact rfl); (case ku => k_units); (case kf => k_asm); (case kn => k_asm); (case kl => k_mem); (case k1 => k_mem); (case k2 => k_mem); (case k4 => exact Mine.ne_m (by with_reducible assumption)); (case k7 => exact Mine.law_top (by with_reducible assumption) (by with_reducible assumption) (by with_reducible assumption))) | (refine' Mine.min2 _ ?kh ?ku ?kf ?kn ?kl ?k1 ?k2 ?k4 ?k7 ?_; (case kh => exact rfl); (case ku => k_units); (case kf => k_asm); (case kn => k_asm); (case kl => k_mem); (case k1 => k_mem); (case k2 => k_mem); (case k4 => exact Mine.ne_p (by with_reducible assumption)); (case k7 => exact Mine.law_low (by with_reducible assumption) (by with_reducible assumption)))); intro r a b t u v n d sl h' tk' F' N' hr'))
local macro_rules | `(tactic| walk_at "subscriptTail Call Name cons nil Constant ref int") => `(tactic| (k_here; k_dflt (refine' Mine.tup_third ?kn ?km ?ks ?_; (case kn => k_asm); (case km => with_reducible assumption); (case ks => with_unfolding_all rfl))))
local macro_rules | `(tactic| walk_at "binaryOp Pow int int") => `(tactic| (k_here; first | (with_reducible refine Mine.pow_62 ?_) | ((with_reducible refine' Mine.pow_wd ?kx ?_); (case kx => first | with_reducible assumption | exact Mine.Dig.d (by with_reducible assumption))) | ((with_reducible refine' Mine.pow_hf ?kx ?_); (case kx => first | with_reducible assumption | exact Mine.Dig.d (by with_reducible assumption)))))
local macro_rules | `(tactic| walk_at "compareOp NotEq int int") => `(tactic| (k_here; (with_reducible refine' Mine.ne_same ?kx ?_); (case kx => first | with_reducible rfl | with_reducible assumption)))
local macro_rules | `(tactic| walk_at "binaryOp LShift int int") => `(tactic| (k_here; first | (with_reducible refine Mine.shl_62 ?_) | ((with_reducible refine' Mine.shl_wd ?kx ?_); (case kx => first | with_reducible assumption | exact Mine.Dig.d (by with_reducible assumption)))))
local macro_rules | `(tactic| walk_at "binaryOp Mod int int") => `(tactic| (k_here; first | ((with_reducible refine' Mine.mod_wd_m ?kx ?_); (case kx => first | with_reducible assumption | exact Mine.Dig.d (by with_reducible assumption))) | ((with_reducible refine' Mine.mod_wd_as ?kx ?_); (case kx => first | with_reducible assumption | exact Mine.Dig.d (by with_reducible assumption))) | ((with_reducible refine' Mine.mod_wd_a ?kx ?_); (case kx => first | with_reducible assumption | exact Mine.Dig.d (by with_reducible assumption))) | ((with_reducible refine' Mine.mod_wd_s ?kx ?_); (case kx => first | with_reducible assumption | exact Mine.Dig.d (by with_reducible assumption))) | ((with_reducible refine' Mine.mod_wd ?kx ?_); (case kx => first | with_reducible assumption | exact Mine.Dig.d (by with_reducible assumption))) | ((with_reducible refine' Mine.mod_hf ?kx ?_); (case kx => first | with_reducible assumption | exact Mine.Dig.d (by with_reducible assumption)))))
local macro_rules | `(tactic| walk_at "binaryOp FloorDiv int int") => `(tactic| (k_here; first | ((with_reducible refine' Mine.half_wd ?kx ?_); (case kx => first | with_reducible assumption | exact Mine.Dig.d (by with_reducible assumption))) | ((with_reducible refine' Mine.div_wd ?kx ?_); (case kx => first | with_reducible assumption | exact Mine.Dig.d (by with_reducible assumption)))))
local macro_rules | `(tactic| walk_at "binaryOp BitAnd int int") => `(tactic| (k_here; first | ((with_reducible refine' Mine.andn_wd ?kx ?_); (case kx => first | with_reducible assumption | exact Mine.Dig.d (by with_reducible assumption)))))
local macro_rules | `(tactic| walk_at "binaryOp BitOr int int") => `(tactic| (k_here; first | ((with_reducible refine' Mine.or_wd ?kx ?_); (case kx => first | with_reducible assumption | exact Mine.Dig.d (by with_reducible assumption)))))
theorem PySem.Challenge.cw_vq0011_01_holds : PySem.Challenge.rw_vq0011_01.Holds := by
  refine Mine.hd ?_
  w_on
  w_strict (k_go0; (all_goals try k_fold); iterate 27 walk1)
  obtain ⟨a, ta, b, tb, e⟩ := Mine.two_of (by assumption)
  subst e
  repeat' ((fail_if_success (with_reducible show wpAny _ _ (exec (Stmt.For _ _ _ _ _) _) _ _ _)); first | (k_unfold; (try dsimp only)) | walk1 | (dsimp only; walk1))
  rename Fr _ _ _ _ => lF'
  with_unfolding_all refine' For_invVF lF' ?k1 ?k2 ?_
  case k1 => exact rfl
  case k2 => exact rfl
  repeat' ((fail_if_success (with_reducible show wpAny _ _ (pyIter _) _ _ _)); first | (k_unfold; (try dsimp only)) | walk1 | (dsimp only; walk1))
  rename News _ _ _ _ => lN
  rename Fr _ _ _ _ => lF
  rename IntsAre _ _ => lI
  rename _ ∧ _ => lA
  rename Mine.Dg _ => lD
  refine' Mine.loop_rest (a := a) (b := b) ?T ?KX ?K0 kstMark lD lI lF (kst_newsOf lN (l' := Mine.led _ _ _ _ _) ?n) ⟨_, ?cw⟩ ⟨_, ?ce⟩ ⟨_, ?ca⟩ ?hL ?g0 ?g1 ?l3 ?hE ?hE2 ?fin
  case T => assumption
  case KX => assumption
  case K0 => assumption
  case hL => exact ⟨⟨_, by with_unfolding_all rfl⟩, ⟨_, by with_unfolding_all rfl⟩, ⟨_, by with_unfolding_all rfl⟩, ⟨_, by with_unfolding_all rfl⟩, ⟨_, by with_unfolding_all rfl⟩⟩
  case n => (dsimp only [Mine.led]; kst_inAny)
  case cw => assumption
  case ce => assumption
  case ca => assumption
  case g0 =>
    have := Int.fmod_nonneg_of_pos b (b := 4611686018427387904) (by decide)
    omega
  case g1 =>
    have := Int.fmod_lt_of_pos b (b := 4611686018427387904) (by decide)
    omega
  case l3 => exact lA.2.2.2.2.2.2.2.2.2.2.1
  case hE => with_unfolding_all passes_own
  case hE2 => (intro v; with_unfolding_all passes_own)
  case fin =>
    intro h' tk' m' F'
    k_steps
end
