import PyProof.Rows.All
import Wide.All
import OpenK.AllK
import Wide.FinOn
import PySem.Challenge.RW_ny0466_01
set_option Elab.async false
section
open PySem PySem.W PyProof.Rows
set_option maxRecDepth 100000
set_option maxHeartbeats 8000000
namespace Mine
open_top hd for PySem.Challenge.rw_ny0466_01
end Mine
end
section
open PySem PySem.W PyProof.Rows PySem.Calls
set_option maxRecDepth 100000
set_option maxHeartbeats 8000000
namespace Mine

abbrev PR : PySem.Program := PySem.Challenge.rw_ny0466_01.row.prog

abbrev tup2 (a b : Int) (t u : Tok) : Obj := { cls := .type "tuple", data := .seq #[.int a t, .int b u] }

theorem d21s {w : World} {dp un : Nat} {gd : Option (List Code)} {cn : Str} {cs : Scope} {af : Addr} {ccd : Value} {cl : List (Str × Addr)} {A₀ : Around} {E : Value → Shared → Prop} {s : Shared} {L : Addr} {h₀ base : Heap} {m mg mb : Str → Option Value} {news : List (Addr × Obj)} {p : PySem.Program} {loose : List Str} {mean : ExcName → Option Value} {Q : Value → Shared → Prop} {outer : List Env}
    {a b n : Int} {ta tb tn : Tok}
    (B : Below A₀ base outer h₀) (F : Fr h₀ L s.heap m) (X : (Mine.hd.heap_39 w.params).In h₀) (N : News h₀ L s.heap news) (T : Top p loose mean mg mb h₀)
    (hk : cs.kind = .function) (hd : dp + 1 < recursionLimit) (hu : un + 10 < cLine)
    (hb : 0 < b) (hsm : (Builtin.Int.intBits a : Int) - n ≤ 4000) (hpl : Builtin.divisionGoesByPylong a b = false)
    (ret : ∀ t h' tk' t1 t2 q r, q = a / b → r = a % b → Fr h₀ L h' m → News h₀ L h' ((t, tup2 q r t1 t2) :: news) → (∀ p ∈ news, p.1 < t) → Q (.ref t) { s with heap := h', toks := tk' }) :
    wpAny (model PySem.Challenge.rw_ny0466_01.row.prog w) (ktrTop dp un gd cn cs L af ccd cl outer) (call (.ref 21) [.int a ta, .int b tb, .int n tn]) Q E s := by
  revert X; k_fill; intro X
  refine wpAny_call ?_
  refine' code_def (binds := [("a", .int a ta), ("b", .int b tb), ("n", .int n tn)]) B F X N T rfl rfl hk ?k6 ?k7 ?k8 ?k9 ?kB ?_ ?c2 ?c3 ?c4 ?c5
  case k6 => k_is
  case k7 => k_is
  case k8 => dsimp only; omega
  case k9 => exact BindsTo.of_eq rfl
  case kB => exact locs rfl
  case c2 => exact rfl
  case c3 => exact rfl
  case c4 => exact rfl
  case c5 => decide
  intro g' L' h' FG' F' N' B' X' T'
  dsimp only
  k_fold
  k_steps
  refine divmod_N F' N' (by omega) ?_ (Or.inl hpl)
  intro h2 F2 N2
  have lt2 : ∀ p ∈ news, p.1 < h'.objs.size := fun p hp => Heap.lt_size (N' p hp).1
  k_steps
  exact ret _ _ _ _ _ _ _ (Int.fdiv_eq_ediv_of_nonneg _ (Int.le_of_lt hb)) (Int.fmod_eq_emod_of_nonneg _ (Int.le_of_lt hb)) (by k_asm) (by k_asm) lt2
end Mine
end
section
open PySem PySem.W PyProof.Rows
namespace Mine
open Builtin.Int (intBits)

theorem two_pow_pos (n : Nat) : (0 : Int) < 2 ^ n := Int.pow_pos (by decide)
theorem two_pow_cast (n : Nat) : ((2 ^ n : Nat) : Int) = (2 : Int) ^ n := by simp

theorem bits_le {m : Nat} {x : Int} (h0 : 0 ≤ x) (h : x < 2 ^ m) : intBits x ≤ m := by
  rw [intBits_le_iff]
  have e := two_pow_cast m
  omega
theorem lt_of_bits {m : Nat} {x : Int} (h : intBits x ≤ m) : x < 2 ^ m := by
  have := intBits_le_iff.mp h
  have e := two_pow_cast m
  omega
theorem bits_le_iff {m : Nat} {x : Int} (h0 : 0 ≤ x) : intBits x ≤ m ↔ x < 2 ^ m := ⟨lt_of_bits, bits_le h0⟩
theorem pow_mono {m n : Nat} (h : m ≤ n) : (2 : Int) ^ m ≤ 2 ^ n := by
  have := Nat.pow_le_pow_right (n := 2) (by decide) h
  have e := two_pow_cast m
  have e' := two_pow_cast n
  omega
theorem pow_lt {m n : Nat} (h : m < n) : (2 : Int) ^ m < 2 ^ n := by
  have := Nat.pow_lt_pow_right (a := 2) (by decide) h
  have e := two_pow_cast m
  have e' := two_pow_cast n
  omega
theorem shl_ok {m : Nat} {x : Int} {n : Nat} (h0 : 0 ≤ x) (h : x < 2 ^ m) (hm : m + n ≤ 10000000) : (intBits x : Int) + n ≤ 2 ^ 27 := by
  have := bits_le h0 h
  have e : (2 : Int) ^ 27 = 134217728 := by decide
  omega
theorem mul_ok {m n : Nat} {x y : Int} (hx : 0 ≤ x) (hx' : x < 2 ^ m) (hy : 0 ≤ y) (hy' : y < 2 ^ n) (hm : m ≤ 100000) (hn : n ≤ 100000) : IntMulOk x y := by
  have h1 := bits_le hx hx'
  have h2 := bits_le hy hy'
  have e : (2 : Nat) ^ 20 = 1048576 := by decide
  exact IntMulOk.of_bits (by omega) (by omega)
theorem noPy {x y : Int} {m : Nat} (hy : 0 ≤ y) (h : y < 2 ^ m) (hm : m ≤ 9000) : Builtin.divisionGoesByPylong x y = false := by
  refine PyProof.noPylong_of_log2 ?_
  by_cases h0 : y.natAbs = 0
  · rw [h0]; decide +kernel
  · refine Nat.lt_of_lt_of_le ((Nat.log2_lt h0 (k := m)).mpr ?_) hm
    have e := two_pow_cast m
    omega
theorem fdiv_pos {x y : Int} (hy : 0 ≤ y) : x.fdiv y = x / y := Int.fdiv_eq_ediv_of_nonneg x hy
theorem fmod_pos {x y : Int} (hy : 0 ≤ y) : x.fmod y = x % y := Int.fmod_eq_emod_of_nonneg x hy

theorem and_mask {x : Int} (n : Nat) (hx : 0 ≤ x) : Builtin.bitAnd x (2 ^ n - 1) = x % 2 ^ n := by
  have h1 := two_pow_pos n
  rw [bitAnd_pp hx (by omega)]
  have e : ((2 : Int) ^ n - 1).toNat = 2 ^ n - 1 := by have := two_pow_cast n; omega
  rw [e, Nat.and_two_pow_sub_one_eq_mod]
  have h2 : ((x.toNat : Nat) : Int) = x := Int.toNat_of_nonneg hx
  rw [Int.natCast_emod, h2, two_pow_cast]
theorem and_disj {x y : Int} (n : Nat) (hx : 0 ≤ x) (hy : 0 ≤ y) (hy' : y < 2 ^ n) : Builtin.bitAnd (x * 2 ^ n) y = 0 := by
  have h1 := two_pow_pos n
  rw [bitAnd_pp (Int.mul_nonneg hx (by omega)) hy]
  have e : (x * 2 ^ n).toNat = 2 ^ n * x.toNat := by
    have h2 : ((x.toNat : Nat) : Int) = x := Int.toNat_of_nonneg hx
    have : (x * 2 ^ n) = ((2 ^ n * x.toNat : Nat) : Int) := by rw [Int.natCast_mul, h2, two_pow_cast, Int.mul_comm]
    rw [this]; exact Int.toNat_natCast _
  rw [e]
  have h3 : y.toNat < 2 ^ n := by have := two_pow_cast n; omega
  have : (2 ^ n * x.toNat) &&& y.toNat = 0 := by
    apply Nat.eq_of_testBit_eq
    intro i
    rw [Nat.testBit_and, Nat.zero_testBit, Nat.testBit_two_pow_mul]
    by_cases hi : n ≤ i
    · have : y.toNat.testBit i = false := Nat.testBit_lt_two_pow (Nat.lt_of_lt_of_le h3 (Nat.pow_le_pow_right (by decide) hi))
      simp [this]
    · simp [hi]
  rw [this]; rfl
theorem or_disj {x y : Int} (n : Nat) (hx : 0 ≤ x) (hy : 0 ≤ y) (hy' : y < 2 ^ n) : Builtin.bitOr (x * 2 ^ n) y = x * 2 ^ n + y := by
  rw [bitOr_and, and_disj n hx hy hy']; omega
theorem xor_low {x : Int} (n : Nat) (hx : 0 ≤ x) : Builtin.bitXor x (x / 2 ^ n * 2 ^ n) = x % 2 ^ n := by
  have h1 := two_pow_pos n
  have h2 : 0 ≤ x / 2 ^ n := Int.ediv_nonneg hx (by omega)
  have h3 : 0 ≤ x % 2 ^ n := Int.emod_nonneg _ (by omega)
  have h4 : x % 2 ^ n < 2 ^ n := Int.emod_lt_of_pos _ h1
  have e : x = x / 2 ^ n * 2 ^ n + x % 2 ^ n := by have := Int.mul_ediv_add_emod x (2 ^ n); rw [Int.mul_comm] at this; omega
  have h5 : Builtin.bitAnd x (x / 2 ^ n * 2 ^ n) = x / 2 ^ n * 2 ^ n := by
    rw [bitAnd_comm]
    -- x = y*2^n + l, and with y*2^n : use or_disj and absorb
    have h6 := or_disj n h2 h3 h4
    have h7 : x = Builtin.bitOr (x / 2 ^ n * 2 ^ n) (x % 2 ^ n) := by rw [h6]; exact e
    have hy : 0 ≤ x / 2 ^ n * 2 ^ n := Int.mul_nonneg h2 (by omega)
    rw [bitAnd_pp hy hx]
    have hn : x.toNat = (x / 2 ^ n * 2 ^ n).toNat ||| (x % 2 ^ n).toNat := by
      have e2 : (x / 2 ^ n * 2 ^ n).toNat = 2 ^ n * (x / 2 ^ n).toNat := by
        have q2 : (((x / 2 ^ n).toNat : Nat) : Int) = x / 2 ^ n := Int.toNat_of_nonneg h2
        have : (x / 2 ^ n * 2 ^ n) = ((2 ^ n * (x / 2 ^ n).toNat : Nat) : Int) := by rw [Int.natCast_mul, q2, two_pow_cast, Int.mul_comm]
        rw [this]; exact Int.toNat_natCast _
      have h8 : (x % 2 ^ n).toNat < 2 ^ n := by have := two_pow_cast n; omega
      rw [e2, ← Nat.two_pow_add_eq_or_of_lt h8, ← e2]
      omega
    have : (x / 2 ^ n * 2 ^ n).toNat &&& x.toNat = (x / 2 ^ n * 2 ^ n).toNat := by
      rw [hn]
      apply Nat.eq_of_testBit_eq
      intro i
      simp only [Nat.testBit_and, Nat.testBit_or]
      cases (x / 2 ^ n * 2 ^ n).toNat.testBit i <;> simp
    rw [this]; exact Int.toNat_of_nonneg hy
  rw [bitXor_and, h5]; omega
end Mine
end
section
open PySem PySem.W PyProof.Rows PySem.Calls
namespace Mine
open Builtin.Int (intBits)
inductive Stop (P : Prop) : Prop | mk (h : P)
theorem Stop.of {P : Prop} : Stop P → P | .mk h => h

theorem news_hd {h₀ h : Heap} {L : Addr} {x : Addr × Obj} {rest news : List (Addr × Obj)} (N : News h₀ L h (x :: rest)) (hs : ∀ p ∈ news, p ∈ rest) : News h₀ L h (x :: news) := fun p hp => by
  rcases List.mem_cons.mp hp with e | e
  · exact N p (e ▸ List.mem_cons_self)
  · exact N p (List.mem_cons_of_mem _ (hs p e))
section
variable {prog : PySem.Program} {w : World} {A : Around} {E : Value → Shared → Prop} {s : Shared} {a b v : Int} {t u : Tok} {Q : Value → Shared → Prop}
theorem b_shl (n : Nat) (hb : b = n) (hsz : (intBits a : Int) + n ≤ 2 ^ 27) (e : a * 2 ^ n = v) (h : Q (.int v s.toks) { s with toks := s.toks + 1 }) : Stop (wpAny (model prog w) A (binaryOp .LShift (.int a t) (.int b u)) Q E s) := by
  subst hb; refine .mk (lshift_int (by omega) hsz ?_); rw [Int.toNat_natCast, e]; exact h
theorem b_ishl (n : Nat) (hb : b = n) (hsz : (intBits a : Int) + n ≤ 2 ^ 27) (e : a * 2 ^ n = v) (h : Q (.int v s.toks) { s with toks := s.toks + 1 }) : Stop (wpAny (model prog w) A (inplaceOp .LShift (.int a t) (.int b u)) Q E s) := by
  subst hb; refine .mk (ilshift_int (by omega) hsz ?_); rw [Int.toNat_natCast, e]; exact h
theorem b_shr (n : Nat) (hb : b = n) (e : a / 2 ^ n = v) (h : Q (.int v s.toks) { s with toks := s.toks + 1 }) : Stop (wpAny (model prog w) A (binaryOp .RShift (.int a t) (.int b u)) Q E s) := by
  subst hb; refine .mk (rshift_int (by omega) ?_); rw [Int.toNat_natCast, fdiv_pos (Int.le_of_lt (two_pow_pos n)), e]; exact h
theorem b_ishr (n : Nat) (hb : b = n) (e : a / 2 ^ n = v) (h : Q (.int v s.toks) { s with toks := s.toks + 1 }) : Stop (wpAny (model prog w) A (inplaceOp .RShift (.int a t) (.int b u)) Q E s) := by
  subst hb; refine .mk (irshift_int (by omega) ?_); rw [Int.toNat_natCast, fdiv_pos (Int.le_of_lt (two_pow_pos n)), e]; exact h
theorem b_and (e : Builtin.bitAnd a b = v) (h : Q (.int v s.toks) { s with toks := s.toks + 1 }) : Stop (wpAny (model prog w) A (binaryOp .BitAnd (.int a t) (.int b u)) Q E s) := by subst e; exact .mk (and_int h)
theorem b_or (e : Builtin.bitOr a b = v) (h : Q (.int v s.toks) { s with toks := s.toks + 1 }) : Stop (wpAny (model prog w) A (binaryOp .BitOr (.int a t) (.int b u)) Q E s) := by subst e; exact .mk (or_int h)
theorem b_xor (e : Builtin.bitXor a b = v) (h : Q (.int v s.toks) { s with toks := s.toks + 1 }) : Stop (wpAny (model prog w) A (binaryOp .BitXor (.int a t) (.int b u)) Q E s) := by subst e; exact .mk (xor_int h)
theorem b_mul (hm : IntMulOk a b) (e : a * b = v) (h : Q (.int v s.toks) { s with toks := s.toks + 1 }) : Stop (wpAny (model prog w) A (binaryOp .Mult (.int a t) (.int b u)) Q E s) := by subst e; exact .mk (mul_int h hm)
theorem b_add (e : a + b = v) (h : Q (.int v s.toks) { s with toks := s.toks + 1 }) : Stop (wpAny (model prog w) A (binaryOp .Add (.int a t) (.int b u)) Q E s) := by subst e; exact .mk (add_int h)
theorem b_sub (e : a - b = v) (h : Q (.int v s.toks) { s with toks := s.toks + 1 }) : Stop (wpAny (model prog w) A (binaryOp .Sub (.int a t) (.int b u)) Q E s) := by subst e; exact .mk (sub_int h)
end
end Mine
end
section
open PySem PySem.W PyProof.Rows PySem.Calls
set_option maxRecDepth 100000
set_option maxHeartbeats 8000000
namespace Mine
open Builtin.Int (intBits)
local macro_rules | `(tactic| walk_at "binaryOp RShift int int") => `(tactic| refine Stop.of ?_)
local macro_rules | `(tactic| walk_at "binaryOp LShift int int") => `(tactic| refine Stop.of ?_)
local macro_rules | `(tactic| walk_at "binaryOp BitOr int int") => `(tactic| refine Stop.of ?_)
local macro_rules | `(tactic| walk_at "binaryOp Mult int int") => `(tactic| refine Stop.of ?_)
local macro_rules | `(tactic| walk_at "binaryOp Sub int int") => `(tactic| refine Stop.of ?_)
local macro_rules | `(tactic| walk_at "exec While Compare cons nil") => `(tactic| refine Stop.of ?_)
local macro_rules | `(tactic| walk_at "binaryOp Add int int") => `(tactic| refine Stop.of ?_)

theorem d32_q1 {a12 a3 b b1 b2 P : Int} (hP : 0 < P) (ha : 0 ≤ a12) (hab : a12 < b) (ha3 : 0 ≤ a3) (ha3' : a3 < P) (hb1 : 0 < b1) (hb2 : 0 ≤ b2) (hb : b = b1 * P + b2) : (a12 * P + a3) / b ≤ P - 1 := by
  have hbp : 0 < b := by omega
  have h1 : (a12 * P + a3) < P * b := by
    have : (a12 + 1) * P ≤ b * P := Int.mul_le_mul_of_nonneg_right (by omega) (by omega)
    rw [Int.add_mul] at this; rw [Int.mul_comm P b]; omega
  have := Int.ediv_lt_of_lt_mul hbp h1
  omega
theorem d32_q2 {a12 a3 b b1 b2 P : Int} (hP : 0 < P) (ha : 0 ≤ a12) (ha3 : 0 ≤ a3) (ha3' : a3 < P) (hb1 : 0 < b1) (hb2 : 0 ≤ b2) (hb : b = b1 * P + b2) : (a12 * P + a3) / b ≤ a12 / b1 := by
  have hbp : 0 < b := by have := Int.mul_pos hb1 hP; omega
  rw [Int.le_ediv_iff_mul_le hb1]
  have h1 := Int.mul_ediv_add_emod (a12 * P + a3) b
  have h2 : 0 ≤ (a12 * P + a3) % b := Int.emod_nonneg _ (by omega)
  have h3 : 0 ≤ (a12 * P + a3) / b := Int.ediv_nonneg (by have := Int.mul_nonneg ha (Int.le_of_lt hP); omega) (by omega)
  generalize (a12 * P + a3) / b = q at *
  have h4 : b * q = (q * b1) * P + b2 * q := by rw [hb, Int.add_mul, Int.mul_assoc, Int.mul_comm P q, ← Int.mul_assoc, Int.mul_comm b1 q]
  have h5 : 0 ≤ b2 * q := Int.mul_nonneg hb2 h3
  have h6 : (q * b1) * P < (a12 + 1) * P := by rw [Int.add_mul]; omega
  have := Int.lt_of_mul_lt_mul_right h6 (Int.le_of_lt hP)
  omega
theorem d32_end {N b q r : Int} (hb : 0 < b) (hr : r = N - q * b) (h0 : 0 ≤ r) (hq : N / b ≤ q) : q = N / b ∧ r = N % b := by
  have h1 := Int.mul_ediv_add_emod N b
  have h2 : 0 ≤ N % b := Int.emod_nonneg _ (by omega)
  have h3 : q ≤ N / b := by rw [Int.le_ediv_iff_mul_le hb]; omega
  have h4 : q = N / b := by omega
  refine ⟨h4, ?_⟩
  rw [hr, h4, Int.mul_comm]; omega
theorem d32_turn {N b q r : Int} (hb : 0 < b) (hr : r = N - q * b) (h0 : r < 0) (hq : N / b ≤ q) : N / b ≤ q - 1 := by
  have h1 := Int.mul_ediv_add_emod N b
  have h2 : 0 ≤ N % b := Int.emod_nonneg _ (by omega)
  by_cases h : N / b = q
  · rw [h, Int.mul_comm] at h1; omega
  · omega

theorem d32 {w : World} {dp un : Nat} {gd : Option (List Code)} {cn : Str} {cs : Scope} {af : Addr} {ccd : Value} {cl : List (Str × Addr)} {A₀ : Around} {E : Value → Shared → Prop} {s : Shared} {L : Addr} {h₀ base : Heap} {m mg mb : Str → Option Value} {news : List (Addr × Obj)} {p : PySem.Program} {loose : List Str} {mean : ExcName → Option Value} {Q : Value → Shared → Prop} {outer : List Env}
    {a12 a3 b b1 b2 : Int} {n : Nat} {ta tc tb tb1 tb2 tn : Tok}
    (B : Below A₀ base outer h₀) (F : Fr h₀ L s.heap m) (X : (Mine.hd.heap_39 w.params).In h₀) (N : News h₀ L s.heap news) (T : Top p loose mean mg mb h₀)
    (hk : cs.kind = .function) (hd : dp + 2 < recursionLimit) (hu : un + 20 < cLine)
    (hn : n ≤ 2200) (ha : 0 ≤ a12) (hab : a12 < b) (ha3 : 0 ≤ a3) (ha3' : a3 < 2 ^ n) (hb1 : 0 < b1) (hb1' : b1 < 2 ^ n) (hb2 : 0 ≤ b2) (hb2' : b2 < 2 ^ n) (hb : b = b1 * 2 ^ n + b2)
    (ret : ∀ t h' tk' t1 t2 q r, q = (a12 * 2 ^ n + a3) / b → r = (a12 * 2 ^ n + a3) % b → Fr h₀ L h' m → News h₀ L h' ((t, tup2 q r t1 t2) :: news) → (∀ p ∈ news, p.1 < t) → Q (.ref t) { s with heap := h', toks := tk' }) :
    wpAny (model PySem.Challenge.rw_ny0466_01.row.prog w) (ktrTop dp un gd cn cs L af ccd cl outer) (call (.ref 28) [.int a12 ta, .int a3 tc, .int b tb, .int b1 tb1, .int b2 tb2, .int n tn]) Q E s := by
  revert X; k_fill; intro X
  refine wpAny_call ?_
  refine' code_def (binds := [("a12", .int a12 ta), ("a3", .int a3 tc), ("b", .int b tb), ("b1", .int b1 tb1), ("b2", .int b2 tb2), ("n", .int n tn)]) B F X N T rfl rfl hk ?k6 ?k7 ?k8 ?k9 ?kB ?_ ?c2 ?c3 ?c4 ?c5
  case k6 => k_is
  case k7 => k_is
  case k8 => dsimp only; omega
  case k9 => exact BindsTo.of_eq rfl
  case kB => exact locs rfl
  case c2 => exact rfl
  case c3 => exact rfl
  case c4 => exact rfl
  case c5 => decide
  intro g' L' h' FG' F' N' B' X' T'
  dsimp only
  k_fold
  have hp := two_pow_pos n
  have hpp : (2 : Int) ^ n * 2 ^ n = 2 ^ (2 * n) := by rw [← Int.pow_add]; congr 1; omega
  have ha2 : a12 < 2 ^ (2 * n) := by
    have : b1 * 2 ^ n ≤ (2 ^ n - 1) * 2 ^ n := Int.mul_le_mul_of_nonneg_right (by omega) (by omega)
    rw [Int.sub_mul] at this
    omega
  k_steps
  refine b_shr n rfl rfl ?_
  dsimp only
  k_steps
  · obtain ⟨q0, hq0⟩ : ∃ q0 : Int, q0 = 2 ^ n - 1 := ⟨_, rfl⟩
    obtain ⟨r0, hr0⟩ : ∃ r0 : Int, r0 = a12 - q0 * b1 := ⟨_, rfl⟩
    have hcmp : a12 / 2 ^ n = b1 := by assumption
    have hr1 : a12 - b1 * 2 ^ n + b1 = r0 := by rw [hr0, hq0, Int.sub_mul, Int.mul_comm b1]; omega
    have hr2 : a12 - b1 * 2 ^ n = a12 % 2 ^ n := by rw [← hcmp, Int.mul_comm]; have := Int.mul_ediv_add_emod a12 (2 ^ n); omega
    have hr3 := Int.emod_nonneg a12 (Int.ne_of_gt hp)
    have hr4 := Int.emod_lt_of_pos a12 hp
    have hr0n : 0 ≤ r0 := by omega
    have hpow1 : (2 : Int) ^ (n + 1) = 2 ^ n * 2 := Int.pow_succ 2 n
    have hr0l : r0 < 2 ^ (2 * n + 1) := Int.lt_of_lt_of_le (show r0 < 2 ^ (n + 1) by omega) (pow_mono (by omega))
    have hqn : 0 ≤ q0 := by omega
    have hql : q0 < 2 ^ (2 * n) := Int.lt_of_lt_of_le (show q0 < 2 ^ n by omega) (pow_mono (by omega))
    have hqq : (a12 * 2 ^ n + a3) / b ≤ q0 := by rw [hq0]; exact d32_q1 hp ha hab ha3 ha3' hb1 hb2 hb
    refine b_shl (v := 2 ^ n) n rfl (shl_ok (m := 1) (by decide) (by decide) (by omega)) (by omega) ?_
    dsimp only
    k_steps
    refine b_sub (v := q0) (by omega) ?_
    dsimp only
    k_steps
    refine b_shl n rfl (shl_ok (m := n) (by omega) (by omega) (by omega)) rfl ?_
    dsimp only
    k_steps
    refine b_sub rfl ?_
    dsimp only
    k_steps
    refine b_add hr1 ?_
    dsimp only
    k_steps
    refine b_shl n rfl (shl_ok (m := 2 * n + 1) hr0n hr0l (by omega)) rfl ?_
    dsimp only
    k_steps
    refine b_or (or_disj n hr0n ha3 ha3') ?_
    dsimp only
    k_steps
    refine b_mul (mul_ok hqn hql hb2 hb2' (by omega) (by omega)) rfl ?_
    dsimp only
    k_steps
    refine b_sub (v := (a12 * 2 ^ n + a3) - q0 * b) (by rw [hr0, hb, Int.sub_mul, Int.mul_add, Int.mul_assoc]; omega) ?_
    dsimp only
    k_steps
    refine Stop.mk ?_
    refine' ksw_while (σ := Int × Int × Tok × Tok) (fun _ => news) (fun c => [("q", .int c.1 c.2.2.1), ("r", .int c.2.1 c.2.2.2)]) (fun _ => True) [] (fun c => c.2.1 = (a12 * 2 ^ n + a3) - c.1 * b ∧ (a12 * 2 ^ n + a3) / b ≤ c.1) (fun c => (c.1 - (a12 * 2 ^ n + a3) / b).toNat) (q0, (a12 * 2 ^ n + a3) - q0 * b, _, _) (by k_asm) (cb_drop (by k_asm) (fun p hp => List.mem_cons_of_mem _ hp)) trivial (List.forall_mem_cons.mpr ⟨rfl, List.forall_mem_cons.mpr ⟨rfl, List.forall_mem_nil _⟩⟩) ⟨rfl, hqq⟩ ?_ ?_
    rotate_left
    · passes_own
    rintro ⟨q, r, tq, tr⟩ u h3 tk3 - ⟨hr, hq⟩ F3 N3
    dsimp only at hr hq F3
    k_steps
    · refine ksw_end (q - 1, r + b, _, _) (by k_asm) (by k_asm) (fun p hp => hp) trivial (List.forall_mem_cons.mpr ⟨rfl, List.forall_mem_cons.mpr ⟨rfl, List.forall_mem_nil _⟩⟩) ?_ ⟨?_, ?_⟩ ?_
      · intro z z2 _
        simp only [List.forall_mem_cons, List.not_mem_nil, false_implies, implies_true, and_true, ne_eq] at z2
        simp [z2, kstB]
      · show r + b = _ - (q - 1) * b
        rw [hr, Int.sub_mul]; omega
      · exact d32_turn (by omega) hr (by assumption) hq
      · show (q - 1 - _).toNat < (q - _).toNat
        have := d32_turn (by omega) hr (by assumption) hq
        omega
    · have he := d32_end (by omega) hr (by omega) hq
      exact ret _ _ _ _ _ _ _ he.1 he.2 (by k_asm) (by k_asm) (by k_asm)
  · refine d21s (by k_asm) (by k_asm) (by k_asm) (by k_asm) (by k_asm) rfl ?_ ?_ hb1 ?_ ?_ ?_
    · dsimp only [Around.deeper]; omega
    · dsimp only [Around.deeper]; omega
    · have := bits_le ha ha2; omega
    · exact noPy (m := n) (by omega) (by omega) (by omega)
    intro t2 h2 tk2 t1 t2 q0 r0 hq0 hr0' F2 N2 lt2
    have hr0 : r0 = a12 - q0 * b1 := by rw [hr0', hq0]; have := Int.mul_ediv_add_emod a12 b1; rw [Int.mul_comm] at this; omega
    have hr0n : 0 ≤ r0 := by rw [hr0']; exact Int.emod_nonneg _ (by omega)
    have hr4 : r0 < b1 := by rw [hr0']; exact Int.emod_lt_of_pos _ hb1
    have hr0l : r0 < 2 ^ (2 * n + 1) := Int.lt_of_lt_of_le (show r0 < 2 ^ n by omega) (pow_mono (by omega))
    have hqn : 0 ≤ q0 := by rw [hq0]; exact Int.ediv_nonneg ha (by omega)
    have hql : q0 < 2 ^ (2 * n) := Int.lt_of_le_of_lt (by rw [hq0]; exact Int.ediv_le_self _ ha) ha2
    have hqq : (a12 * 2 ^ n + a3) / b ≤ q0 := by rw [hq0]; exact d32_q2 hp ha ha3 ha3' hb1 hb2 hb
    dsimp only
    k_steps
    refine b_shl n rfl (shl_ok (m := 2 * n + 1) hr0n hr0l (by omega)) rfl ?_
    dsimp only
    k_steps
    refine b_or (or_disj n hr0n ha3 ha3') ?_
    dsimp only
    k_steps
    refine b_mul (mul_ok hqn hql hb2 hb2' (by omega) (by omega)) rfl ?_
    dsimp only
    k_steps
    refine b_sub (v := (a12 * 2 ^ n + a3) - q0 * b) (by rw [hr0, hb, Int.sub_mul, Int.mul_add, Int.mul_assoc]; omega) ?_
    dsimp only
    k_steps
    refine Stop.mk ?_
    refine' ksw_while (σ := Int × Int × Tok × Tok) (fun _ => news) (fun c => [("q", .int c.1 c.2.2.1), ("r", .int c.2.1 c.2.2.2)]) (fun _ => True) [] (fun c => c.2.1 = (a12 * 2 ^ n + a3) - c.1 * b ∧ (a12 * 2 ^ n + a3) / b ≤ c.1) (fun c => (c.1 - (a12 * 2 ^ n + a3) / b).toNat) (q0, (a12 * 2 ^ n + a3) - q0 * b, _, _) (by k_asm) (cb_drop (by k_asm) (fun p hp => List.mem_cons_of_mem _ hp)) trivial (List.forall_mem_cons.mpr ⟨rfl, List.forall_mem_cons.mpr ⟨rfl, List.forall_mem_nil _⟩⟩) ⟨rfl, hqq⟩ ?_ ?_
    rotate_left
    · passes_own
    rintro ⟨q, r, tq, tr⟩ u h3 tk3 - ⟨hr, hq⟩ F3 N3
    dsimp only at hr hq F3
    k_steps
    · refine ksw_end (q - 1, r + b, _, _) (by k_asm) (by k_asm) (fun p hp => hp) trivial (List.forall_mem_cons.mpr ⟨rfl, List.forall_mem_cons.mpr ⟨rfl, List.forall_mem_nil _⟩⟩) ?_ ⟨?_, ?_⟩ ?_
      · intro z z2 _
        simp only [List.forall_mem_cons, List.not_mem_nil, false_implies, implies_true, and_true, ne_eq] at z2
        simp [z2, kstB]
      · show r + b = _ - (q - 1) * b
        rw [hr, Int.sub_mul]; omega
      · exact d32_turn (by omega) hr (by assumption) hq
      · show (q - 1 - _).toNat < (q - _).toNat
        have := d32_turn (by omega) hr (by assumption) hq
        omega
    · have he := d32_end (by omega) hr (by omega) hq
      exact ret _ _ _ _ _ _ _ he.1 he.2 (by k_asm) (by k_asm) (by k_asm)
end Mine
end
section
open PySem PySem.W PyProof.Rows PySem.Calls
set_option maxRecDepth 100000
set_option maxHeartbeats 8000000
namespace Mine
open Builtin.Int (intBits)
local macro_rules | `(tactic| walk_at "binaryOp RShift int int") => `(tactic| refine Stop.of ?_)
local macro_rules | `(tactic| walk_at "binaryOp LShift int int") => `(tactic| refine Stop.of ?_)
local macro_rules | `(tactic| walk_at "binaryOp BitOr int int") => `(tactic| refine Stop.of ?_)
local macro_rules | `(tactic| walk_at "binaryOp BitAnd int int") => `(tactic| refine Stop.of ?_)
local macro_rules | `(tactic| walk_at "inplaceOp LShift int int") => `(tactic| refine Stop.of ?_)
local macro_rules | `(tactic| walk_at "inplaceOp RShift int int") => `(tactic| refine Stop.of ?_)

theorem d21_math {a b P : Int} (hP : 0 < P) (hb : 0 < b) :
    (a / P / b) * P + (a / P % b * P + a % P) / b = a / b ∧ (a / P % b * P + a % P) % b = a % b ∧ (a / P % b * P + a % P) / b < P ∧ 0 ≤ (a / P % b * P + a % P) := by
  have h1 := Int.mul_ediv_add_emod a P
  have h2 := Int.mul_ediv_add_emod (a / P) b
  have h3 : 0 ≤ a / P % b := Int.emod_nonneg _ (by omega)
  have h4 : a / P % b < b := Int.emod_lt_of_pos _ hb
  have h5 : 0 ≤ a % P := Int.emod_nonneg _ (by omega)
  have h6 : a % P < P := Int.emod_lt_of_pos _ hP
  generalize a / P / b = q1 at *
  generalize hr1 : a / P % b = r1 at *
  generalize a % P = l at *
  have e : a = (r1 * P + l) + b * (q1 * P) := by
    have t0 : P * (b * q1 + r1) + l = a := by rw [h2]; exact h1
    have t1 : P * (b * q1) = b * (q1 * P) := by rw [Int.mul_comm P, Int.mul_assoc]
    have t2 := Int.mul_comm P r1
    rw [Int.mul_add] at t0
    omega
  refine ⟨?_, ?_, ?_, ?_⟩
  · rw [e, Int.add_mul_ediv_left _ _ (by omega)]; omega
  · rw [e, Int.add_mul_emod_self_left]
  · refine Int.ediv_lt_of_lt_mul hb ?_
    have : (r1 + 1) * P ≤ b * P := Int.mul_le_mul_of_nonneg_right (by omega) (by omega)
    rw [Int.add_mul] at this; rw [Int.mul_comm P b]; omega
  · have := Int.mul_nonneg h3 (Int.le_of_lt hP); omega

theorem d21 {w : World} {dp un : Nat} {gd : Option (List Code)} {cn : Str} {cs : Scope} {af : Addr} {ccd : Value} {cl : List (Str × Addr)} {A₀ : Around} {E : Value → Shared → Prop} {s : Shared} {L : Addr} {h₀ base : Heap} {m mg mb : Str → Option Value} {news : List (Addr × Obj)} {p : PySem.Program} {loose : List Str} {mean : ExcName → Option Value} {Q : Value → Shared → Prop} {outer : List Env}
    {a b : Int} {n : Nat} {ta tb tn : Tok}
    (B : Below A₀ base outer h₀) (F : Fr h₀ L s.heap m) (X : (Mine.hd.heap_39 w.params).In h₀) (N : News h₀ L s.heap news) (T : Top p loose mean mg mb h₀)
    (hk : cs.kind = .function) (hd : dp + 5 < recursionLimit) (hu : un + 30 < cLine)
    (hn1 : 1 ≤ n) (hn : n ≤ 4200) (ha : 0 ≤ a) (hb : 2 ^ (n - 1) ≤ b) (hb' : b < 2 ^ n) (hab : a < b * 2 ^ n)
    (ret : ∀ t h' tk' t1 t2 q r, q = a / b → r = a % b → Fr h₀ L h' m → News h₀ L h' ((t, tup2 q r t1 t2) :: news) → (∀ p ∈ news, p.1 < t) → Q (.ref t) { s with heap := h', toks := tk' }) :
    wpAny (model PySem.Challenge.rw_ny0466_01.row.prog w) (ktrTop dp un gd cn cs L af ccd cl outer) (call (.ref 21) [.int a ta, .int b tb, .int n tn]) Q E s := by
  have hp1 := two_pow_pos (n - 1)
  have hp := two_pow_pos n
  have hb0 : 0 < b := by omega
  by_cases hsm : (intBits a : Int) - n ≤ 4000
  · exact d21s B F X N T hk (by omega) (by omega) hb0 hsm (noPy (m := n) (by omega) hb' (by omega)) ret
  have ha2 : a < 2 ^ (2 * n) := by
    have e : (2 : Int) ^ (2 * n) = 2 ^ n * 2 ^ n := by rw [← Int.pow_add]; congr 1; omega
    have : b * 2 ^ n ≤ 2 ^ n * 2 ^ n := Int.mul_le_mul_of_nonneg_right (by omega) (by omega)
    omega
  have hbits := bits_le ha ha2
  revert X; k_fill; intro X
  refine wpAny_call ?_
  refine' code_def (binds := [("a", .int a ta), ("b", .int b tb), ("n", .int n tn)]) B F X N T rfl rfl hk ?k6 ?k7 ?k8 ?k9 ?kB ?_ ?c2 ?c3 ?c4 ?c5
  case k6 => k_is
  case k7 => k_is
  case k8 => dsimp only; omega
  case k9 => exact BindsTo.of_eq rfl
  case kB => exact locs rfl
  case c2 => exact rfl
  case c3 => exact rfl
  case c4 => exact rfl
  case c5 => decide
  intro g' L' h' FG' F' N' B' X' T'
  dsimp only
  k_fold
  k_steps
  rcases Nat.mod_two_eq_zero_or_one n with hpar | hpar
  · refine b_and (v := 0) (by rw [bitAnd_m1]; omega) ?_
    dsimp only
    k_steps
    obtain ⟨k, hk2⟩ : ∃ k, k = n / 2 := ⟨_, rfl⟩
    obtain ⟨a', ha'e⟩ : ∃ a', a' = a := ⟨_, rfl⟩
    obtain ⟨b', hb'e⟩ : ∃ b', b' = b := ⟨_, rfl⟩
    have hn2 : n = 2 * k := by omega
    have ha' : 0 ≤ a' := by omega
    have hbl : 2 ^ (2 * k - 1) ≤ b' := by rw [hb'e, ← hn2]; exact hb
    have hbu : b' < 2 ^ (2 * k) := by rw [hb'e, ← hn2]; exact hb'
    have hab' : a' < b' * 2 ^ (2 * k) := by rw [ha'e, hb'e, ← hn2]; exact hab
    have haz : a' < 2 ^ (2 * n) * 4 := by have := two_pow_pos (2 * n); omega
    -- here: a' b' k
    have hk1 : 1 ≤ k := by omega
    have hkk := two_pow_pos k
    have hp2 : (2 : Int) ^ (2 * k) = 2 ^ k * 2 ^ k := by rw [← Int.pow_add]; congr 1; omega
    have hb1p : 0 < b' / 2 ^ k := by
      have : (1 : Int) ≤ b' / 2 ^ k := by
        rw [Int.le_ediv_iff_mul_le hkk]
        have := pow_mono (show k ≤ 2 * k - 1 by omega)
        omega
      omega
    have hb1l : b' / 2 ^ k < 2 ^ k := Int.ediv_lt_of_lt_mul hkk (by omega)
    have hb2n : 0 ≤ b' % 2 ^ k := Int.emod_nonneg _ (by omega)
    have hb2l : b' % 2 ^ k < 2 ^ k := Int.emod_lt_of_pos _ hkk
    have hbe : b' = b' / 2 ^ k * 2 ^ k + b' % 2 ^ k := by have := Int.mul_ediv_add_emod b' (2 ^ k); rw [Int.mul_comm] at this; omega
    have hbq : 0 < b' := by have := two_pow_pos (2 * k - 1); omega
    have ha12 : a' / 2 ^ (2 * k) < b' := Int.ediv_lt_of_lt_mul (two_pow_pos _) hab'
    have ha12n : 0 ≤ a' / 2 ^ (2 * k) := Int.ediv_nonneg ha' (Int.le_of_lt (two_pow_pos _))
    have hx : a' / 2 ^ (2 * k) * 2 ^ k + a' / 2 ^ k % 2 ^ k = a' / 2 ^ k := by
      rw [hp2, ← Int.ediv_ediv_of_nonneg (by omega)]
      have := Int.mul_ediv_add_emod (a' / 2 ^ k) (2 ^ k); rw [Int.mul_comm] at this; omega
    have ha3n : 0 ≤ a' / 2 ^ k % 2 ^ k := Int.emod_nonneg _ (by omega)
    have ha3l : a' / 2 ^ k % 2 ^ k < 2 ^ k := Int.emod_lt_of_pos _ hkk
    have ha4n : 0 ≤ a' % 2 ^ k := Int.emod_nonneg _ (by omega)
    have ha4l : a' % 2 ^ k < 2 ^ k := Int.emod_lt_of_pos _ hkk
    have hm := d21_math (a := a') hkk hbq
    refine b_shr (v := k) 1 rfl (by omega) ?_
    dsimp only
    k_steps
    refine b_shl (v := 2 ^ k) k rfl (shl_ok (m := 1) (by decide) (by decide) (by omega)) (by omega) ?_
    dsimp only
    k_steps
    refine b_shr (v := b' / 2 ^ k) k rfl (by first | rw [hb'e] | rfl) ?_
    dsimp only
    k_steps
    refine b_and (v := b' % 2 ^ k) (by first | exact and_mask k (by omega) | (rw [← hb'e]; exact and_mask k (by omega))) ?_
    dsimp only
    k_steps
    refine b_shr (v := a' / 2 ^ (2 * k)) (2 * k) (by omega) (by first | rw [ha'e] | rfl) ?_
    dsimp only
    k_steps
    refine b_shr (v := a' / 2 ^ k) k rfl (by first | rw [ha'e] | rfl) ?_
    dsimp only
    k_steps
    refine b_and (v := a' / 2 ^ k % 2 ^ k) (and_mask k (Int.ediv_nonneg ha' (by omega))) ?_
    dsimp only
    k_steps
    refine d32 (n := k) (by k_asm) (by k_asm) (by k_asm) (by k_asm) (by k_asm) rfl ?_ ?_ (by omega) ha12n (by omega) ha3n ha3l hb1p hb1l hb2n hb2l (by omega) ?_
    · dsimp only [Around.deeper]; omega
    · dsimp only [Around.deeper]; omega
    intro t2 h2 tk2 u1 u2 q1 r1 hq1 hr1 F2 N2 lt2
    have hbb : b' ≠ 0 := by omega
    rw [hx] at hq1 hr1
    first | rw [← hb'e] at hq1 hr1 | skip
    have hr1n : 0 ≤ r1 := by rw [hr1]; exact Int.emod_nonneg _ hbb
    have hr1l : r1 < b' := by rw [hr1]; exact Int.emod_lt_of_pos _ hbq
    have hq1n : 0 ≤ q1 := by rw [hq1]; exact Int.ediv_nonneg (Int.ediv_nonneg ha' (by omega)) (by omega)
    have hq1l : q1 < 2 ^ (2 * n + 2) := by
      rw [hq1]
      refine Int.lt_of_le_of_lt (Int.ediv_le_self _ (Int.ediv_nonneg ha' (by omega))) (Int.lt_of_le_of_lt (Int.ediv_le_self _ ha') ?_)
      have e4 : (2 : Int) ^ (2 * n + 2) = 2 ^ (2 * n) * 4 := by rw [Int.pow_add]; rfl
      omega
    rw [← hq1, ← hr1] at hm
    dsimp only
    k_steps
    refine b_and (v := a' % 2 ^ k) (by first | exact and_mask k (by omega) | (rw [← ha'e]; exact and_mask k (by omega))) ?_
    dsimp only
    k_steps
    refine d32 (n := k) (by k_asm) (by k_asm) (by k_asm) (by k_asm) (by k_asm) rfl ?_ ?_ (by omega) hr1n (by omega) ha4n ha4l hb1p hb1l hb2n hb2l (by omega) ?_
    · dsimp only [Around.deeper]; omega
    · dsimp only [Around.deeper]; omega
    intro t3 h3 tk3 u3 u4 q2 r2 hq2 hr2 F3 N3 lt3
    first | rw [← hb'e] at hq2 hr2 | skip
    rw [← hq2, ← hr2] at hm
    have hq2n : 0 ≤ q2 := by rw [hq2]; exact Int.ediv_nonneg hm.2.2.2 (by omega)
    have lt9 : ∀ p ∈ news, p.1 < t3 := fun p hp => lt3 p (List.mem_cons_of_mem _ (List.mem_cons_of_mem _ hp))
    dsimp only
    k_steps
    refine b_shl k rfl (shl_ok (m := 2 * n + 2) hq1n hq1l (by omega)) rfl ?_
    dsimp only
    k_steps
    refine b_or (or_disj k hq1n hq2n hm.2.2.1) ?_
    dsimp only
    k_steps
    rw [ha'e, hb'e] at hm
    refine ret _ _ _ _ _ _ _ hm.1 hm.2.1 (by k_asm) (news_hd (by k_asm) ?_) ?_
    · intro p hp; simp [hp]
    · exact fun p hp => by have := ltN (lt9 p hp); refine ltN ?_; omega
  · refine b_and (v := 1) (by rw [bitAnd_m1]; omega) ?_
    dsimp only
    k_steps
    obtain ⟨k, hk2⟩ : ∃ k, k = (n + 1) / 2 := ⟨_, rfl⟩
    obtain ⟨a', ha'e⟩ : ∃ a', a' = a * 2 := ⟨_, rfl⟩
    obtain ⟨b', hb'e⟩ : ∃ b', b' = b * 2 := ⟨_, rfl⟩
    have hn2 : n + 1 = 2 * k := by omega
    have ha' : 0 ≤ a' := by omega
    have e1 : (2 : Int) ^ (2 * k - 1) = 2 ^ (n - 1) * 2 := by rw [← Int.pow_succ]; congr 1; omega
    have e2 : (2 : Int) ^ (2 * k) = 2 ^ n * 2 := by rw [← hn2, Int.pow_succ]
    have hbl : 2 ^ (2 * k - 1) ≤ b' := by omega
    have hbu : b' < 2 ^ (2 * k) := by omega
    have hab' : a' < b' * 2 ^ (2 * k) := by
      have : b' * 2 ^ (2 * k) = b * 2 ^ n * 4 := by rw [hb'e, e2, Int.mul_assoc b, ← Int.mul_assoc 2, Int.mul_comm 2, Int.mul_assoc (2 ^ n), ← Int.mul_assoc]; omega
      have := Int.mul_nonneg (Int.le_of_lt hb0) (Int.le_of_lt hp)
      omega
    have haz : a' < 2 ^ (2 * n) * 4 := by omega
    -- here: a' b' k
    have hk1 : 1 ≤ k := by omega
    have hkk := two_pow_pos k
    have hp2 : (2 : Int) ^ (2 * k) = 2 ^ k * 2 ^ k := by rw [← Int.pow_add]; congr 1; omega
    have hb1p : 0 < b' / 2 ^ k := by
      have : (1 : Int) ≤ b' / 2 ^ k := by
        rw [Int.le_ediv_iff_mul_le hkk]
        have := pow_mono (show k ≤ 2 * k - 1 by omega)
        omega
      omega
    have hb1l : b' / 2 ^ k < 2 ^ k := Int.ediv_lt_of_lt_mul hkk (by omega)
    have hb2n : 0 ≤ b' % 2 ^ k := Int.emod_nonneg _ (by omega)
    have hb2l : b' % 2 ^ k < 2 ^ k := Int.emod_lt_of_pos _ hkk
    have hbe : b' = b' / 2 ^ k * 2 ^ k + b' % 2 ^ k := by have := Int.mul_ediv_add_emod b' (2 ^ k); rw [Int.mul_comm] at this; omega
    have hbq : 0 < b' := by have := two_pow_pos (2 * k - 1); omega
    have ha12 : a' / 2 ^ (2 * k) < b' := Int.ediv_lt_of_lt_mul (two_pow_pos _) hab'
    have ha12n : 0 ≤ a' / 2 ^ (2 * k) := Int.ediv_nonneg ha' (Int.le_of_lt (two_pow_pos _))
    have hx : a' / 2 ^ (2 * k) * 2 ^ k + a' / 2 ^ k % 2 ^ k = a' / 2 ^ k := by
      rw [hp2, ← Int.ediv_ediv_of_nonneg (by omega)]
      have := Int.mul_ediv_add_emod (a' / 2 ^ k) (2 ^ k); rw [Int.mul_comm] at this; omega
    have ha3n : 0 ≤ a' / 2 ^ k % 2 ^ k := Int.emod_nonneg _ (by omega)
    have ha3l : a' / 2 ^ k % 2 ^ k < 2 ^ k := Int.emod_lt_of_pos _ hkk
    have ha4n : 0 ≤ a' % 2 ^ k := Int.emod_nonneg _ (by omega)
    have ha4l : a' % 2 ^ k < 2 ^ k := Int.emod_lt_of_pos _ hkk
    have hm := d21_math (a := a') hkk hbq
    refine b_ishl (v := a') 1 rfl (shl_ok (m := 2 * n) ha ha2 (by omega)) (by omega) ?_
    dsimp only
    k_steps
    refine b_ishl (v := b') 1 rfl (shl_ok (m := n) (by omega) hb' (by omega)) (by omega) ?_
    dsimp only
    k_steps
    refine b_shr (v := k) 1 rfl (by omega) ?_
    dsimp only
    k_steps
    refine b_shl (v := 2 ^ k) k rfl (shl_ok (m := 1) (by decide) (by decide) (by omega)) (by omega) ?_
    dsimp only
    k_steps
    refine b_shr (v := b' / 2 ^ k) k rfl (by first | rw [hb'e] | rfl) ?_
    dsimp only
    k_steps
    refine b_and (v := b' % 2 ^ k) (by first | exact and_mask k (by omega) | (rw [← hb'e]; exact and_mask k (by omega))) ?_
    dsimp only
    k_steps
    refine b_shr (v := a' / 2 ^ (2 * k)) (2 * k) (by omega) (by first | rw [ha'e] | rfl) ?_
    dsimp only
    k_steps
    refine b_shr (v := a' / 2 ^ k) k rfl (by first | rw [ha'e] | rfl) ?_
    dsimp only
    k_steps
    refine b_and (v := a' / 2 ^ k % 2 ^ k) (and_mask k (Int.ediv_nonneg ha' (by omega))) ?_
    dsimp only
    k_steps
    refine d32 (n := k) (by k_asm) (by k_asm) (by k_asm) (by k_asm) (by k_asm) rfl ?_ ?_ (by omega) ha12n (by omega) ha3n ha3l hb1p hb1l hb2n hb2l (by omega) ?_
    · dsimp only [Around.deeper]; omega
    · dsimp only [Around.deeper]; omega
    intro t2 h2 tk2 u1 u2 q1 r1 hq1 hr1 F2 N2 lt2
    have hbb : b' ≠ 0 := by omega
    rw [hx] at hq1 hr1
    first | rw [← hb'e] at hq1 hr1 | skip
    have hr1n : 0 ≤ r1 := by rw [hr1]; exact Int.emod_nonneg _ hbb
    have hr1l : r1 < b' := by rw [hr1]; exact Int.emod_lt_of_pos _ hbq
    have hq1n : 0 ≤ q1 := by rw [hq1]; exact Int.ediv_nonneg (Int.ediv_nonneg ha' (by omega)) (by omega)
    have hq1l : q1 < 2 ^ (2 * n + 2) := by
      rw [hq1]
      refine Int.lt_of_le_of_lt (Int.ediv_le_self _ (Int.ediv_nonneg ha' (by omega))) (Int.lt_of_le_of_lt (Int.ediv_le_self _ ha') ?_)
      have e4 : (2 : Int) ^ (2 * n + 2) = 2 ^ (2 * n) * 4 := by rw [Int.pow_add]; rfl
      omega
    rw [← hq1, ← hr1] at hm
    dsimp only
    k_steps
    refine b_and (v := a' % 2 ^ k) (by first | exact and_mask k (by omega) | (rw [← ha'e]; exact and_mask k (by omega))) ?_
    dsimp only
    k_steps
    refine d32 (n := k) (by k_asm) (by k_asm) (by k_asm) (by k_asm) (by k_asm) rfl ?_ ?_ (by omega) hr1n (by omega) ha4n ha4l hb1p hb1l hb2n hb2l (by omega) ?_
    · dsimp only [Around.deeper]; omega
    · dsimp only [Around.deeper]; omega
    intro t3 h3 tk3 u3 u4 q2 r2 hq2 hr2 F3 N3 lt3
    first | rw [← hb'e] at hq2 hr2 | skip
    rw [← hq2, ← hr2] at hm
    have hq2n : 0 ≤ q2 := by rw [hq2]; exact Int.ediv_nonneg hm.2.2.2 (by omega)
    have lt9 : ∀ p ∈ news, p.1 < t3 := fun p hp => lt3 p (List.mem_cons_of_mem _ (List.mem_cons_of_mem _ hp))
    dsimp only
    k_steps
    refine b_ishr (v := r2 / 2) 1 rfl (by omega) ?_
    dsimp only
    k_steps
    refine b_shl k rfl (shl_ok (m := 2 * n + 2) hq1n hq1l (by omega)) rfl ?_
    dsimp only
    k_steps
    refine b_or (or_disj k hq1n hq2n hm.2.2.1) ?_
    dsimp only
    k_steps
    rw [ha'e, hb'e, Int.mul_comm a 2, Int.mul_comm b 2, Int.mul_ediv_mul_of_pos _ _ (by decide), Int.mul_emod_mul_of_pos _ _ (by decide)] at hm
    refine ret _ _ _ _ _ _ _ hm.1 (show r2 / 2 = a % b by omega) (by k_asm) (news_hd (by k_asm) ?_) ?_
    · intro p hp; simp [hp]
    · exact fun p hp => by have := ltN (lt9 p hp); refine ltN ?_; omega
end Mine
end
section
open PySem PySem.W PyProof.Rows PySem.Calls
namespace Mine

/-- one def's table of the code objects made in it: empty, or holding the one code object -/
def TabL (P : Addr) (line col : Int) (qual : Str) (tl : List (Addr × Obj)) : Prop :=
  tl = [(P, tabObj #[])] ∨ ∃ c oc vs t, tl = [(P, tabObj #[rawInt line, rawInt col, .ref c]), (c, oc)] ∧ oc.data = .fields vs ∧ vs[1]? = some (.str qual t)
def Apart (xs ys : List (Addr × Obj)) : Prop := ∀ p ∈ xs, ∀ q ∈ ys, p.1 ≠ q.1
theorem Apart.symm {xs ys : List (Addr × Obj)} (h : Apart xs ys) : Apart ys xs := fun p hp q hq e => h q hq p hp e.symm
theorem Apart.of_lt {x : Addr × Obj} {xs ys : List (Addr × Obj)} (h : Apart xs ys) (hl : ∀ q ∈ ys, q.1 < x.1) : Apart (x :: xs) ys := fun p hp q hq => by
  rcases List.mem_cons.mp hp with e | hp
  · subst e; exact Ne.symm (Nat.ne_of_lt (hl q hq))
  · exact h p hp q hq
theorem Apart.sub {xs ys xs' ys' : List (Addr × Obj)} (h : Apart xs ys) (h1 : ∀ p ∈ xs', p ∈ xs) (h2 : ∀ p ∈ ys', p ∈ ys) : Apart xs' ys' := fun p hp q hq => h p (h1 p hp) q (h2 q hq)
theorem Apart.appL {xs xs' ys : List (Addr × Obj)} (h : Apart xs ys) (h' : Apart xs' ys) : Apart (xs ++ xs') ys := fun p hp => (List.mem_append.mp hp).elim (h p) (h' p)
theorem Apart.appR {xs ys ys' : List (Addr × Obj)} (h : Apart xs ys) (h' : Apart xs ys') : Apart xs (ys ++ ys') := (h.symm.appL h'.symm).symm
theorem apart_nil {ys : List (Addr × Obj)} : Apart [] ys := fun _ hp => nomatch hp

section
variable {M : Model} {A : Around} {E : Value → Shared → Prop} {s : Shared} {h₀ : Heap} {L a c P : Addr} {m mg mb : Str → Option Value} {cn : Str} {cs : Scope} {ccd : Value} {cl : List (Str × Addr)} {news tl : List (Addr × Obj)}
  {p : PySem.Program} {loose : List Str} {mean : ExcName → Option Value} {name qual : Str} {params : Arguments} {body : List Stmt} {scope : Scope} {pos : Pos} {firstLine : Nat} {clos : List (Str × Addr)}

theorem updF_in {d : Addr} {o : Obj} {rest : List (Addr × Obj)} (h2 : ∀ p ∈ rest, p.1 ≠ d) : ∀ {pre : List (Addr × Obj)}, (∀ p ∈ pre, p.1 ≠ d) → UpdF d o (pre ++ (d, o) :: rest) (fun o' => pre ++ (d, o') :: rest)
  | [], _ => .head h2
  | x :: _, h => .tail (h x List.mem_cons_self) (updF_in h2 fun p hp => h p (List.mem_cons_of_mem _ hp))
theorem upd_in {d : Addr} {o o' : Obj} {rest : List (Addr × Obj)} (h2 : ∀ p ∈ rest, p.1 ≠ d) : ∀ {pre : List (Addr × Obj)}, (∀ p ∈ pre, p.1 ≠ d) → Upd d o o' (pre ++ (d, o) :: rest) (pre ++ (d, o') :: rest)
  | [], _ => .head h2
  | x :: _, h => .tail (h x List.mem_cons_self) (upd_in h2 fun p hp => h p (List.mem_cons_of_mem _ hp))

/-- a def made in a def's body: the first time and every other time -/
theorem nest_any {Q : Value → Shared → Prop} (F : Fr h₀ L s.heap m) (N : News h₀ L s.heap (news ++ tl)) (T : Top p loose mean mg mb h₀) (C : CodeHd h₀ c P) (hcd : ccd = .ref c)
    (hT : TabL P pos.line pos.col qual tl) (ha : Apart news tl) (hcl : closureFor scope (envX cn cs L a ccd cl) = pure clos)
    (h : ∀ f c' oc vs t ctv doc tl' h' tk, Fr h₀ L h' m → tl' = [(P, tabObj #[rawInt pos.line, rawInt pos.col, .ref c']), (c', oc)] → oc.data = .fields vs → vs[1]? = some (.str qual t) →
      News h₀ L h' ((f, fnMade name qual params body scope clos doc ((mg "__name__").getD .none) c' ctv) :: (news ++ tl')) → (∀ q ∈ news, q.1 < f) → (∀ q ∈ tl', q.1 < f) → Apart news tl' → Q (.ref f) { s with heap := h', toks := tk }) :
    wpAny M A (makeFunction name qual params (.stmts body) scope (envX cn cs L a ccd cl) [] [] [] pos firstLine) Q E s := by
  rcases hT with rfl | ⟨c₁, oc, vs, t, rfl, hd, hv⟩
  · have hP : ∀ q ∈ news, q.1 ≠ P := fun q hq => ha q hq (P, tabObj #[]) (.head _)
    refine nest_K F N T C hcd (updF_in (pre := news) (rest := []) (fun _ h => nomatch h) hP) trivial rfl hcl ?_
    intro f c' oc vs t ctv doc h' tk F' N' hd hv l1 l2
    have hPc : P < c' := l1 (P, tabObj #[]) (List.mem_append_right _ (.head _))
    refine h f c' oc vs t ctv doc [(P, tabObj #[rawInt pos.line, rawInt pos.col, .ref c']), (c', oc)] h' tk F' rfl hd hv (fun q hq => N' q ?_) (fun q hq => Nat.lt_trans (l1 q (List.mem_append_left _ hq)) l2) ?_ ?_
    · simp only [List.mem_cons, List.mem_append, List.not_mem_nil, or_false] at hq ⊢
      rcases hq with hq | hq | hq | hq
      · exact .inl hq
      · exact .inr (.inr (.inl hq))
      · exact .inr (.inr (.inr (by simpa using hq)))
      · exact .inr (.inl hq)
    · intro q hq
      simp only [List.mem_cons, List.not_mem_nil, or_false] at hq
      rcases hq with rfl | rfl
      · exact Nat.lt_trans hPc l2
      · exact l2
    · intro p hp q hq
      simp only [List.mem_cons, List.not_mem_nil, or_false] at hq
      rcases hq with rfl | rfl
      · exact hP p hp
      · exact Nat.ne_of_lt (l1 p (List.mem_append_left _ hp))
  · refine nestHit_K (c' := c₁) (ps := #[rawInt pos.line, rawInt pos.col, .ref c₁]) F N T C hcd (List.mem_append_right _ (.head _)) trivial (by simp [codeAmong, rawInt]) hcl ?_
    intro f ctv doc h' tk F' N' l1
    exact h f c₁ oc vs t ctv doc _ h' tk F' rfl hd hv N' (fun q hq => l1 q (List.mem_append_left _ hq)) (fun q hq => l1 q (List.mem_append_right _ hq)) ha
end
theorem pack4 {h₀ h : Heap} {L : Addr} {x1 x2 x3 x4 : Addr × Obj} {rest : List (Addr × Obj)} (N : News h₀ L h (x1 :: x2 :: x3 :: x4 :: rest)) :
    ∃ LED, LED = x1 :: x2 :: x3 :: x4 :: rest ∧ News h₀ L h LED ∧ x1 ∈ LED ∧ x2 ∈ LED ∧ x3 ∈ LED ∧ x4 ∈ LED ∧ ∀ p ∈ rest, p ∈ LED :=
  ⟨_, rfl, N, .head _, .tail _ (.head _), .tail _ (.tail _ (.head _)), .tail _ (.tail _ (.tail _ (.head _))), fun _ hp => .tail _ (.tail _ (.tail _ (.tail _ hp)))⟩
end Mine
end
section
open PySem PySem.W PyProof.Rows PySem.Calls
set_option maxRecDepth 100000
set_option maxHeartbeats 8000000
namespace Mine
open Builtin.Int (intBits)
local macro_rules | `(tactic| walk_at "binaryOp RShift int int") => `(tactic| refine Stop.of ?_)
local macro_rules | `(tactic| walk_at "binaryOp LShift int int") => `(tactic| refine Stop.of ?_)
local macro_rules | `(tactic| walk_at "binaryOp Mult int int") => `(tactic| refine Stop.of ?_)
local macro_rules | `(tactic| walk_at "exec FunctionDef") => `(tactic| refine Stop.of ?_)

def ofDg (B : Int) : List Int → Int
  | [] => 0
  | d :: r => d + B * ofDg B r
theorem ofDg_append (B : Int) (ys : List Int) : ∀ xs, ofDg B (xs ++ ys) = ofDg B xs + B ^ xs.length * ofDg B ys
  | [] => by simp [ofDg]
  | x :: xs => by
    simp only [List.cons_append, ofDg, ofDg_append B ys xs, List.length_cons, Int.pow_succ, Int.mul_add]
    rw [Int.mul_comm (B ^ xs.length) B, Int.mul_assoc]; omega

abbrev T37 (tl : List (Addr × Obj)) : Prop := TabL 37 47 4 (Str.ofString "_digits2int.<locals>.inner") tl

theorem take1 {ns : List Int} {lo : Nat} (h : lo < ns.length) : (ns.drop lo).take 1 = [ns.getD lo 0] := by
  rw [List.drop_eq_getElem_cons h, List.take_succ_cons, List.take_zero, List.getD_eq_getElem?_getD, List.getElem?_eq_getElem h]
  rfl
theorem split_mid {ns : List Int} {lo mid hi : Nat} (h1 : lo ≤ mid) (h2 : mid ≤ hi) : (ns.drop lo).take (hi - lo) = (ns.drop lo).take (mid - lo) ++ (ns.drop mid).take (hi - mid) := by
  have e : hi - lo = (mid - lo) + (hi - mid) := by omega
  rw [e, List.take_add, List.drop_drop]
  congr 3; omega
theorem ofDg_nonneg {B : Int} (hB : 0 ≤ B) : ∀ {ns : List Int}, (∀ x ∈ ns, 0 ≤ x) → 0 ≤ ofDg B ns
  | [], _ => by simp [ofDg]
  | x :: r, h => by
    have h1 := h x List.mem_cons_self
    have h2 := Int.mul_nonneg hB (ofDg_nonneg hB (ns := r) fun y hy => h y (List.mem_cons_of_mem _ hy))
    simp only [ofDg]; omega
theorem ofDg_lt {n k : Nat} : ∀ {ns : List Int}, (∀ x ∈ ns, 0 ≤ x ∧ x < 2 ^ k) → ofDg (2 ^ n) ns < 2 ^ (k + (n + 1) * ns.length)
  | [], _ => by simp only [ofDg]; exact two_pow_pos _
  | x :: r, h => by
    have h1 := h x List.mem_cons_self
    have h2 := ofDg_lt (n := n) (k := k) (ns := r) fun y hy => h y (List.mem_cons_of_mem _ hy)
    have h3 := ofDg_nonneg (Int.le_of_lt (two_pow_pos n)) (ns := r) fun y hy => (h y (List.mem_cons_of_mem _ hy)).1
    simp only [ofDg, List.length_cons]
    have e : (2 : Int) ^ (k + (n + 1) * (r.length + 1)) = 2 ^ n * 2 ^ (k + (n + 1) * r.length) * 2 := by
      rw [← Int.pow_add, ← Int.pow_succ]; congr 1; rw [Nat.mul_add]; omega
    have h4 : (2 : Int) ^ k ≤ 2 ^ n * 2 ^ (k + (n + 1) * r.length) := by rw [← Int.pow_add]; exact pow_mono (by omega)
    have h5 : 2 ^ n * ofDg (2 ^ n) r ≤ 2 ^ n * 2 ^ (k + (n + 1) * r.length) := Int.mul_le_mul_of_nonneg_left (Int.le_of_lt h2) (Int.le_of_lt (two_pow_pos n))
    omega

theorem d2i {w : World} {dp un : Nat} {gd : Option (List Code)} {cn : Str} {cs : Scope} {af : Addr} {ccd : Value} {cl : List (Str × Addr)} {A₀ : Around} {E : Value → Shared → Prop} {s : Shared} {L : Addr} {h₀ base : Heap} {m mg mb : Str → Option Value} {news tl : List (Addr × Obj)} {p : PySem.Program} {loose : List Str} {mean : ExcName → Option Value} {Q : Value → Shared → Prop} {outer : List Env}
    {l : Addr} {vs : List Value} {ns : List Int} {n nc : Nat} {tn : Tok}
    (B : Below A₀ base outer h₀) (F : Fr h₀ L s.heap m) (X : (Mine.hd.heap_39 w.params).In h₀) (N : News h₀ L s.heap (news ++ tl)) (T : Top p loose mean mg mb h₀)
    (hk : cs.kind = .function) (hd : dp + 50 < recursionLimit) (hu : un + 150 < cLine)
    (hT : T37 tl) (hap : Apart news tl) (hl : (l, listOf vs.toArray nc) ∈ news) (hi : IntsAre vs ns)
    (hn : n ≤ 4200) (hlen : ns.length ≤ 16) (hpos : ∀ x ∈ ns, 0 ≤ x ∧ x < 2 ^ 9000)
    (ret : ∀ tl' h' tk' t, T37 tl' → Fr h₀ L h' m → News h₀ L h' (news ++ tl') → Apart news tl' → Q (.int (ofDg (2 ^ n) ns) t) { s with heap := h', toks := tk' }) :
    wpAny (model PySem.Challenge.rw_ny0466_01.row.prog w) (ktrTop dp un gd cn cs L af ccd cl outer) (call (.ref 42) [.ref l, .int n tn]) Q E s := by
  revert X; k_fill; intro X
  refine wpAny_call ?_
  refine' code_defC (binds := [("digits", .ref l), ("n", .int n tn)]) B F X N T rfl rfl hk ?k6 ?k7 ?k8 ?k9 ?kB ?kD ?_ ?c2 ?c3 ?c4
  case k6 => k_is
  case k7 => k_is
  case k8 => dsimp only; omega
  case k9 => exact BindsTo.of_eq rfl
  case kB => exact rfl
  case kD => decide +kernel
  case c2 => exact rfl
  case c3 => exact rfl
  case c4 => exact rfl
  intro g' L' h' tk' cells' FG' F' N' Y' B' X' T' l1
  dsimp only
  k_fold
  obtain ⟨o1, o2, o3, hE, d1, d2, d3⟩ := CellsAre.three Y'
  subst hE
  clear Y'
  k_steps
  have e1 : o1.data = .cell none := d1
  have e2 : o2.data = .cell (some (.int n tn)) := d2
  have e3 : o3.data = .cell (some (.ref l)) := d3
  clear d1 d2 d3
  have apc : Apart ((L' + 1 + 1 + 1, o1) :: (L' + 1 + 1, o2) :: (L' + 1, o3) :: news) tl := by
    refine Apart.of_lt (Apart.of_lt (Apart.of_lt hap ?_) ?_) ?_ <;> intro q hq <;> have := ltN (l1 q (List.mem_append_right _ hq)) <;> dsimp only <;> refine ltN ?_ <;> omega
  refine Stop.mk (nestDef_K rfl rfl rfl ?_)
  refine nest_any (news := (L' + 1 + 1 + 1, o1) :: (L' + 1 + 1, o2) :: (L' + 1, o3) :: news) (tl := tl) F' N' T' (codeHd_of_K X' (by kernel_rfl)) rfl hT apc rfl ?_
  intro f c' oc vs' t ctv doc tl' h2 tk2 F2 htl hd' hv' N2 lt1 lt2 ap2
  have hf3 : L' + 1 + 1 + 1 < f := lt1 (L' + 1 + 1 + 1, o1) (.head _)
  refine storeX_C F2 N2 (c := L' + 1 + 1 + 1) rfl (UpdF.tail (by dsimp only; exact Ne.symm (Nat.ne_of_lt hf3)) (UpdF.head ?_)) e1 ?_ rfl rfl
  · intro p hp
    rcases List.mem_append.mp hp with hp | hp
    · simp only [List.mem_cons] at hp
      rcases hp with rfl | rfl | hp
      · dsimp only; refine neN ?_; omega
      · dsimp only; refine neN ?_; omega
      · have := ltN (l1 p (List.mem_append_left _ hp)); refine neN ?_; omega
    · exact Ne.symm (ap2 (L' + 1 + 1 + 1, o1) (.head _) p hp)
  intro h3 o1' F3 N3 e1'
  obtain ⟨LED, hLED, N4, mf, m1, m2, m3, mr⟩ := pack4 N3
  have ml : (l, listOf vs.toArray nc) ∈ LED := mr _ (List.mem_append_left _ hl)
  have mc : (c', oc) ∈ LED := mr _ (List.mem_append_right _ (by rw [htl]; exact .tail _ (.head _)))
  have inner : ∀ (j : Nat) (lo hi : Nat) (t1 t2 : Tok), hi - lo = j → lo < hi → hi ≤ ns.length →
      ∀ {dp un : Nat} {gd : Option (List Code)} {cn : Str} {cs : Scope} {af : Addr} {ccd : Value} {cl : List (Str × Addr)} {A₀ : Around} {E : Value → Shared → Prop} {s : Shared} {L : Addr} {h₀ base : Heap} {m : Str → Option Value} {led : List (Addr × Obj)} {Q : Value → Shared → Prop} {outer : List Env},
      Below A₀ base outer h₀ → Fr h₀ L s.heap m → (Mine.hd.heap_39 w.params).In h₀ → News h₀ L s.heap led → Top p loose mean mg mb h₀ → cs.kind = .function → dp + j + 2 < recursionLimit → un + 5 * j + 20 < cLine → (∀ q ∈ LED, q ∈ led) →
      (∀ h' tk' t, Fr h₀ L h' m → News h₀ L h' led → Q (.int (ofDg (2 ^ n) ((ns.drop lo).take (hi - lo))) t) { s with heap := h', toks := tk' }) →
      wpAny (model PySem.Challenge.rw_ny0466_01.row.prog w) (ktrTop dp un gd cn cs L af ccd cl outer) (call (.ref f) [.int lo t1, .int hi t2]) Q E s := by
    intro j
    induction j using Nat.strongRecOn with
    | ind j ih =>
    intro lo hi t1 t2 hj hlt hhi dp un gd cn cs af ccd cl A₀ E s L h₀ base m led Q outer B F X N T hk hd hu hsub ret
    have CH := codeHd_of_K (c := 41) (P := 37) X (by kernel_rfl)
    have q1 := hsub _ m1
    have q2 := hsub _ m2
    have q3 := hsub _ m3
    have qf := hsub _ mf
    have ql := hsub _ ml
    have qc := hsub _ mc
    refine wpAny_call ?_
    refine' code_nest (binds := [("L", .int lo t1), ("R", .int hi t2)]) B F X N T rfl rfl hk (hsub _ mf) (codeRec_news N (hsub _ mc) hd' hv') ?k8 ?k9 ?kB ?_ ?c2 ?c3 ?c4 ?c5
    case k8 => dsimp only; omega
    case k9 => exact BindsTo.of_eq rfl
    case kB => exact locs rfl
    case c2 => exact rfl
    case c3 => exact rfl
    case c4 => exact rfl
    case c5 => decide
    intro g' L' h' FG' F' N' B' X' T'
    dsimp only
    k_fold
    k_steps
    · have e : hi = lo + 1 := by omega
      have e9 := take1 (ns := ns) (lo := lo) (by omega)
      have := ret h' tk
      rw [show hi - lo = 1 by omega, e9] at this
      simp only [ofDg, Int.mul_zero, Int.add_zero] at this
      exact this _ (by k_asm) (by k_asm)
    · obtain ⟨mid, hmid⟩ : ∃ mid, mid = (lo + hi) / 2 := ⟨_, rfl⟩
      refine b_shr (v := mid) 1 rfl (by omega) ?_
      dsimp only
      k_steps
      refine b_mul (v := ((mid - lo) * n : Nat)) (mul_ok (m := 10) (n := 20) (by omega) (by omega) (by omega) (by omega) (by decide) (by decide)) (by rw [Int.natCast_mul, Int.natCast_sub (by omega)]) ?_
      dsimp only
      k_steps
      refine ih (hi - mid) (by omega) mid hi _ _ rfl (by omega) hhi (by k_asm) (by k_asm) (by k_asm) (by k_asm) (by k_asm) rfl ?_ ?_ hsub ?_
      · dsimp only [Around.deeper]; omega
      · dsimp only [Around.deeper]; omega
      intro h5 tk5 t5 F5 N5
      dsimp only
      k_steps
      have hsub2 : ∀ x ∈ (ns.drop mid).take (hi - mid), 0 ≤ x ∧ x < 2 ^ 9000 := fun x hx => hpos x (List.mem_of_mem_drop (List.mem_of_mem_take hx))
      have hU0 := ofDg_nonneg (Int.le_of_lt (two_pow_pos n)) fun x hx => (hsub2 x hx).1
      have hU1 := ofDg_lt (n := n) hsub2
      have hl1 : ((ns.drop mid).take (hi - mid)).length ≤ 16 := by simp only [List.length_take, List.length_drop]; omega
      have hl2 : (n + 1) * ((ns.drop mid).take (hi - mid)).length ≤ 4201 * 16 := Nat.mul_le_mul (by omega) hl1
      have hl3 : (mid - lo) * n ≤ 16 * 4200 := Nat.mul_le_mul (by omega) hn
      refine b_shl ((mid - lo) * n) rfl (shl_ok hU0 hU1 (by omega)) rfl ?_
      dsimp only
      k_steps
      refine ih (mid - lo) (by omega) lo mid _ _ rfl (by omega) (by omega) (by k_asm) (by k_asm) (by k_asm) (by k_asm) (by k_asm) rfl ?_ ?_ hsub ?_
      · dsimp only [Around.deeper]; omega
      · dsimp only [Around.deeper]; omega
      intro h6 tk6 t6 F6 N6
      dsimp only
      k_steps
      have ev : ofDg (2 ^ n) ((ns.drop mid).take (hi - mid)) * 2 ^ ((mid - lo) * n) + ofDg (2 ^ n) ((ns.drop lo).take (mid - lo)) = ofDg (2 ^ n) ((ns.drop lo).take (hi - lo)) := by
        rw [split_mid (lo := lo) (mid := mid) (hi := hi) (by omega) (by omega), ofDg_append]
        have hl4 : ((ns.drop lo).take (mid - lo)).length = mid - lo := by simp only [List.length_take, List.length_drop]; omega
        rw [hl4, ← Int.pow_mul, Nat.mul_comm n, Int.mul_comm]; omega
      rw [ev]
      exact ret _ _ _ (by k_asm) (by k_asm)
  dsimp only
  have CH := codeHd_of_K (c := 41) (P := 37) X' (by kernel_rfl)
  have hvl : vs.length = ns.length := hi.length
  clear N3
  k_steps
  refine wpAny_truthy_list (News.isList N4 ml) (by rw [List.size_toArray]; omega) ?_
  have hbk : ∀ h9, News h₀ L h9 LED → News h₀ L h9 (news ++ tl') := fun h9 N9 => kst_newsOf N9 mr
  have hT9 : T37 tl' := .inr ⟨c', oc, vs', t, htl, hd', hv'⟩
  have ap9 : Apart news tl' := ap2.sub (fun p hp => .tail _ (.tail _ (.tail _ hp))) fun _ h => h
  by_cases hz : ns = []
  · subst hz
    have : vs = [] := List.eq_nil_of_length_eq_zero hvl
    subst this
    rw [show (!(([] : List Value).toArray).isEmpty) = false from rfl]
    dsimp only
    k_steps
    exact ret tl' _ _ _ hT9 (by k_asm) (hbk _ (by k_asm)) ap9
  · have : vs ≠ [] := fun e => hz (List.eq_nil_of_length_eq_zero (by rw [← hvl, e]; rfl))
    rw [show (!(vs.toArray).isEmpty) = true by simp [this]]
    dsimp only
    k_steps
    refine kst_len N4 ml hvl (by omega) ?_
    dsimp only
    k_steps
    have hn0 : 0 < ns.length := List.length_pos_iff.mpr hz
    refine inner ns.length 0 ns.length _ _ rfl hn0 (Nat.le_refl _) (by k_asm) (by k_asm) (by k_asm) (by k_asm) (by k_asm) rfl ?_ ?_ (fun _ h => h) ?_
    · dsimp only [Around.deeper]; omega
    · dsimp only [Around.deeper]; omega
    intro h7 tk7 t7 F7 N7
    rw [List.drop_zero, Nat.sub_zero, List.take_length]
    dsimp only
    k_steps
    exact ret tl' _ _ _ hT9 (by k_asm) (hbk _ (by k_asm)) ap9
end Mine
end
section
open PySem PySem.W PyProof.Rows PySem.Calls
namespace Mine
open Builtin.Int (intBits)

def dg (B : Int) : Nat → Int → List Int
  | 0, _ => []
  | 1, x => [x]
  | k + 2, x => x % B :: dg B (k + 1) (x / B)
theorem dg_succ (B : Int) {k : Nat} (hk : 1 ≤ k) (x : Int) : dg B (k + 1) x = x % B :: dg B k (x / B) := by
  obtain ⟨j, rfl⟩ : ∃ j, k = j + 1 := ⟨k - 1, by omega⟩
  rfl
theorem dg_length (B : Int) : ∀ k x, (dg B k x).length = k
  | 0, _ => rfl
  | 1, _ => rfl
  | k + 2, x => by rw [dg, List.length_cons, dg_length B (k + 1)]

theorem emod_unique {x M q r : Int} (_hM : 0 < M) (h0 : 0 ≤ r) (h1 : r < M) (e : x = M * q + r) : x % M = r ∧ x / M = q := by
  subst e
  have h2 : r % M = r := Int.emod_eq_of_lt h0 h1
  have h3 : r / M = 0 := Int.ediv_eq_zero_of_lt h0 h1
  constructor
  · rw [Int.add_comm, Int.add_mul_emod_self_left, h2]
  · rw [Int.add_comm, Int.add_mul_ediv_left _ _ (by omega), h3]; omega

theorem mod_parts {B x : Int} (hB : 0 < B) (i : Nat) : x % B ^ (i + 1) % B = x % B ∧ x % B ^ (i + 1) / B = x / B % B ^ i := by
  have hp : 0 < B ^ i := Int.pow_pos hB
  have h1 := Int.mul_ediv_add_emod x B
  have h2 := Int.mul_ediv_add_emod (x / B) (B ^ i)
  have a0 : 0 ≤ x % B := Int.emod_nonneg _ (by omega)
  have a1 : x % B < B := Int.emod_lt_of_pos _ hB
  have b0 : 0 ≤ x / B % B ^ i := Int.emod_nonneg _ (by omega)
  have b1 : x / B % B ^ i < B ^ i := Int.emod_lt_of_pos _ hp
  generalize x % B = l at *
  generalize hm : x / B % B ^ i = mm at *
  generalize x / B / B ^ i = q at *
  have e : x = B ^ (i + 1) * q + (B * mm + l) := by
    rw [Int.pow_succ, Int.mul_comm (B ^ i) B, Int.mul_assoc]
    have t : B * (B ^ i * q + mm) + l = x := by rw [h2]; exact h1
    rw [Int.mul_add] at t
    omega
  have c0 : 0 ≤ B * mm + l := by have := Int.mul_nonneg (Int.le_of_lt hB) b0; omega
  have c1 : B * mm + l < B ^ (i + 1) := by
    have t : B * (mm + 1) ≤ B * B ^ i := Int.mul_le_mul_of_nonneg_left (by omega) (by omega)
    rw [Int.mul_add, Int.mul_one] at t
    rw [Int.pow_succ, Int.mul_comm (B ^ i) B]; omega
  have u := (emod_unique (Int.pow_pos hB) c0 c1 e).1
  rw [u]
  have v := emod_unique (x := B * mm + l) hB a0 a1 rfl
  exact ⟨v.1, v.2⟩

theorem dg_split {B : Int} (hB : 0 < B) : ∀ (i j : Nat) (x : Int), 1 ≤ i → 1 ≤ j → dg B (i + j) x = dg B i (x % B ^ i) ++ dg B j (x / B ^ i) := by
  intro i
  induction i with
  | zero => intro j x h; omega
  | succ i ih =>
    intro j x _ hj
    by_cases hi : i = 0
    · subst hi
      rw [show 0 + 1 + j = j + 1 by omega, dg_succ B hj]
      rw [show (0 + 1) = 1 from rfl, Int.pow_one]; rfl
    · rw [show i + 1 + j = (i + j) + 1 by omega, dg_succ B (by omega), dg_succ B (by omega), ih j (x / B) (by omega) hj]
      have m := mod_parts (x := x) hB i
      rw [m.1, m.2, List.cons_append]
      congr 3
      rw [Int.pow_succ, Int.mul_comm (B ^ i) B, Int.ediv_ediv_of_nonneg (Int.le_of_lt hB)]

theorem ofDg_dg {B : Int} (_hB : 0 < B) : ∀ (k : Nat) (x : Int), 1 ≤ k → ofDg B (dg B k x) = x
  | 0, _, h => by omega
  | 1, x, _ => by simp [dg, ofDg]
  | k + 2, x, _ => by
    rw [dg, ofDg, ofDg_dg _hB (k + 1) (x / B) (by omega)]
    have := Int.mul_ediv_add_emod x B
    omega

theorem dg_bound {B : Int} (hB : 0 < B) : ∀ (k : Nat) (x : Int), 0 ≤ x → x < B ^ k → ∀ d ∈ dg B k x, 0 ≤ d ∧ d < B
  | 0, _, _, _ => fun d hd => nomatch hd
  | 1, x, h0, h1 => fun d hd => by
    rw [dg, List.mem_singleton] at hd
    subst hd
    rw [Int.pow_one] at h1
    exact ⟨h0, h1⟩
  | k + 2, x, h0, h1 => fun d hd => by
    rw [dg] at hd
    rcases List.mem_cons.mp hd with rfl | hd
    · exact ⟨Int.emod_nonneg _ (by omega), Int.emod_lt_of_pos _ hB⟩
    · refine dg_bound hB (k + 1) (x / B) (Int.ediv_nonneg h0 (by omega)) (Int.ediv_lt_of_lt_mul hB ?_) d hd
      rw [← Int.pow_succ]; exact h1

theorem dg_ofDg {B : Int} (hB : 0 < B) : ∀ (ds : List Int), (∀ d ∈ ds, 0 ≤ d ∧ d < B) → dg B ds.length (ofDg B ds) = ds
  | [], _ => rfl
  | [x], _ => by simp [ofDg, dg]
  | x :: y :: r, h => by
    have hx := h x List.mem_cons_self
    rw [List.length_cons, dg_succ B (by simp), ofDg]
    have v := emod_unique (x := x + B * ofDg B (y :: r)) (q := ofDg B (y :: r)) hB hx.1 hx.2 (by omega)
    rw [v.1, v.2, dg_ofDg hB (y :: r) fun d hd => h d (List.mem_cons_of_mem _ hd)]

theorem i2d_base {ns : List Int} {lo : Nat} {x : Int} (h : lo < ns.length) : ns.set lo x = ns.take lo ++ (dg B 1 x ++ ns.drop (lo + 1)) := by
  rw [dg, List.set_eq_take_append_cons_drop]; simp [h]
theorem i2d_step {ns : List Int} {lo mid hi : Nat} (xs ys : List Int) (h1 : lo ≤ mid) (h2 : mid ≤ hi) (h3 : hi ≤ ns.length) (hx : xs.length = mid - lo) :
    (ns.take lo ++ (xs ++ ns.drop mid)).take mid ++ (ys ++ (ns.take lo ++ (xs ++ ns.drop mid)).drop hi) = ns.take lo ++ ((xs ++ ys) ++ ns.drop hi) := by
  have l1 : (ns.take lo).length = lo := by rw [List.length_take]; omega
  have e0 : ns.take lo ++ (xs ++ ns.drop mid) = (ns.take lo ++ xs) ++ ns.drop mid := by rw [List.append_assoc]
  have l2 : (ns.take lo ++ xs).length = mid := by rw [List.length_append, l1, hx]; omega
  rw [e0, List.take_left' l2]
  have e1 : ((ns.take lo ++ xs) ++ ns.drop mid).drop hi = ns.drop hi := by
    rw [List.drop_append, l2, List.drop_eq_nil_of_le (by omega), List.nil_append, List.drop_drop]
    congr 1; omega
  rw [e1]; simp only [List.append_assoc]
end Mine
end
section
open PySem PySem.W PyProof.Rows PySem.Calls
set_option maxRecDepth 100000
set_option maxHeartbeats 1200000
namespace Mine
open Builtin.Int (intBits)
local macro_rules | `(tactic| walk_at "binaryOp RShift int int") => `(tactic| refine Stop.of ?_)
local macro_rules | `(tactic| walk_at "binaryOp LShift int int") => `(tactic| refine Stop.of ?_)
local macro_rules | `(tactic| walk_at "binaryOp Mult int int") => `(tactic| refine Stop.of ?_)
local macro_rules | `(tactic| walk_at "binaryOp BitXor int int") => `(tactic| refine Stop.of ?_)
local macro_rules | `(tactic| walk_at "binaryOp FloorDiv int int") => `(tactic| refine Stop.of ?_)
local macro_rules | `(tactic| walk_at "binaryOp Mult ref int") => `(tactic| refine Stop.of ?_)
local macro_rules | `(tactic| walk_at "exec FunctionDef") => `(tactic| refine Stop.of ?_)

local macro_rules | `(tactic| walk_at "eval Name") => `(tactic| (k_dflt (refine' nameX_F ?N ?c ?m ?d ?_ ?a ?b; (case a => rfl); (case b => rfl); (case N => k_asm); (case c => rfl); (case m => refine List.mem_cons_of_mem _ ?_; ktr_member); (case d => k_asm); k_whole)))
local macro_rules | `(tactic| walk_at "eval Name") => `(tactic| (k_dflt (refine' nameX_C ?N ?c ?m ?d ?_ ?a ?b; (case a => rfl); (case b => rfl); (case N => k_asm); (case c => rfl); (case m => refine List.mem_cons_of_mem _ ?_; ktr_member); (case d => k_asm); k_whole)))
local macro_rules | `(tactic| walk_at "FnAt") => `(tactic| (k_dflt (exact FnAt.of (by k_asm) (List.mem_cons_of_mem _ (by ktr_member)))))
local macro_rules | `(tactic| walk_at "callWith ref") => `(tactic| (k_dflt (refine' callWith_F ?k1 ?_; (case k1 => exact FnAt.of (by k_asm) (List.mem_cons_of_mem _ (by ktr_member))); k_whole)))
theorem b_fdiv {prog : PySem.Program} {w : World} {A : Around} {E : Value → Shared → Prop} {s : Shared} {a b v : Int} {t u : Tok} {Q : Value → Shared → Prop} (hb : 0 < b) (hp : Builtin.divisionGoesByPylong a b = false) (e : a / b = v) (h : Q (.int v s.toks) { s with toks := s.toks + 1 }) : Stop (wpAny (model prog w) A (binaryOp .FloorDiv (.int a t) (.int b u)) Q E s) := by
  refine .mk (floordiv_int (by omega) ?_ (Or.inl hp)); rw [fdiv_pos (Int.le_of_lt hb), e]; exact h

abbrev T30 (tl : List (Addr × Obj)) : Prop := TabL 30 32 4 (Str.ofString "_int2digits.<locals>.inner") tl
def nDig (a : Int) (n : Nat) : Nat := (intBits a + n - 1) / n

theorem nDig_bits {a : Int} {n : Nat} (hn : 1 ≤ n) : intBits a ≤ n * nDig a n := by
  unfold nDig
  have h1 := Nat.div_add_mod (intBits a + n - 1) n
  have h2 := Nat.mod_lt (intBits a + n - 1) (show n > 0 by omega)
  omega
theorem nDig_pos {a : Int} {n : Nat} (h0 : 0 ≤ a) (ha : a ≠ 0) (hn : 1 ≤ n) : 1 ≤ nDig a n := by
  have h1 : intBits a ≠ 0 := fun e => by
    have := lt_of_bits (m := 0) (Nat.le_of_eq e)
    rw [Int.pow_zero] at this
    omega
  unfold nDig
  exact (Nat.le_div_iff_mul_le (by omega)).mpr (by omega)
theorem packD {h₀ h : Heap} {L : Addr} {xf xD x1 x2 x3 : Addr × Obj} {rest : List (Addr × Obj)} (N : News h₀ L h (xf :: xD :: x1 :: x2 :: x3 :: rest)) :
    ∃ REST, REST = xf :: x1 :: x2 :: x3 :: rest ∧ News h₀ L h (xD :: REST) ∧ xf ∈ REST ∧ x1 ∈ REST ∧ x2 ∈ REST ∧ x3 ∈ REST ∧ ∀ p ∈ rest, p ∈ REST := by
  refine ⟨_, rfl, kst_newsOf N ?_, .head _, .tail _ (.head _), .tail _ (.tail _ (.head _)), .tail _ (.tail _ (.tail _ (.head _))), fun _ hp => .tail _ (.tail _ (.tail _ (.tail _ hp)))⟩
  intro p hp
  simp only [List.mem_cons] at hp ⊢
  rcases hp with h | h | h <;> simp only [h, true_or, or_true]

theorem i2d {w : World} {dp un : Nat} {gd : Option (List Code)} {cn : Str} {cs : Scope} {af : Addr} {ccd : Value} {cl : List (Str × Addr)} {A₀ : Around} {E : Value → Shared → Prop} {s : Shared} {L : Addr} {h₀ base : Heap} {m mg mb : Str → Option Value} {news tl : List (Addr × Obj)} {p : PySem.Program} {loose : List Str} {mean : ExcName → Option Value} {Q : Value → Shared → Prop} {outer : List Env}
    {a : Int} {n : Nat} {ta tn : Tok}
    (B : Below A₀ base outer h₀) (F : Fr h₀ L s.heap m) (X : (Mine.hd.heap_39 w.params).In h₀) (N : News h₀ L s.heap (news ++ tl)) (T : Top p loose mean mg mb h₀)
    (hk : cs.kind = .function) (hd : dp + 50 < recursionLimit) (hu : un + 150 < cLine)
    (hT : T30 tl) (hap : Apart news tl)
    (ha : 0 ≤ a) (hn1 : 1 ≤ n) (hn : n ≤ 4200) (hdig : nDig a n ≤ 16)
    (ret : ∀ l vs nc tl' h' tk', T30 tl' → Fr h₀ L h' m → News h₀ L h' ((l, listOf vs.toArray nc) :: (news ++ tl')) → Apart news tl' → IntsAre vs (dg (2 ^ n) (nDig a n) a) → (∀ q ∈ news, q.1 < l) → (∀ q ∈ tl', q.1 ≠ l) → Q (.ref l) { s with heap := h', toks := tk' }) :
    wpAny (model PySem.Challenge.rw_ny0466_01.row.prog w) (ktrTop dp un gd cn cs L af ccd cl outer) (call (.ref 35) [.int a ta, .int n tn]) Q E s := by
  revert X; k_fill; intro X
  refine wpAny_call ?_
  refine' code_defC (binds := [("a", .int a ta), ("n", .int n tn)]) B F X N T rfl rfl hk ?k6 ?k7 ?k8 ?k9 ?kB ?kD ?_ ?c2 ?c3 ?c4
  case k6 => k_is
  case k7 => k_is
  case k8 => dsimp only; omega
  case k9 => exact BindsTo.of_eq rfl
  case kB => exact rfl
  case kD => decide +kernel
  case c2 => exact rfl
  case c3 => exact rfl
  case c4 => exact rfl
  intro g' L' h' tk' cells' FG' F' N' Y' B' X' T' l1
  dsimp only
  k_fold
  obtain ⟨o1, o2, o3, hE, d1, d2, d3⟩ := CellsAre.three Y'
  subst hE
  clear Y'
  k_steps
  refine b_fdiv (v := nDig a n) (by omega) (noPy (m := 13) (by omega) (by omega) (by decide)) ?_ ?_
  · unfold nDig; rw [Int.natCast_ediv]; congr 1; omega
  dsimp only
  k_steps
  have e1 : o1.data = .cell none := d1
  have e2 : o2.data = .cell none := d2
  have e3 : o3.data = .cell (some (.int n tn)) := d3
  clear d1 d2 d3
  refine Stop.mk (KM.mul (vs := [_]) (ns := [0]) (by k_asm) (by k_asm) (News.isList (by k_asm) (.head _)) (.cons 0 _ .nil) (by omega) (by omega) (by rw [List.length_singleton, Int.toNat_natCast]; omega) ?_)
  intro D h2 F2 N2 lt2 hi2 Nn hz1 hz2 _ _
  rw [Int.toNat_natCast] at N2 hi2 hz2 hz1
  have hlen0 : (List.replicate (nDig a n) [(0 : Int)]).flatten.length = nDig a n := by rw [KM.len_rep, List.length_singleton, Nat.one_mul]
  clear hz1 hz2
  generalize (List.replicate (nDig a n) [(0 : Int)]).flatten = ns0 at *
  generalize (List.replicate (nDig a n) [_]).flatten = vs0 at *
  have N3 := news_hd N2 (news := (L' + 1 + 1 + 1, o1) :: (L' + 1 + 1, o2) :: (L' + 1, o3) :: (news ++ tl)) (fun p hp => .tail _ hp)
  have lD : ∀ q ∈ (L' + 1 + 1 + 1, o1) :: (L' + 1 + 1, o2) :: (L' + 1, o3) :: (news ++ tl), q.1 < D := fun q hq => lt2 q (.tail _ hq)
  clear N2
  have hD3 : L' + 1 + 1 + 1 < D := lD (L' + 1 + 1 + 1, o1) (.head _)
  dsimp only
  refine storeX_C (by k_asm) N3 (c := L' + 1 + 1) rfl (UpdF.tail (by dsimp only; refine neN ?_; have := ltN hD3; omega) (UpdF.tail (by dsimp only; refine neN ?_; omega) (UpdF.head ?_))) e2 ?_ rfl rfl
  · intro p hp
    rcases List.mem_cons.mp hp with rfl | hp
    · dsimp only; refine neN ?_; omega
    · have := ltN (l1 p hp); refine neN ?_; omega
  intro h4 o2' F4 N4 e2'
  clear N3 F2 lt2
  have apc : Apart ((D, listOf vs0.toArray 0) :: (L' + 1 + 1 + 1, o1) :: (L' + 1 + 1, o2') :: (L' + 1, o3) :: news) tl := by
    refine Apart.of_lt (Apart.of_lt (Apart.of_lt (Apart.of_lt hap ?_) ?_) ?_) ?_ <;> intro q hq <;> have := ltN (l1 q (List.mem_append_right _ hq)) <;> have := ltN hD3 <;> dsimp only <;> refine ltN ?_ <;> omega
  k_steps
  refine Stop.mk (nestDef_K rfl rfl rfl ?_)
  refine nest_any (news := (D, listOf vs0.toArray 0) :: (L' + 1 + 1 + 1, o1) :: (L' + 1 + 1, o2') :: (L' + 1, o3) :: news) (tl := tl) F4 N4 T' (codeHd_of_K X' (by kernel_rfl)) rfl hT apc rfl ?_
  intro f c' oc vs' t ctv doc tl' h5 tk5 F5 htl hd' hv' N5 lt1 ltt ap2
  have hfD : D < f := lt1 (D, _) (.head _)
  have apD : ∀ q ∈ tl', q.1 ≠ D := fun q hq e => ap2 (D, _) (.head _) q hq e.symm
  refine storeX_C F5 N5 (c := L' + 1 + 1 + 1) rfl (UpdF.tail (by dsimp only; refine neN ?_; have := ltN hfD; have := ltN hD3; omega) (UpdF.tail (by dsimp only; refine neN ?_; have := ltN hD3; omega) (UpdF.head ?_))) e1 ?_ rfl rfl
  · intro p hp
    rcases List.mem_append.mp hp with hp | hp
    · simp only [List.mem_cons] at hp
      rcases hp with rfl | rfl | hp
      · dsimp only; refine neN ?_; omega
      · dsimp only; refine neN ?_; omega
      · have := ltN (l1 p (List.mem_append_left _ hp)); refine neN ?_; omega
    · exact Ne.symm (ap2 (L' + 1 + 1 + 1, o1) (.tail _ (.head _)) p hp)
  intro h6 o1' F6 N6 e1'
  obtain ⟨REST, hREST, N7, mf, m1, m2, m3, mr⟩ := packD N6
  have mc : (c', oc) ∈ REST := mr _ (List.mem_append_right _ (by rw [htl]; exact .tail _ (.head _)))
  have hneR : ∀ q ∈ REST, q.1 ≠ D := by
    intro q hq
    rw [hREST] at hq
    simp only [List.mem_cons] at hq
    have := ltN hD3
    have := ltN hfD
    rcases hq with rfl | rfl | rfl | rfl | hq
    · dsimp only; refine neN ?_; omega
    · dsimp only; refine neN ?_; omega
    · dsimp only; refine neN ?_; omega
    · dsimp only; refine neN ?_; omega
    · rcases List.mem_append.mp hq with hq | hq
      · have := ltN (l1 q (List.mem_append_left _ hq)); refine neN ?_; omega
      · exact apD q hq
  clear hREST N6 N5 F5
  have inner : ∀ (M : Nat), M ≤ 70000 → ∀ (j : Nat) (lo hi : Nat) (x : Int) (t0 t1 t2 : Tok) (vs : List Value) (ns : List Int), hi - lo = j → lo < hi → hi ≤ ns.length → ns.length ≤ 16 → IntsAre vs ns → 0 ≤ x → x < 2 ^ M →
      ∀ {dp un : Nat} {gd : Option (List Code)} {cn : Str} {cs : Scope} {af : Addr} {ccd : Value} {cl : List (Str × Addr)} {A₀ : Around} {E : Value → Shared → Prop} {s : Shared} {L : Addr} {h₀ base : Heap} {m : Str → Option Value} {rest : List (Addr × Obj)} {Q : Value → Shared → Prop} {outer : List Env},
      Below A₀ base outer h₀ → Fr h₀ L s.heap m → (Mine.hd.heap_39 w.params).In h₀ → News h₀ L s.heap ((D, listOf vs.toArray 0) :: rest) → Top p loose mean mg mb h₀ → cs.kind = .function → dp + j + 2 < recursionLimit → un + 5 * j + 20 < cLine → (∀ q ∈ REST, q ∈ rest) → (∀ q ∈ rest, q.1 ≠ D) →
      (∀ h' tk' vs', Fr h₀ L h' m → News h₀ L h' ((D, listOf vs'.toArray 0) :: rest) → IntsAre vs' (ns.take lo ++ (dg (2 ^ n) (hi - lo) x ++ ns.drop hi)) → Q .none { s with heap := h', toks := tk' }) →
      wpAny (model PySem.Challenge.rw_ny0466_01.row.prog w) (ktrTop dp un gd cn cs L af ccd cl outer) (call (.ref f) [.int x t0, .int lo t1, .int hi t2]) Q E s := by
    intro M hM j
    induction j using Nat.strongRecOn with
    | ind j ih =>
    intro lo hi x t0 t1 t2 vs ns hj hlt hhi hns hI hx0 hx1 dp un gd cn cs af ccd cl A₀ E s L h₀ base m rest Q outer B F X N T hk hd hu hsub hne ret
    have CH := codeHd_of_K (c := 34) (P := 30) X (by kernel_rfl)
    have q1 := hsub _ m1
    have q2 := hsub _ m2
    have q3 := hsub _ m3
    have qf := hsub _ mf
    have qc := hsub _ mc
    refine wpAny_call ?_
    refine' code_nest (binds := [("x", .int x t0), ("L", .int lo t1), ("R", .int hi t2)]) B F X N T rfl rfl hk (.tail _ (hsub _ mf)) (codeRec_news N (.tail _ (hsub _ mc)) hd' hv') ?k8 ?k9 ?kB ?_ ?c2 ?c3 ?c4 ?c5
    case k8 => dsimp only; omega
    case k9 => exact BindsTo.of_eq rfl
    case kB => exact locs rfl
    case c2 => exact rfl
    case c3 => exact rfl
    case c4 => exact rfl
    case c5 => decide
    intro g' L' h' FG' F' N' B' X' T'
    dsimp only
    k_fold
    k_steps
    · refine ksa_set (by k_asm) (by k_asm) (Upd.head hne) hI (by omega) (by omega) (by omega) ?_
      intro h9 F9 N9 hI9 _ _
      dsimp only
      k_steps
      have e9 : hi = lo + 1 := by omega
      rw [Int.toNat_natCast, i2d_base (B := 2 ^ n) (by omega), ← e9] at hI9
      rw [show hi - lo = 1 by omega] at ret
      exact ret _ _ _ (by k_asm) (by k_asm) hI9
    · obtain ⟨mid, hmid⟩ : ∃ mid, mid = (lo + hi) / 2 := ⟨_, rfl⟩
      refine b_shr (v := mid) 1 rfl (by omega) ?_
      dsimp only
      k_steps
      refine b_mul (v := ((mid - lo) * n : Nat)) (mul_ok (m := 10) (n := 20) (by omega) (by omega) (by omega) (by omega) (by decide) (by decide)) (by rw [Int.natCast_mul, Int.natCast_sub (by omega)]) ?_
      dsimp only
      k_steps
      have hl3 : (mid - lo) * n ≤ 16 * 4200 := Nat.mul_le_mul (by omega) hn
      obtain ⟨sh, hsh⟩ : ∃ sh, sh = (mid - lo) * n := ⟨_, rfl⟩
      rw [← hsh] at hl3
      have hp9 := two_pow_pos sh
      have hu0 : 0 ≤ x / 2 ^ sh := Int.ediv_nonneg hx0 (by omega)
      have hu1 : x / 2 ^ sh < 2 ^ M := Int.lt_of_le_of_lt (Int.ediv_le_self _ hx0) hx1
      have hw0 : 0 ≤ x % 2 ^ sh := Int.emod_nonneg _ (by omega)
      have hw1 : x % 2 ^ sh < 2 ^ M := by have z1 := Int.mul_ediv_add_emod x (2 ^ sh); have z2 := Int.mul_nonneg (Int.le_of_lt hp9) hu0; omega
      refine b_shr (v := x / 2 ^ sh) sh (by rw [hsh]) rfl ?_
      dsimp only
      k_steps
      refine b_shl sh (by rw [hsh]) (shl_ok hu0 hu1 (by omega)) rfl ?_
      dsimp only
      k_steps
      refine b_xor (xor_low sh hx0) ?_
      dsimp only
      k_steps
      refine ih (mid - lo) (by omega) lo mid _ _ _ _ vs ns rfl (by omega) (by omega) hns hI hw0 hw1 (by k_asm) (by k_asm) (by k_asm) (by k_asm) (by k_asm) rfl ?_ ?_ hsub hne ?_
      · dsimp only [Around.deeper]; omega
      · dsimp only [Around.deeper]; omega
      intro h9 tk9 vs9 F9 N9 hI9
      dsimp only
      k_steps
      have hl9 : (ns.take lo ++ (dg (2 ^ n) (mid - lo) (x % 2 ^ sh) ++ ns.drop mid)).length = ns.length := by
        simp only [List.length_append, List.length_take, List.length_drop, dg_length]; omega
      refine ih (hi - mid) (by omega) mid hi _ _ _ _ vs9 _ rfl (by omega) (by omega) (by omega) hI9 hu0 hu1 (by k_asm) (by k_asm) (by k_asm) (by k_asm) (by k_asm) rfl ?_ ?_ hsub hne ?_
      · dsimp only [Around.deeper]; omega
      · dsimp only [Around.deeper]; omega
      intro h10 tk10 vs10 F10 N10 hI10
      rw [i2d_step _ _ (by omega) (by omega) hhi (dg_length _ _ _)] at hI10
      have epow : (2 : Int) ^ sh = (2 ^ n) ^ (mid - lo) := by rw [hsh, ← Int.pow_mul, Nat.mul_comm]
      have esp := dg_split (two_pow_pos n) (mid - lo) (hi - mid) x (by omega) (by omega)
      rw [← epow, show mid - lo + (hi - mid) = hi - lo by omega] at esp
      rw [← esp] at hI10
      dsimp only
      k_steps
      exact ret _ _ _ (by k_asm) (by k_asm) hI10
  dsimp only
  have CH := codeHd_of_K (c := 34) (P := 30) X' (by kernel_rfl)
  have hT9 : T30 tl' := .inr ⟨c', oc, vs', t, htl, hd', hv'⟩
  have ap9 : Apart news tl' := ap2.sub (fun p hp => .tail _ (.tail _ (.tail _ (.tail _ hp)))) fun _ h => h
  have lD9 : ∀ q ∈ news, q.1 < D := fun q hq => lD q (.tail _ (.tail _ (.tail _ (List.mem_append_left _ hq))))
  k_steps
  · have ha0 : a ≠ 0 := by assumption
    have hpos := nDig_pos (n := n) ha ha0 hn1
    have hbits := nDig_bits (a := a) (n := n) hn1
    have hb2 : n * nDig a n ≤ 4200 * 16 := Nat.mul_le_mul hn hdig
    refine inner (intBits a) (by omega) (nDig a n) 0 ns0.length a _ _ _ vs0 ns0 (by omega) (by omega) (Nat.le_refl _) (by omega) hi2 ha (lt_of_bits (Nat.le_refl _)) (by k_asm) (by k_asm) (by k_asm) (by k_asm) (by k_asm) rfl ?_ ?_ (fun _ h => h) hneR ?_
    · dsimp only [Around.deeper]; omega
    · dsimp only [Around.deeper]; omega
    intro h9 tk9 vs9 F9 N9 hI9
    rw [List.take_zero, List.drop_length, List.append_nil, List.nil_append, Nat.sub_zero, hlen0] at hI9
    dsimp only
    k_steps
    exact ret D vs9 0 tl' _ _ hT9 (by k_asm) (news_hd (by k_asm) mr) ap9 hI9 lD9 apD
  · have ha0 : a = 0 := by omega
    have hz : nDig a n = 0 := by rw [ha0]; exact Nat.div_eq_of_lt (by show 0 + n - 1 < n; omega)
    rw [hz] at hlen0
    have : ns0 = [] := List.eq_nil_of_length_eq_zero hlen0
    subst this
    exact ret D vs0 0 tl' _ _ hT9 (by k_asm) (news_hd (by k_asm) mr) ap9 (by rw [hz]; exact hi2) lD9 apD
end Mine
end
section
open PySem PySem.W PyProof.Rows PySem.Calls
namespace Mine
theorem offI_of {I : Addr} {it : Obj} : ∀ {l : List (Addr × Obj)}, (∀ p ∈ l, p.1 ≠ I) → OffI I it l
  | [], _ => trivial
  | p :: _, h => ⟨.inl (h p List.mem_cons_self), offI_of fun q hq => h q (List.mem_cons_of_mem _ hq)⟩
theorem unrPost_mono {h₀ : Heap} {L : Addr} {s₁ : Shared} {I : Addr} {it : Obj} {r1 r2 : (Str → Option Value) → List (Addr × Obj) → Prop} {Q : Flow → Shared → Prop} (hr : ∀ m n, r1 m n → r2 m n) {f : Flow} {s₂ : Shared}
    (h : UnrPost h₀ L s₁ I it r1 Q f s₂) : UnrPost h₀ L s₁ I it r2 Q f s₂ := by
  have up : UnrEnd h₀ L s₁ I it r1 s₂ → UnrEnd h₀ L s₁ I it r2 s₂ := fun ⟨h', tk, m', news', a, b, c, d, e⟩ => ⟨h', tk, m', news', a, b, c, d, hr _ _ e⟩
  cases f with
  | ret v => exact h
  | brk => exact h
  | next => exact up h
  | cont => exact up h
section
variable {prog : PySem.Program} {w : World} {A : Around} {E : Value → Shared → Prop} {s : Shared} {env : Env} {h₀ : Heap} {x : Str} {body : List Stmt} {Q : Flow → Shared → Prop} {I : Addr} {lp : Addr × Obj}
theorem rev_ind (Inv : List Value → (Str → Option Value) → List (Addr × Obj) → Prop)
    (h1 : ∀ v r m news, Inv (v :: r) m news → ∀ (it : Obj) h tk, it.cls = .type "list_reverseiterator" → Fr h₀ env.locals h (fun y => if y = x then some v else m y) → News h₀ env.locals h ((I, it) :: news) →
      wpAny (model prog w) A (execs body env) (UnrPost h₀ env.locals { s with heap := h, toks := tk } I it (fun m' n' => lp ∈ n' ∧ Inv r m' n') Q) E { s with heap := h, toks := tk })
    (h0 : ∀ m news, Inv [] m news → ∀ h tk, Fr h₀ env.locals h m → News h₀ env.locals h news → Q .next { s with heap := h, toks := tk }) :
    ∀ vals m news, Inv vals m news → RevRest prog w A E h₀ env x body Q s I lp vals m news := by
  intro vals
  induction vals with
  | nil => intro m news hI; exact RevRest.zero (h0 m news hI)
  | cons v r ih =>
    intro m news hI
    refine RevRest.succ fun it h tk hc F N => ?_
    exact wpAny_mono (h1 v r m news hI it h tk hc F N) (fun f s₂ p => unrPost_mono (fun m n h => ⟨h.1, ih m n h.2⟩) p) fun _ _ e => e
theorem list_ind (Inv : List Value → (Str → Option Value) → List (Addr × Obj) → Prop)
    (h1 : ∀ v r m news, Inv (v :: r) m news → ∀ (it : Obj) h tk, it.cls = .type "list_iterator" → Fr h₀ env.locals h (fun y => if y = x then some v else m y) → News h₀ env.locals h ((I, it) :: news) →
      wpAny (model prog w) A (execs body env) (UnrPost h₀ env.locals { s with heap := h, toks := tk } I it (fun m' n' => lp ∈ n' ∧ Inv r m' n') Q) E { s with heap := h, toks := tk })
    (h0 : ∀ m news, Inv [] m news → ∀ h tk, Fr h₀ env.locals h m → News h₀ env.locals h news → Q .next { s with heap := h, toks := tk }) :
    ∀ vals m news, Inv vals m news → ListRest prog w A E h₀ env x body Q s I lp vals m news := by
  intro vals
  induction vals with
  | nil => intro m news hI; exact ListRest.zero (h0 m news hI)
  | cons v r ih =>
    intro m news hI
    refine ListRest.succ fun it h tk hc F N => ?_
    exact wpAny_mono (h1 v r m news hI it h tk hc F N) (fun f s₂ p => unrPost_mono (fun m n h => ⟨h.1, ih m n h.2⟩) p) fun _ _ e => e
end
end Mine
end
section
open PySem PySem.W PyProof.Rows PySem.Calls
set_option maxRecDepth 100000
set_option maxHeartbeats 1200000
namespace Mine
open Builtin.Int (intBits)
local macro_rules | `(tactic| walk_at "binaryOp LShift int int") => `(tactic| refine Stop.of ?_)
local macro_rules | `(tactic| walk_at "pyIter ref") => `(tactic| refine Stop.of ?_)

abbrev frM (r : Int) (tr : Tok) (D : Addr) (n : Int) (tn : Tok) (b : Int) (tb : Tok) (u : Str → Option Value) : Str → Option Value := fun y =>
  if y = "r" then some (.int r tr) else if y = "q_digits" then some (.ref D) else if y = "n" then some (.int n tn) else if y = "b" then some (.int b tb) else u y
theorem frM_of {r : Int} {tr : Tok} {D : Addr} {n : Int} {tn : Tok} {b : Int} {tb : Tok} {m : Str → Option Value} (h1 : m "r" = some (.int r tr)) (h2 : m "q_digits" = some (.ref D)) (h3 : m "n" = some (.int n tn)) (h4 : m "b" = some (.int b tb)) :
    m = frM r tr D n tn b tb m := by
  funext y
  unfold frM
  by_cases e1 : y = "r"
  · rw [if_pos e1, e1, h1]
  rw [if_neg e1]
  by_cases e2 : y = "q_digits"
  · rw [if_pos e2, e2, h2]
  rw [if_neg e2]
  by_cases e3 : y = "n"
  · rw [if_pos e3, e3, h3]
  rw [if_neg e3]
  by_cases e4 : y = "b"
  · rw [if_pos e4, e4, h4]
  rw [if_neg e4]

theorem dm_turn {b B d X q r x : Int} (hb : 0 < b) (hx : x = X % b * B + d) (hq : q = x / b) (hr : r = x % b) : q + B * (X / b) = (d + B * X) / b ∧ r = (d + B * X) % b := by
  have h1 := Int.mul_ediv_add_emod X b
  have e : d + B * X = x + b * (B * (X / b)) := by
    rw [hx]
    generalize X / b = Y at *
    generalize X % b = Z at *
    rw [← h1, Int.mul_add, ← Int.mul_assoc, ← Int.mul_assoc, Int.mul_comm B b, Int.mul_comm B Z]; omega
  rw [e, Int.add_mul_ediv_left _ _ (by omega), Int.add_mul_emod_self_left, hq, hr]
  exact ⟨rfl, rfl⟩

theorem bits_low {b : Int} (hb : 1 ≤ b) : 2 ^ (intBits b - 1) ≤ b ∧ 1 ≤ intBits b := by
  have h1 : 1 ≤ intBits b := by
    by_cases h : intBits b = 0
    · have := lt_of_bits (m := 0) (Nat.le_of_eq h)
      rw [Int.pow_zero] at this; omega
    · omega
  refine ⟨?_, h1⟩
  by_cases h : b < 2 ^ (intBits b - 1)
  · have := bits_le (by omega) h; omega
  · omega

theorem dm {w : World} {dp un : Nat} {gd : Option (List Code)} {cn : Str} {cs : Scope} {af : Addr} {ccd : Value} {cl : List (Str × Addr)} {A₀ : Around} {E : Value → Shared → Prop} {s : Shared} {L : Addr} {h₀ base : Heap} {m mg mb : Str → Option Value} {news ti td : List (Addr × Obj)} {p : PySem.Program} {loose : List Str} {mean : ExcName → Option Value} {Q : Value → Shared → Prop} {outer : List Env}
    {a b : Int} {ta tb : Tok}
    (B : Below A₀ base outer h₀) (F : Fr h₀ L s.heap m) (X : (Mine.hd.heap_39 w.params).In h₀) (N : News h₀ L s.heap (news ++ (ti ++ td))) (T : Top p loose mean mg mb h₀)
    (hk : cs.kind = .function) (hd : dp + 60 < recursionLimit) (hu : un + 200 < cLine)
    (hTi : T30 ti) (hTd : T37 td) (a1 : Apart news ti) (a2 : Apart news td) (a3 : Apart ti td)
    (ha : 0 ≤ a) (hb : 1 ≤ b) (hn : intBits b ≤ 4200) (hdig : nDig a (intBits b) ≤ 16)
    (ret : ∀ ti' td' t h' tk' t1 t2 q r, q = a / b → r = a % b → T30 ti' → T37 td' → Apart news ti' → Apart news td' → Apart ti' td' → Fr h₀ L h' m → News h₀ L h' ((t, tup2 q r t1 t2) :: (news ++ (ti' ++ td'))) → (∀ p ∈ news, p.1 < t) → Q (.ref t) { s with heap := h', toks := tk' }) :
    wpAny (model PySem.Challenge.rw_ny0466_01.row.prog w) (ktrTop dp un gd cn cs L af ccd cl outer) (call (.ref 49) [.int a ta, .int b tb]) Q E s := by
  have hbl := bits_low hb
  have hbu : b < 2 ^ intBits b := lt_of_bits (Nat.le_refl _)
  revert X; k_fill; intro X
  refine wpAny_call ?_
  refine' code_def (binds := [("a", .int a ta), ("b", .int b tb)]) B F X N T rfl rfl hk ?k6 ?k7 ?k8 ?k9 ?kB ?_ ?c2 ?c3 ?c4 ?c5
  case k6 => k_is
  case k7 => k_is
  case k8 => dsimp only; omega
  case k9 => exact BindsTo.of_eq rfl
  case kB => exact locs rfl
  case c2 => exact rfl
  case c3 => exact rfl
  case c4 => exact rfl
  case c5 => decide
  intro g' L' h' FG' F' N' B' X' T'
  dsimp only
  k_fold
  k_steps
  obtain ⟨n, hnn⟩ : ∃ n, n = intBits b := ⟨_, rfl⟩
  rw [← hnn] at hn hdig hbl hbu
  rw [← hnn]
  have N1 : News g' L' _ ((news ++ td) ++ ti) := kst_newsOf (by k_asm) (fun q hq => by
    simp only [List.mem_append] at hq ⊢
    rcases hq with (h | h) | h <;> simp only [h, true_or, or_true])
  refine i2d (news := news ++ td) (tl := ti) (n := n) (by k_asm) (by k_asm) (by k_asm) N1 (by k_asm) rfl ?_ ?_ hTi (Apart.appL a1 a3.symm) ha hbl.2 hn hdig ?_
  · dsimp only [Around.deeper]; omega
  · dsimp only [Around.deeper]; omega
  intro l vs nc ti' h2 tk2 hTi' F2 N2 ap2 hI lt2 ne2
  clear N1
  dsimp only
  k_steps
  rename_i xh4 xtk xh3 qa xh2 lq xh1 I h3 F3 N3 lI
  have hI0 : ∀ q ∈ (qa, listOf #[] 0) :: (l, listOf vs.toArray nc) :: ((news ++ td) ++ ti'), q.1 ≠ I := by
    intro q hq
    have z1 := ltN lI.1
    have z2 := ltN lI.2.1
    rcases List.mem_cons.mp hq with rfl | hq
    · dsimp only; refine neN ?_; omega
    · rcases List.mem_cons.mp hq with rfl | hq
      · dsimp only; refine neN ?_; omega
      · exact Nat.ne_of_lt (kst_ltOf lI.2.2 q hq)
  have hqa : ∀ q ∈ (l, listOf vs.toArray nc) :: ((news ++ td) ++ ti'), q.1 ≠ qa := by
    intro q hq
    rcases List.mem_cons.mp hq with rfl | hq
    · have := ltN lq.1; dsimp only; refine neN ?_; omega
    · exact Nat.ne_of_lt (kst_ltOf lq.2 q hq)
  have hBp := two_pow_pos n
  obtain ⟨ds, hds⟩ : ∃ ds, ds = dg (2 ^ n) (nDig a n) a := ⟨_, rfl⟩
  rw [← hds] at hI
  have hdb : ∀ d ∈ ds, 0 ≤ d ∧ d < 2 ^ n := by
    rw [hds]
    refine dg_bound hBp _ _ ha ?_
    rw [← Int.pow_mul]
    exact Int.lt_of_lt_of_le (lt_of_bits (Nat.le_refl _)) (pow_mono (nDig_bits hbl.2))
  rw [← hnn] at F3
  refine Stop.mk (iter_revUnr (lo := listOf vs.toArray nc) (vs := vs) (n := nc) rfl F3 N3 (offI_of hI0) (.tail _ (.head _)) rfl rfl ?_)
  refine rev_ind (fun vals m led => ∃ rs hi qs vq nq r tr u tn, IntsAre vals rs ∧ m = frM r tr qa n tn b tb u ∧ led = (qa, listOf vq.toArray nq) :: (l, listOf vs.toArray nc) :: ((news ++ td) ++ ti') ∧ rs.reverse ++ hi = ds ∧ r = ofDg (2 ^ n) hi % b ∧
    ofDg (2 ^ n) qs.reverse = ofDg (2 ^ n) hi / b ∧ IntsAre vq qs ∧ qs.length = hi.length ∧ ∀ q ∈ qs, 0 ≤ q ∧ q < 2 ^ n) ?_ ?_ _ _ _ ⟨ds.reverse, [], [], [], 0, 0, _, _, _, hI.reverse, frM_of rfl rfl rfl rfl, rfl, by simp, by simp [ofDg], by simp [ofDg], .nil, rfl, by simp⟩
  · rintro v rr m9 led ⟨rs, hi, qs, vq, nq, r, tr, u, tn9, hIv, rfl, rfl, hrs, hr, hqs, hIq, hlq, hqb⟩ it h4 tk4 hit F4 N4
    cases hIv with
    | @cons d td9 _ rs hIv =>
    clear F3 N3
    change Fr g' L' h4 _ at F4
    change News g' L' h4 _ at N4
    have hr0 : 0 ≤ r := by rw [hr]; exact Int.emod_nonneg _ (by omega)
    have hrb : r < b := by rw [hr]; exact Int.emod_lt_of_pos _ (by omega)
    have hdd : 0 ≤ d ∧ d < 2 ^ n := hdb d (by rw [← hrs]; simp)
    have hx0 : 0 ≤ r * 2 ^ n := Int.mul_nonneg hr0 (by omega)
    have hx1 : r * 2 ^ n + d < b * 2 ^ n := by
      have : (r + 1) * 2 ^ n ≤ b * 2 ^ n := Int.mul_le_mul_of_nonneg_right (by omega) (by omega)
      rw [Int.add_mul] at this; omega
    dsimp only
    k_steps
    refine b_shl n rfl (shl_ok (m := n) hr0 (by omega) (by omega)) rfl ?_
    dsimp only
    k_steps
    refine d21 (n := n) (by k_asm) (by k_asm) (by k_asm) (by k_asm) (by k_asm) rfl ?_ ?_ hbl.2 hn (by omega) hbl.1 hbu hx1 ?_
    · dsimp only [Around.deeper]; omega
    · dsimp only [Around.deeper]; omega
    intro t5 h5 tk5 u1 u2 q5 r5 hq5 hr5 F5 N5 lt5
    dsimp only
    k_steps
    have hqI : I ≠ qa := fun e => hI0 (qa, _) (.head _) e.symm
    refine append_K (by k_asm) (by k_asm) (Upd.tail (Ne.symm (Nat.ne_of_lt (lt5 (qa, _) (.tail _ (.head _))))) (Upd.tail hqI (Upd.head hqa))) ?_ ?_
    rotate_left
    · rw [List.size_toArray, hIq.length, hlq, sizeLine_eq]
      have : hi.length ≤ ds.length := by rw [← hrs, List.length_append]; omega
      rw [hds, dg_length] at this
      omega
    intro h6 F6 N6
    dsimp only
    k_steps
    rw [List.push_toArray] at N6
    have hm := dm_turn (B := 2 ^ n) (d := d) (X := ofDg (2 ^ n) hi) (x := r * 2 ^ n + d) (by omega) (by rw [hr]) hq5 hr5
    have hq50 : 0 ≤ q5 := by rw [hq5]; exact Int.ediv_nonneg (by omega) (by omega)
    have hq51 : q5 < 2 ^ n := by rw [hq5]; exact Int.ediv_lt_of_lt_mul (by omega) (by rw [Int.mul_comm (2 ^ n) b]; exact hx1)
    refine UnrEnd.intro F6 N6 ((qa, listOf (vq ++ [Value.int q5 u1]).toArray (nq + 1)) :: (l, listOf vs.toArray nc) :: ((news ++ td) ++ ti')) (fun p hp => .tail _ hp) ?_ ⟨.tail _ (.head _), rs, d :: hi, qs ++ [q5], vq ++ [Value.int q5 u1], nq + 1, r5, _, _, _, hIv, frM_of rfl rfl rfl rfl, rfl, ?_, ?_, ?_, ?_, ?_, ?_⟩
    · intro p hp
      rcases List.mem_cons.mp hp with rfl | hp
      · exact Ne.symm hqI
      · exact hI0 p (.tail _ hp)
    · rw [← hrs]; simp
    · rw [ofDg]; exact hm.2
    · rw [List.reverse_append, List.reverse_singleton, List.singleton_append, ofDg, ofDg, hqs]; exact hm.1
    · exact hIq.append (.cons _ _ .nil)
    · simp [hlq]
    · intro q hq
      rcases List.mem_append.mp hq with hq | hq
      · exact hqb q hq
      · rw [List.mem_singleton] at hq; subst hq; exact ⟨hq50, hq51⟩
  · rintro m9 led ⟨rs, hi, qs, vq, nq, r, tr, u, tn9, hIv, rfl, rfl, hrs, hr, hqs, hIq, hlq, hqb⟩ h4 tk4 F4 N4
    cases hIv
    clear F3 N3
    change Fr g' L' h4 _ at F4
    change News g' L' h4 _ at N4
    have hhi : hi = ds := by simpa using hrs
    subst hhi
    have hlen : hi.length = nDig a n := by rw [hds, dg_length]
    k_steps
    refine kl_reverse (l := vq.reverse) F4 N4 (by simp) (Upd.head hqa) (by rw [List.toList_toArray, hIq.length, hlq, hlen, sizeLine_eq]; omega) ?_
    intro h5 F5 N5
    dsimp only
    k_steps
    have N6 : News g' L' h5 (((qa, listOf vq.reverse.toArray nq) :: (l, listOf vs.toArray nc) :: (news ++ ti')) ++ td) := kst_newsOf N5 (fun q hq => by
      simp only [List.cons_append, List.mem_append, List.mem_cons] at hq ⊢
      rcases hq with h | h | (h | h) | h <;> simp only [h, true_or, or_true])
    have hap6 : Apart ((qa, listOf vq.reverse.toArray nq) :: (l, listOf vs.toArray nc) :: (news ++ ti')) td := by
      intro p hp q hq e
      rcases List.mem_cons.mp hp with rfl | hp
      · exact hqa q (.tail _ (List.mem_append_left _ (List.mem_append_right _ hq))) e.symm
      · rcases List.mem_cons.mp hp with rfl | hp
        · exact Nat.ne_of_lt (lt2 q (List.mem_append_right _ hq)) e.symm
        · rcases List.mem_append.mp hp with hp | hp
          · exact a2 p hp q hq e
          · exact ap2 q (List.mem_append_right _ hq) p hp e.symm
    refine d2i (news := (qa, listOf vq.reverse.toArray nq) :: (l, listOf vs.toArray nc) :: (news ++ ti')) (tl := td) (vs := vq.reverse) (ns := qs.reverse) (n := n) (by k_asm) (by k_asm) (by k_asm) N6 (by k_asm) rfl ?_ ?_ hTd hap6 (.head _) hIq.reverse hn (by rw [List.length_reverse, hlq, hlen]; exact hdig) ?_ ?_
    · dsimp only [Around.deeper]; omega
    · dsimp only [Around.deeper]; omega
    · intro q hq
      have := hqb q (List.mem_reverse.mp hq)
      exact ⟨this.1, Int.lt_of_lt_of_le this.2 (pow_mono (by omega))⟩
    intro td' h7 tk7 t7 hTd' F7 N7 ap7
    clear N6 N5 N4
    dsimp only
    k_steps
    have hea : ofDg (2 ^ n) hi = a := by
      rw [hds]
      by_cases hz : a = 0
      · have : nDig a n = 0 := by rw [hz]; exact Nat.div_eq_of_lt (by show 0 + n - 1 < n; omega)
        rw [this, hz]; rfl
      · exact ofDg_dg hBp _ _ (nDig_pos ha hz hbl.2)
    rw [hea] at hqs hr
    rename_i tD th tF tN tl kF kN kT kX
    refine ret ti' td' tD _ _ _ _ _ _ hqs hr hTi' hTd' (ap2.sub (fun _ h => List.mem_append_left _ h) fun _ h => h) (ap7.sub (fun _ h => .tail _ (.tail _ (List.mem_append_left _ h))) fun _ h => h) (ap7.sub (fun _ h => .tail _ (.tail _ (List.mem_append_right _ h))) fun _ h => h) kF (news_hd kN ?_) fun p hp => tl p (List.mem_append_left _ (.tail _ (.tail _ (List.mem_append_left _ hp))))
    intro q hq
    simp only [List.cons_append, List.mem_append, List.mem_cons] at hq ⊢
    rcases hq with h | h | h <;> simp only [h, true_or, or_true]
end Mine
end
section
open PySem PySem.W PyProof.Rows PySem.Calls
set_option maxRecDepth 100000
set_option maxHeartbeats 1200000
namespace Mine
open Builtin.Int (intBits)
local macro_rules | `(tactic| walk_at "pyIter ref") => `(tactic| refine Stop.of ?_)

local macro_rules | `(tactic| walk_at "subscriptTail Name Slice ref ref") => `(tactic| refine Stop.of ?_)
local macro_rules | `(tactic| walk_at "binaryOp Add ref ref") => `(tactic| refine Stop.of ?_)
local macro_rules | `(tactic| walk_at "exec For Name Subscript cons nil") => `(tactic| (k_here; (rename Fr _ _ _ _ => lF'); (with_unfolding_all refine' For_invVF lF' ?k1 ?k2 ?_; (case k1 => exact rfl); (case k2 => exact rfl); k_whole)))
def hs (c : Int) : List Int → List Int
  | [] => []
  | a :: r => ((hs c r).headD 0 * c + a) :: hs c r
theorem hs_length (c : Int) : ∀ r, (hs c r).length = r.length
  | [] => rfl
  | a :: r => by rw [hs, List.length_cons, hs_length c r, List.length_cons]

abbrev frP (v : Int) (tv : Tok) (P : Addr) (c : Int) (tc : Tok) (u : Str → Option Value) : Str → Option Value := fun y =>
  if y = "value" then some (.int v tv) else if y = "passed" then some (.ref P) else if y = "c" then some (.int c tc) else u y
theorem frP_of {v : Int} {tv : Tok} {P : Addr} {c : Int} {tc : Tok} {m : Str → Option Value} (h1 : m "value" = some (.int v tv)) (h2 : m "passed" = some (.ref P)) (h3 : m "c" = some (.int c tc)) :
    m = frP v tv P c tc m := by
  funext y
  unfold frP
  by_cases e1 : y = "value"
  · rw [if_pos e1, e1, h1]
  rw [if_neg e1]
  by_cases e2 : y = "passed"
  · rw [if_pos e2, e2, h2]
  rw [if_neg e2]
  by_cases e3 : y = "c"
  · rw [if_pos e3, e3, h3]
  rw [if_neg e3]

theorem lp {w : World} {dp un : Nat} {gd : Option (List Code)} {cn : Str} {cs : Scope} {af : Addr} {ccd : Value} {cl : List (Str × Addr)} {A₀ : Around} {E : Value → Shared → Prop} {s : Shared} {L : Addr} {h₀ base : Heap} {m mg mb : Str → Option Value} {news : List (Addr × Obj)} {p : PySem.Program} {loose : List Str} {mean : ExcName → Option Value} {Q : Value → Shared → Prop} {outer : List Env}
    {l : Addr} {vs : List Value} {ns : List Int} {nc : Nat} {c : Int} {tc : Tok}
    (B : Below A₀ base outer h₀) (F : Fr h₀ L s.heap m) (X : (Mine.hd.heap_39 w.params).In h₀) (N : News h₀ L s.heap news) (T : Top p loose mean mg mb h₀)
    (hk : cs.kind = .function) (hd : dp + 5 < recursionLimit) (hu : un + 50 < cLine)
    (hl : (l, listOf vs.toArray nc) ∈ news) (hI : IntsAre vs ns) (hlen : ns.length ≤ 16) (hc1 : 1 ≤ c) (hc9 : c ≤ 9)
    (ret : ∀ l' vs' nc' h' tk', Fr h₀ L h' m → News h₀ L h' ((l', listOf vs'.toArray nc') :: news) → IntsAre vs' (hs c ns) → (∀ p ∈ news, p.1 < l') → Q (.ref l') { s with heap := h', toks := tk' }) :
    wpAny (model PySem.Challenge.rw_ny0466_01.row.prog w) (ktrTop dp un gd cn cs L af ccd cl outer) (call (.ref 61) [.ref l, .int c tc]) Q E s := by
  revert X; k_fill; intro X
  have hvl : vs.length = ns.length := hI.length
  refine wpAny_call ?_
  refine' code_def (binds := [("row", .ref l), ("c", .int c tc)]) B F X N T rfl rfl hk ?k6 ?k7 ?k8 ?k9 ?kB ?_ ?c2 ?c3 ?c4 ?c5
  case k6 => k_is
  case k7 => k_is
  case k8 => dsimp only; omega
  case k9 => exact BindsTo.of_eq rfl
  case kB => exact locs rfl
  case c2 => exact rfl
  case c3 => exact rfl
  case c4 => exact rfl
  case c5 => decide
  intro g' L' h' FG' F' N' B' X' T'
  dsimp only
  k_fold
  k_steps
  rename_i pa xh2 lpa xh1 h3 F3 N3
  refine Stop.mk ?_
  dsimp only
  refine krv_ints (s := { s with heap := h3, toks := _ }) F3 N3 (News.isList N3 (.tail _ hl)) (IsPart.int _ _) hI ?_ (by with_unfolding_all rfl) (by kmk_pure) (by rw [List.size_toArray, hvl, sizeLine_eq]; omega)
  intro D ws h4 F4 N4 lt4 hIw hlw
  clear F3 N3
  dsimp only
  refine iter_listUnr (lo := listOf ws.toArray 0) (vs := ws) (n := 0) rfl F4 N4 (.head _) rfl rfl ?_
  intro I ltI
  have hDI : D ≠ I := Nat.ne_of_lt (ltI (D, _) (.head _))
  have hnI : ∀ q ∈ news, q.1 ≠ I := fun q hq => Nat.ne_of_lt (ltI q (.tail _ (.tail _ hq)))
  refine list_ind (fun vals m led => ∃ rs hi vp np tv u P, IntsAre vals rs ∧ m = frP ((hs c hi).headD 0) tv P c tc u ∧ led = (D, listOf ws.toArray 0) :: (P, listOf vp.toArray np) :: news ∧ rs.reverse ++ hi = ns ∧ IntsAre vp (hs c hi) ∧ (∀ q ∈ news, q.1 < P) ∧ P ≠ I) ?_ ?_ _ _ _
    ⟨ns.reverse, [], [], 0, _, _, pa, hIw, frP_of rfl rfl rfl, rfl, by simp, .nil, lpa, Nat.ne_of_lt (ltI (pa, _) (.tail _ (.head _)))⟩
  · rintro v rr m9 led ⟨rs, hi, vp, np, tv, u, P, hIv, rfl, rfl, hrs, hIp, hP, hPI⟩ it h5 tk5 hit F5 N5
    cases hIv with
    | @cons x tx _ rs hIv =>
    clear F4 N4
    change Fr g' L' h5 _ at F5
    change News g' L' h5 _ at N5
    dsimp only
    k_steps
    rename_i la h6 F6 N6 lla
    have hlh : (hs c hi).length ≤ 16 := by
      rw [hs_length]
      have : hi.length ≤ ns.length := by rw [← hrs, List.length_append]; omega
      omega
    refine Stop.mk (kmk_add_ints (vs := [_]) (ns := [_]) F6 N6 (News.isList N6 (.head _)) (News.isList N6 (.tail _ (.tail _ (.tail _ (.head _))))) (.cons _ _ .nil) hIp ?_ (by rw [List.length_singleton, sizeLine_eq]; omega))
    intro P2 vp2 h7 F7 N7 lt7 hI7
    clear F6 N6
    dsimp only
    k_steps
    have hP2I : I < P2 := lt7 (I, it) (.tail _ (.head _))
    refine UnrEnd.intro (by k_asm) (by k_asm) ((D, listOf ws.toArray 0) :: (P2, listOf vp2.toArray 0) :: news) ?_ ?_ ⟨.head _, rs, x :: hi, vp2, 0, _, _, P2, hIv, frP_of rfl rfl rfl, rfl, ?_, hI7, fun q hq => lt7 q (.tail _ (.tail _ (.tail _ (.tail _ hq)))), Ne.symm (Nat.ne_of_lt hP2I)⟩
    · intro q hq
      simp only [List.mem_cons] at hq ⊢
      rcases hq with h | h | h | h <;> simp only [h, true_or, or_true]
    · intro q hq
      rcases List.mem_cons.mp hq with rfl | hq
      · exact hDI
      · rcases List.mem_cons.mp hq with rfl | hq
        · exact Ne.symm (Nat.ne_of_lt hP2I)
        · exact hnI q hq
    · rw [← hrs]; simp
  · rintro m9 led ⟨rs, hi, vp, np, tv, u, P, hIv, rfl, rfl, hrs, hIp, hP, hPI⟩ h5 tk5 F5 N5
    cases hIv
    clear F4 N4
    change Fr g' L' h5 _ at F5
    change News g' L' h5 _ at N5
    k_steps
    have hhi : hi = ns := by simpa using hrs
    subst hhi
    refine ret P vp np _ _ (by k_asm) (kst_newsOf (by k_asm) ?_) hIp hP
    exact fun q hq => .tail _ hq
end Mine
end
section
open PySem PySem.W PyProof.Rows PySem.Calls PyProof.Rows.LCg
set_option maxRecDepth 100000
namespace Mine
abbrev zSt (z TI TO i1 i2 l1 l2 : Addr) (xs ys : Array Value) (i : Nat) (h : Heap) : Prop :=
  IsZip h z TI TO .none ∧ IsPair h TI (.ref i1) (.ref i2) ∧ (∃ a b, IsPair h TO a b) ∧ h.IsListIter i1 l1 i ∧ h.IsListIter i2 l2 i ∧ h.IsList l1 xs ∧ h.IsList l2 ys

theorem ints_at {vs : List Value} {ns : List Int} (h : IntsAre vs ns) {i : Nat} {v : Value} (hv : vs[i]? = some v) : ∃ n t, ns[i]? = some n ∧ v = .int n t := by
  have hl := h.length
  have hi : i < ns.length := by
    rw [← hl]
    exact (List.getElem?_eq_some_iff.mp hv).1
  obtain ⟨t, ht⟩ := h.get i ns[i] (List.getElem?_eq_getElem hi)
  refine ⟨ns[i], t, List.getElem?_eq_getElem hi, ?_⟩
  rw [ht] at hv
  exact (Option.some.inj hv).symm

section
variable {prog : PySem.Program} {w : World} {A : Around} {E : Value → Shared → Prop} {env : Env}
theorem zblock {elt iter : PySem.Expr} {a b : Str} {pa pb tp : Pos} {kk : Nat} {scope : Scope} {cl : List (Str × Addr)} {pos : Pos} {s₂ : Shared} {z TI TO i1 i2 l1 l2 : Addr} {vx vy : List Value} {xs ys : List Int} {f : Int → Int → Int}
    {RR : Value → Addr → Result → Shared → Prop} (hh : A.handled = none) (ZA : ZipApart z TI TO i1 i2 l1 l2) (hx : IntsAre vx xs) (hy : IntsAre vy ys) (hlen : xs.length = ys.length) (hsz : xs.length ≤ 1000)
    (hst : zSt z TI TO i1 i2 l1 l2 vx.toArray vy.toArray 0 s₂.heap) (hfp : ∀ c ∈ [z, TI, TO, i1, i2, l1, l2], c < s₂.heap.objs.size)
    (hcell : ∀ y ∈ scope.names, y.2 ≠ .cell) (hkind : scope.kind = .function) (hxa : scope.names.lookup a = some .local) (hxb : scope.names.lookup b = some .local) (hab : ¬ a = b)
    (helt : ∀ C x y tx ty s₃ m₃ E', s₃.heap.Ns C m₃ → m₃ a = some (.int x tx) → m₃ b = some (.int y ty) → (∀ q o, q ∉ [z, TO, i1, i2] → s₂.heap.get? q = some o → s₃.heap.get? q = some o) →
      wpAny (model prog w) A (eval elt (compEnvC scope cl C env)) (fun v s₄ => (∃ t, v = .int (f x y) t) ∧ Keeps s₃ s₄) E' s₃)
    (hRR : ∀ D C h' tk m' us, s₂.heap.objs.size ≤ D → s₂.heap.objs.size ≤ C → D ≠ C → h'.Ns C m' → h'.get? D = some (lst us) → IntsAre us (List.zipWith f xs ys) → (∀ q o, q ∉ [z, TO, i1, i2] → s₂.heap.get? q = some o → h'.get? q = some o) →
      RR (.ref D) C (.ok .next) { s₂ with heap := h', toks := tk }) :
    wpAny (model prog w) A (newList []) (fun acc s₃ => wpAny (model prog w) A (newFunctionEnv scope env.globals cl [] env.qual none .none (some env)) (fun cenv s₄ =>
      codeAny (model prog w) A (.compStart (.ListComp elt [⟨.Tuple [.Name a pa, .Name b pb] kk tp, iter, [], 0⟩] scope pos) 0 (.ref z) acc { cenv with scope := relabel scope env }) (RR acc cenv.locals) s₄) E s₃) E s₂ := by
  refine wpAny_newObj_type (wpAny_newFunctionEnv hcell (by intro y hy; simp at hy) (fun h₁ hns₁ hsb₁ => ?_) hkind)
  dsimp only at hns₁ hsb₁ ⊢
  generalize hH2 : s₂.heap.push { cls := .type "list", dict := none, data := .seq ([] : List Value).toArray } = H2 at hns₁ hsb₁ ⊢
  have hC : H2.objs.size = s₂.heap.objs.size + 1 := by rw [← hH2, Heap.size_push]
  have hDC : s₂.heap.objs.size ≠ H2.objs.size := by rw [hC]; exact Nat.ne_of_lt (Nat.lt_succ_self _)
  have below : ∀ b, b < s₂.heap.objs.size → b ≠ H2.objs.size ∧ b ≠ s₂.heap.objs.size := fun b hb => ⟨by rw [hC]; exact Nat.ne_of_lt (Nat.lt_succ_of_lt hb), Nat.ne_of_lt hb⟩
  have old : ∀ b o, s₂.heap.get? b = some o → h₁.get? b = some o := fun b o e => hsb₁.extBut b o (below b (Heap.lt_size e)).1 (Heap.get?_push_of_some _ (hH2 ▸ Heap.get?_push_of_some _ e))
  have hacc : h₁.get? s₂.heap.objs.size = some (lst []) := hsb₁.extBut _ _ hDC (Heap.get?_push_of_some _ (hH2 ▸ Heap.get?_push_size _ rfl))
  have W := WalksT.zip2 (prog := prog) (w := w) hh z TI TO i1 i2 l1 l2 ZA vx.toArray vy.toArray
  have hwC : H2.objs.size ∉ [z, TO, i1, i2] := fun hm => (below _ (hfp _ (W.sub _ hm))).1 rfl
  have hwD : s₂.heap.objs.size ∉ [z, TO, i1, i2] := fun hm => (below _ (hfp _ (W.sub _ hm))).2 rfl
  have hfC : H2.objs.size ∉ [z, TI, TO, i1, i2, l1, l2] := fun hm => (below _ (hfp _ hm)).1 rfl
  have hfD : s₂.heap.objs.size ∉ [z, TI, TO, i1, i2, l1, l2] := fun hm => (below _ (hfp _ hm)).2 rfl
  have hN : min vx.toArray.size vy.toArray.size = xs.length := by rw [List.size_toArray, List.size_toArray, hx.length, hy.length, ← hlen, Nat.min_self]
  rw [hN] at W
  have hst₁ : zSt z TI TO i1 i2 l1 l2 vx.toArray vy.toArray 0 h₁ := W.frame 0 _ _ hst fun b _ o e => old b o e
  have hzl : (List.zipWith f xs ys).length = xs.length := by rw [List.length_zipWith, ← hlen, Nat.min_self]
  have loop : ∀ s₃ : Shared, s₃ = { s₂ with heap := h₁, toks := s₂.toks + ([] : List (Str × Value)).length } →
      codeAny (model prog w) A (.compLoop (.ListComp elt [⟨.Tuple [.Name a pa, .Name b pb] kk tp, iter, [], 0⟩] scope pos) 0 (.ref z) (.ref s₂.heap.objs.size) (compEnvC scope cl H2.objs.size env))
        (RR (.ref s₂.heap.objs.size) H2.objs.size) s₃ := by
    rintro s₃ rfl
    refine kcp_loop
      (fun k s' => ∃ h' tk i us m', s' = { s₂ with heap := h', toks := tk } ∧ i ≤ xs.length ∧ k = xs.length + 1 - i ∧ zSt z TI TO i1 i2 l1 l2 vx.toArray vy.toArray i h' ∧ h'.Ns H2.objs.size m' ∧ h'.get? s₂.heap.objs.size = some (lst us) ∧
        IntsAre us ((List.zipWith f xs ys).take i) ∧ ∀ q o, q ∉ [z, TO, i1, i2] → s₂.heap.get? q = some o → h'.get? q = some o) ?_ (xs.length + 1)
      ⟨h₁, _, 0, [], _, rfl, Nat.zero_le _, rfl, hst₁, hns₁, hacc, by rw [List.take_zero]; exact .nil, fun q o _ e => old q o e⟩
    rintro k s' ⟨h', tk, i, us, m', rfl, hi, rfl, hst', hn', hD', hI', hk'⟩
    by_cases hlt : i < xs.length
    · refine W.item i _ _ _ hlt hst' fun T vals h₂ tk₂ hP hT1 hT hMd hk₂ => ?_
      have hTw := W.apart _ _ _ hMd
      refine W.go _ _ _ i T _ _ _ hMd fun h₃ hst₃ hk₃ => ?_
      obtain ⟨vx9, vy9, hvx, hvy, rfl⟩ := hP
      obtain ⟨x, tx, hxx, rfl⟩ := ints_at hx (by simpa using hvx)
      obtain ⟨y, ty, hyy, rfl⟩ := ints_at hy (by simpa using hvy)
      have up₃ : ∀ q o, q ∉ [z, TO, i1, i2] → h'.get? q = some o → h₃.get? q = some o := fun q o hq e => hk₃ q o hq (hk₂ q o hq e)
      have hT3 : h₃.IsTuple T #[.int x tx, .int y ty] := by
        obtain ⟨o, ho, r⟩ := hT
        exact ⟨o, hk₃ T o hTw ho, r⟩
      refine kcp_assign (env := compEnvC scope cl H2.objs.size env) hh hT3 (lookup_relabel_local hxa) (lookup_relabel_local hxb) (by simp [compEnvC, relabel, hkind]) (hn'.at' fun o e => up₃ _ o hwC e) fun h₄ tk₄ hn₄ hs₄ => ?_
      have up : ∀ q o, q ∉ [z, TO, i1, i2] → q ≠ H2.objs.size → h'.get? q = some o → h₄.get? q = some o := fun q o h1 h2 e => hs₄ q o h2 (up₃ q o h1 e)
      have hst₄ : zSt z TI TO i1 i2 l1 l2 vx.toArray vy.toArray (i + 1) h₄ := W.frame _ _ _ hst₃ fun q hq o e => hs₄ q o (fun e9 => hfC ((show q = H2.objs.size from e9) ▸ hq)) e
      refine wpAny_mono (helt H2.objs.size x y tx ty _ _ _ hn₄ (by simp [hab]) (by simp) fun q o hq e => up q o hq (below q (Heap.lt_size e)).1 (hk' q o hq e)) (fun v s₅ h₅ => ?_) fun _ _ e => e
      obtain ⟨⟨t, rfl⟩, h₅, tk₅, rfl, hk₅⟩ := h₅
      dsimp only at hk₅
      have hD₅ : h₅.get? s₂.heap.objs.size = some (lst us) := hk₅ _ _ (up _ _ hwD hDC hD')
      have hul : us.length = i := by rw [hI'.length, List.length_take]; omega
      refine append_at (hsz := by show us.toArray.size ≤ sizeLine; rw [List.size_toArray, hul, sizeLine_eq]; omega) hD₅ fun h₆ hs₆ hD₆ => ?_
      have hzi : (List.zipWith f xs ys)[i]? = some (f x y) := by rw [List.getElem?_zipWith, hxx, hyy]
      refine ⟨xs.length + 1 - (i + 1), by omega, h₆, tk₅, i + 1, us ++ [.int (f x y) t], _, rfl, hlt, rfl, W.frame _ _ _ hst₄ fun q hq o e => hs₆.extBut q o (fun e9 => hfD (e9 ▸ hq)) (hk₅ q o e), (hn₄.at' fun o e => hs₆.extBut _ o (Ne.symm hDC) (hk₅ _ o e)),
        hD₆.trans (congrArg some (lst_snoc us _)), ?_, fun q o hq e => hs₆.extBut q o (below q (Heap.lt_size e)).2 (hk₅ q o (up q o hq (below q (Heap.lt_size e)).1 (hk' q o hq e)))⟩
      rw [List.take_add_one, hzi]
      exact hI'.append (.cons _ _ .nil)
    · have hin : i = xs.length := Nat.le_antisymm hi (Nat.not_lt.mp hlt)
      subst hin
      refine W.done _ _ _ hst' fun h₂ tk₂ hk₂ => ?_
      refine hRR _ _ h₂ tk₂ m' us (Nat.le_refl _) (by rw [hC]; exact Nat.le_succ _) hDC (hn'.at' fun o e => hk₂ _ o hwC e) (hk₂ _ _ hwD hD') ?_ fun q o hq e => hk₂ q o hq (hk' q o hq e)
      rw [← hzl, List.take_length] at hI'
      exact hI'
  exact codeAny_compStart_list (loop _ rfl) (W.self 0 _ _ _ hst₁ (loop _ rfl))

theorem zassign {s : Shared} {elt iter : PySem.Expr} {a b y : Str} {pa pb tp py : Pos} {kk : Nat} {scope : Scope} {cl : List (Str × Addr)} {pos spos : Pos} {Q : Flow → Shared → Prop}
    (hsw : swapsWith (.ListComp elt [⟨.Tuple [.Name a pa, .Name b pb] kk tp, iter, [], 0⟩] scope pos) (some (.Name y py)) spos.line env = pure true)
    (hclos : closureFor scope env = pure cl) (hcell : ∀ q ∈ scope.names, q.2 ≠ .cell) (hkind : scope.kind = .function)
    (hnames : ∀ q ∈ scope.names, q.2 = .local → scope.names.lookup q.1 = some .local) (hxa : scope.names.lookup a = some .local) (hxb : scope.names.lookup b = some .local) (hab : ¬ a = b)
    (hy : env.kindOf y = some .local) (hp : (env.scope.kind == .class || (env.scope.kind == .module && env.locals != env.globals)) = false)
    (h : wpAny (model prog w) A (eval iter env) (fun xv s₂ => ∃ (z TI TO i1 i2 l1 l2 : Addr) (vx vy : List Value) (xs ys : List Int) (f : Int → Int → Int) (m : Str → Option Value), xv = .ref z ∧ A.handled = none ∧ ZipApart z TI TO i1 i2 l1 l2 ∧ IntsAre vx xs ∧ IntsAre vy ys ∧ xs.length = ys.length ∧ xs.length ≤ 1000 ∧
      zSt z TI TO i1 i2 l1 l2 vx.toArray vy.toArray 0 s₂.heap ∧ (∀ c ∈ [z, TI, TO, i1, i2, l1, l2], c < s₂.heap.objs.size) ∧ env.locals ∉ [z, TO, i1, i2] ∧ s₂.heap.Ns env.locals m ∧
      (∀ C x y tx ty s₃ m₃ E', s₃.heap.Ns C m₃ → m₃ a = some (.int x tx) → m₃ b = some (.int y ty) → (∀ q o, q ∉ [z, TO, i1, i2] → s₂.heap.get? q = some o → s₃.heap.get? q = some o) →
        wpAny (model prog w) A (eval elt (compEnvC scope cl C env)) (fun v s₄ => (∃ t, v = .int (f x y) t) ∧ Keeps s₃ s₄) E' s₃) ∧
      (∀ D h' tk us, s₂.heap.objs.size ≤ D → h'.get? D = some (lst us) → IntsAre us (List.zipWith f xs ys) → h'.Ns env.locals (fun q => if q = y then some (.ref D) else m q) → (∀ q o, q ≠ env.locals → q ∉ [z, TO, i1, i2] → s₂.heap.get? q = some o → h'.get? q = some o) →
        Q .next { s₂ with heap := h', toks := tk })) E s)
    (hs : ∀ x, foldedSetIterable iter env x = pure x := by intro _; rfl) :
    wpAny (model prog w) A (exec (.Assign [.Name y py] (.ListComp elt [⟨.Tuple [.Name a pa, .Name b pb] kk tp, iter, [], 0⟩] scope pos) spos) env) Q E s := by
  rw [exec_Assign_Name_used _ _ _ _ hsw]
  refine wpAny_bind (wpAny_standAt (wpAny_bind ?_))
  show wpAny _ A (do let _ ← comprehension (.ListComp elt [⟨.Tuple [.Name a pa, .Name b pb] kk tp, iter, [], 0⟩] scope pos) scope env _ (newList []) false (eval iter env) (some (assign (.Name y py) env))) _ _ s
  refine wpAny_bind (wpAny_mono (wpAny_comprehension_free (use := some (assign (.Name y py) env)) (Q := fun _ s' => Q .next s') rfl hs hclos hkind hnames
    (wpAny_mono h (fun xv s₂ h₂ => ?_) fun _ _ e => e)) (fun _ s' hq => wpAny_pure (wpAny_pure hq)) fun _ _ e => e)
  obtain ⟨z, TI, TO, i1, i2, l1, l2, vx, vy, xs, ys, f, m, rfl, hh, ZA, hx, hy9, hlen, hsz, hst, hfp, hLf, hn, helt, hQ⟩ := h₂
  refine wpAny_pyIter_zip hst.1 ?_
  refine zblock (RR := fun acc C => compPost (model prog w) A E (some (assign (.Name y py) env)) (fun _ s' => Q .next s') acc C) hh ZA hx hy9 hlen hsz hst hfp hcell hkind hxa hxb hab helt ?_
  intro D C h' tk m' us hD hC hDC hnC hlD hI hk
  have hLlt : env.locals < s₂.heap.objs.size := hn.lt
  have hLC : env.locals ≠ C := Nat.ne_of_lt (Nat.lt_of_lt_of_le hLlt hC)
  have hLD : env.locals ≠ D := Nat.ne_of_lt (Nat.lt_of_lt_of_le hLlt hD)
  show wpAny _ A (assign (.Name y py) env (.ref D)) _ _ _
  refine wpAny_assign_Name (wpAny_storeName_local hy (hn.at' fun o e => hk _ o hLf e) (fun h₂ hn₂ hs₂ => ?_) hp)
  refine ⟨m', hnC.sameBut hs₂ (Ne.symm hLC), fun h₃ hs₃ => ?_⟩
  exact hQ D h₃ _ us hD (hs₃.extBut D _ hDC (hs₂.extBut D _ (Ne.symm hLD) hlD)) hI (hn₂.sameBut hs₃ hLC) fun q o hqL hqf e =>
    hs₃.extBut q o (Nat.ne_of_lt (Nat.lt_of_lt_of_le (Heap.lt_size e) hC)) (hs₂.extBut q o hqL (hk q o hqf e))
end
end Mine
end
section
open PySem PySem.W PyProof.Rows PySem.Calls PyProof.Rows.LCg
set_option maxRecDepth 100000
set_option maxHeartbeats 1200000
namespace Mine
open Builtin.Int (intBits)
local macro_rules | `(tactic| walk_at "pyIter ref") => `(tactic| refine Stop.of ?_)
local macro_rules | `(tactic| walk_at "subscriptTail Name Slice ref ref") => `(tactic| refine Stop.of ?_)
local macro_rules | `(tactic| walk_at "binaryOp Add ref ref") => `(tactic| refine Stop.of ?_)
local macro_rules | `(tactic| walk_at "exec For Name Subscript cons nil") => `(tactic| (k_here; (rename Fr _ _ _ _ => lF'); (with_unfolding_all refine' For_invVF lF' ?k1 ?k2 ?_; (case k1 => exact rfl); (case k2 => exact rfl); k_whole)))

local macro_rules | `(tactic| walk_at "exec Assign cons ListComp") => `(tactic| refine Stop.of ?_)
local macro_rules | `(tactic| walk_at "call type:zip") => `(tactic| refine Stop.of ?_)
def mvz (c : Int) (o : List Int) : List Int := List.zipWith (fun lo hi => c * lo + hi) (o ++ [0]) ([0] ++ o)
def mv (c : Int) : List Int → List Int
  | [] => []
  | x :: r => ((mvz c (mv c r)).getD 0 0 + x) :: (mvz c (mv c r)).drop 1

theorem mvz_length (c : Int) (o : List Int) : (mvz c o).length = o.length + 1 := by
  unfold mvz
  rw [List.length_zipWith, List.length_append, List.length_append, List.length_singleton]; omega
theorem mv_length (c : Int) : ∀ r, (mv c r).length = r.length
  | [] => rfl
  | x :: r => by rw [mv, List.length_cons, List.length_drop, mvz_length, mv_length c r, List.length_cons]; omega
abbrev frO (P : Addr) (u : Str → Option Value) : Str → Option Value := fun y => if y = "out" then some (.ref P) else u y
theorem frO_of {P : Addr} {m : Str → Option Value} (h1 : m "out" = some (.ref P)) : m = frO P m := by
  funext y
  unfold frO
  by_cases e1 : y = "out"
  · rw [if_pos e1, e1, h1]
  rw [if_neg e1]

theorem raw_fn {g L' : _} {h h2 : Heap} {m m' : Str → Option Value} {led : List (Addr × Obj)} {wr : List Addr} (F : Fr g L' h m) (N : News g L' h led) (hk : ∀ q o, q ≠ L' → q ∉ wr → h.get? q = some o → h2.get? q = some o)
    (hwr : ∀ q ∈ wr, h.objs.size ≤ q) (hns : h2.Ns L' m') : Fr g L' h2 m' ∧ News g L' h2 led := by
  have up : ∀ q o, q ≠ L' → h.get? q = some o → h2.get? q = some o := fun q o hq e => hk q o hq (fun hm => absurd (Heap.lt_size e) (Nat.not_lt.mpr (hwr q hm))) e
  refine ⟨⟨hns, fun b o e => up b o ?_ (F.keep b o e), F.above⟩, fun p hp => ⟨up _ _ (N p hp).2.1 (N p hp).1, (N p hp).2⟩⟩
  exact Nat.ne_of_lt (Nat.lt_of_lt_of_le (Heap.lt_size e) F.above)

theorem lm {w : World} {dp un : Nat} {gd : Option (List Code)} {cn : Str} {cs : Scope} {af : Addr} {ccd : Value} {cl : List (Str × Addr)} {A₀ : Around} {E : Value → Shared → Prop} {s : Shared} {L : Addr} {h₀ base : Heap} {m mg mb : Str → Option Value} {news : List (Addr × Obj)} {p : PySem.Program} {loose : List Str} {mean : ExcName → Option Value} {Q : Value → Shared → Prop} {outer : List Env}
    {l : Addr} {vs : List Value} {ns : List Int} {nc : Nat} {c : Int} {tc : Tok}
    (B : Below A₀ base outer h₀) (F : Fr h₀ L s.heap m) (X : (Mine.hd.heap_39 w.params).In h₀) (N : News h₀ L s.heap news) (T : Top p loose mean mg mb h₀)
    (hk : cs.kind = .function) (hd : dp + 5 < recursionLimit) (hu : un + 50 < cLine)
    (hl : (l, listOf vs.toArray nc) ∈ news) (hI : IntsAre vs ns) (hlen : ns.length ≤ 16) (hc1 : 1 ≤ c) (hc9 : c ≤ 9)
    (ret : ∀ l' vs' nc' h' tk', Fr h₀ L h' m → News h₀ L h' ((l', listOf vs'.toArray nc') :: news) → IntsAre vs' (mv c ns) → (∀ p ∈ news, p.1 < l') → Q (.ref l') { s with heap := h', toks := tk' }) :
    wpAny (model PySem.Challenge.rw_ny0466_01.row.prog w) (ktrTop dp un gd cn cs L af ccd cl outer) (call (.ref 54) [.ref l, .int c tc]) Q E s := by
  revert X; k_fill; intro X
  have hvl : vs.length = ns.length := hI.length
  refine wpAny_call ?_
  refine' code_defC (binds := [("row", .ref l), ("c", .int c tc)]) B F X N T rfl rfl hk ?k6 ?k7 ?k8 ?k9 ?kB ?kD ?_ ?c2 ?c3 ?c4
  case k6 => k_is
  case k7 => k_is
  case k8 => dsimp only; omega
  case k9 => exact BindsTo.of_eq rfl
  case kB => exact rfl
  case kD => decide +kernel
  case c2 => exact rfl
  case c3 => exact rfl
  case c4 => exact rfl
  intro g' L' h' tk' cells' FG' F' N' Y' B' X' T' l1
  dsimp only
  k_fold
  obtain ⟨o1, hE, d1⟩ := CellsAre.one Y'
  subst hE
  clear Y'
  have e1 : o1.data = .cell (some (.int c tc)) := d1
  clear d1
  k_steps
  rename_i pa xh1 lpa h3 F3 N3
  refine Stop.mk ?_
  dsimp only
  refine krv_ints (s := { s with heap := h3, toks := _ }) F3 N3 (News.isList N3 (.tail _ (.tail _ hl))) (IsPart.int _ _) hI ?_ (by with_unfolding_all rfl) (by kmk_pure) (by rw [List.size_toArray, hvl, sizeLine_eq]; omega)
  intro D ws h4 F4 N4 lt4 hIw hlw
  clear F3 N3
  dsimp only
  refine iter_listUnr (lo := listOf ws.toArray 0) (vs := ws) (n := 0) rfl F4 N4 (.head _) rfl rfl ?_
  intro I ltI
  have hDI : D ≠ I := Nat.ne_of_lt (ltI (D, _) (.head _))
  have hnI : ∀ q ∈ (L' + 1, o1) :: news, q.1 ≠ I := fun q hq => Nat.ne_of_lt (ltI q (.tail _ (.tail _ hq)))
  refine list_ind (fun vals m led => ∃ rs hi vp np u P, IntsAre vals rs ∧ m = frO P u ∧ led = (D, listOf ws.toArray 0) :: (P, listOf vp.toArray np) :: (L' + 1, o1) :: news ∧ rs.reverse ++ hi = ns ∧ IntsAre vp (mv c hi) ∧ (∀ q ∈ (L' + 1, o1) :: news, q.1 < P) ∧ P ≠ I) ?_ ?_ _ _ _
    ⟨ns.reverse, [], [], 0, _, pa, hIw, frO_of rfl, rfl, by simp, .nil, lpa, Nat.ne_of_lt (ltI (pa, _) (.tail _ (.head _)))⟩
  · rintro v rr m9 led ⟨rs, hi, vp, np, u, P, hIv, rfl, rfl, hrs, hIp, hP, hPI⟩ it h5 tk5 hit F5 N5
    cases hIv with
    | @cons x tx _ rs hIv =>
    clear F4 N4
    change Fr g' L' h5 _ at F5
    change News g' L' h5 _ at N5
    dsimp only
    have hml : (mv c hi).length ≤ 16 := by
      rw [mv_length]
      have : hi.length ≤ ns.length := by rw [← hrs, List.length_append]; omega
      omega
    k_steps
    refine Stop.mk (zassign rfl rfl (by decide) rfl (by decide) rfl rfl (by decide) rfl rfl ?_)
    k_steps
    rename_i la h6 F6 N6 lla
    refine Stop.mk (kmk_add_ints (ws := [_]) (ms := [_]) F6 N6 (News.isList N6 (.tail _ (.tail _ (.tail _ (.head _))))) (News.isList N6 (.head _)) hIp (.cons _ _ .nil) ?_ (by rw [List.length_singleton, sizeLine_eq]; omega))
    intro A1 va h7 F7 N7 lt7 hIa
    have N7 := news_hd N7 (news := (I, it) :: (D, listOf ws.toArray 0) :: (P, listOf vp.toArray np) :: (L' + 1, o1) :: news) (fun _ hp => .tail _ hp)
    clear F6 N6
    dsimp only
    k_steps
    rename_i lb h8 F8 N8 llb
    refine Stop.mk (kmk_add_ints (vs := [_]) (ns := [_]) F8 N8 (News.isList N8 (.head _)) (News.isList N8 (.tail _ (.tail _ (.tail _ (.tail _ (.head _)))))) (.cons _ _ .nil) hIp ?_ (by rw [List.length_singleton, sizeLine_eq]; omega))
    intro B1 vb h9 F9 N9 lt9 hIb
    clear F8 N8
    dsimp only
    k_steps
    refine Stop.mk (call_zip_2 (News.isList N9 (.tail _ (.tail _ (.head _)))) (News.isList N9 (.head _)) ?_)
    intro h10 hz hTI hTO hi1 hi2 hsize hkeep
    dsimp only at hz hTI hTO hi1 hi2 hsize hkeep
    have hA1 : A1 < h9.objs.size := Heap.lt_size (N9 (A1, _) (.tail _ (.tail _ (.head _)))).1
    have hB1 : B1 < h9.objs.size := Heap.lt_size (N9 (B1, _) (.head _)).1
    have hL1 : L' < h9.objs.size := F9.ns.lt
    have hIs1 : h10.IsList A1 va.toArray := stays_list hkeep (News.isList N9 (.tail _ (.tail _ (.head _))))
    have hIs2 : h10.IsList B1 vb.toArray := stays_list hkeep (News.isList N9 (.head _))
    refine ⟨h9.objs.size + 4, h9.objs.size + 2, h9.objs.size + 3, h9.objs.size, h9.objs.size + 1, A1, B1, va, vb, _, _, fun lo hi => c * lo + hi, _, rfl, rfl, ?_, hIa, hIb, by simp, by simp; omega, ⟨hz, hTI, ⟨_, _, hTO⟩, hi1, hi2, hIs1, hIs2⟩, ?_, ?_, F9.ns.keeps hkeep, ?_, ?_⟩
    · have z1 := ltN hA1
      have z2 := ltN hB1
      constructor <;> refine neN ?_ <;> omega
    · intro q hq
      have z1 := ltN hA1
      have z2 := ltN hB1
      dsimp only
      rw [hsize]
      simp only [List.mem_cons, List.not_mem_nil, or_false] at hq
      rcases hq with rfl | rfl | rfl | rfl | rfl | rfl | rfl <;> refine ltN ?_ <;> omega
    · intro hq
      change L' ∈ _ at hq
      simp only [List.mem_cons, List.not_mem_nil, or_false] at hq
      rcases hq with e | e | e | e <;> exact absurd e (Nat.ne_of_lt (Nat.lt_of_lt_of_le hL1 (by first | exact Nat.le_add_right _ _ | exact Nat.le_refl _)))
    · intro C lo hi2 tlo thi s3 m3 E3 hn3 hm1 hm2 hk3
      dsimp only at hk3
      have hcell3 : s3.heap.IsCell (L' + 1) (some (.int c tc)) := by
        refine ⟨o1, hk3 (L' + 1) o1 ?_ (hkeep _ _ (N9 (L' + 1, o1) (by simp)).1), e1⟩
        have z3 : L' + 1 < h9.objs.size := Heap.lt_size (N9 (L' + 1, o1) (by simp)).1
        intro hq
        simp only [List.mem_cons, List.not_mem_nil, or_false] at hq
        rcases hq with e | e | e | e <;> exact absurd e (Nat.ne_of_lt (Nat.lt_of_lt_of_le z3 (by first | exact Nat.le_add_right _ _ | exact Nat.le_refl _)))
      refine wpAny_BinOp (wpAny_BinOp (wpAny_Name (wpAny_loadName_cell rfl rfl (c := L' + 1) rfl hcell3 (wpAny_Name (wpAny_loadName_local rfl rfl hn3 hm1 ?_)))))
      refine PyProof.Rows.mul_int ?_ (.of_left (intBits_le_64 (by omega) (by omega)))
      refine wpAny_Name (wpAny_loadName_local rfl rfl hn3 hm2 ?_)
      refine PyProof.Rows.add_int ?_
      exact ⟨⟨_, rfl⟩, s3.heap, _, rfl, fun _ _ e => e⟩
    · intro D2 h11 tk11 us hD2 hDo hIu hns hk11
      change h11.Ns L' _ at hns
      change ∀ q o, q ≠ L' → q ∉ [h9.objs.size + 4, h9.objs.size + 3, h9.objs.size, h9.objs.size + 1] → h10.get? q = some o → h11.get? q = some o at hk11
      change h10.objs.size ≤ D2 at hD2
      have hFN := raw_fn F9 N9 (fun q o hq hw e => hk11 q o hq hw (hkeep q o e)) (by
        intro q hq
        simp only [List.mem_cons, List.not_mem_nil, or_false] at hq
        rcases hq with rfl | rfl | rfl | rfl <;> omega) hns
      have F11 := hFN.1
      have hD9 : h9.objs.size < D2 := by rw [hsize] at hD2; exact ltN (by have := hD2; omega)
      have lt11 : ∀ q ∈ (I, it) :: (D, listOf ws.toArray 0) :: (P, listOf vp.toArray np) :: (L' + 1, o1) :: news, q.1 < D2 := fun q hq => Nat.lt_trans (Heap.lt_size (N9 q (.tail _ (.tail _ (.tail _ hq)))).1) hD9
      have N11 : News g' L' h11 ((D2, listOf us.toArray us.length) :: (I, it) :: (D, listOf ws.toArray 0) :: (P, listOf vp.toArray np) :: (L' + 1, o1) :: news) := by
        intro q hq
        rcases List.mem_cons.mp hq with rfl | hq
        · exact ⟨hDo, Ne.symm (Nat.ne_of_lt (Nat.lt_trans hL1 hD9)), Heap.get?_none_of_le (Nat.le_trans F9.above (Nat.le_of_lt (Nat.lt_trans hL1 hD9)))⟩
        · exact hFN.2 q (.tail _ (.tail _ (.tail _ hq)))
      clear hFN hns hk11 F9 N9
      change IntsAre us (mvz c (mv c hi)) at hIu
      have hzl := mvz_length c (mv c hi)
      k_steps
      rename_i lc h12 F12 N12 llc
      refine Stop.mk ?_
      dsimp only
      refine kmk_slice_ints (s := { s with heap := h12, toks := _ }) F12 N12 (News.isList N12 (.tail _ (.head _))) (IsPart.int _ _) .none hIu (kmk_from hIu (by decide)) rfl ?_ (by with_unfolding_all rfl) (by kmk_pure) (by rw [List.size_toArray, hIu.length, hzl, sizeLine_eq]; omega)
      intro D3 ws3 h13 F13 N13 lt13 hI3 _ _
      clear F12 N12
      dsimp only
      k_steps
      refine Stop.mk (kmk_add_ints (vs := [_]) (ns := [_]) F13 N13 (News.isList N13 (.tail _ (.head _))) (News.isList N13 (.head _)) (.cons _ _ .nil) hI3 ?_ (by rw [List.length_singleton, List.length_drop, hzl, sizeLine_eq]; omega))
      intro P2 vp2 h14 F14 N14 lt14 hI14
      clear F13 N13
      dsimp only
      k_steps
      have hP2I : I < P2 := lt14 (I, it) (.tail _ (.tail _ (.tail _ (.head _))))
      refine UnrEnd.intro (by k_asm) (by k_asm) ((D, listOf ws.toArray 0) :: (P2, listOf vp2.toArray 0) :: (L' + 1, o1) :: news) ?_ ?_ ⟨.head _, rs, x :: hi, vp2, 0, _, P2, hIv, frO_of rfl, rfl, ?_, hI14, fun q hq => lt14 q (.tail _ (.tail _ (.tail _ (.tail _ (.tail _ (.tail _ hq)))))), Ne.symm (Nat.ne_of_lt hP2I)⟩
      · intro q hq
        simp only [List.mem_cons] at hq ⊢
        rcases hq with h | h | h | h | h <;> simp only [h, true_or, or_true]
      · intro q hq
        rcases List.mem_cons.mp hq with rfl | hq
        · exact hDI
        · rcases List.mem_cons.mp hq with rfl | hq
          · exact Ne.symm (Nat.ne_of_lt hP2I)
          · exact hnI q hq
      · rw [← hrs]; simp
  · rintro m9 led ⟨rs, hi, vp, np, u, P, hIv, rfl, rfl, hrs, hIp, hP, hPI⟩ h5 tk5 F5 N5
    cases hIv
    clear F4 N4
    change Fr g' L' h5 _ at F5
    change News g' L' h5 _ at N5
    k_steps
    have hhi : hi = ns := by simpa using hrs
    subst hhi
    refine ret P vp np _ _ (by k_asm) (kst_newsOf (by k_asm) ?_) hIp fun q hq => hP q (.tail _ hq)
    intro q hq
    simp only [List.mem_cons] at hq ⊢
    rcases hq with h | h <;> simp only [h, true_or, or_true]
end Mine
end
section
open PySem PySem.W PyProof.Rows PySem.Calls PyProof.Rows.LCg
namespace Mine
open Builtin.Int (intBits)
section
variable {prog : PySem.Program} {w : World} {A : Around} {E : Value → Shared → Prop} {s : Shared} {a b v : Int} {t u : Tok} {Q : Value → Shared → Prop}
theorem b_add_ex {P : Int → Prop} (hP : P (a + b)) (h : ∀ v, P v → Q (.int v s.toks) { s with toks := s.toks + 1 }) : Stop (wpAny (model prog w) A (binaryOp .Add (.int a t) (.int b u)) Q E s) := b_add rfl (h _ hP)
theorem b_sub_ex {P : Int → Prop} (hP : P (a - b)) (h : ∀ v, P v → Q (.int v s.toks) { s with toks := s.toks + 1 }) : Stop (wpAny (model prog w) A (binaryOp .Sub (.int a t) (.int b u)) Q E s) := b_sub rfl (h _ hP)
theorem b_pow (n : Nat) (hb : b = n) (hn : n ≤ 100000) (e : (2 : Int) ^ n = v) (h : Q (.int v s.toks) { s with toks := s.toks + 1 }) : Stop (wpAny (model prog w) A (binaryOp .Pow (.int 2 t) (.int b u)) Q E s) := by
  subst hb
  refine .mk (pow_int_small (by omega) (by omega) (by decide) ?_)
  rw [Int.toNat_natCast, e]; exact h
end
theorem c_ok (x : Int) : 1 ≤ 1 + x.fmod 9 ∧ 1 + x.fmod 9 ≤ 9 := by
  rw [fmod_pos (by decide)]
  have := Int.emod_nonneg x (show (9 : Int) ≠ 0 by decide)
  have := Int.emod_lt_of_pos x (show (0 : Int) < 9 by decide)
  omega
theorem up_ok (x : Int) : ∃ up : Nat, 4100 - x.fmod 4101 = up ∧ up ≤ 4100 := by
  rw [fmod_pos (by decide)]
  have := Int.emod_nonneg x (show (4101 : Int) ≠ 0 by decide)
  have := Int.emod_lt_of_pos x (show (0 : Int) < 4101 by decide)
  exact ⟨(4100 - x % 4101).toNat, by omega, by omega⟩
end Mine
end
section
open PySem PySem.W PyProof.Rows PySem.Calls PyProof.Rows.LCg
set_option maxRecDepth 100000
namespace Mine
theorem paired_ints {f : Int → Int} : ∀ {vs : List Value} {ys : List Value} {xs : List Int}, IntsAre vs xs → Paired (fun v y => ∀ x t, v = Value.int x t → ∃ t', y = Value.int (f x) t') vs ys → IntsAre ys (xs.map f)
  | _, _, _, .nil, .nil => .nil
  | _, _, _, .cons n t h, .cons hf hp => by
    obtain ⟨t', rfl⟩ := hf n t rfl
    exact .cons _ _ (paired_ints h hp)
theorem eq_of_items {vs ws : List Value} (hl : vs.length = ws.length) (h : ∀ (j : Nat) (v : Value), vs[j]? = some v → ws[j]? = some v) : vs = ws := by
  apply List.ext_getElem? 
  intro j
  by_cases hj : j < vs.length
  · have e := List.getElem?_eq_getElem hj
    rw [h j _ e, e]
  · rw [List.getElem?_eq_none (Nat.not_lt.mp hj), List.getElem?_eq_none (by omega)]
section
variable {prog : PySem.Program} {w : World} {A : Around} {E : Value → Shared → Prop} {env : Env}
theorem lcomp {s : Shared} {elt iter : PySem.Expr} {x : Str} {px : Pos} {scope : Scope} {cl : List (Str × Addr)} {pos : Pos} {Q : Value → Shared → Prop} (f : Int → Int)
    (hclos : closureFor scope env = pure cl) (hcell : ∀ y ∈ scope.names, y.2 ≠ .cell) (hkind : scope.kind = .function)
    (hnames : ∀ y ∈ scope.names, y.2 = .local → scope.names.lookup y.1 = some .local) (hx : scope.names.lookup x = some .local)
    (h : wpAny (model prog w) A (eval iter env) (fun xv s₁ => ∃ (l : Addr) (vx : List Value) (xs : List Int), xv = .ref l ∧ A.handled = none ∧ s₁.heap.IsList l vx.toArray ∧ IntsAre vx xs ∧ xs.length ≤ 1000 ∧
      (∀ C x9 tx s₃ m₃ E', s₃.heap.Ns C m₃ → m₃ x = some (.int x9 tx) → (∀ q o, s₁.heap.get? q = some o → s₃.heap.get? q = some o) →
        wpAny (model prog w) A (eval elt (compEnvC scope cl C env)) (fun v s₄ => (∃ t, v = .int (f x9) t) ∧ Keeps s₃ s₄) E' s₃) ∧
      (∀ D h' tk us n, s₁.heap.get? D = none → h'.get? D = some (listOf us.toArray n) → IntsAre us (xs.map f) → (∀ q o, s₁.heap.get? q = some o → h'.get? q = some o) → Q (.ref D) { s₁ with heap := h', toks := tk })) E s)
    (hs : ∀ x, foldedSetIterable iter env x = pure x := by intro _; rfl) :
    wpAny (model prog w) A (eval (.ListComp elt [⟨.Name x px, iter, [], 0⟩] scope pos) env) Q E s := by
  refine wpAny_ListComp_free (fun _ => true) (fun v y => ∀ x t, v = Value.int x t → ∃ t', y = Value.int (f x) t') hclos hcell hkind hnames hx (wpAny_mono h (fun xv s₁ h₁ => ?_) fun _ _ e => e) hs
  obtain ⟨l, vx, xs, rfl, hh, hl, hI, hsz, helt, hQ⟩ := h₁
  have hlt : l < s₁.heap.objs.size := by obtain ⟨o, ho, _⟩ := id hl; exact Heap.lt_size ho
  have hne : l ≠ s₁.heap.objs.size := Nat.ne_of_lt hlt
  refine wpAny_pyIter_list hl ?_
  have W := Walks.list (prog := prog) (w := w) hh s₁.heap.objs.size l hne vx.toArray
  have up : ∀ q o, s₁.heap.get? q = some o → (s₁.heap.push { cls := .type "list_iterator", data := .fields #[.ref l, .int 0 0] }).get? q = some o := fun q o e => Heap.get?_push_of_some _ e
  refine ⟨_, _, _, _, _, _, rfl, W, ?_, ⟨⟨_, Heap.get?_push_size _ rfl, rfl, rfl⟩, hl.at fun o e => up _ _ e⟩, ?_, ⟨?_, ?_⟩, ?_⟩
  · rw [List.size_toArray, hI.length, sizeLine_eq]; omega
  · intro b hb
    dsimp only
    rw [Heap.size_push]
    rcases List.mem_cons.mp hb with rfl | hb
    · exact Nat.lt_succ_self _
    · rw [List.mem_singleton.mp hb]; exact Nat.lt_succ_of_lt hlt
  · intro C i v s₃ m₃ E' _ _ _ _ _ _
    exact wpAny_pure ⟨rfl, s₃.heap, s₃.toks, rfl, fun _ _ e => e⟩
  · intro C i v s₃ m₃ E' _ hP _ hn hm hk _
    obtain ⟨x9, tx, _, rfl⟩ := ints_at hI (by simpa using hP)
    refine wpAny_mono (helt C x9 tx s₃ m₃ E' hn hm fun q o e => hk q o ?_ (up q o e)) (fun v s₄ h₄ => ⟨?_, h₄.2⟩) fun _ _ e => e
    · intro hq
      rw [List.mem_singleton.mp hq] at e
      exact absurd (Heap.lt_size e) (Nat.lt_irrefl _)
    · obtain ⟨⟨t, rfl⟩, _⟩ := h₄
      intro x2 t2 e
      cases e
      exact ⟨_, rfl⟩
  · intro D h' tk ys vs hD _ hpl hlen hP hF hk
    obtain ⟨n, hpl⟩ := hpl
    have hD2 : s₁.heap.get? D = none := by
      cases e : s₁.heap.get? D with
      | none => rfl
      | some o => rw [show (s₁.heap.push { cls := .type "list_iterator", data := .fields #[.ref l, .int 0 0] }).get? D = some o from up D o e] at hD; cases hD
    have hvs : vs = vx := eq_of_items (by rw [hlen, List.size_toArray]) (fun j v hj => by simpa using hP j v hj)
    subst hvs
    rw [List.filter_eq_self.mpr (fun _ _ => rfl)] at hF
    exact hQ D h' tk ys.toList n hD2 hpl (paired_ints hI hF) fun q o e => hk q o (fun hq => by rw [List.mem_singleton.mp hq] at e; exact absurd (Heap.lt_size e) (Nat.lt_irrefl _)) (up q o e)
end
end Mine
end
section
open PySem PySem.W PyProof.Rows PySem.Calls
namespace Mine
open Builtin.Int (intBits)

theorem hs_open (c x : Int) (r : List Int) : ofDg x (hs c r) = (hs c r).headD 0 + x * ofDg x ((hs c r).drop 1) := by
  cases h : hs c r with
  | nil => simp [ofDg]
  | cons a t => simp [ofDg]
theorem synth (c x : Int) : ∀ row, ofDg x row = (x - c) * ofDg x ((hs c row).drop 1) + (hs c row).headD 0
  | [] => by simp [hs, ofDg]
  | a :: r => by
    have ih := synth c x r
    have ho := hs_open c x r
    rw [ofDg, ih, hs, List.drop_succ_cons, List.drop_zero, List.headD_cons, ho]
    generalize ofDg x ((hs c r).drop 1) = D
    generalize (hs c r).headD 0 = h
    have e1 : x * ((x - c) * D + h) = x * ((x - c) * D) + x * h := Int.mul_add ..
    have e2 : (x - c) * (h + x * D) = (x - c) * h + (x - c) * (x * D) := Int.mul_add ..
    have e3 : (x - c) * h = x * h - c * h := Int.sub_mul ..
    have e4 : x * ((x - c) * D) = (x - c) * (x * D) := by rw [← Int.mul_assoc, Int.mul_comm x, Int.mul_assoc]
    have e5 := Int.mul_comm c h
    omega
theorem hs_nonneg {c : Int} (hc : 0 ≤ c) : ∀ {row : List Int}, (∀ x ∈ row, 0 ≤ x) → ∀ x ∈ hs c row, 0 ≤ x
  | [], _, x, hx => nomatch hx
  | a :: r, h, x, hx => by
    have ih := hs_nonneg hc (row := r) fun y hy => h y (List.mem_cons_of_mem _ hy)
    rw [hs] at hx
    rcases List.mem_cons.mp hx with rfl | hx
    · have h1 := h a List.mem_cons_self
      have h2 : 0 ≤ (hs c r).headD 0 := by
        cases e : hs c r with
        | nil => simp
        | cons b t => rw [List.headD_cons]; exact ih b (by rw [e]; exact List.mem_cons_self)
      have := Int.mul_nonneg h2 hc
      omega
    · exact ih x hx
theorem hs_head_nonneg {c : Int} (hc : 0 ≤ c) {row : List Int} (h : ∀ x ∈ row, 0 ≤ x) : 0 ≤ (hs c row).headD 0 := by
  have := hs_nonneg hc h
  cases e : hs c row with
  | nil => simp
  | cons b t => rw [List.headD_cons]; exact this b (by rw [e]; exact List.mem_cons_self)
theorem hs_last (c : Int) : ∀ row : List Int, (hs c row).getLast? = row.getLast?
  | [] => rfl
  | [a] => by simp [hs]
  | a :: b :: r => by
    have ih := hs_last c (b :: r)
    rw [hs, List.getLast?_cons_cons]
    cases e : hs c (b :: r) with
    | nil => have := hs_length c (b :: r); rw [e] at this; simp at this
    | cons p q => rw [List.getLast?_cons_cons, ← e, ih]
theorem mem_le_ofDg {x : Int} (hx : 1 ≤ x) : ∀ {row : List Int}, (∀ d ∈ row, 0 ≤ d) → ∀ d ∈ row, d ≤ ofDg x row
  | [], _, d, hd => nomatch hd
  | a :: r, h, d, hd => by
    have hr : ∀ y ∈ r, 0 ≤ y := fun y hy => h y (List.mem_cons_of_mem _ hy)
    have h0 := ofDg_nonneg (B := x) (by omega) hr
    have h1 := h a List.mem_cons_self
    rw [ofDg]
    have h2 : ofDg x r ≤ x * ofDg x r := by
      have := Int.mul_le_mul_of_nonneg_right hx h0
      omega
    rcases List.mem_cons.mp hd with rfl | hd
    · omega
    · have := mem_le_ofDg hx hr d hd; omega
theorem ofDg_zip (c x : Int) : ∀ {as bs : List Int}, as.length = bs.length → ofDg x (List.zipWith (fun lo hi => c * lo + hi) as bs) = c * ofDg x as + ofDg x bs
  | [], [], _ => by simp [ofDg]
  | [], _ :: _, h => by simp at h
  | _ :: _, [], h => by simp at h
  | a :: as, b :: bs, h => by
    rw [List.zipWith_cons_cons, ofDg, ofDg, ofDg, ofDg_zip c x (by simpa using h)]
    have e1 : x * (c * ofDg x as + ofDg x bs) = x * (c * ofDg x as) + x * ofDg x bs := Int.mul_add ..
    have e2 : c * (a + x * ofDg x as) = c * a + c * (x * ofDg x as) := Int.mul_add ..
    have e3 : x * (c * ofDg x as) = c * (x * ofDg x as) := by rw [← Int.mul_assoc, Int.mul_comm x, Int.mul_assoc]
    omega
theorem ofDg_mvz (c x : Int) (o : List Int) : ofDg x (mvz c o) = (x + c) * ofDg x o := by
  unfold mvz
  rw [ofDg_zip c x (by simp), ofDg_append]
  simp only [List.singleton_append, ofDg, Int.mul_zero, Int.add_zero, Int.zero_add]
  rw [Int.add_mul]; omega
theorem ofDg_mv (c x : Int) : ∀ row, ofDg x (mv c row) = ofDg (x + c) row
  | [] => by simp [mv, ofDg]
  | a :: r => by
    have ih := ofDg_mv c x r
    have hz := ofDg_mvz c x (mv c r)
    rw [ih] at hz
    rw [mv, ofDg, ofDg, ← hz]
    cases e : mvz c (mv c r) with
    | nil => have := mvz_length c (mv c r); rw [e] at this; simp at this
    | cons p q => simp [ofDg]; omega
theorem zip_nonneg {c : Int} (hc : 0 ≤ c) : ∀ {as bs : List Int}, (∀ x ∈ as, 0 ≤ x) → (∀ x ∈ bs, 0 ≤ x) → ∀ x ∈ List.zipWith (fun lo hi => c * lo + hi) as bs, 0 ≤ x
  | [], _, _, _, x, hx => by simp at hx
  | _ :: _, [], _, _, x, hx => by simp at hx
  | a :: as, b :: bs, ha, hb, x, hx => by
    rw [List.zipWith_cons_cons] at hx
    rcases List.mem_cons.mp hx with rfl | hx
    · have := Int.mul_nonneg hc (ha a List.mem_cons_self)
      have := hb b List.mem_cons_self
      omega
    · exact zip_nonneg hc (fun y hy => ha y (List.mem_cons_of_mem _ hy)) (fun y hy => hb y (List.mem_cons_of_mem _ hy)) x hx
theorem mv_nonneg {c : Int} (hc : 0 ≤ c) : ∀ {row : List Int}, (∀ x ∈ row, 0 ≤ x) → ∀ x ∈ mv c row, 0 ≤ x
  | [], _, x, hx => nomatch hx
  | a :: r, h, x, hx => by
    have ih := mv_nonneg hc (row := r) fun y hy => h y (List.mem_cons_of_mem _ hy)
    have hz : ∀ y ∈ mvz c (mv c r), 0 ≤ y := by
      refine zip_nonneg hc ?_ ?_
      · intro y hy; rcases List.mem_append.mp hy with hy | hy
        · exact ih y hy
        · rw [List.mem_singleton.mp hy]; exact Int.le_refl 0
      · intro y hy; rcases List.mem_append.mp hy with hy | hy
        · rw [List.mem_singleton.mp hy]; exact Int.le_refl 0
        · exact ih y hy
    rw [mv] at hx
    rcases List.mem_cons.mp hx with rfl | hx
    · have h1 := h a List.mem_cons_self
      have : 0 ≤ (mvz c (mv c r)).getD 0 0 := by
        cases e : mvz c (mv c r) with
        | nil => simp
        | cons p q => simp; exact hz p (by rw [e]; exact List.mem_cons_self)
      omega
    · exact hz x (List.mem_of_mem_drop hx)
theorem ofDg_mono {x y : Int} (hx : 0 ≤ x) (hxy : x ≤ y) : ∀ {row : List Int}, (∀ d ∈ row, 0 ≤ d) → ofDg x row ≤ ofDg y row
  | [], _ => by simp [ofDg]
  | a :: r, h => by
    have hr : ∀ z ∈ r, 0 ≤ z := fun z hz => h z (List.mem_cons_of_mem _ hz)
    have ih := ofDg_mono hx hxy hr
    have h0 := ofDg_nonneg (B := x) hx hr
    rw [ofDg, ofDg]
    have h1 : x * ofDg x r ≤ y * ofDg x r := Int.mul_le_mul_of_nonneg_right hxy h0
    have h2 : y * ofDg x r ≤ y * ofDg y r := Int.mul_le_mul_of_nonneg_left ih (by omega)
    omega
theorem ofDg_cap {K : Int} : ∀ {row : List Int}, (∀ d ∈ row, d ≤ K) → 9 * ofDg 10 row ≤ K * (10 ^ row.length - 1)
  | [], _ => by simp [ofDg]
  | a :: r, h => by
    have ih := ofDg_cap (K := K) (row := r) fun z hz => h z (List.mem_cons_of_mem _ hz)
    have h1 := h a List.mem_cons_self
    rw [ofDg, List.length_cons, Int.pow_succ]
    rw [Int.mul_sub] at ih ⊢
    have : K * (10 ^ r.length * 10) = 10 * (K * 10 ^ r.length) := by rw [← Int.mul_assoc, Int.mul_comm]
    omega
end Mine
end
section
open PySem PySem.W PyProof.Rows PySem.Calls
namespace Mine
open Builtin.Int (intBits)
theorem pw (up : Nat) : (2 : Int) ^ (up + 24) = 16777216 * 2 ^ up := by
  rw [Int.pow_add, Int.mul_comm]; rfl
theorem pw25 (up : Nat) : (2 : Int) ^ (up + 25) = 33554432 * 2 ^ up := by
  rw [Int.pow_add, Int.mul_comm]; rfl
theorem pw23 (up : Nat) : (2 : Int) ^ (up + 23) = 8388608 * 2 ^ up := by
  rw [Int.pow_add, Int.mul_comm]; rfl
theorem sub_ok {c : Int} {up : Nat} (hc : 1 ≤ c ∧ c ≤ 9) : 1 ≤ 2 ^ (up + 24) - c := by
  have := pw up
  have := two_pow_pos up
  omega
theorem add_ok {c : Int} {up : Nat} (hc : 1 ≤ c ∧ c ≤ 9) : 1 ≤ 2 ^ (up + 24) + c := by
  have := two_pow_pos (up + 24)
  omega
theorem sub_bits {c : Int} {up : Nat} (hc : 1 ≤ c ∧ c ≤ 9) : intBits (2 ^ (up + 24) - c) = up + 24 := by
  have h1 := sub_ok (up := up) hc
  have h2 := bits_le (m := up + 24) (x := 2 ^ (up + 24) - c) (by omega) (by omega)
  by_cases h3 : intBits (2 ^ (up + 24) - c) ≤ up + 23
  · have h4 := lt_of_bits h3
    have := pw up
    have := pw23 up
    have := two_pow_pos up
    omega
  · omega
theorem add_bits {c : Int} {up : Nat} (hc : 1 ≤ c ∧ c ≤ 9) : intBits (2 ^ (up + 24) + c) = up + 25 := by
  have h1 := add_ok (up := up) hc
  have h5 := pw up
  have h6 := pw25 up
  have h7 := two_pow_pos up
  have h2 := bits_le (m := up + 25) (x := 2 ^ (up + 24) + c) (by omega) (by omega)
  by_cases h3 : intBits (2 ^ (up + 24) + c) ≤ up + 24
  · have h4 := lt_of_bits h3
    omega
  · omega
theorem ofDg_top {B : Int} (hB : 0 < B) : ∀ {ds : List Int}, (∀ d ∈ ds, 0 ≤ d ∧ d < B) → ofDg B ds < B ^ ds.length
  | [], _ => by simp [ofDg]
  | a :: r, h => by
    have ih := ofDg_top hB (ds := r) fun z hz => h z (List.mem_cons_of_mem _ hz)
    have h1 := h a List.mem_cons_self
    rw [ofDg, List.length_cons, Int.pow_succ]
    have : (ofDg B r + 1) * B ≤ B ^ r.length * B := Int.mul_le_mul_of_nonneg_right (by omega) (by omega)
    rw [Int.add_mul, Int.mul_comm (ofDg B r) B] at this
    omega
theorem nDig_le {a : Int} {n k : Nat} (hn : 1 ≤ n) (h : intBits a ≤ n * k) : nDig a n ≤ k := by
  unfold nDig
  refine Nat.lt_succ_iff.mp ((Nat.div_lt_iff_lt_mul (by omega)).mpr ?_)
  rw [Nat.succ_mul, Nat.mul_comm k n]
  omega
theorem nDig_ge {a : Int} {n k : Nat} (hn : 1 ≤ n) (h : n * k + 1 ≤ intBits a) : k + 1 ≤ nDig a n := by
  unfold nDig
  refine (Nat.le_div_iff_mul_le (by omega)).mpr ?_
  rw [Nat.succ_mul, Nat.mul_comm k n]
  omega
theorem nDig_eq {n : Nat} (hn : 1 ≤ n) {row : List Int} (hb : ∀ d ∈ row, 0 ≤ d ∧ d < 2 ^ n) (hl : ∀ x ∈ row.getLast?, 0 < x) : nDig (ofDg (2 ^ n) row) n = row.length := by
  have hB := two_pow_pos n
  have h0 : 0 ≤ ofDg (2 ^ n) row := ofDg_nonneg (by omega) fun x hx => (hb x hx).1
  have hlt := ofDg_top hB hb
  rw [← Int.pow_mul] at hlt
  have hup : nDig (ofDg (2 ^ n) row) n ≤ row.length := nDig_le hn (bits_le h0 hlt)
  rcases List.eq_nil_or_concat row with e | ⟨init, x, e⟩
  · subst e; simpa using hup
  · rw [List.concat_eq_append] at e
    have hx : 0 < x := hl x (by rw [e]; simp)
    have hlen : row.length = init.length + 1 := by rw [e]; simp
    refine Nat.le_antisymm hup ?_
    rw [hlen]
    refine nDig_ge hn (Nat.lt_of_not_le fun hle => ?_)
    have h1 := lt_of_bits hle
    rw [Int.pow_mul, e, ofDg_append] at h1
    have h2 : 0 ≤ ofDg (2 ^ n) init := ofDg_nonneg (by omega) fun y hy => (hb y (by rw [e]; exact List.mem_append_left _ hy)).1
    have h3 : 0 < ((2 : Int) ^ n) ^ init.length := Int.pow_pos hB
    have h4 : ofDg (2 ^ n) [x] = x := by simp [ofDg]
    rw [h4] at h1
    have h5 : ((2 : Int) ^ n) ^ init.length * 1 ≤ ((2 : Int) ^ n) ^ init.length * x := Int.mul_le_mul_of_nonneg_left (by omega) (by omega)
    omega
theorem hs_head (c : Int) : ∀ row, (hs c row).headD 0 = ofDg c row
  | [] => rfl
  | a :: r => by
    rw [hs, List.headD_cons, hs_head c r, ofDg, Int.mul_comm]; omega

structure FirstOk (up : Nat) (fs : List Int) : Prop where
  pos : ∀ x ∈ fs, 0 ≤ x
  len : fs.length ≤ 6
  last : ∀ x ∈ fs.getLast?, 0 < x
  cap : ofDg 10 fs ≤ 11299889 * 2 ^ up
structure RowOk (c : Int) (up : Nat) (rs row : List Int) : Prop where
  len6 : row.length ≤ 6
  leneq : rs.length = row.length
  pos : ∀ x ∈ row, 0 ≤ x
  cap : ofDg (c + 1) row ≤ 11299889 * 2 ^ up
  last : ∀ x ∈ row.getLast?, 0 < x
  val : ofDg (2 ^ (up + 24)) row = ofDg (2 ^ (up + 24) - c) rs
  rpos : ∀ x ∈ rs, 0 ≤ x ∧ x ≤ 11299889 * 2 ^ up
structure TailOk (up : Nat) (rs : List Int) : Prop where
  pos : ∀ x ∈ rs, 0 ≤ x ∧ x < 2 ^ (up + 24)
  len : rs.length ≤ 6

theorem first_ok (up : Nat) {raw : List Int} (hl : raw.length ≤ 5) : FirstOk up (raw.map (fun x => (if x < 0 then -x else x).fmod 1000 * 2 ^ up) ++ [2 * 2 ^ up]) := by
  have hk := two_pow_pos up
  have hm : ∀ x ∈ raw.map (fun x => (if x < 0 then -x else x).fmod 1000 * 2 ^ up), 0 ≤ x ∧ x ≤ 999 * 2 ^ up := by
    intro x hx
    obtain ⟨y, _, rfl⟩ := List.mem_map.mp hx
    rw [fmod_pos (by decide)]
    generalize (if y < 0 then -y else y) = z
    have h1 := Int.emod_nonneg z (show (1000 : Int) ≠ 0 by decide)
    have h2 := Int.emod_lt_of_pos z (show (0 : Int) < 1000 by decide)
    exact ⟨Int.mul_nonneg h1 (by omega), Int.mul_le_mul_of_nonneg_right (by omega) (by omega)⟩
  have hlen : (raw.map (fun x => (if x < 0 then -x else x).fmod 1000 * 2 ^ up)).length ≤ 5 := by rw [List.length_map]; exact hl
  generalize raw.map (fun x => (if x < 0 then -x else x).fmod 1000 * 2 ^ up) = xs at hm hlen
  refine ⟨?_, ?_, ?_, ?_⟩
  · intro x hx
    rcases List.mem_append.mp hx with hx | hx
    · exact (hm x hx).1
    · rw [List.mem_singleton.mp hx]; omega
  · rw [List.length_append, List.length_singleton]; omega
  · intro x hx
    rw [List.getLast?_append] at hx
    simp at hx
    omega
  · have hcap := ofDg_cap (row := xs) fun d hd => (hm d hd).2
    rw [ofDg_append]
    have e1 : ofDg 10 [2 * (2 : Int) ^ up] = 2 * 2 ^ up := by simp [ofDg]
    rw [e1]
    have hT : (10 : Int) ^ xs.length ≤ 100000 := by
      have : ∀ n : Nat, n ≤ 5 → (10 : Int) ^ n ≤ 100000 := by decide
      exact this _ hlen
    generalize (10 : Int) ^ xs.length = T at hT hcap ⊢
    generalize (2 : Int) ^ up = k at hk hcap ⊢
    have h1 : T * k ≤ 100000 * k := Int.mul_le_mul_of_nonneg_right hT (by omega)
    have h2 : 999 * k * (T - 1) = 999 * (T * k) - 999 * k := by
      rw [Int.mul_sub, Int.mul_assoc, Int.mul_comm k T, Int.mul_one]
    have h3 : T * (2 * k) = 2 * (T * k) := by rw [← Int.mul_assoc, Int.mul_comm T 2, Int.mul_assoc]
    rw [h2] at hcap
    rw [h3]
    omega
theorem FirstOk.mem {up : Nat} {fs : List Int} (h : FirstOk up fs) : ∀ x ∈ fs, 0 ≤ x ∧ x < 2 ^ (up + 24) := fun x hx => by
  have h1 := mem_le_ofDg (x := 10) (by decide) h.pos x hx
  have := h.cap
  have := pw up
  have := two_pow_pos up
  exact ⟨h.pos x hx, by omega⟩
theorem FirstOk.row {up : Nat} {fs : List Int} (h : FirstOk up fs) {c : Int} (hc : 1 ≤ c ∧ c ≤ 9) : RowOk c up (mv c fs) fs := by
  have h1 : ofDg (c + 1) fs ≤ 11299889 * 2 ^ up := Int.le_trans (ofDg_mono (by omega) (by omega) h.pos) h.cap
  refine ⟨h.len, mv_length c fs, h.pos, h1, h.last, ?_, ?_⟩
  · rw [ofDg_mv, Int.sub_add_cancel]
  · intro x hx
    have h2 := mv_nonneg (c := c) (by omega) h.pos
    have h3 := mem_le_ofDg (x := 1) (by decide) h2 x hx
    rw [ofDg_mv, Int.add_comm] at h3
    exact ⟨h2 x hx, by omega⟩
theorem FirstOk.tail {up : Nat} {fs : List Int} (h : FirstOk up fs) : TailOk up fs := ⟨h.mem, h.len⟩
theorem big_of {up : Nat} (hup : up ≤ 4100) {x : Int} (h : x < 2 ^ (up + 24)) : x < 2 ^ 9000 := Int.lt_of_lt_of_le h (pow_mono (by omega))
theorem FirstOk.big {up : Nat} {fs : List Int} (h : FirstOk up fs) (hup : up ≤ 4100) : ∀ x ∈ fs, 0 ≤ x ∧ x < 2 ^ 9000 := fun x hx => ⟨h.pos x hx, big_of hup (h.mem x hx).2⟩
theorem FirstOk.bigm {up : Nat} {fs : List Int} (h : FirstOk up fs) (hup : up ≤ 4100) {c : Int} (hc : 1 ≤ c ∧ c ≤ 9) : ∀ x ∈ mv c fs, 0 ≤ x ∧ x < 2 ^ 9000 := fun x hx => by
  have h1 := (h.row hc).rpos x hx
  refine ⟨h1.1, big_of hup ?_⟩
  have := pw up
  have := two_pow_pos up
  omega
section
variable {c : Int} {up : Nat} {rs row : List Int}
theorem RowOk.nn (h : RowOk c up rs row) (_ : 1 ≤ c ∧ c ≤ 9) : 0 ≤ ofDg (2 ^ (up + 24)) row := ofDg_nonneg (Int.le_of_lt (two_pow_pos _)) h.pos
theorem RowOk.mem (h : RowOk c up rs row) (hc : 1 ≤ c ∧ c ≤ 9) : ∀ x ∈ row, 0 ≤ x ∧ x < 2 ^ (up + 24) := fun x hx => by
  have h1 := mem_le_ofDg (x := c + 1) (by omega) h.pos x hx
  have := h.cap
  have := pw up
  have := two_pow_pos up
  exact ⟨h.pos x hx, by omega⟩
theorem RowOk.nd (h : RowOk c up rs row) (hc : 1 ≤ c ∧ c ≤ 9) : nDig (ofDg (2 ^ (up + 24)) row) (up + 24) = row.length := nDig_eq (by omega) (h.mem hc) h.last
theorem RowOk.nd16 (h : RowOk c up rs row) (hc : 1 ≤ c ∧ c ≤ 9) : nDig (ofDg (2 ^ (up + 24)) row) (up + 24) ≤ 16 := by
  rw [h.nd hc]; have := h.len6; omega
theorem RowOk.dig (h : RowOk c up rs row) (hc : 1 ≤ c ∧ c ≤ 9) : dg (2 ^ (up + 24)) (nDig (ofDg (2 ^ (up + 24)) row) (up + 24)) (ofDg (2 ^ (up + 24)) row) = row := by
  rw [h.nd hc]; exact dg_ofDg (two_pow_pos _) row (h.mem hc)
theorem RowOk.both {due : Int} (h : RowOk c up (due :: rs) row) (hc : 1 ≤ c ∧ c ≤ 9) :
    ofDg (2 ^ (up + 24)) row % (2 ^ (up + 24) - c) = due ∧ ofDg (2 ^ (up + 24)) row / (2 ^ (up + 24) - c) = ofDg (2 ^ (up + 24) - c) rs := by
  have h1 := sub_ok (up := up) hc
  have h2 := h.rpos due List.mem_cons_self
  have h3 := pw up
  have h4 := two_pow_pos up
  refine emod_unique (by omega) h2.1 (by omega) ?_
  rw [h.val, ofDg, Int.add_comm]
theorem RowOk.mod {due : Int} (h : RowOk c up (due :: rs) row) (hc : 1 ≤ c ∧ c ≤ 9) : ofDg (2 ^ (up + 24)) row % (2 ^ (up + 24) - c) = due := (h.both hc).1
theorem RowOk.div {due : Int} (h : RowOk c up (due :: rs) row) (hc : 1 ≤ c ∧ c ≤ 9) : ofDg (2 ^ (up + 24)) row / (2 ^ (up + 24) - c) = ofDg (2 ^ (up + 24)) ((hs c row).drop 1) := by
  have h1 := sub_ok (up := up) hc
  have h3 := pw up
  have h4 := two_pow_pos up
  have h5 := hs_head_nonneg (c := c) (by omega) h.pos
  have h6 : (hs c row).headD 0 ≤ ofDg (c + 1) row := by rw [hs_head]; exact ofDg_mono (by omega) (by omega) h.pos
  have h7 := h.cap
  exact (emod_unique (by omega) h5 (by omega) (synth c _ row)).2
theorem RowOk.next {due : Int} (h : RowOk c up (due :: rs) row) (hc : 1 ≤ c ∧ c ≤ 9) : RowOk c up rs ((hs c row).drop 1) := by
  have h1 := h.len6
  have h2 := h.leneq
  rw [List.length_cons] at h2
  have h3 : ((hs c row).drop 1).length = row.length - 1 := by rw [List.length_drop, hs_length]
  have hp := hs_nonneg (c := c) (by omega) h.pos
  refine ⟨by omega, by omega, fun x hx => hp x (List.mem_of_mem_drop hx), ?_, ?_, ?_, fun x hx => h.rpos x (List.mem_cons_of_mem _ hx)⟩
  · have h4 := synth c (c + 1) row
    have h5 := hs_head_nonneg (c := c) (by omega) h.pos
    have h6 := h.cap
    rw [show c + 1 - c = 1 by omega, Int.one_mul] at h4
    omega
  · have h4 := hs_last c row
    cases e : hs c row with
    | nil => simp
    | cons a t =>
      rw [List.drop_succ_cons, List.drop_zero]
      cases t with
      | nil => simp
      | cons b t =>
        rw [e, List.getLast?_cons_cons] at h4
        rw [h4]
        exact h.last
  · rw [← h.div hc, (h.both hc).2]
theorem TailOk.nn (h : TailOk up rs) (hc : 1 ≤ c ∧ c ≤ 9) : 0 ≤ ofDg (2 ^ (up + 24) + c) rs := by
  have := add_ok (up := up) hc
  exact ofDg_nonneg (by omega) fun x hx => (h.pos x hx).1
theorem TailOk.nd16 (h : TailOk up rs) (hc : 1 ≤ c ∧ c ≤ 9) : nDig (ofDg (2 ^ (up + 24) + c) rs) (up + 25) ≤ 16 := by
  have h1 := add_ok (up := up) hc
  have h2 := pw up
  have h3 := pw25 up
  have h4 := two_pow_pos up
  have h5 : ofDg (2 ^ (up + 24) + c) rs ≤ ofDg (2 ^ (up + 25)) rs := ofDg_mono (by omega) (by omega) fun x hx => (h.pos x hx).1
  have h6 : ofDg (2 ^ (up + 25)) rs < (2 ^ (up + 25)) ^ rs.length := ofDg_top (two_pow_pos _) fun x hx => by
    have := h.pos x hx
    exact ⟨this.1, by omega⟩
  rw [← Int.pow_mul] at h6
  have h7 := nDig_le (n := up + 25) (by omega) (bits_le (h.nn hc) (Int.lt_of_le_of_lt h5 h6))
  have := h.len
  omega
theorem TailOk.both {due : Int} (h : TailOk up (due :: rs)) (hc : 1 ≤ c ∧ c ≤ 9) :
    ofDg (2 ^ (up + 24) + c) (due :: rs) % (2 ^ (up + 24) + c) = due ∧ ofDg (2 ^ (up + 24) + c) (due :: rs) / (2 ^ (up + 24) + c) = ofDg (2 ^ (up + 24) + c) rs := by
  have h1 := add_ok (up := up) hc
  have h2 := h.pos due List.mem_cons_self
  refine emod_unique (by omega) h2.1 (by omega) ?_
  rw [ofDg, Int.add_comm]
theorem TailOk.div {due : Int} (h : TailOk up (due :: rs)) (hc : 1 ≤ c ∧ c ≤ 9) : ofDg (2 ^ (up + 24) + c) (due :: rs) / (2 ^ (up + 24) + c) = ofDg (2 ^ (up + 24) + c) rs := (h.both hc).2
theorem TailOk.mod {due : Int} (h : TailOk up (due :: rs)) (hc : 1 ≤ c ∧ c ≤ 9) : ofDg (2 ^ (up + 24) + c) (due :: rs) % (2 ^ (up + 24) + c) = due := (h.both hc).1
theorem TailOk.next {due : Int} (h : TailOk up (due :: rs)) : TailOk up rs := ⟨fun x hx => h.pos x (List.mem_cons_of_mem _ hx), by have := h.len; rw [List.length_cons] at this; omega⟩
end
end Mine
end
section
open PySem PySem.W PyProof.Rows PySem.Calls PyProof.Rows.LCg
set_option maxRecDepth 100000
theorem Mine.post_ok (ns : List Int) : PySem.Challenge.rw_ny0466_01.row.claim.post [ofPy (PyData.list (List.map PyData.int ns))] (.bool true) [ofPy (PyData.list (List.map PyData.int ns))] = true := by
  wrow_post
theorem Mine.raise_ok (a : List WData) (c) : PySem.Challenge.rw_ny0466_01.row.claim.raises a c = false := by
  exact raisesW_false (by wrow_none_raised) c
end
section
open PySem PySem.W PyProof.Rows PySem.Calls PyProof.Rows.LCg
set_option maxRecDepth 100000
set_option maxHeartbeats 600000
open Mine
local macro_rules | `(tactic| walk_at "call ref") => `(tactic| refine Mine.Stop.of ?_)
local macro_rules | `(tactic| walk_at "subscriptTail BinOp") => `(tactic| refine Mine.Stop.of ?_)
local macro_rules | `(tactic| walk_at "binaryOp Add int int") => `(tactic| refine Mine.Stop.of ?_)
local macro_rules | `(tactic| walk_at "binaryOp Sub int int") => `(tactic| refine Mine.Stop.of ?_)
local macro_rules | `(tactic| walk_at "binaryOp Pow int int") => `(tactic| refine Mine.Stop.of ?_)
local macro_rules | `(tactic| walk_at "binaryOp Mult int int") => `(tactic| refine Mine.Stop.of ?_)
local macro_rules | `(tactic| walk_at "pyIter ref") => `(tactic| refine Mine.Stop.of ?_)
local macro_rules | `(tactic| walk_at "eval ListComp") => `(tactic| refine Mine.Stop.of ?_)
local macro_rules | `(tactic| walk_at "subscriptTail Call") => `(tactic| refine Mine.Stop.of ?_)
local macro_rules | `(tactic| walk_at "exec For Name Name cons nil") => `(tactic| (k_here; (rename Fr _ _ _ _ => lF'); (with_unfolding_all refine' For_invVF lF' ?k1 ?k2 ?_; (case k1 => exact rfl); (case k2 => exact rfl); k_whole)))
local macro_rules | `(tactic| walk_at "compareOp NotEq int int") => `(tactic| refine Mine.Stop.of ?_)
local macro_rules | `(tactic| walk_at "compareOp NotEq ref ref") => `(tactic| refine Mine.Stop.of ?_)
local macro_rules | `(tactic| walk_at "compareOp Eq int int") => `(tactic| refine Mine.Stop.of ?_)
section
variable {prog : PySem.Program} {w : World} {A : Around} {E : Value → Shared → Prop} {s : Shared} {Q : Value → Shared → Prop}
theorem Mine.ne_self {a : Int} {t u : Tok} (h : Q (.bool false) s) : Stop (wpAny (model prog w) A (compareOp .NotEq (.int a t) (.int a u)) Q E s) :=
  .mk (PyProof.Rows.ne_int (by rw [bne_self_eq_false]; exact h))
theorem Mine.ne_same {a b : Addr} {xs ys : List Value} {ns : List Int} (ha : s.heap.IsList a xs.toArray) (hb : s.heap.IsList b ys.toArray) (hi : IntsAre xs ns) (hj : IntsAre ys ns) (hu : A.units + 64 < cLine) (h : Q (.bool false) s) :
    Stop (wpAny (model prog w) A (compareOp .NotEq (.ref a) (.ref b)) Q E s) := .mk (ke_ne_ints ha hb hi hj hu (by simpa using h))
end
theorem Mine.abs_bits (x : Int) : Builtin.Int.intBits ((if x < 0 then -x else x).fmod 1000) ≤ 64 := by
  rw [Mine.fmod_pos (by decide)]
  generalize (if x < 0 then -x else x) = y
  have := Int.emod_nonneg y (show (1000 : Int) ≠ 0 by decide)
  have := Int.emod_lt_of_pos y (show (0 : Int) < 1000 by decide)
  exact intBits_le_64 (by omega) (by omega)
theorem Mine.raw_fr {g L' : _} {h h2 : Heap} {m : Str → Option Value} (F : Fr g L' h m) (hk : ∀ q o, h.get? q = some o → h2.get? q = some o) : Fr g L' h2 m :=
  ⟨F.ns.keeps hk, fun b o e => hk b o (F.keep b o e), F.above⟩
theorem Mine.raw_news {g L' D : _} {o : Obj} {h h2 : Heap} {m : Str → Option Value} {led led2 : List (Addr × Obj)} (F : Fr g L' h m) (N : News g L' h led) (hk : ∀ q o, h.get? q = some o → h2.get? q = some o)
    (hD : h.get? D = none) (ho : h2.get? D = some o) (hs : ∀ q ∈ led2, q ∈ led) : News g L' h2 ((D, o) :: led2) := by
  intro q hq
  rcases List.mem_cons.mp hq with rfl | hq
  · refine ⟨ho, ?_, ?_⟩
    · rintro rfl
      obtain ⟨o2, _, _, e, _⟩ := F.ns
      rw [e] at hD; cases hD
    · cases e : g.get? D with
      | none => rfl
      | some o2 => rw [F.keep D o2 e] at hD; cases hD
  · exact ⟨hk _ _ (N q (hs q hq)).1, (N q (hs q hq)).2⟩
abbrev Mine.frW (R : Addr) (left : Int) (tl : Tok) (c : Int) (tc : Tok) (P : Int) (tP : Tok) (M D : Addr) (u : Str → Option Value) : Str → Option Value := fun y =>
  if y = "row" then some (.ref R) else if y = "left" then some (.int left tl) else if y = "c" then some (.int c tc) else if y = "power" then some (.int P tP) else if y = "moved" then some (.ref M) else if y = "first" then some (.ref D) else u y
theorem Mine.frW_of {R : Addr} {left : Int} {tl : Tok} {c : Int} {tc : Tok} {P : Int} {tP : Tok} {M D : Addr} {m : Str → Option Value} (h1 : m "row" = some (.ref R)) (h2 : m "left" = some (.int left tl)) (h3 : m "c" = some (.int c tc)) (h4 : m "power" = some (.int P tP)) (h5 : m "moved" = some (.ref M)) (h6 : m "first" = some (.ref D)) :
    m = frW R left tl c tc P tP M D m := by
  funext y
  unfold frW
  by_cases e1 : y = "row"
  · rw [if_pos e1, e1, h1]
  rw [if_neg e1]
  by_cases e2 : y = "left"
  · rw [if_pos e2, e2, h2]
  rw [if_neg e2]
  by_cases e3 : y = "c"
  · rw [if_pos e3, e3, h3]
  rw [if_neg e3]
  by_cases e4 : y = "power"
  · rw [if_pos e4, e4, h4]
  rw [if_neg e4]
  by_cases e5 : y = "moved"
  · rw [if_pos e5, e5, h5]
  rw [if_neg e5]
  by_cases e6 : y = "first"
  · rw [if_pos e6, e6, h6]
  rw [if_neg e6]
theorem Mine.law_ap {R2 I M D U R : Addr} {oR2 oI oM oD oU oR : Obj} {ti : List (Addr × Obj)} (h : Apart [(M, oM), (D, oD), (U, oU), (R, oR)] ti) (h1 : ∀ q ∈ ti, q.1 < R2) (h2 : ∀ q ∈ ti, q.1 ≠ I) : Apart [(R2, oR2), (I, oI), (M, oM), (D, oD), (U, oU)] ti := by
  intro p hp q hq
  simp only [List.mem_cons, List.not_mem_nil, or_false] at hp
  rcases hp with rfl | rfl | rfl | rfl | rfl
  · exact Ne.symm (Nat.ne_of_lt (h1 q hq))
  · exact Ne.symm (h2 q hq)
  · exact h _ (.head _) q hq
  · exact h _ (.tail _ (.head _)) q hq
  · exact h _ (.tail _ (.tail _ (.head _))) q hq
theorem Mine.tab_at {g h : Heap} {L P : Addr} {line col : Int} {qual : Str} {tl news : List (Addr × Obj)} (hT : TabL P line col qual tl) (N : News g L h news) (hs : ∀ q ∈ tl, q ∈ news) : GrownAt P h := by
  rcases hT with rfl | ⟨_, _, _, _, rfl, _⟩
  · exact .of N (hs _ (.head _))
  · exact .of N (hs _ (.head _))
abbrev Mine.frX (left : Int) (tl : Tok) (c : Int) (tc : Tok) (P : Int) (tP : Tok) (u : Str → Option Value) : Str → Option Value := fun y =>
  if y = "left" then some (.int left tl) else if y = "c" then some (.int c tc) else if y = "power" then some (.int P tP) else u y
theorem Mine.frX_of {left : Int} {tl : Tok} {c : Int} {tc : Tok} {P : Int} {tP : Tok} {m : Str → Option Value} (h2 : m "left" = some (.int left tl)) (h3 : m "c" = some (.int c tc)) (h4 : m "power" = some (.int P tP)) :
    m = frX left tl c tc P tP m := by
  funext y
  unfold frX
  by_cases e2 : y = "left"
  · rw [if_pos e2, e2, h2]
  rw [if_neg e2]
  by_cases e3 : y = "c"
  · rw [if_pos e3, e3, h3]
  rw [if_neg e3]
  by_cases e4 : y = "power"
  · rw [if_pos e4, e4, h4]
  rw [if_neg e4]
theorem Mine.t1 : PySem.Challenge.rw_ny0466_01.Holds := Mine.hd (by
  k_go0
  all_goals try k_fold
  rename_i w s0 s1 mg mb G Y fa o pm cd doc ho hcd hg X V T B TE TW ns hs hlay0 hLay hr1 hl2 w5 w4 sl svs w1 hL ra w1' r0 hI hr hcond hcond' hD h1 tk1 oU hoU hX0 X1 T1 B1 F1 cH N1 l0
  have F2 : Fr (ghostOf s1.heap [(41, 37), (34, 30)]) s1.heap.objs.size h1 (fun y => if y = "script" then some (.ref sl) else none) := F1
  have hoU2 : oU.data = .cell none := hoU
  clear hX0 F1 hoU
  k_steps
  refine Stop.mk (ksa_sub (ns := ns ++ [2]) (by k_asm) (.head _) (by k_asm) (by decide) (by simp) (by decide) ?_)
  intro t2
  dsimp only
  k_steps
  refine b_add_ex (P := fun c => 1 ≤ c ∧ c ≤ 9) (c_ok _) ?_
  intro c hc
  dsimp only
  k_steps
  refine Stop.mk (ksa_sub (by k_asm) (.head _) (by k_asm) (by decide) (by simp) (by decide) ?_)
  intro t3
  dsimp only
  k_steps
  refine b_sub_ex (P := fun v => ∃ up : Nat, v = up ∧ up ≤ 4100) (up_ok _) ?_
  rintro _ ⟨up, rfl, hup⟩
  dsimp only
  k_steps
  refine b_add (v := ((up + 24 : Nat) : Int)) (by omega) ?_
  dsimp only
  k_steps
  refine b_pow (up + 24) rfl (by omega) rfl ?_
  dsimp only
  k_steps
  refine Stop.mk (lcomp (fun x => (if x < 0 then -x else x).fmod 1000 * 2 ^ up) rfl (by decide) rfl (by decide) rfl ?_)
  k_steps
  rename Obj => oUp
  rename (oUp.data = Data.cell _) => dUp
  rename Fr _ _ _ _ => F5
  rename News _ _ _ _ => N5
  rename IntsAre _ _ => hI5
  have hlen5 : ([5, 0, 7] ++ List.drop 2 ns).length ≤ 66 := by
    simp only [List.length_append, List.length_cons, List.length_nil, List.length_drop]; omega
  refine Stop.mk (kba_turn (value' := .Name "q" ⟨0, 0, 0, 0⟩) (fun _ => rfl) ?_)
  refine kmk_slice_ints (s := { s1 with heap := _, toks := _ }) F5 N5 (News.isList N5 (.head _)) (IsPart.int _ _) .none hI5 (kmk_from_neg hI5 (by decide)) rfl ?_ (by with_unfolding_all rfl) (by kmk_pure) (by rw [List.size_toArray, hI5.length, sizeLine_eq]; omega)
  intro D6 ws6 h6 F6 N6 lt6 hI6 _ _
  dsimp only
  clear F5 N5
  refine ⟨D6, ws6, _, rfl, rfl, News.isList N6 (.head _), hI6, by simp only [List.length_drop]; omega, ?_, ?_⟩
  · intro C x9 tx s3 m3 E3 hn3 hm3 hk3
    have kp : ∀ q o, (ghostOf s1.heap [(41, 37), (34, 30)]).get? q = some o → s3.heap.get? q = some o := fun q o e => hk3 q o (F6.keep q o e)
    have hcell3 : s3.heap.IsCell (s1.heap.objs.size + 1) (some (.int up _)) := ⟨oUp, hk3 _ _ (N6 (s1.heap.objs.size + 1, oUp) (by simp)).1, dUp⟩
    refine wpAny_BinOp (wpAny_BinOp (_root_.PySem.Call_name1 rfl (Name_function_global rfl rfl (loadGlobal_builtin (T1.g.keeps kp) (mg_none_of X1 T1.g (by k_is)) (T1.b.keeps kp) ((T1.builtins "abs" (by decide)).trans boot_abs) ?_))))
    refine _root_.PySem.callWith_builtin1 (wpAny_Name (wpAny_loadName_local rfl rfl hn3 hm3 ?_))
    refine call_abs_int ?_
    intro u4 tk4
    refine wpAny_Constant_int ?_
    refine mod_int' (by decide) ?_
    refine wpAny_BinOp (wpAny_Constant_int (wpAny_Name (wpAny_loadName_cell rfl rfl (c := s1.heap.objs.size + 1) rfl hcell3 ?_)))
    refine pow_int_small (by omega) (by omega) (by decide) ?_
    rw [Int.toNat_natCast]
    refine PyProof.Rows.mul_int ?_ (.of_left (abs_bits x9))
    exact ⟨⟨_, rfl⟩, s3.heap, _, rfl, fun _ _ e => e⟩
  · intro D7 h7 tk7 us7 n7 hD7 hl7 hI7 hk7
    have hx7 : ∀ q o, h6.get? q = some o → q ≠ D7 := fun q o e hq => by rw [hq, hD7] at e; cases e
    have F7 := Mine.raw_fr F6 hk7
    obtain ⟨xs7, hxs7⟩ : ∃ xs7, xs7 = List.map (fun x => (if x < 0 then -x else x).fmod 1000 * 2 ^ up) (List.drop (([5, 0, 7] ++ List.drop 2 ns).length - (- -5).toNat) ([5, 0, 7] ++ List.drop 2 ns)) := ⟨_, rfl⟩
    rw [← hxs7] at hI7
    have N7 : News (ghostOf s1.heap [(41, 37), (34, 30)]) s1.heap.objs.size h7 [(D7, listOf us7.toArray n7), (s1.heap.objs.size + 1, oUp), (30, tabObj #[]), (37, tabObj #[])] := by
      refine Mine.raw_news F6 N6 hk7 hD7 hl7 ?_
      intro q hq
      simp only [List.mem_cons, List.not_mem_nil, or_false] at hq ⊢
      rcases hq with h | h | h <;> simp only [h, true_or, or_true]
    have hn1 : D7 ≠ 30 := Ne.symm (hx7 _ _ (N6 (30, tabObj #[]) (by simp)).1)
    have hn2 : D7 ≠ 37 := Ne.symm (hx7 _ _ (N6 (37, tabObj #[]) (by simp)).1)
    have hn3 : D7 ≠ s1.heap.objs.size + 1 := Ne.symm (hx7 _ _ (N6 (s1.heap.objs.size + 1, oUp) (by simp)).1)
    clear hD7 hl7 hk7 F6 N6 lt6 hx7
    k_steps
    refine b_pow up rfl (by omega) rfl ?_
    dsimp only
    k_steps
    refine b_mul (.of_left (intBits_le_64 (by decide) (by decide))) rfl ?_
    dsimp only
    k_steps
    rename_i l8 h8 F8 N8 lt8
    refine kmk_add_ints (ws := [_]) (ms := [_]) F8 N8 (News.isList N8 (.tail _ (.head _))) (News.isList N8 (.head _)) hI7 (.cons _ _ .nil) ?_ (by rw [List.length_singleton, hxs7, List.length_map, List.length_drop, sizeLine_eq]; omega)
    intro D9 ws9 h9 F9 N9 lt9 hI9
    have N9 := news_hd N9 (news := [(s1.heap.objs.size + 1, oUp), (30, tabObj #[]), (37, tabObj #[])]) (fun _ hp => .tail _ (.tail _ hp))
    clear F8 N8
    have hn1 : D9 ≠ 30 := Ne.symm (Nat.ne_of_lt (lt9 (30, tabObj #[]) (by simp)))
    have hn2 : D9 ≠ 37 := Ne.symm (Nat.ne_of_lt (lt9 (37, tabObj #[]) (by simp)))
    obtain ⟨fs, hfs⟩ : ∃ fs, fs = xs7 ++ [2 * 2 ^ up] := ⟨_, rfl⟩
    rw [← hfs] at hI9
    have hFO : FirstOk up fs := by
      rw [hfs, hxs7]
      exact first_ok up (by rw [List.length_drop]; have : (- -5 : Int).toNat = 5 := rfl; omega)
    have hfl := hFO.len
    dsimp only
    k_steps
    refine Stop.mk (lm (by k_asm) (by k_asm) (by k_asm) (by k_asm) (by k_asm) rfl (by decide) (by decide) (.head _) hI9 (by omega) hc.1 hc.2 ?_)
    intro M vM nM h10 tk10 F10 N10 hIM ltM
    dsimp only
    k_steps
    refine b_add (v := ((up + 24 : Nat) : Int)) (by omega) ?_
    dsimp only
    k_steps
    have hM1 : M ≠ 30 := Ne.symm (Nat.ne_of_lt (ltM (30, tabObj #[]) (by simp)))
    have hM2 : M ≠ 37 := Ne.symm (Nat.ne_of_lt (ltM (37, tabObj #[]) (by simp)))
    have hMD : D9 < M := ltM (D9, listOf ws9.toArray 0) (by simp)
    have hU1 : s1.heap.objs.size + 1 ≠ 30 := by have := ltN l0.2; refine neN ?_; omega
    have hU2 : s1.heap.objs.size + 1 ≠ 37 := by have := ltN l0.1; refine neN ?_; omega
    refine Stop.mk (d2i (news := [(M, listOf vM.toArray nM), (D9, listOf ws9.toArray 0), (s1.heap.objs.size + 1, oUp), (30, tabObj #[])]) (tl := [(37, tabObj #[])]) (by k_asm) (by k_asm) (by k_asm) (by k_asm) (by k_asm) rfl (by decide) (by decide) (.inl rfl) ?_ (.tail _ (.head _)) hI9 (by omega) (by omega) (hFO.big hup) ?_)
    · intro p hp q hq
      rw [List.mem_singleton] at hq
      subst hq
      simp only [List.mem_cons, List.not_mem_nil, or_false] at hp
      rcases hp with rfl | rfl | rfl | rfl
      · exact hM2
      · exact hn2
      · exact hU2
      · exact (by decide)
    intro td h11 tk11 t11 hTd F11 N11 ap11
    dsimp only
    k_steps
    rename Fr _ _ _ _ => F12
    rename News _ _ _ _ => N12
    have N13 := kst_newsOf (l' := (M, listOf vM.toArray nM) :: (D9, listOf ws9.toArray 0) :: (s1.heap.objs.size + 1, oUp) :: (D9, listOf ws9.toArray 0) :: ([(30, tabObj #[])] ++ td)) N12 (fun q hq => by
      simp only [List.cons_append, List.nil_append, List.mem_cons] at hq ⊢
      rcases hq with h | h | h | h | h | h <;> simp only [h, true_or, or_true])
    clear N12
    refine Stop.mk (iter_listUnr (lo := listOf vM.toArray nM) (vs := vM) (n := nM) rfl F12 N13 (.head _) rfl rfl ?_)
    intro I ltI
    have hnI : ∀ q ∈ (M, listOf vM.toArray nM) :: (D9, listOf ws9.toArray 0) :: (s1.heap.objs.size + 1, oUp) :: (D9, listOf ws9.toArray 0) :: ([(30, tabObj #[])] ++ td), q.1 ≠ I := fun q hq => Nat.ne_of_lt (ltI q hq)
    refine list_ind (fun vals m led => ∃ rs row vr nr R ti td tl tc tP u, IntsAre vals rs ∧ m = frW R (ofDg (2 ^ (up + 24)) row) tl c tc (2 ^ (up + 24)) tP M D9 u ∧ led = (M, listOf vM.toArray nM) :: (D9, listOf ws9.toArray 0) :: (s1.heap.objs.size + 1, oUp) :: (R, listOf vr.toArray nr) :: (ti ++ td) ∧ IntsAre vr row ∧ RowOk c up rs row ∧ T30 ti ∧ T37 td ∧
      Apart [(M, listOf vM.toArray nM), (D9, listOf ws9.toArray 0), (s1.heap.objs.size + 1, oUp), (R, listOf vr.toArray nr)] ti ∧ Apart [(M, listOf vM.toArray nM), (D9, listOf ws9.toArray 0), (s1.heap.objs.size + 1, oUp), (R, listOf vr.toArray nr)] td ∧ Apart ti td ∧ (∀ q ∈ led, q.1 ≠ I)) ?_ ?_ _ _ _
      ⟨mv c fs, fs, ws9, 0, D9, [(30, tabObj #[])], td, _, _, _, _, hIM, frW_of rfl rfl rfl rfl rfl rfl, rfl, hI9, hFO.row hc, .inl rfl, hTd, ?_, ?_, ?_, hnI⟩
    · rintro v rr m9 led ⟨rs, row, vr, nr, R, ti, td, tl, tc, tP, u, hIv, rfl, rfl, hIr, hRO, hTi, hTd, a1, a2, a3, hI0⟩ it h5 tk5 hit F5 N5
      cases hIv with
      | @cons due tdue _ rs hIv =>
      clear F12 N13
      have hRl := hRO.len6
      change Fr _ s1.heap.objs.size h5 _ at F5
      change News _ s1.heap.objs.size h5 _ at N5
      dsimp only
      k_steps
      refine Stop.mk (lp (by k_asm) (by k_asm) (by k_asm) (by k_asm) (by k_asm) rfl (by decide) (by decide) (.tail _ (.tail _ (.tail _ (.tail _ (.head _))))) hIr (by omega) hc.1 hc.2 ?_)
      intro P2 vp np h6 tk6 F6 N6 hIp ltp
      clear F5 N5
      dsimp only
      k_steps
      refine Stop.mk (kba_turn (value' := .Name "q" ⟨0, 0, 0, 0⟩) (fun _ => rfl) ?_)
      refine kmk_slice_ints (s := { s1 with heap := _, toks := _ }) F6 N6 (News.isList N6 (.head _)) (IsPart.int _ _) .none hIp (kmk_from hIp (by decide)) rfl ?_ (by with_unfolding_all rfl) (by kmk_pure) (by rw [List.size_toArray, hIp.length, hs_length, sizeLine_eq]; omega)
      intro R2 vr2 h7 F7 N7 lt7 hIr2 _ _
      have N8 := news_hd N7 (news := (I, it) :: (M, listOf vM.toArray nM) :: (D9, listOf ws9.toArray 0) :: (s1.heap.objs.size + 1, oUp) :: (ti ++ td)) (fun q hq => by
        simp only [List.mem_cons, List.mem_append] at hq ⊢
        rcases hq with h | h | h | h | h | h <;> simp only [h, true_or, or_true])
      have lt8 : ∀ q ∈ (I, it) :: (M, listOf vM.toArray nM) :: (D9, listOf ws9.toArray 0) :: (s1.heap.objs.size + 1, oUp) :: (ti ++ td), q.1 < R2 := fun q hq => lt7 q (by
        simp only [List.mem_cons, List.mem_append] at hq ⊢
        rcases hq with h | h | h | h | h | h <;> simp only [h, true_or, or_true])
      clear F6 N6 N7 lt7
      dsimp only
      k_steps
      refine b_sub rfl ?_
      dsimp only
      k_steps
      rename Fr _ _ _ _ => F8
      rename News _ _ _ _ => N9
      have b1 : Apart [(R2, listOf vr2.toArray 0), (I, it), (M, listOf vM.toArray nM), (D9, listOf ws9.toArray 0), (s1.heap.objs.size + 1, oUp)] ti := law_ap a1 (fun q hq => lt8 q (by simp [hq])) (fun q hq => hI0 q (by simp [hq]))
      have b2 : Apart [(R2, listOf vr2.toArray 0), (I, it), (M, listOf vM.toArray nM), (D9, listOf ws9.toArray 0), (s1.heap.objs.size + 1, oUp)] td := law_ap a2 (fun q hq => lt8 q (by simp [hq])) (fun q hq => hI0 q (by simp [hq]))
      refine Stop.mk (dm (news := [(R2, listOf vr2.toArray 0), (I, it), (M, listOf vM.toArray nM), (D9, listOf ws9.toArray 0), (s1.heap.objs.size + 1, oUp)]) (ti := ti) (td := td) (by k_asm) F8 (by k_asm) N9 (by k_asm) rfl (by decide) (by decide) hTi hTd b1 b2 a3 (hRO.nn hc) (sub_ok hc) (by rw [sub_bits hc]; omega) (by rw [sub_bits hc]; exact hRO.nd16 hc) ?_)
      intro ti2 td2 tt h9 tk9 t1 t2 q r hq hr hTi2 hTd2 c1 c2 c3 F9 N10 ltt
      rw [hRO.div hc] at hq
      rw [hRO.mod hc] at hr
      subst hq hr
      have hRN := hRO.next hc
      change IntsAre vr2 (List.drop 1 (Mine.hs c row)) at hIr2
      generalize List.drop 1 (Mine.hs c row) = row2 at hIr2 hRN F9 N10 ⊢
      clear F8 N9
      dsimp only
      k_steps
      refine ne_self ?_
      k_steps
      refine b_add (v := ((up + 24 : Nat) : Int)) (by omega) ?_
      dsimp only
      k_steps
      rename Fr _ _ _ _ => F10
      rename News _ _ _ _ => N11
      have N12 := kst_newsOf (l' := ([(R2, listOf vr2.toArray 0), (I, it), (M, listOf vM.toArray nM), (D9, listOf ws9.toArray 0), (s1.heap.objs.size + 1, oUp)] ++ td2) ++ ti2) N11 (fun q hq => by
        simp only [List.mem_cons, List.mem_append] at hq ⊢
        rcases hq with (h | h) | h <;> simp only [h, true_or, or_true])
      clear N11
      refine Stop.mk (i2d (n := up + 24) (by k_asm) F10 (by k_asm) N12 (by k_asm) rfl (by decide) (by decide) hTi2 (Apart.appL c1 c3.symm) (hRN.nn hc) (by omega) (by omega) (hRN.nd16 hc) ?_)
      intro l3 vs3 n3 ti3 h11 tk11 hTi3 F11 N13 c4 hI3 lt3 ne3
      rw [hRN.dig hc] at hI3
      clear F10 N12
      dsimp only
      k_steps
      refine ne_same (News.isList N13 (.head _)) (News.isList N13 (.tail _ (.head _))) hI3 hIr2 (Nat.le_of_ble_eq_true rfl) ?_
      k_steps
      have hneI : ∀ q ∈ (M, listOf vM.toArray nM) :: (D9, listOf ws9.toArray 0) :: (s1.heap.objs.size + 1, oUp) :: (R2, listOf vr2.toArray 0) :: (ti3 ++ td2), q.1 ≠ I := by
        intro q hq
        simp only [List.mem_cons, List.mem_append] at hq
        rcases hq with h | h | h | h | h | h
        · exact hI0 q (by rw [h]; exact .head _)
        · exact hI0 q (by rw [h]; exact .tail _ (.head _))
        · exact hI0 q (by rw [h]; exact .tail _ (.tail _ (.head _)))
        · rw [h]; exact Ne.symm (Nat.ne_of_lt (lt8 (I, it) (.head _)))
        · exact Ne.symm (c4 (I, it) (.tail _ (.head _)) q h)
        · exact Ne.symm (c2 (I, it) (.tail _ (.head _)) q h)
      refine UnrEnd.intro F11 N13 ((M, listOf vM.toArray nM) :: (D9, listOf ws9.toArray 0) :: (s1.heap.objs.size + 1, oUp) :: (R2, listOf vr2.toArray 0) :: (ti3 ++ td2)) ?_ ?_ ⟨.head _, rs, row2, vr2, 0, R2, ti3, td2, _, _, _, _, hIv, frW_of rfl rfl rfl rfl rfl rfl, rfl, hIr2, hRN, hTi3, hTd2, ?_, ?_, ?_, ?_⟩
      · intro q hq
        simp only [List.cons_append, List.nil_append, List.mem_cons, List.mem_append] at hq ⊢
        rcases hq with h | h | h | h | h | h | h <;> simp only [h, true_or, or_true]
      · exact hneI
      · refine c4.sub (fun q hq => ?_) fun _ h => h
        simp only [List.cons_append, List.nil_append, List.mem_cons, List.not_mem_nil, or_false] at hq ⊢
        rcases hq with h | h | h | h <;> simp only [h, true_or, or_true]
      · refine c2.sub (fun q hq => ?_) fun _ h => h
        simp only [List.mem_cons, List.not_mem_nil, or_false] at hq ⊢
        rcases hq with h | h | h | h <;> simp only [h, true_or, or_true]
      · exact (c4.sub (fun q hq => List.mem_append_right _ hq) fun _ h => h).symm
      · exact hneI
    · rintro m9 led ⟨rs, row, vr, nr, R, ti, td, tl, tc, tP, u, hIv, rfl, rfl, hIr, hRO, hTi, hTd, a1, a2, a3, hI0⟩ h5 tk5 F5 N5
      cases hIv
      clear F12 N13
      change Fr _ s1.heap.objs.size h5 _ at F5
      change News _ s1.heap.objs.size h5 _ at N5
      clear hI0
      dsimp only
      k_steps
      refine b_add (v := ((up + 24 : Nat) : Int)) (by omega) ?_
      dsimp only
      k_steps
      rename Fr _ _ _ _ => F6
      rename News _ _ _ _ => N6
      have N7 := kst_newsOf (l' := ([(M, listOf vM.toArray nM), (D9, listOf ws9.toArray 0), (s1.heap.objs.size + 1, oUp)] ++ ti) ++ td) N6 (fun q hq => by
        simp only [List.cons_append, List.nil_append, List.mem_cons, List.mem_append] at hq ⊢
        rcases hq with h | h | h | h | h <;> simp only [h, true_or, or_true])
      clear N6
      refine Stop.mk (d2i (n := up + 24) (by k_asm) F6 (by k_asm) N7 (by k_asm) rfl (by decide) (by decide) hTd (Apart.appL (a2.sub (fun q hq => ?_) fun _ h => h) a3) (.head _) hIM (by omega) (by rw [mv_length]; omega) (hFO.bigm hup hc) ?_)
      · simp only [List.mem_cons, List.not_mem_nil, or_false] at hq ⊢
        rcases hq with h | h | h <;> simp only [h, true_or, or_true]
      intro td2 h8 tk8 t8 hTd2 F8 N8 ap8
      rw [ofDg_mv]
      clear F6 N7
      dsimp only
      k_steps
      rename Fr _ _ _ _ => F9
      rename News _ _ _ _ => N9
      have N10 := kst_newsOf (l' := (D9, listOf ws9.toArray 0) :: (ti ++ td2)) N9 (fun q hq => by
        simp only [List.cons_append, List.nil_append, List.mem_cons, List.mem_append] at hq ⊢
        rcases hq with h | h | h <;> simp only [h, true_or, or_true])
      clear N9
      refine Stop.mk (iter_listUnr (lo := listOf ws9.toArray 0) (vs := ws9) (n := 0) rfl F9 N10 (.head _) rfl rfl ?_)
      intro J ltJ
      refine list_ind (fun vals m led => ∃ rs ti td tl tc tP u, IntsAre vals rs ∧ m = frX (ofDg (2 ^ (up + 24) + c) rs) tl c tc (2 ^ (up + 24)) tP u ∧ led = (D9, listOf ws9.toArray 0) :: (ti ++ td) ∧ TailOk up rs ∧ T30 ti ∧ T37 td ∧
        Apart [(D9, listOf ws9.toArray 0)] ti ∧ Apart [(D9, listOf ws9.toArray 0)] td ∧ Apart ti td ∧ (∀ q ∈ led, q.1 ≠ J)) ?_ ?_ _ _ _
        ⟨fs, ti, td2, _, _, _, _, hI9, frX_of rfl rfl rfl, rfl, hFO.tail, hTi, hTd2, ?_, ?_, ?_, fun q hq => Nat.ne_of_lt (ltJ q hq)⟩
      · rintro v rr m9 led ⟨rs, ti, td, tl, tc, tP, u, hIv, rfl, rfl, hRO, hTi, hTd, a1, a2, a3, hJ0⟩ it h5 tk5 hit F5 N5
        cases hIv with
        | @cons due tdue _ rs hIv =>
        clear F9 N10
        change Fr _ s1.heap.objs.size h5 _ at F5
        change News _ s1.heap.objs.size h5 _ at N5
        dsimp only
        k_steps
        refine b_add rfl ?_
        dsimp only
        k_steps
        have b1 : Apart [(J, it), (D9, listOf ws9.toArray 0)] ti := by
          intro p hp q hq
          rcases List.mem_cons.mp hp with rfl | hp
          · exact Ne.symm (hJ0 q (.tail _ (List.mem_append_left _ hq)))
          · exact a1 p hp q hq
        have b2 : Apart [(J, it), (D9, listOf ws9.toArray 0)] td := by
          intro p hp q hq
          rcases List.mem_cons.mp hp with rfl | hp
          · exact Ne.symm (hJ0 q (.tail _ (List.mem_append_right _ hq)))
          · exact a2 p hp q hq
        refine Stop.mk (dm (news := [(J, it), (D9, listOf ws9.toArray 0)]) (ti := ti) (td := td) (by k_asm) F5 (by k_asm) N5 (by k_asm) rfl (by decide) (by decide) hTi hTd b1 b2 a3 (hRO.nn hc) (add_ok hc) (by rw [add_bits hc]; omega) (by rw [add_bits hc]; exact hRO.nd16 hc) ?_)
        intro ti2 td2 tt h9 tk9 t1 t2 q r hq hr hTi2 hTd2 c1 c2 c3 F9 N10 ltt
        rw [hRO.div hc] at hq
        rw [hRO.mod hc] at hr
        subst hq hr
        clear F5 N5
        dsimp only
        k_steps
        refine ne_self ?_
        k_steps
        rename Fr _ _ _ _ => F11
        rename News _ _ _ _ => N11
        have hneJ : ∀ q ∈ (D9, listOf ws9.toArray 0) :: (ti2 ++ td2), q.1 ≠ J := by
          intro q hq
          simp only [List.mem_cons, List.mem_append] at hq
          rcases hq with h | h | h
          · exact hJ0 q (by rw [h]; exact .head _)
          · exact Ne.symm (c1 (J, it) (.head _) q h)
          · exact Ne.symm (c2 (J, it) (.head _) q h)
        refine UnrEnd.intro F11 N11 ((D9, listOf ws9.toArray 0) :: (ti2 ++ td2)) ?_ hneJ ⟨.head _, rs, ti2, td2, _, _, _, _, hIv, frX_of rfl rfl rfl, rfl, hRO.next, hTi2, hTd2, c1.sub (fun _ h => .tail _ h) (fun _ h => h), c2.sub (fun _ h => .tail _ h) (fun _ h => h), c3, hneJ⟩
        intro q hq
        simp only [List.cons_append, List.nil_append, List.mem_cons, List.mem_append] at hq ⊢
        rcases hq with h | h | h | h <;> simp only [h, true_or, or_true]
      · rintro m9 led ⟨rs, ti, td, tl, tc, tP, u, hIv, rfl, rfl, hRO, hTi, hTd, a1, a2, a3, hJ0⟩ h5 tk5 F5 N5
        cases hIv
        clear F9 N10
        change Fr _ s1.heap.objs.size h5 _ at F5
        change News _ s1.heap.objs.size h5 _ at N5
        dsimp only
        k_steps
        refine Stop.mk (PyProof.Rows.eq_int ?_)
        dsimp only
        refine ⟨?_, tab_at hTd N5 (fun _ h => .tail _ (List.mem_append_right _ h)), tab_at hTi N5 (fun _ h => .tail _ (List.mem_append_left _ h)), trivial⟩
        show GoodW _ _ _ _ _ (Except.ok (Flow.ret (Value.bool true))) _
        exact goodW_bool F5 (by assumption) (raise_ok _) (post_ok ns)
      · exact a1.sub (fun q hq => by rw [List.mem_singleton] at hq; rw [hq]; exact .tail _ (.head _)) fun _ h => h
      · exact ap8.sub (fun q hq => by rw [List.mem_singleton] at hq; rw [hq]; exact .tail _ (.head _)) fun _ h => h
      · exact ap8.sub (fun q hq => List.mem_append_right _ hq) fun _ h => h
    · intro p hp q hq
      rw [List.mem_singleton] at hq
      subst hq
      simp only [List.mem_cons, List.not_mem_nil, or_false] at hp
      rcases hp with rfl | rfl | rfl | rfl
      · exact hM1
      · exact hn1
      · exact hU1
      · exact hn1
    · intro p hp
      simp only [List.mem_cons, List.not_mem_nil, or_false] at hp
      rcases hp with rfl | rfl | rfl | rfl
      · exact ap11 _ (.head _)
      · exact ap11 _ (.tail _ (.head _))
      · exact ap11 _ (.tail _ (.tail _ (.head _)))
      · exact ap11 _ (.tail _ (.head _))
    · exact ap11.sub (fun q hq => by rw [List.mem_singleton] at hq; rw [hq]; exact .tail _ (.tail _ (.tail _ (.head _)))) fun _ h => h)
end
theorem PySem.Challenge.cw_ny0466_01_holds : PySem.Challenge.rw_ny0466_01.Holds :=
  Mine.t1
