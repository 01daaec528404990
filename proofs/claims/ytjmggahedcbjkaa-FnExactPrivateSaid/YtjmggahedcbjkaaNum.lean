/- The plain numbers of FnExactPrivate: eight numbers of 15 bits out of fifteen bytes, as the Go text of unpack computes them, and the fifteen bytes again, as pack computes them: for every fifteen bytes they are the same. -/
import Derived.Laws.BitsAllLaws
import Derived.WalkKit
namespace Go.Proofs.Ytjmggahedcbjkaa
set_option linter.unusedVariables false

/-- The i-th number of 15 bits (the highest bit first) of the bytes f. -/
def num15 (f : Nat → Int) (i : Nat) : Int :=
  match i % 8 with
  | 0 => f (15 * (i / 8)) * 128 + f (15 * (i / 8) + 1) / 2
  | 1 => f (15 * (i / 8) + 1) % 2 * 16384 + f (15 * (i / 8) + 2) * 64 + f (15 * (i / 8) + 3) / 4
  | 2 => f (15 * (i / 8) + 3) % 4 * 8192 + f (15 * (i / 8) + 4) * 32 + f (15 * (i / 8) + 5) / 8
  | 3 => f (15 * (i / 8) + 5) % 8 * 4096 + f (15 * (i / 8) + 6) * 16 + f (15 * (i / 8) + 7) / 16
  | 4 => f (15 * (i / 8) + 7) % 16 * 2048 + f (15 * (i / 8) + 8) * 8 + f (15 * (i / 8) + 9) / 32
  | 5 => f (15 * (i / 8) + 9) % 32 * 1024 + f (15 * (i / 8) + 10) * 4 + f (15 * (i / 8) + 11) / 64
  | 6 => f (15 * (i / 8) + 11) % 64 * 512 + f (15 * (i / 8) + 12) * 2 + f (15 * (i / 8) + 13) / 128
  | _ => f (15 * (i / 8) + 13) % 128 * 256 + f (15 * (i / 8) + 14)

theorem num15_0 (f : Nat → Int) (k : Nat) : num15 f (8 * k) = f (15 * k) * 128 + f (15 * k + 1) / 2 := by
  have h1 : (8 * k) / 8 = k := by omega
  have h2 : (8 * k) % 8 = 0 := by omega
  simp only [num15, h1, h2]
theorem num15_1 (f : Nat → Int) (k : Nat) : num15 f (8 * k + 1) = f (15 * k + 1) % 2 * 16384 + f (15 * k + 2) * 64 + f (15 * k + 3) / 4 := by
  have h1 : (8 * k + 1) / 8 = k := by omega
  have h2 : (8 * k + 1) % 8 = 1 := by omega
  simp only [num15, h1, h2]
theorem num15_2 (f : Nat → Int) (k : Nat) : num15 f (8 * k + 2) = f (15 * k + 3) % 4 * 8192 + f (15 * k + 4) * 32 + f (15 * k + 5) / 8 := by
  have h1 : (8 * k + 2) / 8 = k := by omega
  have h2 : (8 * k + 2) % 8 = 2 := by omega
  simp only [num15, h1, h2]
theorem num15_3 (f : Nat → Int) (k : Nat) : num15 f (8 * k + 3) = f (15 * k + 5) % 8 * 4096 + f (15 * k + 6) * 16 + f (15 * k + 7) / 16 := by
  have h1 : (8 * k + 3) / 8 = k := by omega
  have h2 : (8 * k + 3) % 8 = 3 := by omega
  simp only [num15, h1, h2]
theorem num15_4 (f : Nat → Int) (k : Nat) : num15 f (8 * k + 4) = f (15 * k + 7) % 16 * 2048 + f (15 * k + 8) * 8 + f (15 * k + 9) / 32 := by
  have h1 : (8 * k + 4) / 8 = k := by omega
  have h2 : (8 * k + 4) % 8 = 4 := by omega
  simp only [num15, h1, h2]
theorem num15_5 (f : Nat → Int) (k : Nat) : num15 f (8 * k + 5) = f (15 * k + 9) % 32 * 1024 + f (15 * k + 10) * 4 + f (15 * k + 11) / 64 := by
  have h1 : (8 * k + 5) / 8 = k := by omega
  have h2 : (8 * k + 5) % 8 = 5 := by omega
  simp only [num15, h1, h2]
theorem num15_6 (f : Nat → Int) (k : Nat) : num15 f (8 * k + 6) = f (15 * k + 11) % 64 * 512 + f (15 * k + 12) * 2 + f (15 * k + 13) / 128 := by
  have h1 : (8 * k + 6) / 8 = k := by omega
  have h2 : (8 * k + 6) % 8 = 6 := by omega
  simp only [num15, h1, h2]
theorem num15_7 (f : Nat → Int) (k : Nat) : num15 f (8 * k + 7) = f (15 * k + 13) % 128 * 256 + f (15 * k + 14) := by
  have h1 : (8 * k + 7) / 8 = k := by omega
  have h2 : (8 * k + 7) % 8 = 7 := by omega
  simp only [num15, h1, h2]

theorem num15_lo (f : Nat → Int) (hf : ∀ i, 0 ≤ f i ∧ f i ≤ 255) (i : Nat) : 0 ≤ num15 f i ∧ num15 f i ≤ 32767 := by
  have hi : i = 8 * (i / 8) + i % 8 := by omega
  have hm : i % 8 < 8 := Nat.mod_lt _ (by decide)
  generalize i / 8 = k at hi
  generalize i % 8 = m at hi hm
  subst hi
  have b := fun c => hf (15 * k + c)
  have b0 := hf (15 * k)
  match m, hm with
  | 0, _ => rw [show 8 * k + 0 = 8 * k from rfl, num15_0]; have := b 1; omega
  | 1, _ => rw [num15_1]; have := b 1; have := b 2; have := b 3; omega
  | 2, _ => rw [num15_2]; have := b 3; have := b 4; have := b 5; omega
  | 3, _ => rw [num15_3]; have := b 5; have := b 6; have := b 7; omega
  | 4, _ => rw [num15_4]; have := b 7; have := b 8; have := b 9; omega
  | 5, _ => rw [num15_5]; have := b 9; have := b 10; have := b 11; omega
  | 6, _ => rw [num15_6]; have := b 11; have := b 12; have := b 13; omega
  | 7, _ => rw [num15_7]; have := b 13; have := b 14; omega

theorem wraps_u16 (n : Int) (h₀ : 0 ≤ n) (h₁ : n < 2 ^ 16) : IntKind.u16.wrap n = n := by rw [IntKind.wrap_u16]; omega

theorem and8_254 (x : Int) (h0 : 0 ≤ x) (h1 : x ≤ 255) : bits .and .u8 x 254 = x / 2 * 2 := by
  have key : ∀ n : Fin 256, n.val &&& 254 = n.val / 2 * 2 := by decide +kernel
  have hk := key ⟨x.toNat, by omega⟩
  rw [u8_and x 254 h0 (by omega) (by decide) (by decide)]
  have e : ((x.toNat &&& (254 : Int).toNat : Nat) : Int) = ((x.toNat / 2 * 2 : Nat) : Int) := congrArg (fun n : Nat => (n : Int)) hk
  rw [e]
  omega
theorem and8_252 (x : Int) (h0 : 0 ≤ x) (h1 : x ≤ 255) : bits .and .u8 x 252 = x / 4 * 4 := by
  have key : ∀ n : Fin 256, n.val &&& 252 = n.val / 4 * 4 := by decide +kernel
  have hk := key ⟨x.toNat, by omega⟩
  rw [u8_and x 252 h0 (by omega) (by decide) (by decide)]
  have e : ((x.toNat &&& (252 : Int).toNat : Nat) : Int) = ((x.toNat / 4 * 4 : Nat) : Int) := congrArg (fun n : Nat => (n : Int)) hk
  rw [e]
  omega
theorem and8_248 (x : Int) (h0 : 0 ≤ x) (h1 : x ≤ 255) : bits .and .u8 x 248 = x / 8 * 8 := by
  have key : ∀ n : Fin 256, n.val &&& 248 = n.val / 8 * 8 := by decide +kernel
  have hk := key ⟨x.toNat, by omega⟩
  rw [u8_and x 248 h0 (by omega) (by decide) (by decide)]
  have e : ((x.toNat &&& (248 : Int).toNat : Nat) : Int) = ((x.toNat / 8 * 8 : Nat) : Int) := congrArg (fun n : Nat => (n : Int)) hk
  rw [e]
  omega
theorem and8_240 (x : Int) (h0 : 0 ≤ x) (h1 : x ≤ 255) : bits .and .u8 x 240 = x / 16 * 16 := by
  have key : ∀ n : Fin 256, n.val &&& 240 = n.val / 16 * 16 := by decide +kernel
  have hk := key ⟨x.toNat, by omega⟩
  rw [u8_and x 240 h0 (by omega) (by decide) (by decide)]
  have e : ((x.toNat &&& (240 : Int).toNat : Nat) : Int) = ((x.toNat / 16 * 16 : Nat) : Int) := congrArg (fun n : Nat => (n : Int)) hk
  rw [e]
  omega
theorem and8_224 (x : Int) (h0 : 0 ≤ x) (h1 : x ≤ 255) : bits .and .u8 x 224 = x / 32 * 32 := by
  have key : ∀ n : Fin 256, n.val &&& 224 = n.val / 32 * 32 := by decide +kernel
  have hk := key ⟨x.toNat, by omega⟩
  rw [u8_and x 224 h0 (by omega) (by decide) (by decide)]
  have e : ((x.toNat &&& (224 : Int).toNat : Nat) : Int) = ((x.toNat / 32 * 32 : Nat) : Int) := congrArg (fun n : Nat => (n : Int)) hk
  rw [e]
  omega
theorem and8_192 (x : Int) (h0 : 0 ≤ x) (h1 : x ≤ 255) : bits .and .u8 x 192 = x / 64 * 64 := by
  have key : ∀ n : Fin 256, n.val &&& 192 = n.val / 64 * 64 := by decide +kernel
  have hk := key ⟨x.toNat, by omega⟩
  rw [u8_and x 192 h0 (by omega) (by decide) (by decide)]
  have e : ((x.toNat &&& (192 : Int).toNat : Nat) : Int) = ((x.toNat / 64 * 64 : Nat) : Int) := congrArg (fun n : Nat => (n : Int)) hk
  rw [e]
  omega
theorem and8_128 (x : Int) (h0 : 0 ≤ x) (h1 : x ≤ 255) : bits .and .u8 x 128 = x / 128 * 128 := by
  have key : ∀ n : Fin 256, n.val &&& 128 = n.val / 128 * 128 := by decide +kernel
  have hk := key ⟨x.toNat, by omega⟩
  rw [u8_and x 128 h0 (by omega) (by decide) (by decide)]
  have e : ((x.toNat &&& (128 : Int).toNat : Nat) : Int) = ((x.toNat / 128 * 128 : Nat) : Int) := congrArg (fun n : Nat => (n : Int)) hk
  rw [e]
  omega
theorem and8_1 (x : Int) (h0 : 0 ≤ x) (h1 : x ≤ 255) : bits .and .u8 x 1 = x % 2 :=
  bits_mask .u8 8 (by decide) wraps_u8 1 (by decide) x h0 (by omega)
theorem and8_3 (x : Int) (h0 : 0 ≤ x) (h1 : x ≤ 255) : bits .and .u8 x 3 = x % 4 :=
  bits_mask .u8 8 (by decide) wraps_u8 2 (by decide) x h0 (by omega)
theorem and8_127 (x : Int) (h0 : 0 ≤ x) (h1 : x ≤ 255) : bits .and .u8 x 127 = x % 128 :=
  bits_mask .u8 8 (by decide) wraps_u8 7 (by decide) x h0 (by omega)
theorem and16_32767 (x : Int) (h0 : 0 ≤ x) (h1 : x ≤ 32767) : bits .and .u16 x 32767 = x % 32768 :=
  bits_mask .u16 16 (by decide) wraps_u16 15 (by decide) x h0 (by omega)
theorem and16_127 (x : Int) (h0 : 0 ≤ x) (h1 : x ≤ 32767) : bits .and .u16 x 127 = x % 128 :=
  bits_mask .u16 16 (by decide) wraps_u16 7 (by decide) x h0 (by omega)
theorem and16_63 (x : Int) (h0 : 0 ≤ x) (h1 : x ≤ 32767) : bits .and .u16 x 63 = x % 64 :=
  bits_mask .u16 16 (by decide) wraps_u16 6 (by decide) x h0 (by omega)
theorem and16_31 (x : Int) (h0 : 0 ≤ x) (h1 : x ≤ 32767) : bits .and .u16 x 31 = x % 32 :=
  bits_mask .u16 16 (by decide) wraps_u16 5 (by decide) x h0 (by omega)
theorem and16_15 (x : Int) (h0 : 0 ≤ x) (h1 : x ≤ 32767) : bits .and .u16 x 15 = x % 16 :=
  bits_mask .u16 16 (by decide) wraps_u16 4 (by decide) x h0 (by omega)
theorem and16_7 (x : Int) (h0 : 0 ≤ x) (h1 : x ≤ 32767) : bits .and .u16 x 7 = x % 8 :=
  bits_mask .u16 16 (by decide) wraps_u16 3 (by decide) x h0 (by omega)
theorem and16_3 (x : Int) (h0 : 0 ≤ x) (h1 : x ≤ 32767) : bits .and .u16 x 3 = x % 4 :=
  bits_mask .u16 16 (by decide) wraps_u16 2 (by decide) x h0 (by omega)
theorem and16_1 (x : Int) (h0 : 0 ≤ x) (h1 : x ≤ 32767) : bits .and .u16 x 1 = x % 2 :=
  bits_mask .u16 16 (by decide) wraps_u16 1 (by decide) x h0 (by omega)
theorem or16 (i : Nat) (hi : i ≤ 16) (x y : Int) (hx₀ : 0 ≤ x) (hx : x % 2 ^ i = 0) (hx₁ : x < 65536) (hy₀ : 0 ≤ y) (hy : y < 2 ^ i) : bits .or .u16 x y = x + y := by
  refine bits_join .u16 16 (by decide) wraps_u16 i x y hx₀ hx (by omega) hy₀ hy ?_
  have : (2 : Int) ^ i ≤ 2 ^ 16 := by exact_mod_cast Nat.pow_le_pow_right (by decide) hi
  omega
theorem or8 (i : Nat) (hi : i ≤ 8) (x y : Int) (hx₀ : 0 ≤ x) (hx : x % 2 ^ i = 0) (hx₁ : x < 256) (hy₀ : 0 ≤ y) (hy : y < 2 ^ i) : bits .or .u8 x y = x + y := by
  refine bits_join .u8 8 (by decide) wraps_u8 i x y hx₀ hx (by omega) hy₀ hy ?_
  have : (2 : Int) ^ i ≤ 2 ^ 8 := by exact_mod_cast Nat.pow_le_pow_right (by decide) hi
  omega

theorem un0 {b0 b1 u : Int} (p0 : 0 ≤ b0) (q0 : b0 ≤ 255) (p1 : 0 ≤ b1) (q1 : b1 ≤ 255) (hu : u = b0 * 128 + b1 / 2) :
    bits BinOp.or IntKind.u16 (b0 * 128) (IntKind.u16.wrap (bits BinOp.and IntKind.u8 b1 254) / 2) = u := by
  rw [and8_254 b1 p1 q1, IntKind.wrap_u16, or16 7 (by decide) _ _ (by omega) (by omega) (by omega) (by omega) (by omega), hu]
  omega
theorem un1 {b1 b2 b3 u : Int} (p1 : 0 ≤ b1) (q1 : b1 ≤ 255) (p2 : 0 ≤ b2) (q2 : b2 ≤ 255) (p3 : 0 ≤ b3) (q3 : b3 ≤ 255) (hu : u = b1 % 2 * 16384 + b2 * 64 + b3 / 4) :
    bits BinOp.or IntKind.u16 (bits BinOp.or IntKind.u16 (IntKind.u16.wrap (IntKind.u16.wrap (bits BinOp.and IntKind.u8 b1 1) * 16384)) (b2 * 64)) (IntKind.u16.wrap (bits BinOp.and IntKind.u8 b3 252) / 4) = u := by
  rw [and8_1 b1 p1 q1, and8_252 b3 p3 q3, IntKind.wrap_u16, IntKind.wrap_u16, IntKind.wrap_u16, or16 14 (by decide) _ (b2 * 64) (by omega) (by omega) (by omega) (by omega) (by omega), or16 6 (by decide) _ _ (by omega) (by omega) (by omega) (by omega) (by omega), hu]
  omega
theorem un2 {b3 b4 b5 u : Int} (p3 : 0 ≤ b3) (q3 : b3 ≤ 255) (p4 : 0 ≤ b4) (q4 : b4 ≤ 255) (p5 : 0 ≤ b5) (q5 : b5 ≤ 255) (hu : u = b3 % 4 * 8192 + b4 * 32 + b5 / 8) :
    bits BinOp.or IntKind.u16 (bits BinOp.or IntKind.u16 (IntKind.u16.wrap (IntKind.u16.wrap (bits BinOp.and IntKind.u8 b3 3) * 8192)) (b4 * 32)) (IntKind.u16.wrap (bits BinOp.and IntKind.u8 b5 248) / 8) = u := by
  rw [and8_3 b3 p3 q3, and8_248 b5 p5 q5, IntKind.wrap_u16, IntKind.wrap_u16, IntKind.wrap_u16, or16 13 (by decide) _ (b4 * 32) (by omega) (by omega) (by omega) (by omega) (by omega), or16 5 (by decide) _ _ (by omega) (by omega) (by omega) (by omega) (by omega), hu]
  omega
theorem un3 {b5 b6 b7 u : Int} (p5 : 0 ≤ b5) (q5 : b5 ≤ 255) (p6 : 0 ≤ b6) (q6 : b6 ≤ 255) (p7 : 0 ≤ b7) (q7 : b7 ≤ 255) (hu : u = b5 % 8 * 4096 + b6 * 16 + b7 / 16) :
    bits BinOp.or IntKind.u16 (bits BinOp.or IntKind.u16 (b5 % 8 * 4096) (b6 * 16)) (IntKind.u16.wrap (bits BinOp.and IntKind.u8 b7 240) / 16) = u := by
  rw [and8_240 b7 p7 q7, IntKind.wrap_u16, or16 12 (by decide) _ (b6 * 16) (by omega) (by omega) (by omega) (by omega) (by omega), or16 4 (by decide) _ _ (by omega) (by omega) (by omega) (by omega) (by omega), hu]
  omega
theorem un4 {b7 b8 b9 u : Int} (p7 : 0 ≤ b7) (q7 : b7 ≤ 255) (p8 : 0 ≤ b8) (q8 : b8 ≤ 255) (p9 : 0 ≤ b9) (q9 : b9 ≤ 255) (hu : u = b7 % 16 * 2048 + b8 * 8 + b9 / 32) :
    bits BinOp.or IntKind.u16 (bits BinOp.or IntKind.u16 (b7 % 16 * 2048) (b8 * 8)) (IntKind.u16.wrap (bits BinOp.and IntKind.u8 b9 224) / 32) = u := by
  rw [and8_224 b9 p9 q9, IntKind.wrap_u16, or16 11 (by decide) _ (b8 * 8) (by omega) (by omega) (by omega) (by omega) (by omega), or16 3 (by decide) _ _ (by omega) (by omega) (by omega) (by omega) (by omega), hu]
  omega
theorem un5 {b9 b10 b11 u : Int} (p9 : 0 ≤ b9) (q9 : b9 ≤ 255) (p10 : 0 ≤ b10) (q10 : b10 ≤ 255) (p11 : 0 ≤ b11) (q11 : b11 ≤ 255) (hu : u = b9 % 32 * 1024 + b10 * 4 + b11 / 64) :
    bits BinOp.or IntKind.u16 (bits BinOp.or IntKind.u16 (b9 % 32 * 1024) (b10 * 4)) (IntKind.u16.wrap (bits BinOp.and IntKind.u8 b11 192) / 64) = u := by
  rw [and8_192 b11 p11 q11, IntKind.wrap_u16, or16 10 (by decide) _ (b10 * 4) (by omega) (by omega) (by omega) (by omega) (by omega), or16 2 (by decide) _ _ (by omega) (by omega) (by omega) (by omega) (by omega), hu]
  omega
theorem un6 {b11 b12 b13 u : Int} (p11 : 0 ≤ b11) (q11 : b11 ≤ 255) (p12 : 0 ≤ b12) (q12 : b12 ≤ 255) (p13 : 0 ≤ b13) (q13 : b13 ≤ 255) (hu : u = b11 % 64 * 512 + b12 * 2 + b13 / 128) :
    bits BinOp.or IntKind.u16 (bits BinOp.or IntKind.u16 (b11 % 64 * 512) (b12 * 2)) (IntKind.u16.wrap (bits BinOp.and IntKind.u8 b13 128) / 128) = u := by
  rw [and8_128 b13 p13 q13, IntKind.wrap_u16, or16 9 (by decide) _ (b12 * 2) (by omega) (by omega) (by omega) (by omega) (by omega), or16 1 (by decide) _ _ (by omega) (by omega) (by omega) (by omega) (by omega), hu]
  omega
theorem un7 {b13 b14 u : Int} (p13 : 0 ≤ b13) (q13 : b13 ≤ 255) (p14 : 0 ≤ b14) (q14 : b14 ≤ 255) (hu : u = b13 % 128 * 256 + b14) :
    bits BinOp.or IntKind.u16 (IntKind.u16.wrap (IntKind.u16.wrap (bits BinOp.and IntKind.u8 b13 127) * 256)) b14 = u := by
  rw [and8_127 b13 p13 q13, IntKind.wrap_u16, IntKind.wrap_u16, or16 8 (by decide) _ _ (by omega) (by omega) (by omega) (by omega) (by omega), hu]
  omega
theorem pk0 {x0 b0 b1 : Int} (l0 : 0 ≤ x0) (r0 : x0 ≤ 32767) (p0 : 0 ≤ b0) (q0 : b0 ≤ 255) (p1 : 0 ≤ b1) (q1 : b1 ≤ 255) (h0 : x0 = b0 * 128 + b1 / 2) :
    bits BinOp.and IntKind.u16 x0 32767 / 128 % 256 = b0 := by
  rw [and16_32767 x0 l0 r0]
  omega
theorem pk1 {x0 x1 b0 b1 b2 b3 : Int} (l0 : 0 ≤ x0) (r0 : x0 ≤ 32767) (l1 : 0 ≤ x1) (r1 : x1 ≤ 32767) (p0 : 0 ≤ b0) (q0 : b0 ≤ 255) (p1 : 0 ≤ b1) (q1 : b1 ≤ 255) (p2 : 0 ≤ b2) (q2 : b2 ≤ 255) (p3 : 0 ≤ b3) (q3 : b3 ≤ 255) (h0 : x0 = b0 * 128 + b1 / 2) (h1 : x1 = b1 % 2 * 16384 + b2 * 64 + b3 / 4) :
    bits BinOp.or IntKind.u8 (bits BinOp.and IntKind.u16 (bits BinOp.and IntKind.u16 x0 32767) 127 % 256 * 2 % 256) (bits BinOp.and IntKind.u16 x1 32767 / 16384 % 256) = b1 := by
  rw [and16_32767 x0 l0 r0, and16_32767 x1 l1 r1, and16_127 (x0 % 32768) (by omega) (by omega), or8 1 (by decide) _ _ (by omega) (by omega) (by omega) (by omega) (by omega)]
  omega
theorem pk2 {x1 b1 b2 b3 : Int} (l1 : 0 ≤ x1) (r1 : x1 ≤ 32767) (p1 : 0 ≤ b1) (q1 : b1 ≤ 255) (p2 : 0 ≤ b2) (q2 : b2 ≤ 255) (p3 : 0 ≤ b3) (q3 : b3 ≤ 255) (h1 : x1 = b1 % 2 * 16384 + b2 * 64 + b3 / 4) :
    bits BinOp.and IntKind.u16 x1 32767 / 64 % 256 = b2 := by
  rw [and16_32767 x1 l1 r1]
  omega
theorem pk3 {x1 x2 b1 b2 b3 b4 b5 : Int} (l1 : 0 ≤ x1) (r1 : x1 ≤ 32767) (l2 : 0 ≤ x2) (r2 : x2 ≤ 32767) (p1 : 0 ≤ b1) (q1 : b1 ≤ 255) (p2 : 0 ≤ b2) (q2 : b2 ≤ 255) (p3 : 0 ≤ b3) (q3 : b3 ≤ 255) (p4 : 0 ≤ b4) (q4 : b4 ≤ 255) (p5 : 0 ≤ b5) (q5 : b5 ≤ 255) (h1 : x1 = b1 % 2 * 16384 + b2 * 64 + b3 / 4) (h2 : x2 = b3 % 4 * 8192 + b4 * 32 + b5 / 8) :
    bits BinOp.or IntKind.u8 (bits BinOp.and IntKind.u16 (bits BinOp.and IntKind.u16 x1 32767) 63 % 256 * 4 % 256) (bits BinOp.and IntKind.u16 x2 32767 / 8192 % 256) = b3 := by
  rw [and16_32767 x1 l1 r1, and16_32767 x2 l2 r2, and16_63 (x1 % 32768) (by omega) (by omega), or8 2 (by decide) _ _ (by omega) (by omega) (by omega) (by omega) (by omega)]
  omega
theorem pk4 {x2 b3 b4 b5 : Int} (l2 : 0 ≤ x2) (r2 : x2 ≤ 32767) (p3 : 0 ≤ b3) (q3 : b3 ≤ 255) (p4 : 0 ≤ b4) (q4 : b4 ≤ 255) (p5 : 0 ≤ b5) (q5 : b5 ≤ 255) (h2 : x2 = b3 % 4 * 8192 + b4 * 32 + b5 / 8) :
    bits BinOp.and IntKind.u16 x2 32767 / 32 % 256 = b4 := by
  rw [and16_32767 x2 l2 r2]
  omega
theorem pk5 {x2 x3 b3 b4 b5 b6 b7 : Int} (l2 : 0 ≤ x2) (r2 : x2 ≤ 32767) (l3 : 0 ≤ x3) (r3 : x3 ≤ 32767) (p3 : 0 ≤ b3) (q3 : b3 ≤ 255) (p4 : 0 ≤ b4) (q4 : b4 ≤ 255) (p5 : 0 ≤ b5) (q5 : b5 ≤ 255) (p6 : 0 ≤ b6) (q6 : b6 ≤ 255) (p7 : 0 ≤ b7) (q7 : b7 ≤ 255) (h2 : x2 = b3 % 4 * 8192 + b4 * 32 + b5 / 8) (h3 : x3 = b5 % 8 * 4096 + b6 * 16 + b7 / 16) :
    bits BinOp.or IntKind.u8 (bits BinOp.and IntKind.u16 (bits BinOp.and IntKind.u16 x2 32767) 31 % 256 * 8 % 256) (bits BinOp.and IntKind.u16 x3 32767 / 4096 % 256) = b5 := by
  rw [and16_32767 x2 l2 r2, and16_32767 x3 l3 r3, and16_31 (x2 % 32768) (by omega) (by omega), or8 3 (by decide) _ _ (by omega) (by omega) (by omega) (by omega) (by omega)]
  omega
theorem pk6 {x3 b5 b6 b7 : Int} (l3 : 0 ≤ x3) (r3 : x3 ≤ 32767) (p5 : 0 ≤ b5) (q5 : b5 ≤ 255) (p6 : 0 ≤ b6) (q6 : b6 ≤ 255) (p7 : 0 ≤ b7) (q7 : b7 ≤ 255) (h3 : x3 = b5 % 8 * 4096 + b6 * 16 + b7 / 16) :
    bits BinOp.and IntKind.u16 x3 32767 / 16 % 256 = b6 := by
  rw [and16_32767 x3 l3 r3]
  omega
theorem pk7 {x3 x4 b5 b6 b7 b8 b9 : Int} (l3 : 0 ≤ x3) (r3 : x3 ≤ 32767) (l4 : 0 ≤ x4) (r4 : x4 ≤ 32767) (p5 : 0 ≤ b5) (q5 : b5 ≤ 255) (p6 : 0 ≤ b6) (q6 : b6 ≤ 255) (p7 : 0 ≤ b7) (q7 : b7 ≤ 255) (p8 : 0 ≤ b8) (q8 : b8 ≤ 255) (p9 : 0 ≤ b9) (q9 : b9 ≤ 255) (h3 : x3 = b5 % 8 * 4096 + b6 * 16 + b7 / 16) (h4 : x4 = b7 % 16 * 2048 + b8 * 8 + b9 / 32) :
    bits BinOp.or IntKind.u8 (bits BinOp.and IntKind.u16 (bits BinOp.and IntKind.u16 x3 32767) 15 % 256 * 16 % 256) (bits BinOp.and IntKind.u16 x4 32767 / 2048 % 256) = b7 := by
  rw [and16_32767 x3 l3 r3, and16_32767 x4 l4 r4, and16_15 (x3 % 32768) (by omega) (by omega), or8 4 (by decide) _ _ (by omega) (by omega) (by omega) (by omega) (by omega)]
  omega
theorem pk8 {x4 b7 b8 b9 : Int} (l4 : 0 ≤ x4) (r4 : x4 ≤ 32767) (p7 : 0 ≤ b7) (q7 : b7 ≤ 255) (p8 : 0 ≤ b8) (q8 : b8 ≤ 255) (p9 : 0 ≤ b9) (q9 : b9 ≤ 255) (h4 : x4 = b7 % 16 * 2048 + b8 * 8 + b9 / 32) :
    bits BinOp.and IntKind.u16 x4 32767 / 8 % 256 = b8 := by
  rw [and16_32767 x4 l4 r4]
  omega
theorem pk9 {x4 x5 b7 b8 b9 b10 b11 : Int} (l4 : 0 ≤ x4) (r4 : x4 ≤ 32767) (l5 : 0 ≤ x5) (r5 : x5 ≤ 32767) (p7 : 0 ≤ b7) (q7 : b7 ≤ 255) (p8 : 0 ≤ b8) (q8 : b8 ≤ 255) (p9 : 0 ≤ b9) (q9 : b9 ≤ 255) (p10 : 0 ≤ b10) (q10 : b10 ≤ 255) (p11 : 0 ≤ b11) (q11 : b11 ≤ 255) (h4 : x4 = b7 % 16 * 2048 + b8 * 8 + b9 / 32) (h5 : x5 = b9 % 32 * 1024 + b10 * 4 + b11 / 64) :
    bits BinOp.or IntKind.u8 (bits BinOp.and IntKind.u16 (bits BinOp.and IntKind.u16 x4 32767) 7 % 256 * 32 % 256) (bits BinOp.and IntKind.u16 x5 32767 / 1024 % 256) = b9 := by
  rw [and16_32767 x4 l4 r4, and16_32767 x5 l5 r5, and16_7 (x4 % 32768) (by omega) (by omega), or8 5 (by decide) _ _ (by omega) (by omega) (by omega) (by omega) (by omega)]
  omega
theorem pk10 {x5 b9 b10 b11 : Int} (l5 : 0 ≤ x5) (r5 : x5 ≤ 32767) (p9 : 0 ≤ b9) (q9 : b9 ≤ 255) (p10 : 0 ≤ b10) (q10 : b10 ≤ 255) (p11 : 0 ≤ b11) (q11 : b11 ≤ 255) (h5 : x5 = b9 % 32 * 1024 + b10 * 4 + b11 / 64) :
    bits BinOp.and IntKind.u16 x5 32767 / 4 % 256 = b10 := by
  rw [and16_32767 x5 l5 r5]
  omega
theorem pk11 {x5 x6 b9 b10 b11 b12 b13 : Int} (l5 : 0 ≤ x5) (r5 : x5 ≤ 32767) (l6 : 0 ≤ x6) (r6 : x6 ≤ 32767) (p9 : 0 ≤ b9) (q9 : b9 ≤ 255) (p10 : 0 ≤ b10) (q10 : b10 ≤ 255) (p11 : 0 ≤ b11) (q11 : b11 ≤ 255) (p12 : 0 ≤ b12) (q12 : b12 ≤ 255) (p13 : 0 ≤ b13) (q13 : b13 ≤ 255) (h5 : x5 = b9 % 32 * 1024 + b10 * 4 + b11 / 64) (h6 : x6 = b11 % 64 * 512 + b12 * 2 + b13 / 128) :
    bits BinOp.or IntKind.u8 (bits BinOp.and IntKind.u16 (bits BinOp.and IntKind.u16 x5 32767) 3 % 256 * 64 % 256) (bits BinOp.and IntKind.u16 x6 32767 / 512 % 256) = b11 := by
  rw [and16_32767 x5 l5 r5, and16_32767 x6 l6 r6, and16_3 (x5 % 32768) (by omega) (by omega), or8 6 (by decide) _ _ (by omega) (by omega) (by omega) (by omega) (by omega)]
  omega
theorem pk12 {x6 b11 b12 b13 : Int} (l6 : 0 ≤ x6) (r6 : x6 ≤ 32767) (p11 : 0 ≤ b11) (q11 : b11 ≤ 255) (p12 : 0 ≤ b12) (q12 : b12 ≤ 255) (p13 : 0 ≤ b13) (q13 : b13 ≤ 255) (h6 : x6 = b11 % 64 * 512 + b12 * 2 + b13 / 128) :
    bits BinOp.and IntKind.u16 x6 32767 / 2 % 256 = b12 := by
  rw [and16_32767 x6 l6 r6]
  omega
theorem pk13 {x6 x7 b11 b12 b13 b14 : Int} (l6 : 0 ≤ x6) (r6 : x6 ≤ 32767) (l7 : 0 ≤ x7) (r7 : x7 ≤ 32767) (p11 : 0 ≤ b11) (q11 : b11 ≤ 255) (p12 : 0 ≤ b12) (q12 : b12 ≤ 255) (p13 : 0 ≤ b13) (q13 : b13 ≤ 255) (p14 : 0 ≤ b14) (q14 : b14 ≤ 255) (h6 : x6 = b11 % 64 * 512 + b12 * 2 + b13 / 128) (h7 : x7 = b13 % 128 * 256 + b14) :
    bits BinOp.or IntKind.u8 (bits BinOp.and IntKind.u16 (bits BinOp.and IntKind.u16 x6 32767) 1 % 256 * 128 % 256) (bits BinOp.and IntKind.u16 x7 32767 / 256 % 256) = b13 := by
  rw [and16_32767 x6 l6 r6, and16_32767 x7 l7 r7, and16_1 (x6 % 32768) (by omega) (by omega), or8 7 (by decide) _ _ (by omega) (by omega) (by omega) (by omega) (by omega)]
  omega
theorem pk14 {x7 b13 b14 : Int} (l7 : 0 ≤ x7) (r7 : x7 ≤ 32767) (p13 : 0 ≤ b13) (q13 : b13 ≤ 255) (p14 : 0 ≤ b14) (q14 : b14 ≤ 255) (h7 : x7 = b13 % 128 * 256 + b14) :
    bits BinOp.and IntKind.u16 x7 32767 % 256 = b14 := by
  rw [and16_32767 x7 l7 r7]
  omega

end Go.Proofs.Ytjmggahedcbjkaa
