/- unpack, walked: it fills the 5120 numbers of 15 bits from place 16 of block g on, out of 9600 bytes that lie in another block. -/
import Derived.Test.YtjmggahedcbjkaaRows
import Derived.Test.YtjmggahedcbjkaaMem
import Derived.WalkKit
import Derived.WalkSpells
import Derived.WalkLawsBesides
namespace Go.Proofs.Ytjmggahedcbjkaa
set_option linter.unusedVariables false
open Go.RowKit

set_option maxRecDepth 100000 in
set_option maxHeartbeats 4000000 in
theorem unpack_any (g b off cap : Nat) (T : TypeId) (f : Nat → Int) (cur : List Value) (w : World) (hgb : b ≠ g) (hg : w.heap[g]? = some (.cells cur.toArray T (0, 0))) (hlen : cur.length = 5136)
    (hf : ∀ i, 0 ≤ f i ∧ f i ≤ 255) (hin : ∀ i, i < 9600 → w.cell? ⟨b, off + i, none⟩ = some (.int .u8 (f i))) :
    Calls Try.prog 14 #[.slice (some ⟨g, 16, none⟩) 5120 5120, .slice (some ⟨b, off, none⟩) 9600 cap] w fun e w' => e = .returned (.tuple #[]) ∧ Wr g T cur 16 5120 (fun i => .int .u16 (num15 f i)) 5120 w w' := by
  have HW0 : Hid (Wr g T cur 16 5120 (fun i => .int .u16 (num15 f i)) (8 * 0) w w) := Wr.zero hg
  have HF := Lib.hid hf; clear hf
  have HG := Lib.hid hg; clear hg
  have HIN := Lib.hid hin; clear hin
  have HL := Lib.hid hlen; clear hlen
  have HB := Lib.hid hgb; clear hgb
  go_enter Try.func14, Try.ntmps14
  go_wp2
  go_loopw [4, 5] (fun vj vi wr => ∃ k : Nat, k ≤ 640 ∧ vj = .int .i64 (8 * k : Nat) ∧ vi = .int .i64 k ∧ Wr g T cur 16 5120 (fun i => .int .u16 (num15 f i)) (8 * k) w wr) (fun _ vi _ => 640 - (intOf vi).toNat)
  case atStart => exact ⟨0, by omega, rfl, rfl, HW0.out⟩
  case round =>
    obtain ⟨k, hk, rfl, rfl, hw⟩ := hrel
    by_cases hlt : k < 640
    · have h1 : (15 : Int) * k < 9600 := by omega
      have rd : ∀ c, c < 15 → wr.cell? ⟨b, off + (k * 15 + c), none⟩ = some (.int .u8 (f (15 * k + c))) := fun c hc => by
        rw [hw.cell_other HB.out, HIN.out (k * 15 + c) (by omega), Nat.mul_comm]
      obtain ⟨b0, s0⟩ : ∃ x, x = f (15 * k) := ⟨_, rfl⟩
      have c0 : wr.cell? ⟨b, off + k * 15, none⟩ = some (.int .u8 b0) := by rw [s0]; exact rd 0 (by omega)
      have p0 : 0 ≤ b0 := by rw [s0]; exact (HF.out _).1
      have q0 : b0 ≤ 255 := by rw [s0]; exact (HF.out _).2
      obtain ⟨b1, s1⟩ : ∃ x, x = f (15 * k + 1) := ⟨_, rfl⟩
      have c1 : wr.cell? ⟨b, off + (k * 15 + 1), none⟩ = some (.int .u8 b1) := by rw [s1]; exact rd 1 (by omega)
      have p1 : 0 ≤ b1 := by rw [s1]; exact (HF.out _).1
      have q1 : b1 ≤ 255 := by rw [s1]; exact (HF.out _).2
      obtain ⟨b2, s2⟩ : ∃ x, x = f (15 * k + 2) := ⟨_, rfl⟩
      have c2 : wr.cell? ⟨b, off + (k * 15 + 2), none⟩ = some (.int .u8 b2) := by rw [s2]; exact rd 2 (by omega)
      have p2 : 0 ≤ b2 := by rw [s2]; exact (HF.out _).1
      have q2 : b2 ≤ 255 := by rw [s2]; exact (HF.out _).2
      obtain ⟨b3, s3⟩ : ∃ x, x = f (15 * k + 3) := ⟨_, rfl⟩
      have c3 : wr.cell? ⟨b, off + (k * 15 + 3), none⟩ = some (.int .u8 b3) := by rw [s3]; exact rd 3 (by omega)
      have p3 : 0 ≤ b3 := by rw [s3]; exact (HF.out _).1
      have q3 : b3 ≤ 255 := by rw [s3]; exact (HF.out _).2
      obtain ⟨b4, s4⟩ : ∃ x, x = f (15 * k + 4) := ⟨_, rfl⟩
      have c4 : wr.cell? ⟨b, off + (k * 15 + 4), none⟩ = some (.int .u8 b4) := by rw [s4]; exact rd 4 (by omega)
      have p4 : 0 ≤ b4 := by rw [s4]; exact (HF.out _).1
      have q4 : b4 ≤ 255 := by rw [s4]; exact (HF.out _).2
      obtain ⟨b5, s5⟩ : ∃ x, x = f (15 * k + 5) := ⟨_, rfl⟩
      have c5 : wr.cell? ⟨b, off + (k * 15 + 5), none⟩ = some (.int .u8 b5) := by rw [s5]; exact rd 5 (by omega)
      have p5 : 0 ≤ b5 := by rw [s5]; exact (HF.out _).1
      have q5 : b5 ≤ 255 := by rw [s5]; exact (HF.out _).2
      obtain ⟨b6, s6⟩ : ∃ x, x = f (15 * k + 6) := ⟨_, rfl⟩
      have c6 : wr.cell? ⟨b, off + (k * 15 + 6), none⟩ = some (.int .u8 b6) := by rw [s6]; exact rd 6 (by omega)
      have p6 : 0 ≤ b6 := by rw [s6]; exact (HF.out _).1
      have q6 : b6 ≤ 255 := by rw [s6]; exact (HF.out _).2
      obtain ⟨b7, s7⟩ : ∃ x, x = f (15 * k + 7) := ⟨_, rfl⟩
      have c7 : wr.cell? ⟨b, off + (k * 15 + 7), none⟩ = some (.int .u8 b7) := by rw [s7]; exact rd 7 (by omega)
      have p7 : 0 ≤ b7 := by rw [s7]; exact (HF.out _).1
      have q7 : b7 ≤ 255 := by rw [s7]; exact (HF.out _).2
      obtain ⟨b8, s8⟩ : ∃ x, x = f (15 * k + 8) := ⟨_, rfl⟩
      have c8 : wr.cell? ⟨b, off + (k * 15 + 8), none⟩ = some (.int .u8 b8) := by rw [s8]; exact rd 8 (by omega)
      have p8 : 0 ≤ b8 := by rw [s8]; exact (HF.out _).1
      have q8 : b8 ≤ 255 := by rw [s8]; exact (HF.out _).2
      obtain ⟨b9, s9⟩ : ∃ x, x = f (15 * k + 9) := ⟨_, rfl⟩
      have c9 : wr.cell? ⟨b, off + (k * 15 + 9), none⟩ = some (.int .u8 b9) := by rw [s9]; exact rd 9 (by omega)
      have p9 : 0 ≤ b9 := by rw [s9]; exact (HF.out _).1
      have q9 : b9 ≤ 255 := by rw [s9]; exact (HF.out _).2
      obtain ⟨b10, s10⟩ : ∃ x, x = f (15 * k + 10) := ⟨_, rfl⟩
      have c10 : wr.cell? ⟨b, off + (k * 15 + 10), none⟩ = some (.int .u8 b10) := by rw [s10]; exact rd 10 (by omega)
      have p10 : 0 ≤ b10 := by rw [s10]; exact (HF.out _).1
      have q10 : b10 ≤ 255 := by rw [s10]; exact (HF.out _).2
      obtain ⟨b11, s11⟩ : ∃ x, x = f (15 * k + 11) := ⟨_, rfl⟩
      have c11 : wr.cell? ⟨b, off + (k * 15 + 11), none⟩ = some (.int .u8 b11) := by rw [s11]; exact rd 11 (by omega)
      have p11 : 0 ≤ b11 := by rw [s11]; exact (HF.out _).1
      have q11 : b11 ≤ 255 := by rw [s11]; exact (HF.out _).2
      obtain ⟨b12, s12⟩ : ∃ x, x = f (15 * k + 12) := ⟨_, rfl⟩
      have c12 : wr.cell? ⟨b, off + (k * 15 + 12), none⟩ = some (.int .u8 b12) := by rw [s12]; exact rd 12 (by omega)
      have p12 : 0 ≤ b12 := by rw [s12]; exact (HF.out _).1
      have q12 : b12 ≤ 255 := by rw [s12]; exact (HF.out _).2
      obtain ⟨b13, s13⟩ : ∃ x, x = f (15 * k + 13) := ⟨_, rfl⟩
      have c13 : wr.cell? ⟨b, off + (k * 15 + 13), none⟩ = some (.int .u8 b13) := by rw [s13]; exact rd 13 (by omega)
      have p13 : 0 ≤ b13 := by rw [s13]; exact (HF.out _).1
      have q13 : b13 ≤ 255 := by rw [s13]; exact (HF.out _).2
      obtain ⟨b14, s14⟩ : ∃ x, x = f (15 * k + 14) := ⟨_, rfl⟩
      have c14 : wr.cell? ⟨b, off + (k * 15 + 14), none⟩ = some (.int .u8 b14) := by rw [s14]; exact rd 14 (by omega)
      have p14 : 0 ≤ b14 := by rw [s14]; exact (HF.out _).1
      have q14 : b14 ≤ 255 := by rw [s14]; exact (HF.out _).2
      have t0 := num15_0 f k
      rw [← s0, ← s1] at t0
      have HT0 := Lib.hid t0; clear t0
      have t1 := num15_1 f k
      rw [← s1, ← s2, ← s3] at t1
      have HT1 := Lib.hid t1; clear t1
      have t2 := num15_2 f k
      rw [← s3, ← s4, ← s5] at t2
      have HT2 := Lib.hid t2; clear t2
      have t3 := num15_3 f k
      rw [← s5, ← s6, ← s7] at t3
      have HT3 := Lib.hid t3; clear t3
      have t4 := num15_4 f k
      rw [← s7, ← s8, ← s9] at t4
      have HT4 := Lib.hid t4; clear t4
      have t5 := num15_5 f k
      rw [← s9, ← s10, ← s11] at t5
      have HT5 := Lib.hid t5; clear t5
      have t6 := num15_6 f k
      rw [← s11, ← s12, ← s13] at t6
      have HT6 := Lib.hid t6; clear t6
      have t7 := num15_7 f k
      rw [← s13, ← s14] at t7
      have HT7 := Lib.hid t7; clear t7
      clear s0
      clear s1
      clear s2
      clear s3
      clear s4
      clear s5
      clear s6
      clear s7
      clear s8
      clear s9
      clear s10
      clear s11
      clear s12
      clear s13
      clear s14
      clear rd
      obtain ⟨o0, d0⟩ := hw.old (16 + 8 * k) (by rw [HL.out]; omega)
      have e0 := hw.frozen (16 + 8 * k)
      obtain ⟨o1, d1⟩ := hw.old (16 + (8 * k + 1)) (by rw [HL.out]; omega)
      have e1 := hw.frozen (16 + (8 * k + 1))
      obtain ⟨o2, d2⟩ := hw.old (16 + (8 * k + 2)) (by rw [HL.out]; omega)
      have e2 := hw.frozen (16 + (8 * k + 2))
      obtain ⟨o3, d3⟩ := hw.old (16 + (8 * k + 3)) (by rw [HL.out]; omega)
      have e3 := hw.frozen (16 + (8 * k + 3))
      obtain ⟨o4, d4⟩ := hw.old (16 + (8 * k + 4)) (by rw [HL.out]; omega)
      have e4 := hw.frozen (16 + (8 * k + 4))
      obtain ⟨o5, d5⟩ := hw.old (16 + (8 * k + 5)) (by rw [HL.out]; omega)
      have e5 := hw.frozen (16 + (8 * k + 5))
      obtain ⟨o6, d6⟩ := hw.old (16 + (8 * k + 6)) (by rw [HL.out]; omega)
      have e6 := hw.frozen (16 + (8 * k + 6))
      obtain ⟨o7, d7⟩ := hw.old (16 + (8 * k + 7)) (by rw [HL.out]; omega)
      have e7 := hw.frozen (16 + (8 * k + 7))
      have HW := Lib.hid hw; clear hw
      go_wp2
      refine ⟨⟨k + 1, by omega, congrArg (Value.int .i64) (by omega), congrArg (Value.int .i64) (by omega), ?_⟩, by simp [intOf]; omega⟩
      rw [un0 p0 q0 p1 q1 HT0.out, un1 p1 q1 p2 q2 p3 q3 HT1.out, un2 p3 q3 p4 q4 p5 q5 HT2.out, un3 p5 q5 p6 q6 p7 q7 HT3.out, un4 p7 q7 p8 q8 p9 q9 HT4.out, un5 p9 q9 p10 q10 p11 q11 HT5.out, un6 p11 q11 p12 q12 p13 q13 HT6.out, un7 p13 q13 p14 q14 HT7.out]
      exact ((((((((HW.out.step (by omega) (by rw [HL.out]; omega)).step (by omega) (by rw [HL.out]; omega)).step (by omega) (by rw [HL.out]; omega)).step (by omega) (by rw [HL.out]; omega)).step (by omega) (by rw [HL.out]; omega)).step (by omega) (by rw [HL.out]; omega)).step (by omega) (by rw [HL.out]; omega)).step (by omega) (by rw [HL.out]; omega))
    · obtain rfl : k = 640 := by omega
      have HW := Lib.hid hw; clear hw
      go_wp2
      go_end0
      exact ⟨rfl, HW.out⟩
end Go.Proofs.Ytjmggahedcbjkaa
