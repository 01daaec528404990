/- pack, walked: out of 5120 numbers of 15 bits, which are those of the bytes f, it writes the 9600 bytes f themselves. -/
import Derived.Test.YtjmggahedcbjkaaRows
import Derived.Test.YtjmggahedcbjkaaMem
import Derived.WalkKit
import Derived.WalkSpells
import Derived.WalkLawsBesides
namespace Go.Proofs.Ytjmggahedcbjkaa
set_option linter.unusedVariables false
open Go.RowKit

set_option maxRecDepth 100000 in
set_option maxHeartbeats 4000000 in
theorem pack_any (g o cap p : Nat) (T : TypeId) (f : Nat → Int) (cur : List Value) (w : World) (hgb : p ≠ g) (hg : w.heap[g]? = some (.cells cur.toArray T (0, 0))) (hlen : o + 9600 ≤ cur.length)
    (hf : ∀ i, 0 ≤ f i ∧ f i ≤ 255) (hin : ∀ i, i < 5120 → w.cell? ⟨p, 16 + i, none⟩ = some (.int .u16 (num15 f i))) :
    Calls Try.prog 13 #[.slice (some ⟨g, o, none⟩) 9600 cap, .slice (some ⟨p, 16, none⟩) 5120 5120] w fun e w' => e = .returned (.tuple #[]) ∧ Wr g T cur o 9600 (fun i => .int .u8 (f i)) 9600 w w' := by
  have HW0 : Hid (Wr g T cur o 9600 (fun i => .int .u8 (f i)) (15 * 0) w w) := Wr.zero hg
  have HF := Lib.hid hf; clear hf
  have HG := Lib.hid hg; clear hg
  have HIN := Lib.hid hin; clear hin
  have HL := Lib.hid hlen; clear hlen
  have HB := Lib.hid hgb; clear hgb
  go_enter Try.func13, Try.ntmps13
  go_wp2
  go_loopw [4, 5] (fun vj vi wr => ∃ k : Nat, k ≤ 640 ∧ vj = .int .i64 (15 * k : Nat) ∧ vi = .int .i64 k ∧ Wr g T cur o 9600 (fun i => .int .u8 (f i)) (15 * k) w wr) (fun _ vi _ => 640 - (intOf vi).toNat)
  case atStart => exact ⟨0, by omega, rfl, rfl, HW0.out⟩
  case round =>
    obtain ⟨k, hk, rfl, rfl, hw⟩ := hrel
    by_cases hlt : k < 640
    · have h1 : (8 : Int) * k < 5120 := by omega
      have rd : ∀ c, c < 8 → wr.cell? ⟨p, 16 + (k * 8 + c), none⟩ = some (.int .u16 (num15 f (8 * k + c))) := fun c hc => by
        rw [hw.cell_other HB.out, HIN.out (k * 8 + c) (by omega), Nat.mul_comm]
      obtain ⟨b0, s0⟩ : ∃ x, x = f (15 * k) := ⟨_, rfl⟩
      have p0 : 0 ≤ b0 := by rw [s0]; exact (HF.out _).1
      have q0 : b0 ≤ 255 := by rw [s0]; exact (HF.out _).2
      have HS0 := Lib.hid s0
      obtain ⟨b1, s1⟩ : ∃ x, x = f (15 * k + 1) := ⟨_, rfl⟩
      have p1 : 0 ≤ b1 := by rw [s1]; exact (HF.out _).1
      have q1 : b1 ≤ 255 := by rw [s1]; exact (HF.out _).2
      have HS1 := Lib.hid s1
      obtain ⟨b2, s2⟩ : ∃ x, x = f (15 * k + 2) := ⟨_, rfl⟩
      have p2 : 0 ≤ b2 := by rw [s2]; exact (HF.out _).1
      have q2 : b2 ≤ 255 := by rw [s2]; exact (HF.out _).2
      have HS2 := Lib.hid s2
      obtain ⟨b3, s3⟩ : ∃ x, x = f (15 * k + 3) := ⟨_, rfl⟩
      have p3 : 0 ≤ b3 := by rw [s3]; exact (HF.out _).1
      have q3 : b3 ≤ 255 := by rw [s3]; exact (HF.out _).2
      have HS3 := Lib.hid s3
      obtain ⟨b4, s4⟩ : ∃ x, x = f (15 * k + 4) := ⟨_, rfl⟩
      have p4 : 0 ≤ b4 := by rw [s4]; exact (HF.out _).1
      have q4 : b4 ≤ 255 := by rw [s4]; exact (HF.out _).2
      have HS4 := Lib.hid s4
      obtain ⟨b5, s5⟩ : ∃ x, x = f (15 * k + 5) := ⟨_, rfl⟩
      have p5 : 0 ≤ b5 := by rw [s5]; exact (HF.out _).1
      have q5 : b5 ≤ 255 := by rw [s5]; exact (HF.out _).2
      have HS5 := Lib.hid s5
      obtain ⟨b6, s6⟩ : ∃ x, x = f (15 * k + 6) := ⟨_, rfl⟩
      have p6 : 0 ≤ b6 := by rw [s6]; exact (HF.out _).1
      have q6 : b6 ≤ 255 := by rw [s6]; exact (HF.out _).2
      have HS6 := Lib.hid s6
      obtain ⟨b7, s7⟩ : ∃ x, x = f (15 * k + 7) := ⟨_, rfl⟩
      have p7 : 0 ≤ b7 := by rw [s7]; exact (HF.out _).1
      have q7 : b7 ≤ 255 := by rw [s7]; exact (HF.out _).2
      have HS7 := Lib.hid s7
      obtain ⟨b8, s8⟩ : ∃ x, x = f (15 * k + 8) := ⟨_, rfl⟩
      have p8 : 0 ≤ b8 := by rw [s8]; exact (HF.out _).1
      have q8 : b8 ≤ 255 := by rw [s8]; exact (HF.out _).2
      have HS8 := Lib.hid s8
      obtain ⟨b9, s9⟩ : ∃ x, x = f (15 * k + 9) := ⟨_, rfl⟩
      have p9 : 0 ≤ b9 := by rw [s9]; exact (HF.out _).1
      have q9 : b9 ≤ 255 := by rw [s9]; exact (HF.out _).2
      have HS9 := Lib.hid s9
      obtain ⟨b10, s10⟩ : ∃ x, x = f (15 * k + 10) := ⟨_, rfl⟩
      have p10 : 0 ≤ b10 := by rw [s10]; exact (HF.out _).1
      have q10 : b10 ≤ 255 := by rw [s10]; exact (HF.out _).2
      have HS10 := Lib.hid s10
      obtain ⟨b11, s11⟩ : ∃ x, x = f (15 * k + 11) := ⟨_, rfl⟩
      have p11 : 0 ≤ b11 := by rw [s11]; exact (HF.out _).1
      have q11 : b11 ≤ 255 := by rw [s11]; exact (HF.out _).2
      have HS11 := Lib.hid s11
      obtain ⟨b12, s12⟩ : ∃ x, x = f (15 * k + 12) := ⟨_, rfl⟩
      have p12 : 0 ≤ b12 := by rw [s12]; exact (HF.out _).1
      have q12 : b12 ≤ 255 := by rw [s12]; exact (HF.out _).2
      have HS12 := Lib.hid s12
      obtain ⟨b13, s13⟩ : ∃ x, x = f (15 * k + 13) := ⟨_, rfl⟩
      have p13 : 0 ≤ b13 := by rw [s13]; exact (HF.out _).1
      have q13 : b13 ≤ 255 := by rw [s13]; exact (HF.out _).2
      have HS13 := Lib.hid s13
      obtain ⟨b14, s14⟩ : ∃ x, x = f (15 * k + 14) := ⟨_, rfl⟩
      have p14 : 0 ≤ b14 := by rw [s14]; exact (HF.out _).1
      have q14 : b14 ≤ 255 := by rw [s14]; exact (HF.out _).2
      have HS14 := Lib.hid s14
      obtain ⟨x0, y0⟩ : ∃ x, x = num15 f (8 * k) := ⟨_, rfl⟩
      have c0 : wr.cell? ⟨p, 16 + k * 8, none⟩ = some (.int .u16 x0) := by rw [y0]; exact rd 0 (by omega)
      have l0 : 0 ≤ x0 := by rw [y0]; exact (num15_lo f HF.out _).1
      have r0 : x0 ≤ 32767 := by rw [y0]; exact (num15_lo f HF.out _).2
      have t0 := num15_0 f k
      rw [← y0, ← s0, ← s1] at t0
      have HT0 := Lib.hid t0; clear t0
      obtain ⟨x1, y1⟩ : ∃ x, x = num15 f (8 * k + 1) := ⟨_, rfl⟩
      have c1 : wr.cell? ⟨p, 16 + (k * 8 + 1), none⟩ = some (.int .u16 x1) := by rw [y1]; exact rd 1 (by omega)
      have l1 : 0 ≤ x1 := by rw [y1]; exact (num15_lo f HF.out _).1
      have r1 : x1 ≤ 32767 := by rw [y1]; exact (num15_lo f HF.out _).2
      have t1 := num15_1 f k
      rw [← y1, ← s1, ← s2, ← s3] at t1
      have HT1 := Lib.hid t1; clear t1
      obtain ⟨x2, y2⟩ : ∃ x, x = num15 f (8 * k + 2) := ⟨_, rfl⟩
      have c2 : wr.cell? ⟨p, 16 + (k * 8 + 2), none⟩ = some (.int .u16 x2) := by rw [y2]; exact rd 2 (by omega)
      have l2 : 0 ≤ x2 := by rw [y2]; exact (num15_lo f HF.out _).1
      have r2 : x2 ≤ 32767 := by rw [y2]; exact (num15_lo f HF.out _).2
      have t2 := num15_2 f k
      rw [← y2, ← s3, ← s4, ← s5] at t2
      have HT2 := Lib.hid t2; clear t2
      obtain ⟨x3, y3⟩ : ∃ x, x = num15 f (8 * k + 3) := ⟨_, rfl⟩
      have c3 : wr.cell? ⟨p, 16 + (k * 8 + 3), none⟩ = some (.int .u16 x3) := by rw [y3]; exact rd 3 (by omega)
      have l3 : 0 ≤ x3 := by rw [y3]; exact (num15_lo f HF.out _).1
      have r3 : x3 ≤ 32767 := by rw [y3]; exact (num15_lo f HF.out _).2
      have t3 := num15_3 f k
      rw [← y3, ← s5, ← s6, ← s7] at t3
      have HT3 := Lib.hid t3; clear t3
      obtain ⟨x4, y4⟩ : ∃ x, x = num15 f (8 * k + 4) := ⟨_, rfl⟩
      have c4 : wr.cell? ⟨p, 16 + (k * 8 + 4), none⟩ = some (.int .u16 x4) := by rw [y4]; exact rd 4 (by omega)
      have l4 : 0 ≤ x4 := by rw [y4]; exact (num15_lo f HF.out _).1
      have r4 : x4 ≤ 32767 := by rw [y4]; exact (num15_lo f HF.out _).2
      have t4 := num15_4 f k
      rw [← y4, ← s7, ← s8, ← s9] at t4
      have HT4 := Lib.hid t4; clear t4
      obtain ⟨x5, y5⟩ : ∃ x, x = num15 f (8 * k + 5) := ⟨_, rfl⟩
      have c5 : wr.cell? ⟨p, 16 + (k * 8 + 5), none⟩ = some (.int .u16 x5) := by rw [y5]; exact rd 5 (by omega)
      have l5 : 0 ≤ x5 := by rw [y5]; exact (num15_lo f HF.out _).1
      have r5 : x5 ≤ 32767 := by rw [y5]; exact (num15_lo f HF.out _).2
      have t5 := num15_5 f k
      rw [← y5, ← s9, ← s10, ← s11] at t5
      have HT5 := Lib.hid t5; clear t5
      obtain ⟨x6, y6⟩ : ∃ x, x = num15 f (8 * k + 6) := ⟨_, rfl⟩
      have c6 : wr.cell? ⟨p, 16 + (k * 8 + 6), none⟩ = some (.int .u16 x6) := by rw [y6]; exact rd 6 (by omega)
      have l6 : 0 ≤ x6 := by rw [y6]; exact (num15_lo f HF.out _).1
      have r6 : x6 ≤ 32767 := by rw [y6]; exact (num15_lo f HF.out _).2
      have t6 := num15_6 f k
      rw [← y6, ← s11, ← s12, ← s13] at t6
      have HT6 := Lib.hid t6; clear t6
      obtain ⟨x7, y7⟩ : ∃ x, x = num15 f (8 * k + 7) := ⟨_, rfl⟩
      have c7 : wr.cell? ⟨p, 16 + (k * 8 + 7), none⟩ = some (.int .u16 x7) := by rw [y7]; exact rd 7 (by omega)
      have l7 : 0 ≤ x7 := by rw [y7]; exact (num15_lo f HF.out _).1
      have r7 : x7 ≤ 32767 := by rw [y7]; exact (num15_lo f HF.out _).2
      have t7 := num15_7 f k
      rw [← y7, ← s13, ← s14] at t7
      have HT7 := Lib.hid t7; clear t7
      clear y0
      clear y1
      clear y2
      clear y3
      clear y4
      clear y5
      clear y6
      clear y7
      clear s0
      clear s1
      clear s2
      clear s3
      clear s4
      clear s5
      clear s6
      clear s7
      clear s8
      clear s9
      clear s10
      clear s11
      clear s12
      clear s13
      clear s14
      clear rd
      obtain ⟨o0, d0⟩ := hw.old (o + 15 * k) (by have := HL.out; omega)
      have e0 := hw.frozen (o + 15 * k)
      obtain ⟨o1, d1⟩ := hw.old (o + (15 * k + 1)) (by have := HL.out; omega)
      have e1 := hw.frozen (o + (15 * k + 1))
      obtain ⟨o2, d2⟩ := hw.old (o + (15 * k + 2)) (by have := HL.out; omega)
      have e2 := hw.frozen (o + (15 * k + 2))
      obtain ⟨o3, d3⟩ := hw.old (o + (15 * k + 3)) (by have := HL.out; omega)
      have e3 := hw.frozen (o + (15 * k + 3))
      obtain ⟨o4, d4⟩ := hw.old (o + (15 * k + 4)) (by have := HL.out; omega)
      have e4 := hw.frozen (o + (15 * k + 4))
      obtain ⟨o5, d5⟩ := hw.old (o + (15 * k + 5)) (by have := HL.out; omega)
      have e5 := hw.frozen (o + (15 * k + 5))
      obtain ⟨o6, d6⟩ := hw.old (o + (15 * k + 6)) (by have := HL.out; omega)
      have e6 := hw.frozen (o + (15 * k + 6))
      obtain ⟨o7, d7⟩ := hw.old (o + (15 * k + 7)) (by have := HL.out; omega)
      have e7 := hw.frozen (o + (15 * k + 7))
      obtain ⟨o8, d8⟩ := hw.old (o + (15 * k + 8)) (by have := HL.out; omega)
      have e8 := hw.frozen (o + (15 * k + 8))
      obtain ⟨o9, d9⟩ := hw.old (o + (15 * k + 9)) (by have := HL.out; omega)
      have e9 := hw.frozen (o + (15 * k + 9))
      obtain ⟨o10, d10⟩ := hw.old (o + (15 * k + 10)) (by have := HL.out; omega)
      have e10 := hw.frozen (o + (15 * k + 10))
      obtain ⟨o11, d11⟩ := hw.old (o + (15 * k + 11)) (by have := HL.out; omega)
      have e11 := hw.frozen (o + (15 * k + 11))
      obtain ⟨o12, d12⟩ := hw.old (o + (15 * k + 12)) (by have := HL.out; omega)
      have e12 := hw.frozen (o + (15 * k + 12))
      obtain ⟨o13, d13⟩ := hw.old (o + (15 * k + 13)) (by have := HL.out; omega)
      have e13 := hw.frozen (o + (15 * k + 13))
      obtain ⟨o14, d14⟩ := hw.old (o + (15 * k + 14)) (by have := HL.out; omega)
      have e14 := hw.frozen (o + (15 * k + 14))
      have HW := Lib.hid hw; clear hw
      go_wp2
      refine ⟨⟨k + 1, by omega, congrArg (Value.int .i64) (by omega), congrArg (Value.int .i64) (by omega), ?_⟩, by simp [intOf]; omega⟩
      rw [pk0 l0 r0 p0 q0 p1 q1 HT0.out, HS0.out]
      rw [pk1 l0 r0 l1 r1 p0 q0 p1 q1 p2 q2 p3 q3 HT0.out HT1.out, HS1.out]
      rw [pk2 l1 r1 p1 q1 p2 q2 p3 q3 HT1.out, HS2.out]
      rw [pk3 l1 r1 l2 r2 p1 q1 p2 q2 p3 q3 p4 q4 p5 q5 HT1.out HT2.out, HS3.out]
      rw [pk4 l2 r2 p3 q3 p4 q4 p5 q5 HT2.out, HS4.out]
      rw [pk5 l2 r2 l3 r3 p3 q3 p4 q4 p5 q5 p6 q6 p7 q7 HT2.out HT3.out, HS5.out]
      rw [pk6 l3 r3 p5 q5 p6 q6 p7 q7 HT3.out, HS6.out]
      rw [pk7 l3 r3 l4 r4 p5 q5 p6 q6 p7 q7 p8 q8 p9 q9 HT3.out HT4.out, HS7.out]
      rw [pk8 l4 r4 p7 q7 p8 q8 p9 q9 HT4.out, HS8.out]
      rw [pk9 l4 r4 l5 r5 p7 q7 p8 q8 p9 q9 p10 q10 p11 q11 HT4.out HT5.out, HS9.out]
      rw [pk10 l5 r5 p9 q9 p10 q10 p11 q11 HT5.out, HS10.out]
      rw [pk11 l5 r5 l6 r6 p9 q9 p10 q10 p11 q11 p12 q12 p13 q13 HT5.out HT6.out, HS11.out]
      rw [pk12 l6 r6 p11 q11 p12 q12 p13 q13 HT6.out, HS12.out]
      rw [pk13 l6 r6 l7 r7 p11 q11 p12 q12 p13 q13 p14 q14 HT6.out HT7.out, HS13.out]
      rw [pk14 l7 r7 p13 q13 p14 q14 HT7.out, HS14.out]
      exact (((((((((((((((HW.out.step (by omega) HL.out).step (by omega) HL.out).step (by omega) HL.out).step (by omega) HL.out).step (by omega) HL.out).step (by omega) HL.out).step (by omega) HL.out).step (by omega) HL.out).step (by omega) HL.out).step (by omega) HL.out).step (by omega) HL.out).step (by omega) HL.out).step (by omega) HL.out).step (by omega) HL.out).step (by omega) HL.out)
    · obtain rfl : k = 640 := by omega
      have HW := Lib.hid hw; clear hw
      go_wp2
      go_end0
      exact ⟨rfl, HW.out⟩
end Go.Proofs.Ytjmggahedcbjkaa
