/- (*PrivateKey).Pack, walked: out of the cells of a private key it writes the 19888 bytes of which that key was read. -/
import Derived.Test.YtjmggahedcbjkaaPrU
namespace Go.Proofs.Ytjmggahedcbjkaa
set_option linter.unusedVariables false
open Go.RowKit

set_option maxRecDepth 100000 in
set_option maxHeartbeats 1000000 in
theorem privPack_any (s q g : Nat) (T : TypeId) (f : Nat → Int) (cur cs ps : List Value) (w : World) (hgs : s ≠ g) (hgq : q ≠ g) (hg : w.heap[g]? = some (.cells cur.toArray T (0, 0))) (hlen : cur.length = 19888)
    (hs : w.heap[s]? = some (.cells cs.toArray 41 (0, 0))) (hcs : IsPriv q f cs) (hq : w.heap[q]? = some (.cells ps.toArray 45 (0, 0))) (hps : IsPub (fun j => f (16 + j)) ps) (hf : ∀ i, 0 ≤ f i ∧ f i ≤ 255) :
    Calls Try.prog 7 #[.pointer (some ⟨s, 0, none⟩), .slice (some ⟨g, 0, none⟩) 19888 19888] w fun e w' => e = .returned (.tuple #[]) ∧ Wr g T cur 0 19888 (fun i => .int .u8 (f i)) 19888 w w' := by
  have HF := Lib.hid hf; clear hf
  have HG := Lib.hid hg; clear hg
  have HL := Lib.hid hlen; clear hlen
  have HGS := Lib.hid hgs; clear hgs
  have HGQ := Lib.hid hgq; clear hgq
  have HS := Lib.hid hs; clear hs
  have HQ := Lib.hid hq; clear hq
  have HC := Lib.hid hcs; clear hcs
  have HP := Lib.hid hps; clear hps
  have sc : Hid (∀ i, w.cell? ⟨s, i, none⟩ = cs[i]?) := fun i => by rw [cell_of_row w s i _ _ _ HS.out]; simp
  go_enter Try.func7, Try.ntmps7
  go_wp2
  go_still_tail 6, (by kernel_rfl)
  change wpList _ _ _ _ _ w.drew
  obtain ⟨w1, hw1⟩ : ∃ x, x = w.drew := ⟨_, rfl⟩
  rw [← hw1]
  have HP1 : Hid (Put g T cur w w1) := by rw [hw1]; exact (Put.refl HG.out).drew
  clear hw1
  refine copy_law rfl (.tmp 11) (.tmp 15) 22 22 rfl 5 Try.underlying22 (by kernel_rfl) g 0 16 19888 s 0 16 16 rfl rfl cur T 16 (fun i => .int .u8 (f i)) HP1.out.row rfl (fun j hj => by rw [HP1.out.cell_other HGS.out, sc.out, Nat.zero_add]; exact HC.out.2.1 j hj) (by rw [HL.out]; omega) (fun _ => rfl) ?_
  intro w2 HW2
  go_wp2
  have d6 : w2.cell? ⟨s, 16, none⟩ = some (.pointer (some ⟨q, 0, none⟩)) := by rw [HW2.out.cell_other HGS.out, HP1.out.cell_other HGS.out, sc.out]; exact HC.out.2.2.1
  go_still_tail 6, (by kernel_rfl)
  change wpList _ _ _ _ _ w2.drew
  obtain ⟨w3, hw3⟩ : ∃ x, x = w2.drew := ⟨_, rfl⟩
  rw [← hw3]
  obtain ⟨c3, hp3, hl3, hv3, ho3⟩ : Wr g T cur 0 16 (fun i => .int .u8 (f i)) 16 w1 w3 := by rw [hw3]; exact HW2.out.drew
  clear hw3 HW2 d6
  go_wp2_with fail
  refine (pubPack_any g 16 19872 q T 45 (fun j => f (16 + j)) c3 ps w3 HGQ.out hp3.row (by rw [hl3, HL.out]; omega) (by omega) (fun i => HF.out _) ((hp3.other q HGQ.out).trans ((HP1.out.other q HGQ.out).trans HQ.out)) HP.out).mono ?_
  rintro e w4 ⟨rfl, hw4⟩
  have HW4 : Hid (Wr g T cur 0 9632 (fun i => .int .u8 (f i)) 9632 w w4) := wr_join (a := 16) (b := 16 + 9600) (h := fun i => .int .u8 (f i)) (HP1.out.trans hp3) hl3 hv3 ho3 hw4
  clear hw4 hp3 hl3 hv3 ho3
  obtain ⟨c4, hp4, hl4, hv4, ho4⟩ := HW4.out
  have HP4 := Lib.hid hp4
  have HL4 : Hid (c4.length = 19888) := hl4.trans HL.out
  have HLL4 := Lib.hid hl4
  have HV4 := Lib.hid hv4
  have HO4 := Lib.hid ho4
  have HW0 : Hid (Wr g T c4 9632 10240 (fun i => .int .u8 (f (9632 + i))) (2 * 0) w4 w4) := Wr.zero hp4.row
  clear hp4 hl4 hv4 ho4 HW4
  go_wp2
  go_loopw [4, 28] (fun vj vi wr => ∃ k : Nat, k ≤ 5120 ∧ vj = .int .i64 (2 * k : Nat) ∧ vi = .int .i64 k ∧ Wr g T c4 9632 10240 (fun i => .int .u8 (f (9632 + i))) (2 * k) w4 wr) (fun _ vi _ => 5120 - (intOf vi).toNat)
  case atStart => exact ⟨0, by omega, rfl, rfl, HW0.out⟩
  case round =>
    obtain ⟨k, hk, rfl, rfl, hw⟩ := hrel
    by_cases hlt : k < 5120
    · have h1 : (k : Int) < 5120 := by omega
      obtain ⟨x, hx⟩ : ∃ x, x = num16 f k := ⟨_, rfl⟩
      have c0 : wr.cell? ⟨s, 17 + k, none⟩ = some (.int .u16 x) := by rw [hw.cell_other HGS.out, HP4.out.cell_other HGS.out, sc.out, hx]; exact HC.out.2.2.2.1 k hlt
      have p0 : 0 ≤ x := by rw [hx, num16]; have := HF.out (9632 + 2 * k); have := HF.out (9632 + 2 * k + 1); omega
      have p1 : x ≤ 65535 := by rw [hx, num16]; have := HF.out (9632 + 2 * k); have := HF.out (9632 + 2 * k + 1); omega
      have HX := Lib.hid hx; clear hx
      obtain ⟨o0, d0⟩ := hw.old (9632 + 2 * k) (by rw [HL4.out]; omega)
      have e0 := hw.frozen (9632 + 2 * k)
      obtain ⟨o1, d1⟩ := hw.old (9632 + (2 * k + 1)) (by rw [HL4.out]; omega)
      have e1 := hw.frozen (9632 + (2 * k + 1))
      have HW := Lib.hid hw; clear hw
      go_wp2
      have v0 : x % 256 = f (9632 + 2 * k) := by rw [HX.out, num16]; have := HF.out (9632 + 2 * k); omega
      have v1 : x / 256 = f (9632 + (2 * k + 1)) := by rw [HX.out, num16, ← Nat.add_assoc]; have := HF.out (9632 + 2 * k); omega
      rw [v0, v1]
      exact ⟨⟨k + 1, by omega, congrArg (Value.int .i64) (by omega), congrArg (Value.int .i64) (by omega), (HW.out.step (by omega) (by rw [HL4.out]; omega)).step (by omega) (by rw [HL4.out]; omega)⟩, by simp [intOf]; omega⟩
    · obtain rfl : k = 5120 := by omega
      have HW := Lib.hid hw; clear hw
      go_wp2
      go_still_tail 6, (by kernel_rfl)
      change wpList _ _ _ _ _ wr.drew
      obtain ⟨w9, hw9⟩ : ∃ x, x = wr.drew := ⟨_, rfl⟩
      rw [← hw9]
      have hW9 : Wr g T c4 9632 10240 (fun i => .int .u8 (f (9632 + i))) 10240 w4 w9 := by rw [hw9]; exact HW.out.drew
      have hw9' : Wr g T cur 0 19872 (fun i => .int .u8 (f i)) 19872 w w9 := wr_join (a := 9632) (b := 10240) (h := fun i => .int .u8 (f i)) HP4.out HLL4.out HV4.out HO4.out hW9
      obtain ⟨c9, hp9, hl9, hv9, ho9⟩ := hw9'
      have HP9 := Lib.hid hp9
      have HL9 := Lib.hid hl9
      have HV9 := Lib.hid hv9
      have HO9 := Lib.hid ho9
      clear hw9 hW9 HW hp9 hl9 hv9 ho9
      refine copy_law rfl (.tmp 60) (.tmp 64) 22 22 rfl 5 Try.underlying22 (by kernel_rfl) g 19872 16 16 s 5137 16 16 rfl rfl c9 T 16 (fun i => .int .u8 (f (19872 + i))) HP9.out.row rfl (fun j hj => by rw [HP9.out.cell_other HGS.out, sc.out]; exact HC.out.2.2.2.2 j hj) (by rw [HL9.out, HL.out]; omega) (fun _ => rfl) ?_
      intro w10 HW10
      go_wp2
      go_end0
      exact ⟨rfl, wr_join (a := 19872) (b := 16) (h := fun i => .int .u8 (f i)) HP9.out HL9.out HV9.out HO9.out HW10.out⟩

end Go.Proofs.Ytjmggahedcbjkaa
