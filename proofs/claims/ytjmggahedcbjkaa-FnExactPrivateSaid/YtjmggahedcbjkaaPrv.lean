/- impl.Private, walked: it hands back the very bytes of a private key, and those of its public one, in two new rows. -/
import Derived.Test.YtjmggahedcbjkaaImp
namespace Go.Proofs.Ytjmggahedcbjkaa
set_option linter.unusedVariables false
open Go.RowKit

theorem i5 : Try.prog.info? 5 = some Try.t5 := by kernel_rfl
theorem z5_zero : Try.t5.zero = some (.int .u8 0) := by kernel_rfl
theorem z5_size : Try.t5.size = 1 := by kernel_rfl
theorem z5_bytes : Try.t5.bytes = 1 := by kernel_rfl

/-- Behind impl.Private: the private key's bytes lie in block g, the public one's in block r, and all that was there is as it was. -/
def Both (s g r : Nat) (f : Nat → Int) (w w' : World) : Prop :=
  (∀ i, i < 19888 → w'.cell? ⟨g, i, none⟩ = some (.int .u8 (f i))) ∧ (∀ i, i < 9616 → w'.cell? ⟨r, i, none⟩ = some (.int .u8 (f (16 + i)))) ∧ Below s w w'

set_option maxRecDepth 100000 in
set_option maxHeartbeats 1000000 in
theorem private_any (s g r b off cap : Nat) (f : Nat → Int) (w : World) (hcap : 19888 ≤ cap) (hs : s = w.heap.size) (hg : g = s + 2) (hr : r = s + 3) (hf : ∀ i, 0 ≤ f i ∧ f i ≤ 255) (hin : ∀ i, i < 19888 → w.cell? ⟨b, off + i, none⟩ = some (.int .u8 (f i))) :
    Calls Try.prog 4 #[.slice (some ⟨b, off, none⟩) 19888 cap] w fun e w' => e = .returned (.tuple #[.slice (some ⟨g, 0, none⟩) 19888 19888, .slice (some ⟨r, 0, none⟩) 9616 9616]) ∧ Both s g r f w w' := by
  have HS := Lib.hid hs; clear hs
  have HG := Lib.hid hg; clear hg
  have HR := Lib.hid hr; clear hr
  have HF := Lib.hid hf; clear hf
  have HIN := Lib.hid hin; clear hin
  go_enter Try.func4, Try.ntmps4
  go_wp2_with fail
  refine (privateOf_any s b off cap f w hcap HS.out HF.out HIN.out).mono ?_
  rintro e w1 ⟨rfl, h1⟩
  obtain ⟨cs, ps, k1, k2, k3, k4, k5, k6⟩ := h1
  have K1 := Lib.hid k1; clear k1
  have K2 := Lib.hid k2; clear k2
  have K3 := Lib.hid k3; clear k3
  have K4 := Lib.hid k4; clear k4
  have K5 := Lib.hid k5; clear k5
  have K6 := Lib.hid k6; clear k6
  have HQ : Hid (g = w1.heap.size) := HG.out.trans K5.out.symm
  go_wp2_with (refine make_law rfl 22 5 19888 rfl Try.t5 (.int .u8 0) Try.underlying22 i5 z5_zero z5_size z5_bytes (by omega) g HQ ?_; intro Z w2 hZl HA; have HZL := Lib.hid hZl; clear hZl)
  have S2 : w2.heap[s]? = some (.cells cs.toArray 41 (0, 0)) := by rw [HA.out, Below.heap_alloc _ _ _ (by rw [K5.out]; omega)]; exact K1.out
  have Q2 : w2.heap[s + 1]? = some (.cells ps.toArray 45 (0, 0)) := by rw [HA.out, Below.heap_alloc _ _ _ (by rw [K5.out]; omega)]; exact K3.out
  have G2 : w2.heap[g]? = some (.cells Z.toArray 5 (0, 0)) := by rw [HA.out, HQ.out]; exact heap_alloc_new _ _
  have e2 : w2.heap.size = s + 3 := by rw [HA.out, World.size_alloc, K5.out]
  have gs : s < g ∧ s + 1 < g ∧ g < s + 3 := by have := HG.out; omega
  have B2 : Below s w w2 := by rw [HA.out]; exact K6.out.alloc (by rw [K5.out]; omega) _
  refine (privPack_any s (s + 1) g 5 f Z cs ps w2 (by omega) (by omega) G2 HZL.out S2 K2.out Q2 K4.out HF.out).mono ?_
  rintro e w3 ⟨rfl, h3⟩
  obtain ⟨c3, p3, h3l, h3v, h3o⟩ := h3
  have Q3 : w3.heap[s + 1]? = some (.cells ps.toArray 45 (0, 0)) := (p3.other _ (by omega)).trans Q2
  have d3 : w3.cell? ⟨s, 16, none⟩ = some (.pointer (some ⟨s + 1, 0, none⟩)) := by rw [cell_of_row w3 s 16 _ _ _ ((p3.other s (by omega)).trans S2)]; have := K2.out.2.2.1; simpa using this
  have e3 : r = w3.heap.size := by rw [p3.size, e2]; exact HR.out
  have B3 : Below s w w3 := B2.trans (p3.below (by omega))
  have V3 : ∀ i, i < 19888 → w3.cell? ⟨g, i, none⟩ = some (.int .u8 (f i)) := fun i hi => by rw [p3.cell, ← h3v i hi, Nat.zero_add]
  have gr : g < r ∧ s ≤ r := by have := HR.out; omega
  have HD3 := Lib.hid d3
  have HQ3 := Lib.hid Q3
  have HE3 := Lib.hid e3
  have HB3 := Lib.hid B3
  have HV3 := Lib.hid V3
  have HGR := Lib.hid gr
  clear S2 Q2 G2 e2 gs B2 p3 h3l h3v h3o Q3 d3 e3 B3 V3 gr
  go_wp2_with fail
  refine (public_any s (s + 1) w3 HD3.out).mono ?_
  rintro e w' ⟨rfl, rfl⟩
  go_wp2_with fail
  refine (marshal_any (s + 1) r (fun j => f (16 + j)) ps w3 HE3.out HQ3.out K4.out (fun i => HF.out _)).mono ?_
  rintro e w4 ⟨rfl, h4⟩
  have HK : Hid (Both s g r f w w4) := ⟨fun i hi => (h4.2.2.cell (p := ⟨g, i, none⟩) HGR.out.1).trans (HV3.out i hi), h4.1, HB3.out.trans (h4.2.2.mono HGR.out.2)⟩
  clear h4
  go_wp2
  go_ret2
  exact ⟨rfl, HK.out⟩

end Go.Proofs.Ytjmggahedcbjkaa
