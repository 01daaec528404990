/- (*PublicKey).Unpack and (*PublicKey).Pack, walked. -/
import Derived.Test.YtjmggahedcbjkaaUnp
import Derived.Test.YtjmggahedcbjkaaPck
import Derived.StillTailTactics
namespace Go.Proofs.Ytjmggahedcbjkaa
set_option linter.unusedVariables false
open Go.RowKit

/-- The cells of a public key whose 9616 bytes are f. -/
def IsPub (f : Nat → Int) (cs : List Value) : Prop :=
  cs.length = 5136 ∧ (∀ i, i < 16 → cs[i]? = some (.int .u8 (f i))) ∧ ∀ i, i < 5120 → cs[16 + i]? = some (.int .u16 (num15 (fun j => f (16 + j)) i))

/-- Block g holds that key, and no other block has turned. -/
def PubPut (g : Nat) (t : TypeId) (f : Nat → Int) (w w' : World) : Prop := ∃ cs, Put g t cs w w' ∧ IsPub f cs

theorem pub_join {g : Nat} {T : TypeId} {f : Nat → Int} {cur cs3 : List Value} {w w1 w3 w4 : World} (h1 : Put g T cur w w1) (h3 : Put g T cs3 w1 w3) (hl : cs3.length = 5136)
    (hv : ∀ i, i < 16 → cs3[0 + i]? = some (.int .u8 (f i))) (h4 : Wr g T cs3 16 5120 (fun i => .int .u16 (num15 (fun j => f (16 + j)) i)) 5120 w3 w4) : PubPut g T f w w4 := by
  obtain ⟨cs, hp, hc, hn, ho⟩ := h4
  refine ⟨cs, (h1.trans h3).trans hp, hc.trans hl, fun i hi => ?_, hn⟩
  rw [ho i (Or.inl hi), ← hv i hi, Nat.zero_add]

set_option maxRecDepth 100000 in
set_option maxHeartbeats 1000000 in
theorem pubUnpack_any (g b off cap : Nat) (T : TypeId) (f : Nat → Int) (cur : List Value) (w : World) (hgb : b ≠ g) (hg : w.heap[g]? = some (.cells cur.toArray T (0, 0))) (hlen : cur.length = 5136) (hcap : 9616 ≤ cap)
    (hf : ∀ i, 0 ≤ f i ∧ f i ≤ 255) (hin : ∀ i, i < 9616 → w.cell? ⟨b, off + i, none⟩ = some (.int .u8 (f i))) :
    Calls Try.prog 12 #[.pointer (some ⟨g, 0, none⟩), .slice (some ⟨b, off, none⟩) 9616 cap] w fun e w' => e = .returned (.tuple #[]) ∧ PubPut g T f w w' := by
  have HF := Lib.hid hf; clear hf
  have HG := Lib.hid hg; clear hg
  have HIN := Lib.hid hin; clear hin
  have HL := Lib.hid hlen; clear hlen
  have HB := Lib.hid hgb; clear hgb
  have hc1 : ¬ cap = 16 := by omega
  have hc0 : ¬ cap = 0 := by omega
  have hc2 : (16 : Int) ≤ (cap : Int) := by omega
  go_enter Try.func12, Try.ntmps12
  go_wp2
  go_still_tail 6, (by kernel_rfl)
  change wpList _ _ _ _ _ w.drew
  obtain ⟨w1, hw1⟩ : ∃ x, x = w.drew := ⟨_, rfl⟩
  rw [← hw1]
  have HP1 : Hid (Put g T cur w w1) := by rw [hw1]; exact (Put.refl HG.out).drew
  clear hw1
  refine copy_law rfl (.tmp 11) (.tmp 13) 22 22 rfl 5 Try.underlying22 (by kernel_rfl) g 0 16 16 b off 16 cap rfl rfl cur T 16 (fun i => .int .u8 (f i)) HP1.out.row rfl (fun j hj => by rw [HP1.out.cell_other HB.out]; exact HIN.out j (by omega)) (by rw [HL.out]; omega) (fun _ => rfl) ?_
  intro w2 HW2
  go_wp2
  go_still_tail 6, (by kernel_rfl)
  change wpList _ _ _ _ _ w2.drew
  obtain ⟨w3, hw3⟩ : ∃ x, x = w2.drew := ⟨_, rfl⟩
  rw [← hw3]
  have HW3 : Hid (Wr g T cur 0 16 (fun i => .int .u8 (f i)) 16 w1 w3) := by rw [hw3]; exact HW2.out.drew
  clear hw3 HW2
  go_wp2_with fail
  obtain ⟨cs3, hp3, hl3, hv3, _⟩ := HW3.out
  refine (unpack_any g b (off + 16) (cap - 16) T (fun j => f (16 + j)) cs3 w3 HB.out hp3.row (hl3.trans HL.out) (fun i => HF.out _) (fun i hi => by rw [hp3.cell_other HB.out, HP1.out.cell_other HB.out, Nat.add_assoc]; exact HIN.out (16 + i) (by omega))).mono ?_
  rintro e w4 ⟨rfl, hw4⟩
  have HW4 := Lib.hid hw4; clear hw4
  have HP3 := Lib.hid hp3; clear hp3
  have HL3 := Lib.hid hl3; clear hl3
  have HV3 := Lib.hid hv3; clear hv3
  go_wp2
  go_end0
  exact ⟨rfl, pub_join HP1.out HP3.out (HL3.out.trans HL.out) HV3.out HW4.out⟩
/-- Two stretches that lie side by side, filled one behind the other, are one. -/
theorem wr_join {g : Nat} {T : TypeId} {cur cs : List Value} {o a b : Nat} {h : Nat → Value} {w w1 w2 : World} (h1 : Put g T cs w w1) (hl : cs.length = cur.length)
    (hv : ∀ i, i < a → cs[o + i]? = some (h i)) (ho : ∀ i, i < o ∨ o + a ≤ i → cs[i]? = cur[i]?) (h2 : Wr g T cs (o + a) b (fun i => h (a + i)) b w1 w2) : Wr g T cur o (a + b) h (a + b) w w2 := by
  obtain ⟨ds, hp, hc, hn, hr⟩ := h2
  refine ⟨ds, h1.trans hp, hc.trans hl, fun i hi => ?_, fun i hi => ?_⟩
  · by_cases hia : i < a
    · rw [hr _ (Or.inl (by omega)), hv i hia]
    · have e : ds[o + a + (i - a)]? = some (h (a + (i - a))) := hn (i - a) (by omega)
      rw [show o + a + (i - a) = o + i by omega, show a + (i - a) = i by omega] at e
      exact e
  · rw [hr i (by omega)]
    exact ho i (by omega)

set_option maxRecDepth 100000 in
set_option maxHeartbeats 1000000 in
theorem pubPack_any (g o cap p : Nat) (T Tp : TypeId) (f : Nat → Int) (cur pub : List Value) (w : World) (hgb : p ≠ g) (hg : w.heap[g]? = some (.cells cur.toArray T (0, 0))) (hlen : o + 9616 ≤ cur.length) (hcap : 9616 ≤ cap)
    (hf : ∀ i, 0 ≤ f i ∧ f i ≤ 255) (hpk : w.heap[p]? = some (.cells pub.toArray Tp (0, 0))) (hpub : IsPub f pub) :
    Calls Try.prog 11 #[.pointer (some ⟨p, 0, none⟩), .slice (some ⟨g, o, none⟩) 9616 cap] w fun e w' => e = .returned (.tuple #[]) ∧ Wr g T cur o (16 + 9600) (fun i => .int .u8 (f i)) (16 + 9600) w w' := by
  have HF := Lib.hid hf; clear hf
  have HG := Lib.hid hg; clear hg
  have HL := Lib.hid hlen; clear hlen
  have HB := Lib.hid hgb; clear hgb
  have HPK := Lib.hid hpk; clear hpk
  have HPU := Lib.hid hpub; clear hpub
  have hc1 : ¬ cap = 16 := by omega
  have hc0 : ¬ cap = 0 := by omega
  have hc2 : (16 : Int) ≤ (cap : Int) := by omega
  go_enter Try.func11, Try.ntmps11
  go_wp2
  go_still_tail 6, (by kernel_rfl)
  change wpList _ _ _ _ _ w.drew
  obtain ⟨w1, hw1⟩ : ∃ x, x = w.drew := ⟨_, rfl⟩
  rw [← hw1]
  have HP1 : Hid (Put g T cur w w1) := by rw [hw1]; exact (Put.refl HG.out).drew
  clear hw1
  refine copy_law rfl (.tmp 9) (.tmp 13) 22 22 rfl 5 Try.underlying22 (by kernel_rfl) g o 16 cap p 0 16 16 rfl rfl cur T 16 (fun i => .int .u8 (f i)) HP1.out.row rfl (fun j hj => by rw [HP1.out.cell_other HB.out, cell_of_row w p _ _ _ _ HPK.out, Nat.zero_add, ← HPU.out.2.1 j hj]; simp) (by have := HL.out; omega) (fun _ => rfl) ?_
  intro w2 HW2
  go_wp2
  go_still_tail 6, (by kernel_rfl)
  change wpList _ _ _ _ _ w2.drew
  obtain ⟨w3, hw3⟩ : ∃ x, x = w2.drew := ⟨_, rfl⟩
  rw [← hw3]
  have HW3 : Hid (Wr g T cur o 16 (fun i => .int .u8 (f i)) 16 w1 w3) := by rw [hw3]; exact HW2.out.drew
  clear hw3 HW2
  go_wp2_with fail
  obtain ⟨cs3, hp3, hl3, hv3, ho3⟩ := HW3.out
  refine (pack_any g (o + 16) (cap - 16) p T (fun j => f (16 + j)) cs3 w3 HB.out hp3.row (by have := HL.out; omega) (fun i => HF.out _) (fun i hi => by rw [hp3.cell_other HB.out, HP1.out.cell_other HB.out, cell_of_row w p _ _ _ _ HPK.out, ← HPU.out.2.2 i hi]; simp)).mono ?_
  rintro e w4 ⟨rfl, hw4⟩
  have HR := Lib.hid (wr_join (h := fun i => .int .u8 (f i)) (HP1.out.trans hp3) hl3 hv3 ho3 hw4)
  clear hw4 hp3 hl3 hv3 ho3
  go_wp2
  go_end0
  exact ⟨rfl, HR.out⟩

end Go.Proofs.Ytjmggahedcbjkaa
