/- impl.privateOf, (*PrivateKey).Public, (*PublicKey).MarshalBinary and impl.Private, walked. -/
import Derived.Test.YtjmggahedcbjkaaPrP
namespace Go.Proofs.Ytjmggahedcbjkaa
set_option linter.unusedVariables false
open Go.RowKit

/-- Behind privateOf: the two keys lie in two new blocks, and all that was there is as it was. -/
def Keys (s : Nat) (f : Nat → Int) (w w' : World) : Prop :=
  ∃ cs ps : List Value, w'.heap[s]? = some (.cells cs.toArray 41 (0, 0)) ∧ IsPriv (s + 1) f cs ∧ w'.heap[s + 1]? = some (.cells ps.toArray 45 (0, 0)) ∧ IsPub (fun j => f (16 + j)) ps ∧ w'.heap.size = s + 2 ∧ Below s w w'

theorem keys_join {s : Nat} {f : Nat → Int} {Z : List Value} {w w1 w2 : World} (hs : s = w.heap.size) (h1 : w1 = w.alloc (.cells Z.toArray 41)) (h : PrivPut s (s + 1) f w1 w2) : Keys s f w w2 := by
  obtain ⟨cs, ps, h2, h3, h4, h5, h6⟩ := h
  have e : w1.heap.size = s + 1 := by rw [h1, World.size_alloc, hs]
  refine ⟨cs, ps, h2, h3, h4, h5, by rw [h6.size, e], ?_⟩
  have b1 : Below s w w1 := by rw [h1]; exact (Below.refl s w).alloc (by omega) _
  exact b1.trans ⟨h6.os, h6.tape, h6.output, by rw [h6.size]; omega, fun k hk => h6.old k (by omega) (by omega)⟩

set_option maxRecDepth 100000 in
set_option maxHeartbeats 1000000 in
theorem privateOf_any (s b off cap : Nat) (f : Nat → Int) (w : World) (hcap : 19888 ≤ cap) (hs : s = w.heap.size) (hf : ∀ i, 0 ≤ f i ∧ f i ≤ 255) (hin : ∀ i, i < 19888 → w.cell? ⟨b, off + i, none⟩ = some (.int .u8 (f i))) :
    Calls Try.prog 6 #[.slice (some ⟨b, off, none⟩) 19888 cap] w fun e w' => e = .returned (.pointer (some ⟨s, 0, none⟩)) ∧ Keys s f w w' := by
  obtain ⟨Z, hZl, hZ⟩ := zero41
  have HZL := Lib.hid hZl; clear hZl
  have HZ := Lib.hid hZ; clear hZ
  have hbw : b < w.heap.size := block_lt_of_cell (hin 0 (by omega))
  have HBS : Hid (b < s) := by show b < s; omega
  clear hbw
  have HQ := Lib.hid hs; clear hs
  have HF := Lib.hid hf; clear hf
  have HIN := Lib.hid hin; clear hin
  go_enter Try.func6, Try.ntmps6
  go_wp2_with (first | (refine build_law rfl 41 rfl Z HZ.out ?_) | (refine box_law rfl 41 (.tmp 4) rfl Z rfl s HQ ?_; intro w1 HA))
  have hS1 : w1.heap[s]? = some (.cells Z.toArray 41 (0, 0)) := by rw [HA.out, HQ.out]; exact heap_alloc_new _ _
  have e1 : w1.heap.size = s + 1 := by rw [HA.out, World.size_alloc, HQ.out]
  refine (privUnpack_any s b off cap (s + 1) f Z w1 (by have := HBS.out; omega) hS1 HZL.out hcap e1.symm HF.out (fun i hi => by rw [HA.out, World.cell?_alloc_lt _ _ _ (by rw [← HQ.out]; exact HBS.out)]; exact HIN.out i hi)).mono ?_
  rintro e w2 ⟨rfl, h2⟩
  have HK := Lib.hid (keys_join HQ.out HA.out h2)
  clear hS1 e1 h2
  go_wp2
  go_ret
  exact ⟨rfl, HK.out⟩

set_option maxRecDepth 100000 in
theorem public_any (s q : Nat) (w : World) (hc : w.cell? ⟨s, 16, none⟩ = some (.pointer (some ⟨q, 0, none⟩))) :
    Calls Try.prog 8 #[.pointer (some ⟨s, 0, none⟩)] w fun e w' => e = .returned (.pointer (some ⟨q, 0, none⟩)) ∧ w = w' := by
  go_enter Try.func8, Try.ntmps8
  go_wp2
  go_ret
  exact ⟨rfl, rfl⟩

/-- Behind a function that makes a row of n bytes: block r is new and holds them, and all that was there is as it was. -/
def Row (r n : Nat) (f : Nat → Int) (w w' : World) : Prop :=
  (∀ i, i < n → w'.cell? ⟨r, i, none⟩ = some (.int .u8 (f i))) ∧ w'.heap.size = r + 1 ∧ Below r w w'

theorem row_join {r n : Nat} {T : TypeId} {f : Nat → Int} {Z : List Value} {w w1 w2 : World} (hr : r = w.heap.size) (h1 : w1 = w.alloc (.cells Z.toArray T)) (h : Wr r T Z 0 n (fun i => .int .u8 (f i)) n w1 w2) : Row r n f w w2 := by
  have b1 : Below r w w1 := by rw [h1]; exact (Below.refl r w).alloc (by omega) _
  refine ⟨fun i hi => by have e := h.get i hi; rw [Nat.zero_add] at e; exact e, ?_, b1.trans (h.below (Nat.le_refl _))⟩
  obtain ⟨cs, hp, _⟩ := h
  rw [hp.size, h1, World.size_alloc, hr]

set_option maxRecDepth 100000 in
set_option maxHeartbeats 1000000 in
theorem marshal_any (q r : Nat) (f : Nat → Int) (ps : List Value) (w : World) (hr : r = w.heap.size) (hq : w.heap[q]? = some (.cells ps.toArray 45 (0, 0))) (hps : IsPub f ps) (hf : ∀ i, 0 ≤ f i ∧ f i ≤ 255) :
    Calls Try.prog 9 #[.pointer (some ⟨q, 0, none⟩)] w fun e w' => e = .returned (.tuple #[.slice (some ⟨r, 0, none⟩) 9616 9616, .nilIface]) ∧ Row r 9616 f w w' := by
  obtain ⟨Z, hZl, hZ⟩ := zero43
  have HZL := Lib.hid hZl; clear hZl
  have HZ := Lib.hid hZ; clear hZ
  have hqw : q < w.heap.size := (Array.getElem?_eq_some_iff.1 hq).1
  have HQW : Hid (q < r) := by show q < r; omega
  clear hqw
  have HR := Lib.hid hr; clear hr
  have HQ := Lib.hid hq; clear hq
  have HP := Lib.hid hps; clear hps
  have HF := Lib.hid hf; clear hf
  go_enter Try.func9, Try.ntmps9
  go_wp2_with (refine alloc_law rfl 43 rfl Z HZ.out r HR ?_; intro w1 HA)
  refine (pubPack_any r 0 9616 q 43 45 f Z ps w1 (by have := HQW.out; omega) (by rw [HA.out, HR.out]; exact heap_alloc_new _ _) (by rw [HZL.out]; omega) (by omega) HF.out (by rw [HA.out, Below.heap_alloc _ _ _ (by rw [← HR.out]; exact HQW.out)]; exact HQ.out) HP.out).mono ?_
  rintro e w2 ⟨rfl, h2⟩
  have HK : Hid (Row r 9616 f w w2) := row_join HR.out HA.out h2
  clear h2
  go_wp2
  go_ret2
  exact ⟨rfl, HK.out⟩

end Go.Proofs.Ytjmggahedcbjkaa
