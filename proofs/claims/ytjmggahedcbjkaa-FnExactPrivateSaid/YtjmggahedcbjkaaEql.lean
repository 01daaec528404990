/- slices.Equal at bytes, walked: two rows of n equal bytes are equal. -/
import Derived.Test.YtjmggahedcbjkaaRows
import Derived.Test.YtjmggahedcbjkaaMem
import Derived.WalkKit
import Derived.WalkSpells
import Derived.WalkLawsBesides
import Derived.Deep.QuietTactic
import Derived.BigQuiet
namespace Go.Proofs.Ytjmggahedcbjkaa
set_option linter.unusedVariables false
open Go.RowKit

/-- Draws alone lie between w and w'. -/
structure Calm (w w' : World) : Prop where
  heap : w'.heap = w.heap
  os : w'.os = w.os
  tape : w'.tape = w.tape
  output : w'.output = w.output

theorem Calm.refl (w : World) : Calm w w := ⟨rfl, rfl, rfl, rfl⟩
theorem Calm.drewN {w w' : World} (h : Calm w w') (n : Nat) : Calm w (w'.drewN n) := ⟨h.heap, h.os, h.tape, h.output⟩
theorem Calm.cell {w w' : World} (h : Calm w w') (a : Addr) : w'.cell? a = w.cell? a := by unfold World.cell?; rw [h.heap]
theorem Calm.below {w w' : World} (h : Calm w w') (B : Nat) : Below B w w' := ⟨h.os, h.tape, h.output, by rw [h.heap]; exact Nat.le_refl _, fun k _ => by rw [h.heap]⟩

set_option maxRecDepth 100000 in
set_option maxHeartbeats 1000000 in
theorem equal_any (a ao ac b bo bc n : Nat) (h : Nat → Int) (w : World) (hn : n ≤ 1000000) (ha : ∀ i, i < n → w.cell? ⟨a, ao + i, none⟩ = some (.int .u8 (h i))) (hb : ∀ i, i < n → w.cell? ⟨b, bo + i, none⟩ = some (.int .u8 (h i))) :
    Calls Try.prog 5 #[.slice (some ⟨a, ao, none⟩) n ac, .slice (some ⟨b, bo, none⟩) n bc] w fun e w' => e = .returned (.bool true) ∧ Calm w w' := by
  have HA := Lib.hid ha; clear ha
  have HB := Lib.hid hb; clear hb
  have hn' : (n : Int) ≤ 1000000 := by omega
  go_enter Try.func5, Try.ntmps5
  go_wp2
  go_loopw [13] (fun v wr => ∃ k : Nat, k ≤ n ∧ v = .int .i64 k ∧ Calm w wr) (fun v _ => n - (intOf v).toNat)
  case atStart => exact ⟨0, by omega, rfl, Calm.refl _⟩
  case round =>
    obtain ⟨k, hk, rfl, hc⟩ := hrel
    by_cases hlt : k < n
    · have h1 : (k : Int) < n := by omega
      obtain ⟨x, hx⟩ : ∃ x, x = h k := ⟨_, rfl⟩
      have c0 : wr.cell? ⟨a, ao + k, none⟩ = some (.int .u8 x) := by rw [hc.cell, hx]; exact HA.out k hlt
      have c1 : wr.cell? ⟨b, bo + k, none⟩ = some (.int .u8 x) := by rw [hc.cell, hx]; exact HB.out k hlt
      clear hx
      have HC := Lib.hid hc; clear hc
      go_wp2
      go_quiet (fail)
      go_wp2
      exact ⟨⟨k + 1, by omega, congrArg (Value.int .i64) (by omega), HC.out.drewN _⟩, by simp [intOf]; omega⟩
    · obtain rfl : k = n := by omega
      have HC := Lib.hid hc; clear hc
      go_wp2
      go_ret
      exact ⟨rfl, HC.out⟩

end Go.Proofs.Ytjmggahedcbjkaa
