/- FnExactPrivate holds: for every slice of bytes the law returns true: a private key of 19888 bytes that is read is written again byte for byte, with its public key within; other lengths are not asked for. No condition. -/
/- The frame (from 'IsRow' on, but for the walks) was written by the kit's proof-skeleton.mjs off the print for this function. -/
import Derived.Test.YtjmggahedcbjkaaRows
import Derived.WalkKit
import Derived.ProofKit
import Derived.OpenShut
import Derived.ShutString
import Derived.ChangeOld
import Derived.Below
import Derived.Test.YtjmggahedcbjkaaPrv
import Derived.Test.YtjmggahedcbjkaaEql
namespace Go.Proofs.Ytjmggahedcbjkaa.fnExactPrivate
open Go.ChangeShapes Go.WideShapes Go.ChangeAt Go.RowKit
open Go.ChangeMaps (open_string shut_string)
set_option linter.unusedVariables false

theorem own : ownKnob Try.prog.godebug = none := by kernel_rfl
theorem laidOut : laidOutB Try.prog = true := by kernel_rfl

/-- WHAT THE WALK IS TOLD OF A SLICE OF INTEGERS THAT CAME IN: it is nil; or it leads to a row of 'cap' cells, the numbers 'zs' (the first 'len' are its elements, the rest its spare room), each fitting its kind. -/
def IsRow (k : IntKind) (w : World) (a : Option Addr) (len cap : Nat) (zs : List Int) : Prop :=
  (a = none ∧ len = 0 ∧ cap = 0 ∧ zs = []) ∨
  ∃ x, a = some x ∧ len ≤ cap ∧ cap ≤ maxLen ∧ zs.length = cap ∧ (∀ i, i < zs.length → w.cell? (x.add i) = some (.int k (zs.getD i 0))) ∧ ∀ n ∈ zs, (Lit.int k n).wf = true

/-! ### The walk: the Go text returns true, and writes nothing that was there. -/
set_option maxRecDepth 100000 in
set_option maxHeartbeats 1000000 in
theorem walk_key (b off cap g r : Nat) (f : Nat → Int) (w : World) (hcap : 19888 ≤ cap) (hg : g = w.heap.size + 2) (hr : r = w.heap.size + 3) (hf : ∀ i, 0 ≤ f i ∧ f i ≤ 255) (hin : ∀ i, i < 19888 → w.cell? ⟨b, off + i, none⟩ = some (.int .u8 (f i))) :
    Calls Try.prog 3 #[.slice (some ⟨b, off, none⟩) 19888 cap] w fun e w' => e = .returned (.bool true) ∧ Below w.heap.size w w' := by
  have hbw : b < w.heap.size := block_lt_of_cell (hin 0 (by omega))
  have HBW := Lib.hid hbw; clear hbw
  have HG := Lib.hid hg; clear hg
  have HR := Lib.hid hr; clear hr
  have HF := Lib.hid hf; clear hf
  have HIN := Lib.hid hin; clear hin
  have hc1 : ¬ cap = 16 := by omega
  have hc2 : (9632 : Int) ≤ (cap : Int) := by omega
  go_enter Try.func3, Try.ntmps3
  go_wp2_with fail
  refine (private_any w.heap.size g r b off cap f w hcap rfl HG.out HR.out HF.out HIN.out).mono ?_
  rintro e w1 ⟨rfl, h1⟩
  have HK := Lib.hid h1; clear h1
  have IN1 : Hid (∀ i, i < 19888 → w1.cell? ⟨b, off + i, none⟩ = some (.int .u8 (f i))) := fun i hi => (HK.out.2.2.cell (p := ⟨b, off + i, none⟩) HBW.out).trans (HIN.out i hi)
  go_wp2_with fail
  refine (equal_any g 0 19888 b off cap 19888 f w1 (by omega) (fun i hi => by rw [Nat.zero_add]; exact HK.out.1 i hi) IN1.out).mono ?_
  rintro e w2 ⟨rfl, h2⟩
  have HC2 := Lib.hid h2; clear h2
  go_wp2_with fail
  refine (equal_any r 0 9616 b (off + 16) (cap - 16) 9616 (fun i => f (16 + i)) w2 (by omega) (fun i hi => by rw [HC2.out.cell, Nat.zero_add]; exact HK.out.2.1 i hi) (fun i hi => by rw [HC2.out.cell, Nat.add_assoc]; exact IN1.out (16 + i) (by omega))).mono ?_
  rintro e w3 ⟨rfl, h3⟩
  have HB : Hid (Below w.heap.size w w3) := (HK.out.2.2.trans (HC2.out.below _)).trans (h3.below _)
  clear h3
  go_wp2
  go_ret
  exact ⟨rfl, HB.out⟩

set_option maxRecDepth 100000 in
theorem walk_other (a0 : Option Addr) (len0 cap0 : Nat) (w : World) (h : len0 ≠ 19888) :
    Calls Try.prog 3 #[.slice a0 len0 cap0] w fun e w' => e = .returned (.bool true) ∧ Below w.heap.size w w' := by
  by_cases h1 : 2147483647 < len0
  · have h2 : (2147483647 : Int) < (len0 : Int) := by omega
    clear h h1
    go_enter Try.func3, Try.ntmps3
    go_wp2
    go_ret
    exact ⟨rfl, Below.refl _ _⟩
  · have h2 : (len0 : Int) ≤ 2147483647 := by omega
    have h3 : ((len0 : Int) == 19888) = false := by simp; omega
    clear h h1
    go_enter Try.func3, Try.ntmps3
    go_wp2
    go_ret
    exact ⟨rfl, Below.refl _ _⟩

theorem walk (a0 : Option Addr) (len0 cap0 : Nat) (z0 : List Int) (w : World) (w0 : IsRow .u8 w a0 len0 cap0 z0) :
    Calls Try.prog 3 #[.slice a0 len0 cap0] w fun e w' => e = .returned (.bool true) ∧ Below w.heap.size w w' := by
  by_cases hl : len0 = 19888
  · subst hl
    rcases w0 with ⟨_, h0, _⟩ | ⟨x, rfl, hlc, hm, hz, hcell, hwz⟩
    · cases h0
    · obtain ⟨b, off, spot⟩ := x
      have hc := hcell 0 (by omega)
      have hspot : spot = none := by simpa [Addr.add] using World.cell?_spot hc
      subst hspot
      refine walk_key b off cap0 _ _ (fun i => z0.getD i 0) w hlc rfl rfl (fun i => ?_) (fun i hi => ?_)
      · by_cases hi : i < z0.length
        · have hw := hwz (z0.getD i 0) (by rw [List.getD_eq_getElem?_getD, List.getElem?_eq_getElem hi]; exact List.getElem_mem hi)
          have := bounds_u8 hw
          omega
        · have e : z0.getD i 0 = 0 := by rw [List.getD_eq_getElem?_getD, List.getElem?_eq_none (by omega)]; rfl
          show 0 ≤ z0.getD i 0 ∧ z0.getD i 0 ≤ 255
          rw [e]; omega
      · rw [← add_at]; exact hcell i (by omega)
  · exact walk_other a0 len0 cap0 w hl

/-! ### THE ROW's STEP: WRITTEN OUT: LEAVE IT -/
set_option maxRecDepth 100000 in
theorem lifted (os : Os) (started : os.Started) (H : Type) (enc : TypeId × Value → H) :
    ReturnsInHanded {} Try.checked os 3 .any (Rows.fnExactPrivateSpec.pre6 enc Try.prog Try.f3 Rows.fnExactPrivateRow.domain false) (Rows.fnExactPrivateSpec.post enc Try.prog Try.f3 false true false false) := by
  refine returnsInHanded_of_change (C := Try.checked) own started (by kernel_rfl) Try.func3
    (ChangeSpec.witness6 (enc := enc) (C := Try.checked) false ⟨#[], #[.slice none 0 0], []⟩ 8 (by kernel_rfl) (by kernel_rfl) (by kernel_rfl) (by kernel_rfl)) ?_
  intro W base args ds gs before hval0 hW hcnd _
  have hval : ∀ (j : Nat) t v, Try.f3.params[j]? = some t → args[j]? = some v → Value.okWide Try.prog W .any base t v := hval0
  have hW' := hW
  obtain ⟨p, q, hA0, hV, rfl, hfz, hnd⟩ := hW
  have hA : DataW.TrodAll enc Try.prog W 0 (fun _ => true) true Try.f3.params.toList args.toList ds p := hA0
  rw [Try.params3] at hA hval
  obtain ⟨v0, vs0, d0, ds0, p0, q0, hargs, rfl, rfl, h0, r0⟩ := trodAll_cons hA
  obtain ⟨rfl, rfl, rfl⟩ := trodAll_nil r0
  obtain rfl : args = #[v0] := by cases args; simp_all
  obtain ⟨rfl, rfl⟩ := trodVars_none hV
  obtain ⟨a0, len0, cap0, rfl⟩ := okWide_slice Try.underlying22 (hval 0 22 v0 rfl rfl)
  have k0 := h0
  have lt0 : ∀ x ∈ p0, x.block < W.heap.size := by obtain ⟨m, hm⟩ := k0; exact DataW.trod_lt m _ _ _ hm
  obtain ⟨z0, w0⟩ : ∃ zs, IsRow .u8 W a0 len0 cap0 zs := by
    obtain ⟨fuel, hf⟩ := h0
    rcases open_ints Try.underlying22 Try.underlying5 (by kernel_rfl) hf with ⟨hcs, _⟩ | ⟨x, l, c, zs, hcs, _, hl, hm, hz, _, hcell, hwz⟩
    · simp [Value.cells] at hcs
      obtain ⟨rfl, rfl, rfl⟩ := hcs
      exact ⟨[], .inl ⟨rfl, rfl, rfl, rfl⟩⟩
    · simp [Value.cells] at hcs
      obtain ⟨rfl, rfl, rfl⟩ := hcs
      exact ⟨zs, .inr ⟨_, rfl, hl, hm, by simpa using hz, hcell, hwz⟩⟩
  clear hA0 hval0
  refine (walk a0 len0 cap0 z0 W w0).mono fun e W' ⟨he, bel⟩ => ?_
  subst he
  exact ⟨_, rfl, _, _, _, [], _, [], hW', trodAll_mk1 (shut_bool Try.underlying4 _), (trodAll_cons_mk (Below.trod laidOut (by kernel_rfl) (of_decide_eq_true (by kernel_rfl)) k0 bel lt0) trodAll_mk0), rfl, bel.frame _, fun h => by cases h⟩

theorem over : Rows.fnExactPrivateRow.holds Try.pinned (OpenSpec.ofChange Rows.fnExactPrivateSpec) :=
  OpenClaim.holds_of_wide 3 Try.f3 rfl rfl rfl rfl rfl rfl rfl ⟨rfl, rfl, rfl, rfl, rfl⟩ rfl rfl rfl rfl rfl (by kernel_rfl) Try.func3 (by kernel_rfl)
    (of_decide_eq_true (by kernel_rfl)) (by unfold Func.isWrapper; first | (rw [if_pos (by decide +kernel)]; kernel_rfl) | (rw [if_neg (by decide +kernel)]; exact ⟨rfl, rfl⟩))
    (fun os started H enc _ => lifted os started H enc)

/-- ████ THE STATEMENT ████ -/
theorem proved : Rows.FnExactPrivateSaid := over
#print axioms proved
end Go.Proofs.Ytjmggahedcbjkaa.fnExactPrivate
