/- (*PrivateKey).Unpack, walked. -/
import Derived.Test.YtjmggahedcbjkaaPub
import Derived.Test.YtjmggahedcbjkaaMak
namespace Go.Proofs.Ytjmggahedcbjkaa
set_option linter.unusedVariables false
open Go.RowKit

/-- The i-th number of 16 bits of the bytes f, from byte 9632 on. -/
def num16 (f : Nat → Int) (i : Nat) : Int := f (9632 + 2 * i) + f (9632 + 2 * i + 1) * 256

/-- The cells of a private key whose 19888 bytes are f; its public key lies in block q. -/
def IsPriv (q : Nat) (f : Nat → Int) (cs : List Value) : Prop :=
  cs.length = 5153 ∧ (∀ i, i < 16 → cs[i]? = some (.int .u8 (f i))) ∧ cs[16]? = some (.pointer (some ⟨q, 0, none⟩)) ∧ (∀ i, i < 5120 → cs[17 + i]? = some (.int .u16 (num16 f i))) ∧
    ∀ i, i < 16 → cs[5137 + i]? = some (.int .u8 (f (19872 + i)))

/-- One new block; of the elder ones s alone may have turned. -/
structure Two (s : Nat) (w w' : World) : Prop where
  size : w'.heap.size = w.heap.size + 1
  os : w'.os = w.os
  tape : w'.tape = w.tape
  output : w'.output = w.output
  old : ∀ k, k < w.heap.size → k ≠ s → w'.heap[k]? = w.heap[k]?

theorem Two.made {s : Nat} {t : TypeId} {cs : List Value} {w w1 : World} (h : Put s t cs w w1) (o : Obj) : Two s w (w1.alloc o) :=
  ⟨by rw [World.size_alloc, h.size], h.os, h.tape, h.output, fun k hk hks => by rw [Below.heap_alloc w1 o k (by rw [h.size]; exact hk)]; exact h.other k hks⟩

theorem Two.put {s g : Nat} {t : TypeId} {cs : List Value} {w w1 w2 : World} (h : Two s w w1) (p : Put g t cs w1 w2) (hg : g = s ∨ w.heap.size ≤ g) : Two s w w2 :=
  ⟨p.size.trans h.size, p.os.trans h.os, p.tape.trans h.tape, p.output.trans h.output, fun k hk hks => (p.other k (by omega)).trans (h.old k hk hks)⟩

theorem Two.cell {s : Nat} {w w1 : World} (h : Two s w w1) {b i : Nat} (hb : b < w.heap.size) (hbs : b ≠ s) : w1.cell? ⟨b, i, none⟩ = w.cell? ⟨b, i, none⟩ := World.cell?_of_block (w := w) (h.old b hb hbs)

/-- Blocks s and q hold that key; q is new; no other block has turned. -/
def PrivPut (s q : Nat) (f : Nat → Int) (w w' : World) : Prop :=
  ∃ cs ps : List Value, w'.heap[s]? = some (.cells cs.toArray 41 (0, 0)) ∧ IsPriv q f cs ∧ w'.heap[q]? = some (.cells ps.toArray 45 (0, 0)) ∧ IsPub (fun j => f (16 + j)) ps ∧
    Two s w w'

theorem priv_join {s q : Nat} {f : Nat → Int} {c9 ps : List Value} {w w8 w9 w10 : World} (hsq : s < q ∧ w.heap.size ≤ q) (hs : s < w.heap.size) (hq8 : w8.heap[q]? = some (.cells ps.toArray 45 (0, 0))) (hps : IsPub (fun j => f (16 + j)) ps) (hT : Two s w w8)
    (hp9 : Put s 41 c9 w8 w9) (hl9 : c9.length = 5153) (hv : ∀ i, i < 16 → c9[i]? = some (.int .u8 (f i))) (hn : c9[16]? = some (.pointer (some ⟨q, 0, none⟩)))
    (h9 : ∀ i, i < 5120 → c9[17 + i]? = some (.int .u16 (num16 f i))) (h10 : Wr s 41 c9 5137 16 (fun i => .int .u8 (f (19872 + i))) 16 w9 w10) : PrivPut s q f w w10 := by
  obtain ⟨cs, hp, hl, hh, ho⟩ := h10
  refine ⟨cs, ps, hp.row, ⟨hl.trans hl9, fun i hi => ?_, ?_, fun i hi => ?_, hh⟩, ?_, hps, (hT.put hp9 (Or.inl rfl)).put hp (Or.inl rfl)⟩
  · rw [ho i (Or.inl (by omega))]; exact hv i hi
  · rw [ho 16 (Or.inl (by omega))]; exact hn
  · rw [ho _ (Or.inl (by omega))]; exact h9 i hi
  · rw [hp.other q (by omega), hp9.other q (by omega)]; exact hq8

theorem le16 {x0 x1 : Int} (p0 : 0 ≤ x0) (q0 : x0 ≤ 255) (p1 : 0 ≤ x1) (q1 : x1 ≤ 255) : bits BinOp.or IntKind.u16 x0 (x1 * 256) = x0 + x1 * 256 := by
  obtain ⟨a, rfl⟩ := Int.eq_ofNat_of_zero_le p0
  obtain ⟨b, rfl⟩ := Int.eq_ofNat_of_zero_le p1
  have e : ((b : Int) * 256) = ((b * 256 : Nat) : Int) := by omega
  rw [e, u16_or_nat a (b * 256) (by omega) (by omega), Nat.or_comm, nat_join 8 (b * 256) a (by omega) (by omega)]
  omega

set_option maxRecDepth 100000 in
set_option maxHeartbeats 1000000 in
theorem privUnpack_any (s b off cap q : Nat) (f : Nat → Int) (cur : List Value) (w : World) (hgb : b ≠ s) (hg : w.heap[s]? = some (.cells cur.toArray 41 (0, 0))) (hlen : cur.length = 5153) (hcap : 19888 ≤ cap)
    (hq : q = w.heap.size) (hf : ∀ i, 0 ≤ f i ∧ f i ≤ 255) (hin : ∀ i, i < 19888 → w.cell? ⟨b, off + i, none⟩ = some (.int .u8 (f i))) :
    Calls Try.prog 10 #[.pointer (some ⟨s, 0, none⟩), .slice (some ⟨b, off, none⟩) 19888 cap] w fun e w' => e = .returned (.tuple #[]) ∧ PrivPut s q f w w' := by
  obtain ⟨Z, hZl, hZ⟩ := zero45
  have HZL := Lib.hid hZl; clear hZl
  have HZ := Lib.hid hZ; clear hZ
  have hsw : s < w.heap.size := (Array.getElem?_eq_some_iff.1 hg).1
  have hsq : Hid (s < q) := by show s < q; omega
  have HQ := Lib.hid hq; clear hq
  have HS := Lib.hid hsw; clear hsw
  have HF := Lib.hid hf; clear hf
  have HG := Lib.hid hg; clear hg
  have HIN := Lib.hid hin; clear hin
  have HL := Lib.hid hlen; clear hlen
  have HB := Lib.hid hgb; clear hgb
  have hc0 : ¬ cap = 0 := by omega
  have hc1 : ¬ cap = 16 := by omega
  have hc2 : (16 : Int) ≤ (cap : Int) := by omega
  have hc3 : ¬ cap - 16 = 0 := by omega
  have hc4 : ¬ cap - 16 = 9616 := by omega
  have hc5 : (9616 : Int) ≤ ((cap - 16 : Nat) : Int) := by omega
  go_enter Try.func10, Try.ntmps10
  go_wp2
  go_still_tail 6, (by kernel_rfl)
  change wpList _ _ _ _ _ w.drew
  obtain ⟨w1, hw1⟩ : ∃ x, x = w.drew := ⟨_, rfl⟩
  rw [← hw1]
  have HP1 : Hid (Put s 41 cur w w1) := by rw [hw1]; exact (Put.refl HG.out).drew
  clear hw1
  refine copy_law rfl (.tmp 12) (.tmp 14) 22 22 rfl 5 Try.underlying22 (by kernel_rfl) s 0 16 16 b off 16 cap rfl rfl cur 41 16 (fun i => .int .u8 (f i)) HP1.out.row rfl (fun j hj => by rw [HP1.out.cell_other HB.out]; exact HIN.out j (by omega)) (by rw [HL.out]; omega) (fun _ => rfl) ?_
  intro w2 hw2
  obtain ⟨c2, hp2, hl2, hv2, ho2⟩ := hw2.out
  clear hw2
  have HP2 : Hid (Put s 41 c2 w w2) := HP1.out.trans hp2
  have HL2 : Hid (c2.length = 5153) := hl2.trans HL.out
  have HV2 := Lib.hid hv2
  clear hp2 hl2 hv2 ho2 HP1
  have HQ2 : Hid (q = w2.heap.size) := HQ.out.trans HP2.out.size.symm
  go_wp2_with (refine alloc_law rfl 45 rfl Z HZ.out q HQ2 ?_; intro w5 HA; have d1 : w5.cell? ⟨s, 16, none⟩ = some (c2[16]'(by rw [HL2.out]; omega)) := (by rw [HA.out, World.cell?_alloc_lt _ _ _ (by rw [← HQ2.out]; exact hsq.out), HP2.out.cell]; exact List.getElem?_eq_getElem _); have d2 : w5.frozen? ⟨s, 16, none⟩ = false := (by rw [HA.out, World.frozen?_alloc_old _ _ _ (by rw [← HQ2.out]; exact Nat.ne_of_lt hsq.out), HP2.out.frozen]))
  obtain ⟨w6, hw6⟩ : ∃ x, x = w5.setCell ⟨s, 16, none⟩ (.pointer (some ⟨q, 0, none⟩)) := ⟨_, rfl⟩
  rw [← hw6]
  obtain ⟨c6, hc6⟩ : ∃ x, x = c2.set 16 (.pointer (some ⟨q, 0, none⟩)) := ⟨_, rfl⟩
  have hS5 : w5.heap[s]? = some (.cells c2.toArray 41 (0, 0)) := by rw [HA.out, Below.heap_alloc _ _ _ (by rw [← HQ2.out]; exact hsq.out)]; exact HP2.out.row
  have hQ5 : w5.heap[q]? = some (.cells Z.toArray 45 (0, 0)) := by rw [HA.out, HQ2.out]; exact heap_alloc_new _ _
  have hT5 : Two s w w5 := by rw [HA.out]; exact Two.made HP2.out _
  have hP6 : Put s 41 c6 w5 w6 := by rw [hw6, hc6]; exact (Put.refl hS5).store 16 _
  have HS6 : Hid (w6.heap[s]? = some (.cells c6.toArray 41 (0, 0))) := hP6.row
  have HQ6 : Hid (w6.heap[q]? = some (.cells Z.toArray 45 (0, 0))) := (hP6.other q (by have := hsq.out; omega)).trans hQ5
  have HT6 : Hid (Two s w w6) := hT5.put hP6 (Or.inl rfl)
  have HL6 : Hid (c6.length = 5153) := by rw [hc6, List.length_set]; exact HL2.out
  have HV6 : Hid (∀ i, i < 16 → c6[i]? = some (.int .u8 (f i))) := fun i hi => by rw [hc6, List.getElem?_set, if_neg (by omega), ← HV2.out i hi, Nat.zero_add]
  have hN6 : c6[16]? = some (.pointer (some ⟨q, 0, none⟩)) := by rw [hc6, List.getElem?_set, if_pos rfl, if_pos (by rw [HL2.out]; omega)]
  have d6 : w6.cell? ⟨s, 16, none⟩ = some (.pointer (some ⟨q, 0, none⟩)) := by rw [hP6.cell]; exact hN6
  have HN6 := Lib.hid hN6
  have hbw : b < w.heap.size := block_lt_of_cell (HIN.out 0 (by omega))
  have HBW := Lib.hid hbw
  clear d1 d2 HA hw6 hc6 hS5 hQ5 hT5 hP6 hN6 hbw HP2 HV2 HQ2
  go_still_tail 6, (by kernel_rfl)
  change wpList _ _ _ _ _ w6.drew
  obtain ⟨w7, hw7⟩ : ∃ x, x = w6.drew := ⟨_, rfl⟩
  rw [← hw7]
  have HP7 : Hid (Put s 41 c6 w6 w7) := by rw [hw7]; exact (Put.refl HS6.out).drew
  clear hw7 d6
  go_wp2_with fail
  refine (pubUnpack_any q b (off + 16) (cap - 16) 45 (fun j => f (16 + j)) Z w7 (by have := HBW.out; have := HQ.out; omega) ((HP7.out.other q (by have := hsq.out; omega)).trans HQ6.out) HZL.out (by omega) (fun i => HF.out _) (fun i hi => by rw [HP7.out.cell_other HB.out, HT6.out.cell HBW.out HB.out, Nat.add_assoc]; exact HIN.out (16 + i) (by omega))).mono ?_
  rintro e w8 ⟨rfl, hw8⟩
  obtain ⟨ps, hp8, hps⟩ := hw8
  have HPS := Lib.hid hps
  have HS8 : Hid (w8.heap[s]? = some (.cells c6.toArray 41 (0, 0))) := (hp8.other s (by have := hsq.out; omega)).trans HP7.out.row
  have HQ8 : Hid (w8.heap[q]? = some (.cells ps.toArray 45 (0, 0))) := hp8.row
  have HT8 : Hid (Two s w w8) := (HT6.out.put HP7.out (Or.inl rfl)).put hp8 (Or.inr (by rw [HQ.out]; exact Nat.le_refl _))
  clear hps hp8 HP7 HT6 HQ6 HS6
  have HW0 : Hid (Wr s 41 c6 17 5120 (fun i => .int .u16 (num16 f i)) 0 w8 w8) := Wr.zero HS8.out
  go_wp2
  go_loopw [31] (fun v wr => ∃ k : Nat, k ≤ 5120 ∧ v = .int .i64 k ∧ Wr s 41 c6 17 5120 (fun i => .int .u16 (num16 f i)) k w8 wr) (fun v _ => 5120 - (intOf v).toNat)
  case atStart => exact ⟨0, by omega, rfl, HW0.out⟩
  case round =>
    obtain ⟨k, hk, rfl, hw⟩ := hrel
    by_cases hlt : k < 5120
    · have h1 : (k : Int) < 5120 := by omega
      go_wp2
      have a1 : IntKind.i64.wrap ((k : Int) * 2) = (k : Int) * 2 := IntWalk.i64_in _ (by omega)
      have a2 : IntKind.i64.wrap ((k : Int) * 2 + 1) = (k : Int) * 2 + 1 := IntWalk.i64_in _ (by omega)
      have a3 : 0 ≤ (k : Int) * 2 := by omega
      have a4 : 0 ≤ (k : Int) * 2 + 1 := by omega
      have a5 : (k : Int) * 2 < 10256 := by omega
      have a6 : (k : Int) * 2 + 1 < 10256 := by omega
      have a7 : ((k : Int) * 2).toNat = k * 2 := by omega
      have a8 : ((k : Int) * 2 + 1).toNat = k * 2 + 1 := by omega
      have rd : ∀ c, c < 10256 → wr.cell? ⟨b, off + 16 + 9616 + c, none⟩ = some (.int .u8 (f (9632 + c))) := fun c hc => by
        rw [hw.cell_other HB.out, HT8.out.cell HBW.out HB.out, Nat.add_assoc, Nat.add_assoc, ← Nat.add_assoc 16 9616 c]; exact HIN.out (9632 + c) (by omega)
      obtain ⟨x0, s0⟩ : ∃ x, x = f (9632 + 2 * k) := ⟨_, rfl⟩
      obtain ⟨x1, s1⟩ : ∃ x, x = f (9632 + 2 * k + 1) := ⟨_, rfl⟩
      have c0 : wr.cell? ⟨b, off + 16 + 9616 + k * 2, none⟩ = some (.int .u8 x0) := by rw [s0, Nat.mul_comm 2 k]; exact rd _ (by omega)
      have c1 : wr.cell? ⟨b, off + 16 + 9616 + (k * 2 + 1), none⟩ = some (.int .u8 x1) := by rw [s1, Nat.mul_comm 2 k, Nat.add_assoc 9632]; exact rd _ (by omega)
      have p0 : 0 ≤ x0 := by rw [s0]; exact (HF.out _).1
      have q0 : x0 ≤ 255 := by rw [s0]; exact (HF.out _).2
      have p1 : 0 ≤ x1 := by rw [s1]; exact (HF.out _).1
      have q1 : x1 ≤ 255 := by rw [s1]; exact (HF.out _).2
      have HN : Hid (num16 f k = x0 + x1 * 256) := by rw [s0, s1]; rfl
      clear s0 s1 rd
      go_still_tail 20, (by kernel_rfl)
      change wpList _ _ _ _ _ wr.drew
      obtain ⟨w9, hw9⟩ : ∃ x, x = wr.drew := ⟨_, rfl⟩
      rw [← hw9]
      have hW9 : Wr s 41 c6 17 5120 (fun i => .int .u16 (num16 f i)) k w8 w9 := by rw [hw9]; exact hw.drew
      clear hw hw9 a1 a2 a3 a4 a5 a6 a7 a8 c0 c1
      obtain ⟨o0, d0⟩ := hW9.old (17 + k) (by rw [HL6.out]; omega)
      have e0 := hW9.frozen (17 + k)
      have HW9 := Lib.hid hW9; clear hW9
      go_wp2
      rw [le16 p0 q0 p1 q1, ← HN.out]
      exact ⟨⟨k + 1, by omega, congrArg (Value.int .i64) (by omega), HW9.out.step (by omega) (by rw [HL6.out]; omega)⟩, by simp [intOf]; omega⟩
    · obtain rfl : k = 5120 := by omega
      have HW := Lib.hid hw; clear hw
      go_wp2
      go_still_tail 6, (by kernel_rfl)
      change wpList _ _ _ _ _ wr.drew
      obtain ⟨w9, hw9⟩ : ∃ x, x = wr.drew := ⟨_, rfl⟩
      rw [← hw9]
      obtain ⟨c9, hp9, hl9, hv9, ho9⟩ : Wr s 41 c6 17 5120 (fun i => .int .u16 (num16 f i)) 5120 w8 w9 := by rw [hw9]; exact HW.out.drew
      have HP9 := Lib.hid hp9
      have HL9 : Hid (c9.length = 5153) := hl9.trans HL6.out
      have HV9 := Lib.hid hv9
      have HO9 := Lib.hid ho9
      clear hw9 HW hp9 hl9 hv9 ho9
      refine copy_law rfl (.tmp 60) (.tmp 62) 22 22 rfl 5 Try.underlying22 (by kernel_rfl) s 5137 16 16 b (off + 16 + 9616 + 10240) 16 (cap - 16 - 9616 - 10240) rfl rfl c9 41 16 (fun i => .int .u8 (f (19872 + i))) HP9.out.row rfl (fun j hj => by rw [HP9.out.cell_other HB.out, HT8.out.cell HBW.out HB.out, Nat.add_assoc, Nat.add_assoc, Nat.add_assoc, show 16 + (9616 + (10240 + j)) = 19872 + j by omega]; exact HIN.out (19872 + j) (by omega)) (by rw [HL9.out]; omega) (fun _ => rfl) ?_
      intro w10 HW10
      go_wp2
      go_end0
      exact ⟨rfl, priv_join (by have := hsq.out; have := HQ.out; omega) HS.out HQ8.out HPS.out HT8.out HP9.out HL9.out (fun i hi => (HO9.out i (Or.inl (by omega))).trans (HV6.out i hi)) ((HO9.out 16 (Or.inl (by omega))).trans HN6.out) HV9.out HW10.out⟩

end Go.Proofs.Ytjmggahedcbjkaa
