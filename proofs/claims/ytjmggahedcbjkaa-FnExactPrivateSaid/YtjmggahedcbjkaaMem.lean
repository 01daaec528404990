/- Memory of FnExactPrivate: one block that is written while all others stay ('Put'), a stretch of it that is filled from its start on ('Wr'). -/
import Derived.Test.YtjmggahedcbjkaaNum
import Derived.Laws.CopyOwn
import Derived.Lib.Hide
namespace Go.Proofs.Ytjmggahedcbjkaa
set_option linter.unusedVariables false
open Go.RowKit

/-- Block g (and no other) may have turned, and now holds 'cs'. -/
structure Put (g : Nat) (t : TypeId) (cs : List Value) (w w' : World) : Prop where
  os : w'.os = w.os
  tape : w'.tape = w.tape
  output : w'.output = w.output
  size : w'.heap.size = w.heap.size
  row : w'.heap[g]? = some (.cells cs.toArray t (0, 0))
  other : ∀ k, k ≠ g → w'.heap[k]? = w.heap[k]?

theorem Put.refl {g : Nat} {t : TypeId} {cs : List Value} {w : World} (h : w.heap[g]? = some (.cells cs.toArray t (0, 0))) : Put g t cs w w := ⟨rfl, rfl, rfl, rfl, h, fun _ _ => rfl⟩

theorem Put.trans {g : Nat} {t : TypeId} {c1 c2 : List Value} {w w1 w2 : World} (h : Put g t c1 w w1) (k : Put g t c2 w1 w2) : Put g t c2 w w2 :=
  ⟨k.os.trans h.os, k.tape.trans h.tape, k.output.trans h.output, k.size.trans h.size, k.row, fun i hi => (k.other i hi).trans (h.other i hi)⟩

theorem Put.drew {g : Nat} {t : TypeId} {cs : List Value} {w w' : World} (h : Put g t cs w w') : Put g t cs w w'.drew := ⟨h.os, h.tape, h.output, h.size, h.row, h.other⟩

theorem Put.store {g : Nat} {t : TypeId} {cs : List Value} {w w' : World} (h : Put g t cs w w') (i : Nat) (v : Value) : Put g t (cs.set i v) w (w'.setCell ⟨g, i, none⟩ v) := by
  refine ⟨h.os, h.tape, h.output, ?_, ?_, fun k hk => ?_⟩
  · rw [World.size_setCell]; exact h.size
  · rw [heap_setCell_same w' g i cs.toArray t v h.row]
    simp
  · rw [heap_setCell_other w' ⟨g, i, none⟩ k v hk]; exact h.other k hk

theorem Put.setRow {g : Nat} {t : TypeId} {cs : List Value} {w w' : World} (h : Put g t cs w w') (cs' : List Value) : Put g t cs' w (w'.setRow g cs'.toArray) := by
  refine ⟨h.os, h.tape, h.output, ?_, ?_, fun k hk => ?_⟩
  · rw [size_setRow]; exact h.size
  · exact setRow_heap w' g _ _ t _ h.row
  · rw [setRow_other w' g k _ hk]; exact h.other k hk

theorem Put.cell {g : Nat} {t : TypeId} {cs : List Value} {w w' : World} (h : Put g t cs w w') (i : Nat) : w'.cell? ⟨g, i, none⟩ = cs[i]? := by
  rw [cell_of_row w' g i _ t _ h.row]; simp

theorem Put.frozen {g : Nat} {t : TypeId} {cs : List Value} {w w' : World} (h : Put g t cs w w') (i : Nat) : w'.frozen? ⟨g, i, none⟩ = false := frozen_of_row w' g i _ t h.row

theorem Put.cell_other {g : Nat} {t : TypeId} {cs : List Value} {w w' : World} (h : Put g t cs w w') {b i : Nat} (hb : b ≠ g) : w'.cell? ⟨b, i, none⟩ = w.cell? ⟨b, i, none⟩ := World.cell?_of_block (w := w) (h.other b hb)

/-- What lies below every B up to g has not turned. -/
theorem Put.below {g : Nat} {t : TypeId} {cs : List Value} {w w' : World} (h : Put g t cs w w') {B : Nat} (hB : B ≤ g) : Below B w w' :=
  ⟨h.os, h.tape, h.output, Nat.le_of_eq h.size.symm, fun k hk => h.other k (by omega)⟩

/-- Of block g, which held 'cur', the stretch of N places from o on is being filled with h 0, h 1, ..: n of them stand; what lies outside that stretch is as it was; no other block has turned. -/
def Wr (g : Nat) (t : TypeId) (cur : List Value) (o N : Nat) (h : Nat → Value) (n : Nat) (w w' : World) : Prop :=
  ∃ cs : List Value, Put g t cs w w' ∧ cs.length = cur.length ∧ (∀ i, i < n → cs[o + i]? = some (h i)) ∧ ∀ i, i < o ∨ o + N ≤ i → cs[i]? = cur[i]?

section
variable {g : Nat} {t : TypeId} {cur : List Value} {o N : Nat} {h : Nat → Value} {n : Nat} {w w' : World}

theorem Wr.zero (hg : w.heap[g]? = some (.cells cur.toArray t (0, 0))) : Wr g t cur o N h 0 w w :=
  ⟨cur, Put.refl hg, rfl, fun _ hi => absurd hi (Nat.not_lt_zero _), fun _ _ => rfl⟩

theorem Wr.step (hw : Wr g t cur o N h n w w') (hn : n < N) (hl : o + N ≤ cur.length) : Wr g t cur o N h (n + 1) w (w'.setCell ⟨g, o + n, none⟩ (h n)) := by
  obtain ⟨cs, hp, hc, hv, ho⟩ := hw
  refine ⟨cs.set (o + n) (h n), hp.store _ _, by simpa using hc, fun i hi => ?_, fun i hi => ?_⟩
  · rw [List.getElem?_set]
    by_cases e : n = i
    · subst e
      rw [if_pos rfl, if_pos (by omega)]
    · rw [if_neg (by omega)]
      exact hv i (by omega)
  · rw [List.getElem?_set, if_neg (by omega)]
    exact ho i hi

theorem Wr.drew (hw : Wr g t cur o N h n w w') : Wr g t cur o N h n w w'.drew := by
  obtain ⟨cs, hp, r⟩ := hw
  exact ⟨cs, hp.drew, r⟩

theorem Wr.old (hw : Wr g t cur o N h n w w') (i : Nat) (hi : i < cur.length) : ∃ v, w'.cell? ⟨g, i, none⟩ = some v := by
  obtain ⟨cs, hp, hc, _⟩ := hw
  exact ⟨cs[i]'(by omega), by rw [hp.cell]; exact List.getElem?_eq_getElem (by omega)⟩

theorem Wr.frozen (hw : Wr g t cur o N h n w w') (i : Nat) : w'.frozen? ⟨g, i, none⟩ = false := by
  obtain ⟨cs, hp, _⟩ := hw
  exact hp.frozen i

theorem Wr.cell_other (hw : Wr g t cur o N h n w w') {b i : Nat} (hb : b ≠ g) : w'.cell? ⟨b, i, none⟩ = w.cell? ⟨b, i, none⟩ := by
  obtain ⟨cs, hp, _⟩ := hw
  exact hp.cell_other hb

theorem Wr.below (hw : Wr g t cur o N h n w w') {B : Nat} (hB : B ≤ g) : Below B w w' := by
  obtain ⟨cs, hp, _⟩ := hw
  exact hp.below hB

theorem Wr.get (hw : Wr g t cur o N h n w w') (i : Nat) (hi : i < n) : w'.cell? ⟨g, o + i, none⟩ = some (h i) := by
  obtain ⟨cs, hp, _, hv, _⟩ := hw
  rw [hp.cell]; exact hv i hi
end

theorem add_at (b o j : Nat) : (⟨b, o, none⟩ : Addr).add j = ⟨b, o + j, none⟩ := by unfold Addr.add; split <;> simp_all

/-- 'copy' into block g, out of n cells that are known: behind it the stretch is filled. -/
theorem copy_law {P : Program} {w : World} {ops : Array Oper} {rest : List Oper} {op : Oper} {a : Act} {Q : Exit → Act → World → Prop} (hgd : op.guard = none) (d s : Operand) (dT sT : TypeId)
    (ho : op.op = .call { callee := .builtin .copy, args := #[d, s], argTypes := #[dT, sT] }) (elem : TypeId) (hu : P.underlying dT = some (.slice elem)) (hsz : (P.info? elem).map (·.size) = some 1)
    (g off dLen dCap b so sLen sCap : Nat) (hd : a.eval d = .slice (some ⟨g, off, none⟩) dLen dCap) (hs : a.eval s = .slice (some ⟨b, so, none⟩) sLen sCap)
    (cur : List Value) (t : TypeId) (n : Nat) (h : Nat → Value) (hg : w.heap[g]? = some (.cells cur.toArray t (0, 0))) (hn : n = Nat.min sLen dLen)
    (hsrc : ∀ j, j < n → w.cell? ⟨b, so + j, none⟩ = some (h j)) (hfit : off + n ≤ cur.length) (h1 : ∀ j, (h j).oneCell' = true)
    (k : ∀ w', Hid (Wr g t cur off n h n w w') → wpList P ops Q rest (a.put op.dst (goInt n)) w') : wpList P ops Q (op :: rest) a w := by
  have hl : ((List.range n).map h).length = n := by simp
  refine wpList_copy_own hgd d s dT sT ho elem hu hsz g off dLen dCap ⟨b, so, none⟩ sLen sCap hd hs cur.toArray t hg ((List.range n).map h) (by rw [hl]; exact hn) (fun j v hv => ?_) (by simpa using hfit) (fun v hv => ?_) ?_
  · rw [List.getElem?_map] at hv
    by_cases hj : j < n
    · rw [List.getElem?_range hj] at hv
      rw [add_at, hsrc j hj]; exact hv
    · rw [List.getElem?_eq_none (by simpa using hj)] at hv; cases hv
  · obtain ⟨j, _, rfl⟩ := List.mem_map.1 hv
    exact h1 j
  · rw [hl]
    refine k _ ⟨cur.take off ++ ((List.range n).map h ++ cur.drop (off + n)), (Put.refl hg).setRow _, ?_, fun i hi => ?_, fun i hi => ?_⟩
    · simp; omega
    · rw [List.getElem?_append_right (by simp; omega), List.length_take, show off + i - min off cur.length = i by omega, List.getElem?_append_left (by simpa using hi), List.getElem?_map, List.getElem?_range hi]
      rfl
    · rcases hi with hi | hi
      · rw [List.getElem?_append_left (by simp; omega), List.getElem?_take, if_pos hi]
      · rw [List.getElem?_append_right (by simp; omega), List.length_take, List.getElem?_append_right (by simp; omega), hl, List.getElem?_drop]
        congr 1
        omega

end Go.Proofs.Ytjmggahedcbjkaa
