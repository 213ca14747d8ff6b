/- Views of slices in memory: 'Sl w ao n f': a slice of n one-cell elements that begins at ao holds 'f i' at index i. -/
import Derived.Test.Qxb6003132aModsRows
import Derived.WalkKit
import Derived.WalkSpells
import Derived.WalkLawsBesides
import Derived.Deep.LoopGhost
import Derived.Deep.OwnRows
import Derived.Deep.Cut
import Derived.Deep.CutRange
import Derived.Deep.Light
import Derived.BigQuiet
import Derived.BigGuard
namespace Go.Proofs.Qxb6003132aMods
open Go.RowKit
set_option linter.unusedVariables false

/-- A slice of n one-cell elements at ao, in a block from lo on: the cell of element i holds 'f i'. -/
def Sl (w : World) (lo : Nat) (ao : Option Addr) (n : Nat) (f : Nat → Value) : Prop :=
  ∃ b o : Nat, (0 < n → ao = some ⟨b, o, none⟩ ∧ lo ≤ b) ∧ ∀ i, i < n → w.cell? ⟨b, o + i, none⟩ = some (f i)

theorem Sl.get {w : World} {lo : Nat} {ao : Option Addr} {n : Nat} {f : Nat → Value} (h : Sl w lo ao n f) (hn : 0 < n) :
    ∃ b o : Nat, ao = some ⟨b, o, none⟩ ∧ lo ≤ b ∧ ∀ i, i < n → w.cell? ⟨b, o + i, none⟩ = some (f i) := by
  obtain ⟨b, o, h1, h2⟩ := h
  exact ⟨b, o, (h1 hn).1, (h1 hn).2, h2⟩

theorem Sl.since {w w' : World} {lo : Nat} {ao : Option Addr} {n : Nat} {f : Nat → Value} (h : Sl w lo ao n f) (hs : w.Since w.heap.size w') : Sl w' lo ao n f := by
  obtain ⟨b, o, h1, h2⟩ := h
  refine ⟨b, o, h1, fun i hi => ?_⟩
  rw [hs.cell (a := ⟨b, o + i, none⟩) (World.block_lt_of_cell? _ _ (h2 i hi))]
  exact h2 i hi

theorem Sl.lower {w : World} {lo lo' : Nat} {ao : Option Addr} {n : Nat} {f : Nat → Value} (h : Sl w lo ao n f) (hl : lo' ≤ lo) : Sl w lo' ao n f := by
  obtain ⟨b, o, h1, h2⟩ := h
  exact ⟨b, o, fun hn => ⟨(h1 hn).1, Nat.le_trans hl (h1 hn).2⟩, h2⟩

/-- A store into a block below lo. -/
theorem Sl.set {w : World} {lo : Nat} {ao : Option Addr} {n : Nat} {f : Nat → Value} (h : Sl w lo ao n f) {a : Addr} (ha : a.block < lo) (v : Value) : Sl (w.setCell a v) lo ao n f := by
  obtain ⟨b, o, h1, h2⟩ := h
  refine ⟨b, o, h1, fun i hi => ?_⟩
  have hb := (h1 (by omega)).2
  rw [World.cell?_setCell_other _ _ _ _ (fun e => by have := congrArg Addr.block e; simp at this; omega)]
  exact h2 i hi

theorem Sl.nil (w : World) (lo : Nat) (ao : Option Addr) (f : Nat → Value) : Sl w lo ao 0 f := ⟨0, 0, fun h => absurd h (Nat.lt_irrefl _), fun _ hi => absurd hi (Nat.not_lt_zero _)⟩

theorem Sl.of_row {w : World} {b lo : Nat} {t : TypeId} {n : Nat} {f : Nat → Value} (h : w.rowIs b t n f) (hl : lo ≤ b) : Sl w lo (some ⟨b, 0, none⟩) n f :=
  ⟨b, 0, fun _ => ⟨rfl, hl⟩, fun i hi => by rw [Nat.zero_add]; exact h.cell hi⟩

theorem Sl.congr {w : World} {lo : Nat} {ao : Option Addr} {n : Nat} {f g : Nat → Value} (h : Sl w lo ao n f) (e : ∀ i, i < n → f i = g i) : Sl w lo ao n g := by
  obtain ⟨b, o, h1, h2⟩ := h
  exact ⟨b, o, h1, fun i hi => by rw [h2 i hi, e i hi]⟩

theorem Sl.none_zero {w : World} {lo n : Nat} {f : Nat → Value} (h : Sl w lo none n f) : n = 0 := by
  rcases Nat.eq_zero_or_pos n with h0 | h0
  · exact h0
  · obtain ⟨b, o, e, _⟩ := h.get h0; cases e

/-- a cell of the slice, asked for in a later world -/
theorem cell_since {w wr : World} {b o i : Nat} {v : Value} (hs : w.Since w.heap.size wr) (h : w.cell? ⟨b, o + i, none⟩ = some v) : wr.cell? ⟨b, o + i, none⟩ = some v := by
  rw [hs.cell (a := ⟨b, o + i, none⟩) (World.block_lt_of_cell? _ _ h)]; exact h

/-- a fresh row of n cells at the heap's end of w, of which k are filled -/
structure Fill (w wr : World) (t : TypeId) (n k : Nat) (f : Nat → Value) (z : Value) : Prop where
  since : w.Since w.heap.size wr
  row : wr.rowIs w.heap.size t n (fun i => if i < k then f i else z)

theorem Fill.start (w : World) (t : TypeId) (n : Nat) (f : Nat → Value) (z : Value) : Fill w (w.alloc (.cells (madeCells #[z] n) t)) t n 0 f z :=
  ⟨(World.Since.refl _ _).alloc (Nat.le_refl _) _, (World.rowIs_made w z n t).congr (fun j _ => by simp)⟩

theorem Fill.step {w wr : World} {t : TypeId} {n k : Nat} {f : Nat → Value} {z : Value} (h : Fill w wr t n k f z) : Fill w (wr.setCell ⟨w.heap.size, k, none⟩ (f k)) t n (k + 1) f z :=
  ⟨h.since.setCell (Nat.le_refl _) _, (h.row.set k _).congr (fun j _ => by
    by_cases e : j = k
    · subst e; simp
    · rw [if_neg e]
      by_cases hlt : j < k
      · rw [if_pos hlt, if_pos (by omega)]
      · rw [if_neg hlt, if_neg (by omega)])⟩

theorem Fill.full {w wr : World} {t : TypeId} {n : Nat} {f : Nat → Value} {z : Value} (h : Fill w wr t n n f z) : Sl wr w.heap.size (some ⟨w.heap.size, 0, none⟩) n f :=
  Sl.of_row (h.row.congr fun i hi => by rw [if_pos hi]) (Nat.le_refl _)

/-- the same row, k filled, what is filled in so far said otherwise -/
theorem Fill.re {w wr : World} {t : TypeId} {n k : Nat} {f g : Nat → Value} {z : Value} (h : Fill w wr t n k f z) (e : ∀ i, i < k → f i = g i) : Fill w wr t n k g z :=
  ⟨h.since, h.row.congr fun i _ => by by_cases hi : i < k <;> simp [hi, e]⟩

theorem Fill.after {w wr w1 : World} {t : TypeId} {n k : Nat} {f : Nat → Value} {z : Value} (h : Fill w wr t n k f z) (hs : wr.Since wr.heap.size w1) : Fill w w1 t n k f z :=
  ⟨h.since.trans ⟨hs.os, hs.tape, hs.output, hs.size, fun k hk => hs.block k (by have := h.since.size; omega)⟩, h.row.of_block (hs.block _ h.row.lt)⟩

theorem since_mono {B B' : Nat} {w w' : World} (h : w.Since B w') (hB : B' ≤ B) : w.Since B' w' := ⟨h.os, h.tape, h.output, h.size, fun k hk => h.block k (by omega)⟩

theorem since_trans {w w' w'' : World} (h : w.Since w.heap.size w') (k : w'.Since w'.heap.size w'') : w.Since w.heap.size w'' := h.trans (since_mono k h.size)

theorem since_drewN {B : Nat} {w w' : World} (h : w.Since B w') (n : Nat) : w.Since B (w'.drewN n) := ⟨h.os, h.tape, h.output, h.size, h.block⟩

theorem Trym.info3 : (Trym.prog.info? 3).map (fun i => (i.zero, i.size, i.bytes)) = some (some (.int .i64 0), 1, 8) := by kernel_rfl
theorem Trym.info4 : (Trym.prog.info? 4).map (fun i => (i.zero, i.size, i.bytes)) = some (some (.bool false), 1, 1) := by kernel_rfl
theorem Trym.info21 : (Trym.prog.info? 21).map (fun i => (i.zero, i.size, i.bytes)) = some (some (.int .i32 0), 1, 4) := by kernel_rfl
theorem Trym.info24 : (Trym.prog.info? 24).map (fun i => (i.zero, i.size, i.bytes)) = some (some (.slice none 0 0), 1, 24) := by kernel_rfl
theorem Trym.info35 : (Trym.prog.info? 35).map (fun i => (i.zero, i.size, i.bytes)) = some (some (.slice none 0 0), 1, 24) := by kernel_rfl
theorem Trym.info36 : (Trym.prog.info? 36).map (fun i => (i.zero, i.size, i.bytes)) = some (some (.slice none 0 0), 1, 24) := by kernel_rfl

end Go.Proofs.Qxb6003132aMods
