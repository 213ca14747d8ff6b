/- The memory of chains: moves, via, offered, done: rows of the call's own; beside them the two queues. -/
import Derived.Test.Qxb6003132aModsQueue
namespace Go.Proofs.Qxb6003132aMods
open Go.RowKit
set_option linter.unusedVariables false

theorem Trym.info64 : (Trym.prog.info? 64).map (fun i => (i.zero, i.size, i.bytes)) = some (some (.agg #[.int .i64 0, .int .i32 0]), 2, 16) := by kernel_rfl

theorem run_make_links (n : Nat) (hn : n ≤ 1048576) (w : World) :
    (Instr.makeSlice 60 (.int .i64 (n : Int)) (.int .i64 (n : Int))).run Trym.prog w = .ok (.slice (some ⟨w.heap.size, 0, none⟩) n n) (w.alloc (.cells (madeCells #[.int .i64 0, .int .i32 0] (n * 2)) 64)) := by
  obtain ⟨i, hi, hz⟩ := Option.map_eq_some_iff.1 Trym.info64
  simp only [Prod.mk.injEq] at hz
  obtain ⟨hz, hs, hb⟩ := hz
  have hr := run_make (P := Trym.prog) w 60 64 i _ Trym.underlying60 hi hz .i64 .i64 n n (by omega) (Int.le_refl _) (by rw [hb]; omega) (by omega)
  simp only [Int.toNat_natCast, hs] at hr
  exact hr

/-- the links, two cells each -/
def viaC (VF VC : Nat → Int) (j : Nat) : Value := if j % 2 = 0 then .int .i64 (VF (j / 2)) else .int .i32 (VC (j / 2))

theorem viaC_even (VF VC : Nat → Int) (v : Nat) : viaC VF VC (v * 2) = .int .i64 (VF v) := by
  unfold viaC; rw [if_pos (by omega), show v * 2 / 2 = v by omega]
theorem viaC_odd (VF VC : Nat → Int) (v : Nat) : viaC VF VC (v * 2 + 1) = .int .i32 (VC v) := by
  unfold viaC; rw [if_neg (by omega), show (v * 2 + 1) / 2 = v by omega]

def bad2 (B bM bV b : Nat) : Prop := b < B ∨ b = bM ∨ b = bV
def bad4 (B bM bV bO bD b : Nat) : Prop := b < B ∨ b = bM ∨ b = bV ∨ b = bO ∨ b = bD

theorem kept_since {bad : Nat → Prop} {w w' : World} {B : Nat} (h : Kept bad w w') (hb : ∀ b, b < B → bad b) : w.Since B w' := ⟨h.os, h.tape, h.output, h.size, fun k hk => h.block k (hb k hk)⟩

/-- moves and via -/
structure R2 (w wr : World) (n bM bV : Nat) (M VF VC : Nat → Int) : Prop where
  since : w.Since w.heap.size wr
  rM : wr.rowIs bM 3 n (fun v => .int .i64 (M v))
  rV : wr.rowIs bV 64 (n * 2) (viaC VF VC)
  lM : w.heap.size ≤ bM
  lV : w.heap.size ≤ bV
  ne : bM ≠ bV

theorem R2.start {w w1 : World} {n bM : Nat} {x : Int} (hs : w.Since w.heap.size w1) (hM : w1.rowIs bM 3 n (fun _ => .int .i64 x)) (hl : w.heap.size ≤ bM) :
    R2 w (w1.alloc (.cells (madeCells #[.int .i64 0, .int .i32 0] (n * 2)) 64)) n bM w1.heap.size (fun _ => x) (fun _ => 0) (fun _ => 0) := by
  refine ⟨hs.alloc hs.size _, hM.alloc _, ⟨_, Go.Deep.blk_alloc_new _ _, size_madeCells _ _, fun i hi => ?_⟩, hl, hs.size, Nat.ne_of_lt hM.lt⟩
  unfold viaC
  rcases Nat.mod_two_eq_zero_or_one i with e | e
  · simp [madeCells, hi, e]
  · simp [madeCells, hi, e]

variable {w wr : World} {n nc bM bV bO bD : Nat} {M VF VC O : Nat → Int} {Dn : Nat → Bool}

theorem R2.keep {bad : Nat → Prop} {w' : World} (h : R2 w wr n bM bV M VF VC) (hk : Kept bad wr w') (hb : ∀ b, b < w.heap.size → bad b) (h1 : bad bM) (h2 : bad bV) : R2 w w' n bM bV M VF VC :=
  ⟨h.since.trans (kept_since hk hb), h.rM.of_block (hk.block _ h1), h.rV.of_block (hk.block _ h2), h.lM, h.lV, h.ne⟩

theorem R2.alloc (h : R2 w wr n bM bV M VF VC) (o : Obj) : R2 w (wr.alloc o) n bM bV M VF VC :=
  ⟨h.since.alloc h.since.size _, h.rM.alloc _, h.rV.alloc _, h.lM, h.lV, h.ne⟩

theorem R2.drewN (h : R2 w wr n bM bV M VF VC) (m : Nat) : R2 w (wr.drewN m) n bM bV M VF VC :=
  ⟨since_drewN h.since m, h.rM, h.rV, h.lM, h.lV, h.ne⟩

theorem R2.setOther (h : R2 w wr n bM bV M VF VC) {a : Addr} (ha : w.heap.size ≤ a.block) (h1 : bM ≠ a.block) (h2 : bV ≠ a.block) (v : Value) : R2 w (wr.setCell a v) n bM bV M VF VC :=
  ⟨h.since.setCell ha _, h.rM.setOther h1 _, h.rV.setOther h2 _, h.lM, h.lV, h.ne⟩

theorem R2.later {w' : World} (h : R2 w wr n bM bV M VF VC) (hs : wr.Since wr.heap.size w') : R2 w w' n bM bV M VF VC :=
  ⟨since_trans h.since hs, h.rM.of_block (hs.block _ h.rM.lt), h.rV.of_block (hs.block _ h.rV.lt), h.lM, h.lV, h.ne⟩

theorem R2.put (h : R2 w wr n bM bV M VF VC) (v : Nat) (x u c : Int) :
    R2 w (((wr.setCell ⟨bM, v, none⟩ (.int .i64 x)).setCell ⟨bV, v * 2, none⟩ (.int .i64 u)).setCell ⟨bV, v * 2 + 1, none⟩ (.int .i32 c)) n bM bV
      (fun i => if i = v then x else M i) (fun i => if i = v then u else VF i) (fun i => if i = v then c else VC i) := by
  refine ⟨((h.since.setCell h.lM _).setCell h.lV _).setCell h.lV _, (((h.rM.set v _).setOther h.ne _).setOther h.ne _).congr (fun i _ => by split <;> rfl), ((((h.rV.setOther (Ne.symm h.ne) _).set (v * 2) _).set (v * 2 + 1) _)).congr (fun i _ => ?_), h.lM, h.lV, h.ne⟩
  by_cases e1 : i = v * 2 + 1
  · subst e1
    rw [if_pos rfl, viaC_odd]; simp
  · rw [if_neg e1]
    by_cases e2 : i = v * 2
    · subst e2
      rw [if_pos rfl, viaC_even]; simp
    · rw [if_neg e2]
      unfold viaC
      have : ¬ i / 2 = v := by omega
      simp only [this, if_false]

/-- .. and offered and done -/
structure R4 (w wr : World) (n nc bM bV bO bD : Nat) (M VF VC O : Nat → Int) (Dn : Nat → Bool) : Prop where
  r2 : R2 w wr n bM bV M VF VC
  rO : wr.rowIs bO 3 nc (fun c => .int .i64 (O c))
  rD : wr.rowIs bD 4 n (fun v => .bool (Dn v))
  lO : w.heap.size ≤ bO
  lD : w.heap.size ≤ bD
  n1 : bO ≠ bM
  n2 : bO ≠ bV
  n3 : bD ≠ bM
  n4 : bD ≠ bV
  n5 : bO ≠ bD

theorem R4.keep {w' : World} (h : R4 w wr n nc bM bV bO bD M VF VC O Dn) (hk : Kept (bad4 w.heap.size bM bV bO bD) wr w') : R4 w w' n nc bM bV bO bD M VF VC O Dn :=
  ⟨h.r2.keep hk (fun b hb => Or.inl hb) (Or.inr (Or.inl rfl)) (Or.inr (Or.inr (Or.inl rfl))), h.rO.of_block (hk.block _ (Or.inr (Or.inr (Or.inr (Or.inl rfl))))), h.rD.of_block (hk.block _ (Or.inr (Or.inr (Or.inr (Or.inr rfl))))), h.lO, h.lD, h.n1, h.n2, h.n3, h.n4, h.n5⟩

theorem R4.alloc (h : R4 w wr n nc bM bV bO bD M VF VC O Dn) (o : Obj) : R4 w (wr.alloc o) n nc bM bV bO bD M VF VC O Dn :=
  ⟨h.r2.alloc o, h.rO.alloc _, h.rD.alloc _, h.lO, h.lD, h.n1, h.n2, h.n3, h.n4, h.n5⟩

theorem R4.drewN (h : R4 w wr n nc bM bV bO bD M VF VC O Dn) (m : Nat) : R4 w (wr.drewN m) n nc bM bV bO bD M VF VC O Dn :=
  ⟨h.r2.drewN m, h.rO, h.rD, h.lO, h.lD, h.n1, h.n2, h.n3, h.n4, h.n5⟩

theorem R4.setO (h : R4 w wr n nc bM bV bO bD M VF VC O Dn) (c : Nat) (x : Int) : R4 w (wr.setCell ⟨bO, c, none⟩ (.int .i64 x)) n nc bM bV bO bD M VF VC (fun i => if i = c then x else O i) Dn :=
  ⟨h.r2.setOther h.lO (Ne.symm h.n1) (Ne.symm h.n2) _, (h.rO.set c _).congr (fun i _ => by split <;> rfl), h.rD.setOther (Ne.symm h.n5) _, h.lO, h.lD, h.n1, h.n2, h.n3, h.n4, h.n5⟩

theorem R4.setD (h : R4 w wr n nc bM bV bO bD M VF VC O Dn) (u : Nat) : R4 w (wr.setCell ⟨bD, u, none⟩ (.bool true)) n nc bM bV bO bD M VF VC O (fun i => if i = u then true else Dn i) :=
  ⟨h.r2.setOther h.lD (Ne.symm h.n3) (Ne.symm h.n4) _, h.rO.setOther h.n5 _, (h.rD.set u _).congr (fun i _ => by by_cases e : i = u <;> simp [e]), h.lO, h.lD, h.n1, h.n2, h.n3, h.n4, h.n5⟩

theorem R4.put (h : R4 w wr n nc bM bV bO bD M VF VC O Dn) (v : Nat) (x u c : Int) :
    R4 w (((wr.setCell ⟨bM, v, none⟩ (.int .i64 x)).setCell ⟨bV, v * 2, none⟩ (.int .i64 u)).setCell ⟨bV, v * 2 + 1, none⟩ (.int .i32 c)) n nc bM bV bO bD
      (fun i => if i = v then x else M i) (fun i => if i = v then u else VF i) (fun i => if i = v then c else VC i) O Dn :=
  ⟨h.r2.put v x u c, ((h.rO.setOther h.n1 _).setOther h.n2 _).setOther h.n2 _, ((h.rD.setOther h.n3 _).setOther h.n4 _).setOther h.n4 _, h.lO, h.lD, h.n1, h.n2, h.n3, h.n4, h.n5⟩

/-! ### The queues beside stores into the bad blocks -/
theorem QQ.setBad {bad : Nat → Prop} {a1 a2 : Option Addr} {c1 c2 : Nat} {L1 L2 : List Nat} (h : QQ wr bad a1 c1 L1 a2 c2 L2) {a : Addr} (ha : bad a.block) (v : Value) : QQ (wr.setCell a v) bad a1 c1 L1 a2 c2 L2 :=
  h.same (by rw [Go.Deep.nblk_setCell]; exact Nat.le_refl _) (fun b hb _ => Go.Deep.blk_setCell_other _ _ _ _ (fun e => hb (e ▸ ha)))

theorem QQ.alloc {bad : Nat → Prop} {a1 a2 : Option Addr} {c1 c2 : Nat} {L1 L2 : List Nat} (h : QQ wr bad a1 c1 L1 a2 c2 L2) (o : Obj) : QQ (wr.alloc o) bad a1 c1 L1 a2 c2 L2 :=
  h.same (by rw [Go.Deep.nblk_alloc]; omega) (fun b _ hb => Go.Deep.blk_alloc_lt _ _ _ hb)

theorem QQ.drewN {bad : Nat → Prop} {a1 a2 : Option Addr} {c1 c2 : Nat} {L1 L2 : List Nat} (h : QQ wr bad a1 c1 L1 a2 c2 L2) (m : Nat) : QQ (wr.drewN m) bad a1 c1 L1 a2 c2 L2 := h

/-- more blocks are bad now: all of them new -/
theorem QQ.more {w0 : World} {bad bad' : Nat → Prop} {a1 a2 : Option Addr} {c1 c2 : Nat} {L1 L2 : List Nat} (h0 : QQ w0 bad a1 c1 L1 a2 c2 L2) (hs : w0.Since w0.heap.size wr)
    (hb' : ∀ b, bad' b → b < wr.heap.size) (e : ∀ b, bad' b → bad b ∨ w0.heap.size ≤ b) : QQ wr bad' a1 c1 L1 a2 c2 L2 := by
  obtain ⟨_, o1, o2, h1, h2, h3, h4⟩ := h0
  refine ⟨hb', o1, o2, h1.of_block (fun b hb => ?_), h2.of_block (fun b hb => ?_), fun b hb hbad => ?_, h4⟩
  · subst hb; exact hs.block b h1.lt
  · subst hb; exact hs.block b h2.lt
  · rcases e b hbad with he | he
    · exact h3 b hb he
    · rcases hb with rfl | rfl
      · have := h1.lt; omega
      · have := h2.lt; omega

theorem R4.start {w2 : World} {y : Int} (h : R2 w wr n bM bV M VF VC) (hs : (wr.alloc (.cells #[.int .i64 y] 3)).Since (wr.alloc (.cells #[.int .i64 y] 3)).heap.size w2) (hO : w2.rowIs (wr.heap.size + 1) 3 nc (fun c => .int .i64 (O c))) :
    R4 w (w2.alloc (.cells (madeCells #[.bool false] n) 4)) n nc bM bV (wr.heap.size + 1) w2.heap.size M VF VC O (fun _ => false) ∧ wr.Since wr.heap.size (w2.alloc (.cells (madeCells #[.bool false] n) 4)) := by
  have e1 : (wr.alloc (.cells #[.int .i64 y] 3)).heap.size = wr.heap.size + 1 := Go.Deep.nblk_alloc _ _
  have hs2 : wr.Since wr.heap.size w2 := ((World.Since.refl _ wr).alloc (Nat.le_refl _) _).trans (since_mono hs (by omega))
  have h2 : R2 w w2 n bM bV M VF VC := h.later hs2
  have hbM := h.rM.lt
  have hbV := h.rV.lt
  have hw := h.since.size
  have hlt := hO.lt
  refine ⟨⟨h2.alloc _, hO.alloc _, World.rowIs_made w2 _ n 4, by omega, by omega, by omega, by omega, by omega, by omega, by omega⟩, hs2.alloc hs2.size _⟩

theorem bad2_M (B bM bV : Nat) : bad2 B bM bV bM := Or.inr (Or.inl rfl)
theorem bad2_V (B bM bV : Nat) : bad2 B bM bV bV := Or.inr (Or.inr rfl)
theorem bad4_M (B bM bV bO bD : Nat) : bad4 B bM bV bO bD bM := Or.inr (Or.inl rfl)
theorem bad4_V (B bM bV bO bD : Nat) : bad4 B bM bV bO bD bV := Or.inr (Or.inr (Or.inl rfl))
theorem bad4_O (B bM bV bO bD : Nat) : bad4 B bM bV bO bD bO := Or.inr (Or.inr (Or.inr (Or.inl rfl)))
theorem bad4_D (B bM bV bO bD : Nat) : bad4 B bM bV bO bD bD := Or.inr (Or.inr (Or.inr (Or.inr rfl)))

end Go.Proofs.Qxb6003132aMods
