/- The two queues of chains in memory: slices of int of the call's own, cut at their heads and appended to. -/
import Derived.Test.Qxb6003132aModsBase
import Derived.ArgAppend
namespace Go.Proofs.Qxb6003132aMods
open Go.RowKit
set_option linter.unusedVariables false

/-- the slice at ao, of capacity cap, holds the members L; ob: the block that it lies in, where it has room at all -/
def Qu (w : World) (ao : Option Addr) (cap : Nat) (L : List Nat) : Option Nat → Prop
  | none => L = [] ∧ cap = 0
  | some b => ∃ (o : Nat) (c : Array Value), ao = some ⟨b, o, none⟩ ∧ w.heap[b]? = some (.cells c 3 (0, 0)) ∧ o + cap ≤ c.size ∧ L.length ≤ cap ∧ ∀ i, i < L.length → c[o + i]? = some (.int .i64 ((L[i]?.getD 0 : Nat) : Int))

/-- two queues, in blocks apart from each other and from the bad ones -/
def QQ (w : World) (bad : Nat → Prop) (a1 : Option Addr) (c1 : Nat) (L1 : List Nat) (a2 : Option Addr) (c2 : Nat) (L2 : List Nat) : Prop :=
  (∀ b, bad b → b < w.heap.size) ∧ ∃ o1 o2, Qu w a1 c1 L1 o1 ∧ Qu w a2 c2 L2 o2 ∧ (∀ b, o1 = some b ∨ o2 = some b → ¬ bad b) ∧ (∀ b, o1 = some b → o2 ≠ some b)

theorem lt_of_heap {w : World} {b : Nat} {o : Obj} (h : w.heap[b]? = some o) : b < w.heap.size := (Array.getElem?_eq_some_iff.1 h).1

theorem Qu.lt {w : World} {ao : Option Addr} {cap : Nat} {L : List Nat} {b : Nat} (h : Qu w ao cap L (some b)) : b < w.heap.size := by
  obtain ⟨o, c, _, h2, _⟩ := h
  exact lt_of_heap h2

theorem Qu.of_block {w w' : World} {ao : Option Addr} {cap : Nat} {L : List Nat} {ob : Option Nat} (h : Qu w ao cap L ob) (e : ∀ b, ob = some b → w'.heap[b]? = w.heap[b]?) : Qu w' ao cap L ob := by
  cases ob with
  | none => exact h
  | some b =>
    obtain ⟨o, c, h1, h2, h3⟩ := h
    exact ⟨o, c, h1, (e b rfl).trans h2, h3⟩

theorem QQ.nil (w : World) (bad : Nat → Prop) (hb : ∀ b, bad b → b < w.heap.size) : QQ w bad none 0 [] none 0 [] :=
  ⟨hb, none, none, ⟨rfl, rfl⟩, ⟨rfl, rfl⟩, fun b h => (by rcases h with h | h <;> cases h), fun b h => (by cases h)⟩

theorem QQ.same {w w' : World} {bad : Nat → Prop} {a1 a2 : Option Addr} {c1 c2 : Nat} {L1 L2 : List Nat} (h : QQ w bad a1 c1 L1 a2 c2 L2) (hz : w.heap.size ≤ w'.heap.size)
    (e : ∀ b, ¬ bad b → b < w.heap.size → w'.heap[b]? = w.heap[b]?) : QQ w' bad a1 c1 L1 a2 c2 L2 := by
  obtain ⟨hb, o1, o2, h1, h2, h3, h4⟩ := h
  refine ⟨fun b hb' => Nat.lt_of_lt_of_le (hb b hb') hz, o1, o2, h1.of_block (fun b hb' => ?_), h2.of_block (fun b hb' => ?_), h3, h4⟩
  · subst hb'; exact e b (h3 b (Or.inl rfl)) h1.lt
  · subst hb'; exact e b (h3 b (Or.inr rfl)) h2.lt

theorem QQ.widen {w : World} {bad bad' : Nat → Prop} {a1 a2 : Option Addr} {c1 c2 : Nat} {L1 L2 : List Nat} {w0 : World} (h : QQ w bad a1 c1 L1 a2 c2 L2)
    (hb' : ∀ b, bad' b → b < w.heap.size) (e : ∀ b, bad' b → bad b ∨ w0.heap.size ≤ b) (h0 : QQ w0 bad a1 c1 L1 a2 c2 L2) (hs : ∀ b, b < w0.heap.size → w.heap[b]? = w0.heap[b]?) : QQ w bad' a1 c1 L1 a2 c2 L2 := by
  obtain ⟨_, o1, o2, h1, h2, h3, h4⟩ := h0
  refine ⟨hb', o1, o2, h1.of_block (fun b hb => ?_), h2.of_block (fun b hb => ?_), fun b hb hbad => ?_, h4⟩
  · subst hb; exact hs b h1.lt
  · subst hb; exact hs b h2.lt
  · rcases e b hbad with he | he
    · exact h3 b hb he
    · rcases hb with rfl | rfl
      · have := h1.lt; omega
      · have := h2.lt; omega

/-- the head of the first queue -/
theorem QQ.head {w : World} {bad : Nat → Prop} {a1 a2 : Option Addr} {c1 c2 : Nat} {x : Nat} {L1 L2 : List Nat} (h : QQ w bad a1 c1 (x :: L1) a2 c2 L2) :
    ∃ b o : Nat, a1 = some ⟨b, o, none⟩ ∧ w.cell? ⟨b, o, none⟩ = some (.int .i64 (x : Int)) ∧ L1.length + 1 ≤ c1 ∧
      QQ w bad (if c1 = 1 then some ⟨b, o, none⟩ else some ⟨b, o + 1, none⟩) (c1 - 1) L1 a2 c2 L2 := by
  obtain ⟨hb, o1, o2, h1, h2, h3, h4⟩ := h
  cases o1 with
  | none => exact absurd h1.1 (by simp)
  | some b =>
    obtain ⟨o, c, e1, e2, e3, e4, e5⟩ := h1
    simp at e4
    refine ⟨b, o, e1, ?_, e4, ?_⟩
    · have := e5 0 (by simp)
      simp at this
      simp [World.cell?, e2, this]
    · by_cases e : c1 = 1
      · have hL : L1 = [] := List.eq_nil_of_length_eq_zero (by omega)
        subst hL
        refine ⟨hb, none, o2, ⟨rfl, by omega⟩, h2, fun b' hb' => ?_, fun b' hb' => by cases hb'⟩
        rcases hb' with hb' | hb'
        · cases hb'
        · exact h3 b' (Or.inr hb')
      · rw [if_neg e]
        refine ⟨hb, some b, o2, ⟨o + 1, c, rfl, e2, by omega, by omega, fun i hi => ?_⟩, h2, h3, h4⟩
        have := e5 (i + 1) (by simp; omega)
        simp at this
        rw [show o + 1 + i = o + (i + 1) by omega, this]

/-- 'level = next; next = nil' -/
theorem QQ.move {w : World} {bad : Nat → Prop} {a1 a2 : Option Addr} {c1 c2 : Nat} {L1 L2 : List Nat} (h : QQ w bad a1 c1 L1 a2 c2 L2) : QQ w bad a2 c2 L2 none 0 [] := by
  obtain ⟨hb, o1, o2, h1, h2, h3, h4⟩ := h
  exact ⟨hb, o2, none, h2, ⟨rfl, rfl⟩, fun b hb' => h3 b (by rcases hb' with e | e; exact Or.inr e; cases e), fun b _ e => by cases e⟩

theorem QQ.drop2 {w : World} {bad : Nat → Prop} {a1 a2 : Option Addr} {c1 c2 : Nat} {L1 L2 : List Nat} (h : QQ w bad a1 c1 L1 a2 c2 L2) : QQ w bad a1 c1 L1 none 0 [] := by
  obtain ⟨hb, o1, o2, h1, h2, h3, h4⟩ := h
  exact ⟨hb, o1, none, h1, ⟨rfl, rfl⟩, fun b hb' => h3 b (by rcases hb' with e | e; exact Or.inl e; cases e), fun b _ e => by cases e⟩

theorem QQ.swap {w : World} {bad : Nat → Prop} {a1 a2 : Option Addr} {c1 c2 : Nat} {L1 L2 : List Nat} (h : QQ w bad a1 c1 L1 a2 c2 L2) : QQ w bad a2 c2 L2 a1 c1 L1 := by
  obtain ⟨hb, o1, o2, h1, h2, h3, h4⟩ := h
  exact ⟨hb, o2, o1, h2, h1, fun b hb' => h3 b (by rcases hb' with e | e; exact Or.inr e; exact Or.inl e), fun b e e' => h4 b e' e⟩

/-- the bad blocks as they were; all else free -/
structure Kept (bad : Nat → Prop) (w w' : World) : Prop where
  os : w'.os = w.os
  tape : w'.tape = w.tape
  output : w'.output = w.output
  size : w.heap.size ≤ w'.heap.size
  block : ∀ b, bad b → w'.heap[b]? = w.heap[b]?

theorem Trym.info3parts : ∃ i, Trym.prog.info? 3 = some i ∧ i.zero = some (.int .i64 0) ∧ i.size = 1 ∧ i.bytes = 8 := by
  obtain ⟨i, h1, h2, h3, h4⟩ := info_parts Trym.info3
  exact ⟨i, h1, h2, h3, h4⟩

theorem getD_append (L : List Nat) (v i : Nat) : ((L ++ [v])[i]?).getD 0 = if i < L.length then (L[i]?).getD 0 else if i = L.length then v else 0 := by
  by_cases h : i < L.length
  · rw [if_pos h, List.getElem?_append_left h]
  · rw [if_neg h]
    by_cases e : i = L.length
    · subst e; simp
    · rw [if_neg e, List.getElem?_eq_none (by simp; omega)]; rfl

theorem wpList_append_q {w : World} {ops : Array Oper} {rest : List Oper} {o : Oper} {a : Act} {Q : Exit → Act → World → Prop}
    (hg : o.guard = none) (s x : Operand) (hop : o.op = Op.call { callee := Callee.builtin Builtin.append, args := #[s, x], argTypes := #[24, 24] })
    (bad : Nat → Prop) (a1 a2 : Option Addr) (c1 c2 : Nat) (L1 L2 : List Nat) (v : Nat) (hs : a.eval s = .slice a1 L1.length c1) (hQ : QQ w bad a1 c1 L1 a2 c2 L2)
    (ad : Addr) (hx : a.eval x = .slice (some ad) 1 1) (hc : w.cell? ad = some (.int .i64 (v : Int))) (hlen : L1.length ≤ 1048576)
    (hK : ∀ a1' c1' w', QQ w' bad a1' c1' (L1 ++ [v]) a2 c2 L2 → Kept bad w w' → wpList Trym.prog ops Q rest (a.put o.dst (.slice a1' (L1.length + 1) c1')) w') :
    wpList Trym.prog ops Q (o :: rest) a w := by
  obtain ⟨i0, hi, hz0, hz1, hz2⟩ := Trym.info3parts
  have hnews : ∀ j u, [Value.int .i64 (v : Int)][j]? = some u → w.cell? (ad.add j) = some u := by
    intro j u hj
    match j, hj with
    | 0, hj => simp at hj; subst hj; simpa [Addr.add] using hc
  have h1c : ∀ u ∈ [Value.int .i64 (v : Int)], u.oneCell' = true := by
    intro u hu; simp at hu; subst hu; rfl
  have hb1 : L1.length + 1 ≤ maxLen := by unfold maxLen; omega
  obtain ⟨hbad, o1, o2, h1, h2, h3, h4⟩ := hQ
  have grown : ∀ (olds : List Value) (v' : Value) (w' : World), olds.length = L1.length → (∀ i, i < L1.length → olds[i]? = some (.int .i64 ((L1[i]?.getD 0 : Nat) : Int))) →
      w'.ownsRow w.heap.size 3 1 v' (L1.length + 1) (olds ++ [.int .i64 (v : Int)]) → w.grownBy w' none → wpList Trym.prog ops Q rest (a.put o.dst v') w' := by
    intro olds v' w' ho hoi hown hgr
    obtain ⟨_, hown⟩ := hown
    rcases hown with ⟨_, h0⟩ | ⟨g, cap, cur, rfl, hg1, hg2, hg3, _, hg5, hg6⟩
    · omega
    · refine hK _ _ _ ⟨fun b hb => Nat.lt_of_lt_of_le (hbad b hb) hgr.size, some g, o2, ⟨0, cur, rfl, hg2, by omega, by simpa using hg3, fun i hi => ?_⟩, h2.of_block (fun b hb => ?_), fun b hb hbd => ?_, fun b hb hb2 => ?_⟩ ⟨hgr.os, hgr.tape, hgr.output, hgr.size, fun b hb => hgr.block b (hbad b hb) (by simp)⟩
      · have e : cur[i]? = (olds ++ [Value.int .i64 (v : Int)])[i]? := by
          rw [← hg6, List.getElem?_take, if_pos (by simp at hi; omega)]
          simp
        rw [Nat.zero_add, e, getD_append]
        simp at hi
        by_cases hlt : i < L1.length
        · rw [if_pos hlt, List.getElem?_append_left (by omega)]; exact hoi i hlt
        · rw [if_neg hlt, if_pos (by omega), List.getElem?_append_right (by omega), ho, show i - L1.length = 0 by omega]; rfl
      · subst hb; exact hgr.block b h2.lt (by simp)
      · rcases hb with hb | hb
        · cases hb; have := hbad g hbd; omega
        · exact h3 b (Or.inr hb) hbd
      · cases hb
        subst hb2
        have := h2.lt
        omega
  cases o1 with
  | none =>
    obtain ⟨rfl, rfl⟩ := h1
    refine wpList_append_grows w hg s x 24 hop 3 i0 (.int .i64 0) 1 8 Trym.underlying24 hi hz0 hz1 hz2 rfl (by decide) a1 0 0 [] hs (fun _ => ⟨rfl, rfl⟩) rfl (fun _ _ j u hj => by simp at hj) ad 1 1 [.int .i64 (v : Int)] hx rfl hnews h1c (by omega) hb1 (by simp) ?_
    intro v' w' hown hgr
    exact grown [] v' w' rfl (fun i hi => absurd hi (Nat.not_lt_zero _)) hown hgr
  | some b =>
    obtain ⟨of, c, rfl, e2, e3, e4, e5⟩ := h1
    have holdc : ∀ j, j < L1.length → w.cell? ⟨b, of + j, none⟩ = some (.int .i64 ((L1[j]?.getD 0 : Nat) : Int)) := fun j hj => by simp [World.cell?, e2, e5 j hj]
    let olds : List Value := (List.range L1.length).map fun j => .int .i64 ((L1[j]?.getD 0 : Nat) : Int)
    have holen : olds.length = L1.length := by simp [olds]
    have hoi : ∀ i, i < L1.length → olds[i]? = some (.int .i64 ((L1[i]?.getD 0 : Nat) : Int)) := fun i hi => by simp [olds, hi]
    refine wpList_append_arg w hg s x 24 hop 3 i0 (.int .i64 0) 1 8 Trym.underlying24 hi hz0 hz1 hz2 rfl (by decide) b of L1.length c1 olds hs (by rw [holen]; omega) (fun j u hj => ?_) ad 1 1 [.int .i64 (v : Int)] hx rfl hnews h1c
      (fun hr j hj => ?_) hb1 (by omega) (fun hr => ?_) (fun hgr v' w' hown hg' => grown olds v' w' holen hoi hown hg')
    · have hj' : j < L1.length := by have := (List.getElem?_eq_some_iff.1 hj).1; omega
      rw [hoi j hj'] at hj
      cases hj
      exact holdc j hj'
    · simp at hj
      subst hj
      have : of + L1.length * 1 + 0 < c.size := by omega
      simp [World.cell?, World.frozen?, e2]
      omega
    · have hnb : ¬ bad b := h3 b (Or.inl rfl)
      have hw : w.setCells b (of + L1.length * 1) [.int .i64 (v : Int)] = w.setCell ⟨b, of + L1.length, none⟩ (.int .i64 (v : Int)) := by simp [World.setCells]
      rw [hw]
      have hblk : (w.setCell ⟨b, of + L1.length, none⟩ (.int .i64 (v : Int))).heap[b]? = some (.cells (c.setIfInBounds (of + L1.length) (.int .i64 (v : Int))) 3 (0, 0)) := by
        simp [World.setCell, Array.getElem?_modify, e2]
      have hoth : ∀ k, k ≠ b → (w.setCell ⟨b, of + L1.length, none⟩ (.int .i64 (v : Int))).heap[k]? = w.heap[k]? := fun k hk => Go.Deep.blk_setCell_other _ _ _ _ hk
      refine hK _ _ _ ⟨fun b' hb' => by rw [Go.Deep.nblk_setCell]; exact hbad b' hb', some b, o2, ⟨of, _, rfl, hblk, by simpa using e3, by simpa using hr, fun i hi => ?_⟩, h2.of_block (fun b' hb' => hoth b' (fun e => h4 b rfl (by rw [hb', e]))), h3, h4⟩
        ⟨rfl, rfl, rfl, by rw [Go.Deep.nblk_setCell]; exact Nat.le_refl _, fun b' hb' => hoth b' (fun e => hnb (e ▸ hb'))⟩
      simp at hi
      rw [getD_append, Array.getElem?_setIfInBounds]
      by_cases hlt : i < L1.length
      · rw [if_neg (by omega), if_pos hlt]; exact e5 i hlt
      · have : i = L1.length := by omega
        subst this
        simp
        omega

end Go.Proofs.Qxb6003132aMods
