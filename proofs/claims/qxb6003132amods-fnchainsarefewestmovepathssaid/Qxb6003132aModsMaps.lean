/- Maps from int32 to slices, of which the lengths alone are told. -/
import Derived.Test.Qxb6003132aModsBase
import Derived.Maps.Own
import Derived.Maps.OwnOps
import Derived.Maps.OwnSet
import Derived.Maps.Views
namespace Go.Proofs.Qxb6003132aMods
open Go.RowKit Go.Maps
set_option linter.unusedVariables false

/-- an element reads as its length -/
def lenElem : Value → Option (DataW Unit × List MemPlace)
  | .slice _ n _ => some (.lit (.int .i64 (n : Int)), [])
  | _ => none

theorem lenElem_inv {v : Value} {x : Int} {ps : List MemPlace} (h : lenElem v = some (.lit (.int .i64 x), ps)) : ∃ a n c, v = .slice a n c ∧ (n : Int) = x := by
  unfold lenElem at h
  split at h
  · simp at h
    exact ⟨_, _, _, rfl, h.1⟩
  · cases h

theorem key21 : Keyed Trym.prog 21 := int_keyed Trym.underlying21
theorem zero36 (w : World) : (zeroValue 36).run Trym.prog w = .ok (.slice none 0 0) w := by kernel_rfl
theorem wf32 (c : Nat) (h : c ≤ 1048576) : (Lit.int .i32 (c : Int)).wf = true := by
  have h1 : IntKind.i32.min = -2147483648 := by decide
  have h2 : IntKind.i32.max = 2147483647 := by decide
  simp only [Lit.wf, h1, h2, Bool.and_eq_true, decide_eq_true_eq]
  omega

/-- block b is a map: at key c a slice of length f c -/
def MapLens (w : World) (b : Nat) (f : Nat → Nat) : Prop :=
  ∃ (m : Nat) (D : DataW Unit), w.ownsMap Trym.prog 21 lenElem b m D ∧ m ≤ 2097152 ∧ IsMap D ∧ ∀ c : Nat, c ≤ 1048576 → D.atKey (.int .i32 (c : Int)) (.lit (.int .i64 0)) = .lit (.int .i64 (f c : Int))

theorem MapLens.look {w : World} {b : Nat} {f : Nat → Nat} (h : MapLens w b f) (c : Nat) (hc : c ≤ 1048576) :
    ∃ a cc, Sem.run Trym.prog (Instr.lookup 32 (.map (some b)) (.int .i32 (c : Int)) false) w = .ok (.slice a (f c) cc) w := by
  obtain ⟨m, D, hown, _, _, hat⟩ := h
  obtain ⟨v, ps, hrun, hv⟩ := hown.lookup key21 Trym.underlying32 (zero36 w) (zd := .lit (.int .i64 0)) (zp := []) rfl (keyOf_int_mk Trym.underlying21 (wf32 c hc))
  rw [hat c hc] at hv
  obtain ⟨a, n, cc, rfl, hn⟩ := lenElem_inv hv
  have : n = f c := by omega
  subst this
  exact ⟨a, cc, hrun⟩

theorem pairwise_inj {α β : Type} (f : α → β) : ∀ (l : List α), l.Pairwise (fun a b => f a ≠ f b) → ∀ x y, x ∈ l → y ∈ l → f x = f y → x = y
  | [], _, x, _, hx, _, _ => by cases hx
  | a :: l, h, x, y, hx, hy, e => by
    have h' := List.pairwise_cons.1 h
    rcases List.mem_cons.1 hx with hx1 | hx1
    · rcases List.mem_cons.1 hy with hy1 | hy1
      · rw [hx1, hy1]
      · subst hx1; exact absurd e (h'.1 y hy1)
    · rcases List.mem_cons.1 hy with hy1 | hy1
      · subst hy1; exact absurd e.symm (h'.1 x hx1)
      · exact pairwise_inj f l h'.2 x y hx1 hy1 e

/-- the same slice in every world that holds the block -/
theorem MapLens.look_all {w : World} {b : Nat} {f : Nat → Nat} (h : MapLens w b f) (c : Nat) (hc : c ≤ 1048576) :
    ∃ a cc, ∀ w' : World, w'.heap[b]? = w.heap[b]? → Sem.run Trym.prog (Instr.lookup 32 (.map (some b)) (.int .i32 (c : Int)) false) w' = .ok (.slice a (f c) cc) w' := by
  obtain ⟨a, cc, h0⟩ := h.look c hc
  obtain ⟨m, D, ⟨es, clock, hb, F, _, _⟩, _⟩ := h
  refine ⟨a, cc, fun w' e => ?_⟩
  have hkey := keyOf_int_mk (P := Trym.prog) Trym.underlying21 (wf32 c hc)
  have l0 := Maps.fit_look false key21 Trym.underlying32 (zero36 w) hb F hkey
  have l1 := Maps.fit_look false key21 Trym.underlying32 (zero36 w') (e.trans hb) F hkey
  rcases l0 with ⟨r0, n0, _⟩ | ⟨e0, y0, m0, k0, r0, _⟩
  · rw [h0] at r0
    rcases l1 with ⟨r1, _, _⟩ | ⟨e1, y1, m1, k1, _⟩
    · rw [r1]
      simp at r0 ⊢
      exact ⟨r0.1.symm, r0.2.1.symm, r0.2.2.symm⟩
    · exact absurd k1 (n0 e1 m1)
  · rw [h0] at r0
    rcases l1 with ⟨_, n1, _⟩ | ⟨e1, y1, m1, k1, r1, _⟩
    · exact absurd k0 (n1 e0 m0)
    · have hap := Maps.fit_apart key21 F
      rw [List.pairwise_map] at hap
      have : e0 = e1 := pairwise_inj _ _ hap e0 e1 m0 m1 (by
        obtain ⟨x0, hx0⟩ := F.reads e0 m0
        obtain ⟨x1, hx1⟩ := F.reads e1 m1
        have q0 := WideElems.rd_key hx0
        have q1 := WideElems.rd_key hx1
        rw [WideElems.rg_of hx0, WideElems.rg_of hx1]
        rw [k0] at q0
        rw [k1, q0] at q1
        exact Option.some.inj q1)
      subst this
      rw [r1]
      simp at r0 ⊢
      exact r0.symm

theorem MapLens.of_block {w w' : World} {b : Nat} {f : Nat → Nat} (h : MapLens w b f) (e : w'.heap[b]? = w.heap[b]?) : MapLens w' b f := by
  obtain ⟨m, D, ⟨es, clock, hb, h2⟩, h3⟩ := h
  exact ⟨m, D, ⟨es, clock, e.trans hb, h2⟩, h3⟩

theorem MapLens.lt {w : World} {b : Nat} {f : Nat → Nat} (h : MapLens w b f) : b < w.heap.size := by
  obtain ⟨m, D, hown, _⟩ := h
  exact hown.lt

theorem MapLens.since {w w' : World} {b : Nat} {f : Nat → Nat} (h : MapLens w b f) (hs : w.Since w.heap.size w') : MapLens w' b f := h.of_block (hs.block _ h.lt)

end Go.Proofs.Qxb6003132aMods
