/- A map that is filled key by key. -/
import Derived.Test.Qxb6003132aModsMaps
import Derived.Test.Qxb6003132aModsParts
namespace Go.Proofs.Qxb6003132aMods
open Go.RowKit Go.Maps
set_option linter.unusedVariables false

/-- block b is a map that holds keys 0 .. c-1, at j a slice of length g j -/
def MapTo (w : World) (b c : Nat) (g : Nat → Nat) : Prop :=
  ∃ D : DataW Unit, w.ownsMap Trym.prog 21 lenElem b c D ∧ IsMap D ∧ ∀ j : Nat, j ≤ 1048576 → D.atKey (.int .i32 (j : Int)) (.lit (.int .i64 0)) = .lit (.int .i64 (((if j < c then g j else 0 : Nat)) : Int))

theorem MapTo.start (w : World) (g : Nat → Nat) : MapTo (w.alloc (.map #[] 0)) w.heap.size 0 g :=
  ⟨.map [], World.ownsMap_made w _ _ _, ⟨[], rfl⟩, fun j _ => by simp [DataW.atKey]⟩

theorem MapTo.put {w' : World} {b c : Nat} {g : Nat → Nat} {D : DataW Unit} (hm : IsMap D) (hat : ∀ j : Nat, j ≤ 1048576 → D.atKey (.int .i32 (j : Int)) (.lit (.int .i64 0)) = .lit (.int .i64 (((if j < c then g j else 0 : Nat)) : Int)))
    (h : w'.ownsMap Trym.prog 21 lenElem b (c + 1) (D.put (.int .i32 (c : Int)) (.lit (.int .i64 (g c : Int))))) : MapTo w' b (c + 1) g := by
  refine ⟨_, h, hm.put _ _, fun j hj => ?_⟩
  by_cases e : j = c
  · subst e
    rw [atKey_put_same hm (by simp [WideAt.IsKeyLit])]
    simp
  · rw [atKey_put_other (by simp; omega), hat j hj]
    have : (j < c + 1) = (j < c) := by simp; omega
    simp only [this]

theorem MapTo.full {w : World} {b : Nat} {L : Nat → Nat} {LL : Nat → Nat → Nat} {i : Nat} (h : MapTo w b (L i) (LL i)) (hL : L i ≤ 1048576) : MapLens w b (fun c => plen L LL i c) := by
  obtain ⟨D, h1, h2, h3⟩ := h
  exact ⟨L i, D, h1, by omega, h2, fun c hc => h3 c hc⟩

theorem MapLens.cells_ne {w : World} {b b' : Nat} {f : Nat → Nat} {t : TypeId} {n : Nat} {g : Nat → Value} (h : MapLens w b f) (hr : w.rowIs b' t n g) : b ≠ b' := by
  obtain ⟨m, D, ⟨es, clock, hb, _⟩, _⟩ := h
  obtain ⟨c, hc, _⟩ := hr
  intro e
  subst e
  rw [hb] at hc
  cases hc

end Go.Proofs.Qxb6003132aMods
