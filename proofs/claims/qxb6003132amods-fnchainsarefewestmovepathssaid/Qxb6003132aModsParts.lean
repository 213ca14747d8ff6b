/- partsOf, listed; the views of [][]int and of [][][]int32. -/
import Derived.Test.Qxb6003132aModsBase
namespace Go.Proofs.Qxb6003132aMods
open Go.RowKit
set_option linter.unusedVariables false

/-- '[][]int': row i has L i elements, E i k -/
def Mat (w : World) (ao : Option Addr) (n : Nat) (L : Nat → Nat) (E : Nat → Nat → Int) : Prop :=
  ∃ (A : Nat → Option Addr) (C : Nat → Nat), Sl w 0 ao n (fun i => .slice (A i) (L i) (C i)) ∧ ∀ i, i < n → Sl w 0 (A i) (L i) (fun k => .int .i64 (E i k))

/-- '[][][]int32', the two upper storeys: row i has L i elements, slices of length LL i j -/
def Cube (w : World) (ao : Option Addr) (n : Nat) (L : Nat → Nat) (LL : Nat → Nat → Nat) : Prop :=
  ∃ (A : Nat → Option Addr) (C : Nat → Nat) (AA : Nat → Nat → Option Addr) (CC : Nat → Nat → Nat), Sl w 0 ao n (fun i => .slice (A i) (L i) (C i)) ∧ ∀ i, i < n → Sl w 0 (A i) (L i) (fun j => .slice (AA i j) (LL i j) (CC i j))

theorem Mat.since {w w' : World} {ao : Option Addr} {n : Nat} {L : Nat → Nat} {E : Nat → Nat → Int} (h : Mat w ao n L E) (hs : w.Since w.heap.size w') : Mat w' ao n L E := by
  obtain ⟨A, C, h1, h2⟩ := h
  exact ⟨A, C, h1.since hs, fun i hi => (h2 i hi).since hs⟩

theorem Cube.since {w w' : World} {ao : Option Addr} {n : Nat} {L : Nat → Nat} {LL : Nat → Nat → Nat} (h : Cube w ao n L LL) (hs : w.Since w.heap.size w') : Cube w' ao n L LL := by
  obtain ⟨A, C, AA, CC, h1, h2⟩ := h
  exact ⟨A, C, AA, CC, h1.since hs, fun i hi => (h2 i hi).since hs⟩

/-- how many parts of class c lie at u -/
def plen (L : Nat → Nat) (LL : Nat → Nat → Nat) (u c : Nat) : Nat := if c < L u then LL u c else 0
def hasB (KL : Nat → Nat) (KLL : Nat → Nat → Nat) (AL : Nat → Nat) (ALL : Nat → Nat → Nat) (u c : Nat) : Bool := decide (0 < plen KL KLL u c + plen AL ALL u c)
def freshB (AL : Nat → Nat) (ALL : Nat → Nat → Nat) (u c : Nat) : Bool := decide (0 < plen AL ALL u c)

set_option maxHeartbeats 400000 in
theorem partsOf_any (ka aa : Option Addr) (n kc ac : Nat) (KL AL : Nat → Nat) (KLL ALL : Nat → Nat → Nat) (u c : Nat) (w : World) (hu : u < n) (hn : n ≤ 1048576) (hc : c ≤ 1048576)
    (hK : Cube w ka n KL KLL) (hA : Cube w aa n AL ALL) (kb : plen KL KLL u c ≤ 1048576) (ab : plen AL ALL u c ≤ 1048576) :
    Calls Trym.prog 16 #[.slice ka n kc, .slice aa n ac, .int .i64 u, .int .i64 c] w fun e w' => e = .returned (.tuple #[.bool (hasB KL KLL AL ALL u c), .bool (freshB AL ALL u c)]) ∧ w' = w := by
  obtain ⟨KA, KC, KAA, KCC, k1, k2⟩ := hK
  obtain ⟨AA, AC, AAA, ACC, a1, a2⟩ := hA
  replace k2 := k2 u hu
  replace a2 := a2 u hu
  obtain ⟨b1, o1, rfl, _, k1⟩ := k1.get (by omega)
  obtain ⟨b2, o2, rfl, _, a1⟩ := a1.get (by omega)
  replace k1 := k1 u hu
  replace a1 := a1 u hu
  have hui : (u : Int) < (n : Int) := by omega
  by_cases hk : c < KL u
  · obtain ⟨b3, o3, e3, _, k3⟩ := k2.get (by omega)
    simp only [e3] at k1
    replace k3 := k3 c hk
    have hki : (c : Int) < (KL u : Int) := by omega
    have pk : plen KL KLL u c = KLL u c := by simp [plen, hk]
    rw [pk] at kb
    by_cases ha : c < AL u
    · obtain ⟨b4, o4, e4, _, a4⟩ := a2.get (by omega)
      simp only [e4] at a1
      replace a4 := a4 c ha
      have hai : (c : Int) < (AL u : Int) := by omega
      have pa : plen AL ALL u c = ALL u c := by simp [plen, ha]
      rw [pa] at ab
      have Hp : Hid (hasB KL KLL AL ALL u c = decide ((0 : Int) < (KLL u c : Int) + (ALL u c : Int)) ∧ freshB AL ALL u c = decide (0 < ALL u c)) := by
        show _ ∧ _
        simp only [hasB, freshB, pk, pa]
        refine ⟨by rw [Bool.eq_iff_iff]; simp; omega, ?_⟩
        first | trivial | rfl | (rw [Bool.eq_iff_iff]; simp)
      clear pk pa k2 a2 e3 e4
      go_enter Trym.func16, Trym.ntmps16
      go_wp2
      go_ret2
      rw [Hp.out.1, Hp.out.2]
      exact ⟨rfl, rfl⟩
    · have pa : plen AL ALL u c = 0 := by simp [plen, ha]
      have Hp : Hid (hasB KL KLL AL ALL u c = decide (0 < KLL u c) ∧ freshB AL ALL u c = false) := by
        show _ ∧ _
        simp only [hasB, freshB, pk, pa]
        refine ⟨?_, ?_⟩ <;> first | trivial | rfl | simp
      clear pk pa k2 a2 e3
      go_enter Trym.func16, Trym.ntmps16
      go_wp2
      go_ret2
      rw [Hp.out.1, Hp.out.2]
      exact ⟨rfl, rfl⟩
  · have pk : plen KL KLL u c = 0 := by simp [plen, hk]
    by_cases ha : c < AL u
    · obtain ⟨b4, o4, e4, _, a4⟩ := a2.get (by omega)
      simp only [e4] at a1
      replace a4 := a4 c ha
      have hai : (c : Int) < (AL u : Int) := by omega
      have pa : plen AL ALL u c = ALL u c := by simp [plen, ha]
      rw [pa] at ab
      have Hp : Hid (hasB KL KLL AL ALL u c = decide (0 < ALL u c) ∧ freshB AL ALL u c = decide (0 < ALL u c)) := by
        show _ ∧ _
        simp only [hasB, freshB, pk, pa]
        refine ⟨?_, ?_⟩ <;> first | trivial | rfl | simp
      clear pk pa k2 a2 e4
      go_enter Trym.func16, Trym.ntmps16
      go_wp2
      go_ret2
      rw [Hp.out.1, Hp.out.2]
      exact ⟨rfl, rfl⟩
    · have pa : plen AL ALL u c = 0 := by simp [plen, ha]
      have Hp : Hid (hasB KL KLL AL ALL u c = false ∧ freshB AL ALL u c = false) := by
        show _ ∧ _
        simp only [hasB, freshB, pk, pa]
        exact ⟨by simp, by simp⟩
      clear pk pa k2 a2
      go_enter Trym.func16, Trym.ntmps16
      go_wp2
      go_ret2
      rw [Hp.out.1, Hp.out.2]
      exact ⟨rfl, rfl⟩

set_option maxHeartbeats 400000 in
theorem listed_any (ao : Option Addr) (n cap : Nat) (f : Nat → Int) (v : Int) (w : World) (hn : n ≤ 1048576) (h : Sl w 0 ao n (fun i => .int .i64 (f i))) (hv : ∃ k, k < n ∧ f k = v) :
    Calls Trym.prog 17 #[.slice ao n cap, .int .i64 v] w fun e w' => e = .returned (.bool true) ∧ w' = w := by
  obtain ⟨kv, hkv, hfv⟩ := hv
  obtain ⟨b, o, rfl, _, hc⟩ := h.get (by omega)
  clear h
  have Hc : Hid (∀ i, i < n → w.cell? ⟨b, o + i, none⟩ = some (.int .i64 (f i))) := hc
  have Hv : Hid (f kv = v) := hfv
  clear hc hfv
  go_enter Trym.func17, Trym.ntmps17
  go_wp2
  go_loopg [5] n (fun g i wr => ∃ k : Nat, k ≤ kv ∧ g = n - k ∧ i = .int .i64 k ∧ wr = w)
  case atStart => exact ⟨0, Nat.zero_le _, rfl, rfl, rfl⟩
  case round =>
    obtain ⟨k, hk, rfl, rfl, rfl⟩ := hrel
    have c1 := Hc.out k (by omega)
    have hlt : (k : Int) < (n : Int) := by omega
    cases e : (f k == v)
    · have hne : k ≠ kv := fun e' => by subst e'; rw [Hv.out] at e; simp at e
      go_wp2
      go_roundg (n - (k + 1))
      case measure => go_light; omega
      case rel => go_light; exact ⟨k + 1, by omega, rfl, by simp, rfl⟩
    · go_wp2
      go_ret
      exact ⟨rfl, rfl⟩
end Go.Proofs.Qxb6003132aMods
