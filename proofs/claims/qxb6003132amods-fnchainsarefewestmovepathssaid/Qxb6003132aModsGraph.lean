/- Plain mathematics: no Go. Members, classes, hops; what determines the fewest moves; pigeonholes; Bellman-Ford's rounds. -/
import Derived.Test.Qxb6003132aModsRows
namespace Go.Proofs.Qxb6003132aMods
set_option linter.unusedVariables false

/-- n members, nc classes; E c k: the k-th eligible member of class c, of EL c; has u c: u holds a part of c; fresh u c: one of them anew -/
structure Net where
  n : Nat
  nc : Nat
  EL : Nat → Nat
  E : Nat → Nat → Int
  has : Nat → Nat → Bool
  fresh : Nat → Nat → Bool
  act : Nat → Bool
  start : Nat → Bool

namespace Net
variable (N : Net)

def mem (c v : Nat) : Prop := ∃ k, k < N.EL c ∧ N.E c k = (v : Int)
def wt (u c : Nat) : Int := if N.fresh u c then 0 else 1
def hop (u c v : Nat) : Prop := u < N.n ∧ c < N.nc ∧ v < N.n ∧ N.has u c = true ∧ N.mem c v ∧ N.act v = true

def Path : Nat → Nat → Int → Prop
  | 0, v, k => v < N.n ∧ N.start v = true ∧ k = 0
  | m + 1, v, k => ∃ u c k', Path m u k' ∧ N.hop u c v ∧ k = k' + N.wt u c

def Reach (v : Nat) (k : Int) : Prop := ∃ m, N.Path m v k

def Sound (D : Nat → Int) : Prop := ∀ v, v < N.n → 0 ≤ D v → N.Reach v (D v)
def Complete (D : Nat → Int) : Prop := (∀ v, v < N.n → N.start v = true → D v = 0) ∧ ∀ u c v, N.hop u c v → 0 ≤ D u → 0 ≤ D v ∧ D v ≤ D u + N.wt u c
def Tame (D : Nat → Int) : Prop := ∀ v, v < N.n → D v = -1 ∨ 0 ≤ D v

variable {N}

theorem wt_bd (u c : Nat) : 0 ≤ N.wt u c ∧ N.wt u c ≤ 1 := by unfold wt; split <;> omega

theorem path_le {D : Nat → Int} (h : N.Complete D) : ∀ (m v : Nat) (k : Int), N.Path m v k → v < N.n ∧ 0 ≤ D v ∧ D v ≤ k
  | 0, v, k, hp => by
    obtain ⟨h1, h2, h3⟩ := hp
    have := h.1 v h1 h2
    exact ⟨h1, by omega, by omega⟩
  | m + 1, v, k, hp => by
    obtain ⟨u, c, k', h1, h2, h3⟩ := hp
    obtain ⟨a1, a2, a3⟩ := path_le h m u k' h1
    have := h.2 u c v h2 a2
    exact ⟨h2.2.2.1, this.1, by omega⟩

theorem reach_hop {u c v : Nat} {k : Int} (h : N.Reach u k) (hh : N.hop u c v) : N.Reach v (k + N.wt u c) := by
  obtain ⟨m, hm⟩ := h
  exact ⟨m + 1, u, c, k, hm, hh, rfl⟩

theorem unique {D D' : Nat → Int} (s : N.Sound D) (c : N.Complete D) (t : N.Tame D) (s' : N.Sound D') (c' : N.Complete D') (t' : N.Tame D') (v : Nat) (hv : v < N.n) : D v = D' v := by
  rcases t v hv with e | e
  · rcases t' v hv with e' | e'
    · omega
    · obtain ⟨m, hm⟩ := s' v hv e'
      have := path_le c m v _ hm
      omega
  · obtain ⟨m, hm⟩ := s v hv e
    have h1 := path_le c' m v _ hm
    obtain ⟨m', hm'⟩ := s' v hv h1.2.1
    have h2 := path_le c m' v _ hm'
    omega

end Net

/-! ### Pigeonholes -/

theorem nodup_le : ∀ (n : Nat) (L : List Nat), L.Nodup → (∀ x ∈ L, x < n) → L.length ≤ n
  | 0, L, _, h => by
    cases L with
    | nil => simp
    | cons a l => exact absurd (h a (by simp)) (Nat.not_lt_zero _)
  | n + 1, L, hd, h => by
    have h1 : (L.filter (fun x => decide (x ≠ n))).length ≤ n := by
      refine nodup_le n _ (hd.filter _) ?_
      intro x hx
      have := List.mem_filter.1 hx
      have h2 := h x this.1
      have h3 : x ≠ n := by simpa using this.2
      omega
    have h2 : L.length ≤ (L.filter (fun x => decide (x ≠ n))).length + 1 := by
      clear h h1
      induction L with
      | nil => simp
      | cons a l ih =>
        have hd' := List.nodup_cons.1 hd
        by_cases e : a = n
        · subst e
          have : l.filter (fun x => decide (x ≠ a)) = l := by
            apply List.filter_eq_self.2
            intro x hx
            have : x ≠ a := fun e => hd'.1 (e ▸ hx)
            simpa using this
          rw [List.filter_cons_of_neg (by simp), this]
          simp
        · rw [List.filter_cons_of_pos (by simpa using e)]
          have := ih hd'.2
          simp only [List.length_cons]
          omega
    omega

theorem levels_le (n d : Nat) (M : Nat → Int) (h : ∀ j, j < d → ∃ u, u < n ∧ M u = (j : Int)) : d ≤ n := by
  have key : ∀ d : Nat, (∀ j : Nat, j < d → ∃ u, u < n ∧ M u = (j : Int)) → ∃ L : List Nat, L.Nodup ∧ L.length = d ∧ (∀ x ∈ L, x < n) ∧ ∀ x ∈ L, M x < (d : Int) := by
    intro d
    induction d with
    | zero => intro _; exact ⟨[], by simp, rfl, by simp, by simp⟩
    | succ d ih =>
      intro h
      obtain ⟨L, h1, h2, h3, h4⟩ := ih (fun j hj => h j (by omega))
      obtain ⟨u, hu, hM⟩ := h d (by omega)
      refine ⟨u :: L, List.nodup_cons.2 ⟨fun hm => ?_, h1⟩, by simp [h2], ?_, ?_⟩
      · have := h4 u hm; omega
      · intro x hx
        rcases List.mem_cons.1 hx with rfl | hx
        · exact hu
        · exact h3 x hx
      · intro x hx
        rcases List.mem_cons.1 hx with rfl | hx
        · rw [hM]; omega
        · have := h4 x hx; omega
  obtain ⟨L, h1, h2, h3, _⟩ := key d h
  have := nodup_le n L h1 h3
  omega

/-! ### Counting -/

def cnt (Dn : Nat → Bool) : Nat → Nat
  | 0 => 0
  | n + 1 => cnt Dn n + if Dn n then 1 else 0

theorem cnt_le (Dn : Nat → Bool) : ∀ n, cnt Dn n ≤ n
  | 0 => Nat.le_refl _
  | n + 1 => by have := cnt_le Dn n; unfold cnt; split <;> omega

theorem cnt_congr {D D' : Nat → Bool} : ∀ n, (∀ i, i < n → D i = D' i) → cnt D n = cnt D' n
  | 0, _ => rfl
  | n + 1, h => by unfold cnt; rw [cnt_congr n (fun i hi => h i (by omega)), h n (by omega)]

theorem cnt_mark (Dn : Nat → Bool) (u : Nat) (hu : Dn u = false) : ∀ n, u < n → cnt (fun x => if x = u then true else Dn x) n = cnt Dn n + 1
  | 0, h => absurd h (Nat.not_lt_zero _)
  | n + 1, h => by
    unfold cnt
    by_cases e : u = n
    · subst e
      have : cnt (fun x => if x = u then true else Dn x) u = cnt Dn u := cnt_congr u (fun i hi => by simp [Nat.ne_of_lt hi])
      rw [this, hu]
      simp
    · rw [cnt_mark Dn u hu n (by omega)]
      have : ¬ n = u := fun e' => e e'.symm
      simp only [this, if_false]
      omega

theorem cnt_lt (Dn : Nat → Bool) (u n : Nat) (hu : Dn u = false) (h : u < n) : cnt Dn n < n := by
  have := cnt_mark Dn u hu n h
  have := cnt_le (fun x => if x = u then true else Dn x) n
  omega

end Go.Proofs.Qxb6003132aMods
