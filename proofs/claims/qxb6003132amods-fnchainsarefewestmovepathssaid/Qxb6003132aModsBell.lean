/- Plain mathematics of fewestMoves: Bellman-Ford over classes. -/
import Derived.Test.Qxb6003132aModsGraph
namespace Go.Proofs.Qxb6003132aMods
set_option linter.unusedVariables false

/-- the state at the head of round r: D, and F, those that the last round changed -/
structure BF (N : Net) (r : Nat) (D : Nat → Int) (F : Nat → Prop) : Prop where
  rng : ∀ v, v < N.n → D v = 1073741824 ∨ (0 ≤ D v ∧ D v ≤ r)
  snd : ∀ v, v < N.n → D v < 1073741824 → N.Reach v (D v)
  st : ∀ v, v < N.n → N.start v = true → D v = 0
  rel : ∀ u c v, N.hop u c v → D u < 1073741824 → ¬ F u → D v ≤ D u + N.wt u c
  ch : ∀ v, F v → v < N.n ∧ D v < 1073741824 ∧ ∃ L : List Nat, L.Nodup ∧ L.length = r + 1 ∧ ∀ x ∈ L, x < N.n ∧ D x ≤ D v

/-- the offers, rows below u whole, of row u the classes below c -/
structure Off (N : Net) (D O : Nat → Int) (u c : Nat) : Prop where
  o1 : ∀ c', c' < N.nc → O c' = 1073741824 ∨ ∃ u', u' < N.n ∧ D u' < 1073741824 ∧ N.has u' c' = true ∧ O c' = D u' + N.wt u' c'
  o2 : ∀ u' c', u' < N.n → c' < N.nc → (u' < u ∨ u' = u ∧ c' < c) → D u' < 1073741824 → N.has u' c' = true → O c' ≤ D u' + N.wt u' c'

/-- the new distances, classes below c whole, of class c the members below k -/
structure Upd (N : Net) (D O D' : Nat → Int) (b : Bool) (c k : Nat) : Prop where
  u1 : ∀ v, v < N.n → D' v = D v ∨ (D' v < D v ∧ ∃ c', c' < N.nc ∧ N.mem c' v ∧ N.act v = true ∧ O c' < 1073741824 ∧ D' v = O c')
  u2 : ∀ c' k', c' < N.nc → k' < N.EL c' → (c' < c ∨ c' = c ∧ k' < k) → O c' < 1073741824 → ∀ v : Nat, v < N.n → N.E c' k' = (v : Int) → N.act v = true → D' v ≤ O c'
  u3 : b = false → ∀ v, v < N.n → D' v = D v
  u4 : b = true → ∃ v, v < N.n ∧ D' v < D v

variable {N : Net}

theorem BF.start (D : Nat → Int) (h : ∀ v, v < N.n → D v = if N.start v then 0 else 1073741824) : BF N 0 D (fun v => v < N.n ∧ N.start v = true) where
  rng := fun v hv => by rw [h v hv]; split <;> simp
  snd := fun v hv hd => by
    rw [h v hv] at hd ⊢
    by_cases e : N.start v = true
    · rw [if_pos e]; exact ⟨0, hv, e, rfl⟩
    · rw [if_neg e] at hd; omega
  st := fun v hv e => by rw [h v hv, if_pos e]
  rel := fun u c v hh hd hF => by
    exfalso
    apply hF
    refine ⟨hh.1, ?_⟩
    rw [h u hh.1] at hd
    by_cases e : N.start u = true
    · exact e
    · rw [if_neg e] at hd; omega
  ch := fun v hv => ⟨hv.1, by rw [h v hv.1, if_pos hv.2]; omega, [v], by simp, rfl, by
    intro x hx
    rw [List.mem_singleton.1 hx]
    exact ⟨hv.1, Int.le_refl _⟩⟩

theorem Off.start (D O : Nat → Int) (h : ∀ c, c < N.nc → O c = 1073741824) : Off N D O 0 0 where
  o1 := fun c hc => Or.inl (h c hc)
  o2 := fun u c _ _ h => by omega

theorem Off.skip {D O : Nat → Int} {u : Nat} (h : Off N D O u 0) (hd : ¬ D u < 1073741824) : Off N D O (u + 1) 0 where
  o1 := h.o1
  o2 := fun u' c' h1 h2 h3 h4 h5 => by
    by_cases e : u' = u
    · subst e; exact absurd h4 hd
    · exact h.o2 u' c' h1 h2 (by omega) h4 h5

theorem Off.row {D O : Nat → Int} {u : Nat} (h : Off N D O u N.nc) : Off N D O (u + 1) 0 where
  o1 := h.o1
  o2 := fun u' c' h1 h2 h3 h4 h5 => h.o2 u' c' h1 h2 (by omega) h4 h5

theorem Off.no {D O : Nat → Int} {u c : Nat} (h : Off N D O u c) (hn : N.has u c = false) : Off N D O u (c + 1) where
  o1 := h.o1
  o2 := fun u' c' h1 h2 h3 h4 h5 => by
    by_cases e : u' = u ∧ c' = c
    · obtain ⟨rfl, rfl⟩ := e; rw [hn] at h5; cases h5
    · exact h.o2 u' c' h1 h2 (by omega) h4 h5

theorem Off.keep {D O : Nat → Int} {u c : Nat} (h : Off N D O u c) (hn : O c ≤ D u + N.wt u c) : Off N D O u (c + 1) where
  o1 := h.o1
  o2 := fun u' c' h1 h2 h3 h4 h5 => by
    by_cases e : u' = u ∧ c' = c
    · obtain ⟨rfl, rfl⟩ := e; exact hn
    · exact h.o2 u' c' h1 h2 (by omega) h4 h5

theorem Off.lower {D O : Nat → Int} {u c : Nat} (h : Off N D O u c) (hu : u < N.n) (hd : D u < 1073741824) (hh : N.has u c = true) (hn : D u + N.wt u c < O c) :
    Off N D (fun x => if x = c then D u + N.wt u c else O x) u (c + 1) where
  o1 := fun c' hc' => by
    by_cases e : c' = c
    · subst e; exact Or.inr ⟨u, hu, hd, hh, by simp⟩
    · simpa [e] using h.o1 c' hc'
  o2 := fun u' c' h1 h2 h3 h4 h5 => by
    by_cases e : c' = c
    · subst e
      simp only [if_true]
      by_cases e' : u' = u
      · subst e'; exact Int.le_refl _
      · have := h.o2 u' c' h1 h2 (by omega) h4 h5
        omega
    · simp only [e, if_false]
      exact h.o2 u' c' h1 h2 (by omega) h4 h5

theorem Upd.start (D O : Nat → Int) : Upd N D O D false 0 0 where
  u1 := fun v hv => Or.inl rfl
  u2 := fun c k _ _ h => by omega
  u3 := fun _ v _ => rfl
  u4 := fun h => by cases h

theorem Upd.skip {D O D' : Nat → Int} {b : Bool} {c : Nat} (h : Upd N D O D' b c 0) (ho : ¬ O c < 1073741824) : Upd N D O D' b (c + 1) 0 where
  u1 := h.u1
  u2 := fun c' k' h1 h2 h3 h4 => by
    by_cases e : c' = c
    · subst e; exact absurd h4 ho
    · exact h.u2 c' k' h1 h2 (by omega) h4
  u3 := h.u3
  u4 := h.u4

theorem Upd.row {D O D' : Nat → Int} {b : Bool} {c : Nat} (h : Upd N D O D' b c (N.EL c)) : Upd N D O D' b (c + 1) 0 where
  u1 := h.u1
  u2 := fun c' k' h1 h2 h3 h4 => by
    by_cases e : c' = c
    · subst e; exact h.u2 c' k' h1 h2 (by omega) h4
    · exact h.u2 c' k' h1 h2 (by omega) h4
  u3 := h.u3
  u4 := h.u4

theorem Upd.keep {D O D' : Nat → Int} {b : Bool} {c k v : Nat} (h : Upd N D O D' b c k) (he : N.E c k = (v : Int)) (hk : N.act v = true → D' v ≤ O c) : Upd N D O D' b c (k + 1) where
  u1 := h.u1
  u2 := fun c' k' h1 h2 h3 h4 v' hv' he' ha => by
    by_cases e : c' = c ∧ k' = k
    · obtain ⟨rfl, rfl⟩ := e
      have : v' = v := by omega
      subst this
      exact hk ha
    · exact h.u2 c' k' h1 h2 (by omega) h4 v' hv' he' ha
  u3 := h.u3
  u4 := h.u4

theorem Upd.set {D O D' : Nat → Int} {b : Bool} {c k v : Nat} (h : Upd N D O D' b c k) (hc : c < N.nc) (hk : k < N.EL c) (ho : O c < 1073741824) (hv : v < N.n) (he : N.E c k = (v : Int)) (ha : N.act v = true) (hl : O c < D' v) :
    Upd N D O (fun x => if x = v then O c else D' x) true c (k + 1) where
  u1 := fun x hx => by
    by_cases e : x = v
    · subst e
      have h1 : D' x ≤ D x := by rcases h.u1 x hx with e | e <;> omega
      refine Or.inr ⟨by simp only [if_true]; omega, c, hc, ⟨k, hk, he⟩, ha, ho, by simp⟩
    · simpa [e] using h.u1 x hx
  u2 := fun c' k' h1 h2 h3 h4 v' hv' he' ha' => by
    by_cases e : v' = v
    · subst e
      simp only [if_true]
      by_cases e' : c' = c ∧ k' = k
      · obtain ⟨rfl, rfl⟩ := e'; exact Int.le_refl _
      · have := h.u2 c' k' h1 h2 (by omega) h4 v' hv' he' ha'
        omega
    · simp only [e, if_false]
      by_cases e' : c' = c ∧ k' = k
      · obtain ⟨rfl, rfl⟩ := e'; omega
      · exact h.u2 c' k' h1 h2 (by omega) h4 v' hv' he' ha'
  u3 := fun e => by cases e
  u4 := fun _ => ⟨v, hv, by
    have h1 : D' v ≤ D v := by rcases h.u1 v hv with e | e <;> omega
    simp only [if_true]; omega⟩

theorem BF.next {r : Nat} {D O D' : Nat → Int} {F : Nat → Prop} {b : Bool} (h : BF N r D F) (ho : Off N D O N.n 0) (hu : Upd N D O D' b N.nc 0) (hr : r < 1000000) :
    BF N (r + 1) D' (fun v => v < N.n ∧ D' v < D v) := by
  have hO0 : ∀ c, c < N.nc → O c < 1073741824 → ∃ u, u < N.n ∧ D u < 1073741824 ∧ N.has u c = true ∧ O c = D u + N.wt u c := fun c hc hl => by
    rcases ho.o1 c hc with e | e
    · omega
    · exact e
  have hle : ∀ v, v < N.n → D' v ≤ D v := fun v hv => by rcases hu.u1 v hv with e | e <;> omega
  have hD : ∀ u, u < N.n → D u < 1073741824 → 0 ≤ D u ∧ D u ≤ r := fun u hu hl => by
    rcases h.rng u hu with e | e
    · omega
    · exact e
  refine ⟨fun v hv => ?_, fun v hv hl => ?_, fun v hv hs => ?_, fun u c v hh hl hF => ?_, fun v hv => ?_⟩
  · rcases hu.u1 v hv with e | ⟨e, c, hc, _, _, hol, e2⟩
    · rcases h.rng v hv with e' | e'
      · left; omega
      · right; omega
    · obtain ⟨u, h1, h2, h3, h4⟩ := hO0 c hc hol
      have := hD u h1 h2
      have := N.wt_bd u c
      right; omega
  · rcases hu.u1 v hv with e | ⟨e, c, hc, hm, ha, hol, e2⟩
    · rw [e]; exact h.snd v hv (by omega)
    · obtain ⟨u, h1, h2, h3, h4⟩ := hO0 c hc hol
      rw [e2, h4]
      exact Net.reach_hop (h.snd u h1 h2) ⟨h1, hc, hv, h3, hm, ha⟩
  · have h0 := h.st v hv hs
    rcases hu.u1 v hv with e | ⟨e, c, hc, hm, ha, hol, e2⟩
    · omega
    · obtain ⟨u, h1, h2, h3, h4⟩ := hO0 c hc hol
      have := hD u h1 h2
      have := N.wt_bd u c
      omega
  · obtain ⟨g1, g2, g3, g4, ⟨k, gk, ge⟩, g6⟩ := hh
    have e : D' u = D u := by
      have := hle u g1
      have : ¬ D' u < D u := fun hlt => hF ⟨g1, hlt⟩
      omega
    have hb := hD u g1 (by omega)
    have hw := N.wt_bd u c
    have ho2 := ho.o2 u c g1 g2 (Or.inl g1) (by omega) g4
    have := hu.u2 c k g2 gk (Or.inl g2) (by omega) v g3 ge g6
    omega
  · obtain ⟨hvn, hlt⟩ := hv
    rcases hu.u1 v hvn with e | ⟨e, c, hc, hm, ha, hol, e2⟩
    · omega
    · obtain ⟨u, h1, h2, h3, h4⟩ := hO0 c hc hol
      have hw := N.wt_bd u c
      by_cases hF : F u
      · obtain ⟨_, _, L, l1, l2, l3⟩ := h.ch u hF
        refine ⟨hvn, by omega, v :: L, List.nodup_cons.2 ⟨fun hm' => ?_, l1⟩, by simp [l2], fun x hx => ?_⟩
        · have := (l3 v hm').2
          omega
        · rcases List.mem_cons.1 hx with rfl | hx
          · exact ⟨hvn, Int.le_refl _⟩
          · have hx2 := l3 x hx
            exact ⟨hx2.1, by have := hle x hx2.1; omega⟩
      · have := h.rel u c v ⟨h1, hc, hvn, h3, hm, ha⟩ h2 hF
        omega

theorem BF.over {r : Nat} {D : Nat → Int} {F : Nat → Prop} (h : BF N r D F) {v : Nat} (hv : F v) : r + 1 ≤ N.n := by
  obtain ⟨_, _, L, l1, l2, l3⟩ := h.ch v hv
  have := nodup_le N.n L l1 (fun x hx => (l3 x hx).1)
  omega

/-- what is handed back -/
def outOf (D : Nat → Int) (v : Nat) : Int := if 1073741824 ≤ D v then -1 else D v

theorem BF.stop {r : Nat} {D : Nat → Int} {F : Nat → Prop} (h : BF N r D F) (hF : ∀ v, ¬ F v) (hr : r < 1000000) : N.Sound (outOf D) ∧ N.Complete (outOf D) ∧ N.Tame (outOf D) := by
  have key : ∀ v, v < N.n → (D v = 1073741824 ∧ outOf D v = -1) ∨ (0 ≤ D v ∧ D v ≤ r ∧ outOf D v = D v) := fun v hv => by
    rcases h.rng v hv with e | e
    · left; exact ⟨e, by unfold outOf; rw [if_pos (by omega)]⟩
    · right; exact ⟨e.1, e.2, by unfold outOf; rw [if_neg (by omega)]⟩
  refine ⟨fun v hv h0 => ?_, ⟨fun v hv hs => ?_, fun u c v hh h0 => ?_⟩, fun v hv => ?_⟩
  · rcases key v hv with e | e
    · omega
    · rw [e.2.2]; exact h.snd v hv (by omega)
  · have := h.st v hv hs
    rcases key v hv with e | e <;> omega
  · rcases key u hh.1 with e | e
    · omega
    · have h1 := h.rel u c v hh (by omega) (hF u)
      have hw := N.wt_bd u c
      rcases key v hh.2.2.1 with e' | e' <;> omega
  · rcases key v hv with e | e <;> omega

end Go.Proofs.Qxb6003132aMods
