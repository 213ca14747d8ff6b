/- Plain mathematics of chains: a search by levels with two queues. -/
import Derived.Test.Qxb6003132aModsGraph
namespace Go.Proofs.Qxb6003132aMods
set_option linter.unusedVariables false

def pot (m : Int) (d : Nat) : Nat := if m < 0 then 2 else if m = (d : Int) + 1 then 1 else 0
def Phi (M : Nat → Int) (d : Nat) : Nat → Nat
  | 0 => 0
  | n + 1 => Phi M d n + pot (M n) d

theorem pot_le (m : Int) (d : Nat) : pot m d ≤ 2 := by unfold pot; split <;> (try split) <;> omega

theorem Phi_le (M : Nat → Int) (d : Nat) : ∀ n, Phi M d n ≤ 2 * n
  | 0 => by simp [Phi]
  | n + 1 => by have := Phi_le M d n; have := pot_le (M n) d; unfold Phi; omega

theorem Phi_congr {M M' : Nat → Int} (d : Nat) : ∀ n, (∀ i, i < n → M i = M' i) → Phi M d n = Phi M' d n
  | 0, _ => rfl
  | n + 1, h => by unfold Phi; rw [Phi_congr d n (fun i hi => h i (by omega)), h n (by omega)]

theorem Phi_set (M : Nat → Int) (d v : Nat) (x : Int) (h : pot x d + 1 ≤ pot (M v) d) : ∀ n, v < n → Phi (fun i => if i = v then x else M i) d n + 1 ≤ Phi M d n
  | 0, hv => absurd hv (Nat.not_lt_zero _)
  | n + 1, hv => by
    unfold Phi
    by_cases e : v = n
    · subst e
      rw [Phi_congr (M := fun i => if i = v then x else M i) (M' := M) d v (fun i hi => by simp [Nat.ne_of_lt hi])]
      simp only [if_true]
      omega
    · have := Phi_set M d v x h n (by omega)
      have e' : ¬ n = v := fun e' => e e'.symm
      simp only [e', if_false]
      omega

theorem Phi_succ (M : Nat → Int) (d : Nat) : ∀ n, (∀ i, i < n → M i ≤ (d : Int) + 1) → Phi M (d + 1) n ≤ Phi M d n
  | 0, _ => Nat.le_refl _
  | n + 1, h => by
    have := Phi_succ M d n (fun i hi => h i (by omega))
    have h1 : pot (M n) (d + 1) ≤ pot (M n) d := by
      have := h n (by omega)
      unfold pot
      split
      · exact Nat.le_refl _
      · rw [if_neg (by omega)]; exact Nat.zero_le _
    unfold Phi
    omega

/-- the state of the search at level d; u0, c0: the member in work, its classes from c0 on not looked at; c1, k1: the class in work, its members from k1 on not looked at -/
structure CInv (N : Net) (d : Nat) (M VF VC O : Nat → Int) (Dn : Nat → Bool) (T : Nat → Nat) (Lv Nx : List Nat) (u0 c0 c1 k1 : Nat) : Prop where
  m1 : ∀ v, v < N.n → M v = -1 ∨ (0 ≤ M v ∧ M v ≤ (d : Int) + 1 ∧ N.act v = true)
  m2 : ∀ v, v < N.n → N.start v = true → M v = 0 ∧ VF v = -1 ∧ VC v = 0
  m3 : ∀ v, v < N.n → M v = -1 → VF v = 0 ∧ VC v = 0
  m4 : ∀ v, v < N.n → 0 ≤ M v → N.start v = false → ∃ u c, N.hop u c v ∧ VF v = (u : Int) ∧ VC v = (c : Int) ∧ Dn u = true ∧ M v = M u + N.wt u c ∧ (Dn v = true → T u < T v)
  m5 : ∀ u, u < N.n → Dn u = true → 0 ≤ M u ∧ M u ≤ (d : Int) ∧ T u < cnt Dn N.n
  o1 : ∀ u c, u < N.n → c < N.nc → Dn u = true → N.has u c = true → ¬ (u = u0 ∧ c0 ≤ c) → O c ≤ M u + N.wt u c ∧ O c ≤ (N.n : Int)
  o2 : ∀ c k, c < N.nc → k < N.EL c → (c = c1 → k < k1) → O c ≤ (N.n : Int) → ∀ v : Nat, v < N.n → N.E c k = (v : Int) → N.act v = true → 0 ≤ M v ∧ M v ≤ O c
  q : ∀ v, v < N.n → 0 ≤ M v → Dn v = false → (M v = (d : Int) ∧ v ∈ Lv) ∨ (M v = (d : Int) + 1 ∧ v ∈ Nx)
  lv : ∀ x ∈ Lv, x < N.n
  nx : ∀ x ∈ Nx, x < N.n
  lev : ∀ j, j < d → ∃ u, u < N.n ∧ Dn u = true ∧ M u = (j : Int)
  nxd : Nx ≠ [] → ∃ u, u < N.n ∧ Dn u = true ∧ M u = (d : Int)
  sz : Lv.length + Nx.length + Phi M d N.n ≤ 3 * N.n

variable {N : Net} {d : Nat} {M VF VC O : Nat → Int} {Dn : Nat → Bool} {T : Nat → Nat} {Lv Nx : List Nat} {u0 c0 c1 k1 : Nat}

theorem CInv.start (hsa : ∀ v, N.start v = true → N.act v = true) (hM : ∀ v, v < N.n → M v = if N.start v then 0 else -1) (hF : ∀ v, v < N.n → VF v = if N.start v then -1 else 0) (hC : ∀ v, v < N.n → VC v = 0)
    (hO : ∀ c, c < N.nc → O c = (N.n : Int) + 1) (hD : ∀ v, v < N.n → Dn v = false) (hL : ∀ v, v < N.n → N.start v = true → v ∈ Lv) (hl : ∀ x ∈ Lv, x < N.n) (hlen : Lv.length ≤ N.n) :
    CInv N 0 M VF VC O Dn T Lv [] 0 N.nc N.nc 0 where
  m1 := fun v hv => by
    rw [hM v hv]
    by_cases e : N.start v = true
    · rw [if_pos e]; exact Or.inr ⟨by omega, by omega, hsa v e⟩
    · rw [if_neg e]; exact Or.inl rfl
  m2 := fun v hv e => by rw [hM v hv, hF v hv, hC v hv, if_pos e, if_pos e]; exact ⟨rfl, rfl, rfl⟩
  m3 := fun v hv h => by
    rw [hM v hv] at h
    by_cases e : N.start v = true
    · rw [if_pos e] at h; omega
    · rw [hF v hv, hC v hv, if_neg e]; exact ⟨rfl, rfl⟩
  m4 := fun v hv h e => by
    rw [hM v hv, e] at h
    simp at h
  m5 := fun u hu h => by rw [hD u hu] at h; cases h
  o1 := fun u c hu _ h => by rw [hD u hu] at h; cases h
  o2 := fun c k hc _ _ h => by rw [hO c hc] at h; omega
  q := fun v hv h _ => by
    left
    rw [hM v hv] at h ⊢
    by_cases e : N.start v = true
    · rw [if_pos e]; exact ⟨rfl, hL v hv e⟩
    · rw [if_neg e] at h; omega
  lv := hl
  nx := fun x hx => by cases hx
  lev := fun j hj => by omega
  nxd := fun h => absurd rfl h
  sz := by have := Phi_le M 0 N.n; simp; omega

/-- a member that is taken from the queue and skipped -/
theorem CInv.pop {x : Nat} (h : CInv N d M VF VC O Dn T (x :: Lv) Nx u0 N.nc N.nc k1) (hx : Dn x = true ∨ M x ≠ (d : Int)) : CInv N d M VF VC O Dn T Lv Nx u0 N.nc N.nc k1 :=
  { h with
    q := fun v hv h0 hd => by
      rcases h.q v hv h0 hd with ⟨e, hm⟩ | e
      · left
        refine ⟨e, ?_⟩
        rcases List.mem_cons.1 hm with rfl | hm
        · rcases hx with hx | hx
          · rw [hd] at hx; cases hx
          · exact absurd e hx
        · exact hm
      · exact Or.inr e
    lv := fun y hy => h.lv y (List.mem_cons_of_mem _ hy)
    sz := by have := h.sz; simp at this; omega }

/-- .. and taken in work -/
theorem CInv.mark {x : Nat} (h : CInv N d M VF VC O Dn T (x :: Lv) Nx u0 N.nc N.nc k1) (hd : Dn x = false) (hm : M x = (d : Int)) :
    CInv N d M VF VC O (fun i => if i = x then true else Dn i) (fun i => if i = x then cnt Dn N.n else T i) Lv Nx x 0 N.nc 0 := by
  have hxn : x < N.n := h.lv x (by simp)
  have hne : ∀ u, Dn u = true → u ≠ x := fun u hu e => by subst e; rw [hd] at hu; cases hu
  have hcnt : cnt (fun i => if i = x then true else Dn i) N.n = cnt Dn N.n + 1 := cnt_mark Dn x hd N.n hxn
  refine { h with m4 := ?_, m5 := ?_, o1 := ?_, o2 := ?_, q := ?_, lv := ?_, lev := ?_, nxd := ?_, sz := ?_ }
  · intro v hv h0 hs
    obtain ⟨u, c, h1, h2, h3, h4, h5, h6⟩ := h.m4 v hv h0 hs
    refine ⟨u, c, h1, h2, h3, by simp [h4], h5, fun hdv => ?_⟩
    have hux := hne u h4
    simp only [hux, if_false]
    by_cases e : v = x
    · simp only [e, if_true]; exact (h.m5 u h1.1 h4).2.2
    · simp only [e, if_false] at hdv ⊢; exact h6 hdv
  · intro u hu hdu
    rw [hcnt]
    by_cases e : u = x
    · subst e; simp only [if_true]; omega
    · simp only [e, if_false] at hdu ⊢
      have := h.m5 u hu hdu
      omega
  · intro u c hu hc hdu hh hn
    have e : u ≠ x := fun e => hn ⟨e, Nat.zero_le _⟩
    simp only [e, if_false] at hdu
    exact h.o1 u c hu hc hdu hh (fun e => by omega)
  · intro c k hc hk _
    exact h.o2 c k hc hk (fun e => by omega)
  · intro v hv h0 hdv
    by_cases e : v = x
    · simp [e] at hdv
    · simp only [e, if_false] at hdv
      rcases h.q v hv h0 hdv with ⟨e1, hm1⟩ | e1
      · left
        refine ⟨e1, ?_⟩
        rcases List.mem_cons.1 hm1 with rfl | hm1
        · exact absurd rfl e
        · exact hm1
      · exact Or.inr e1
  · exact fun y hy => h.lv y (List.mem_cons_of_mem _ hy)
  · intro j hj
    obtain ⟨u, h1, h2, h3⟩ := h.lev j hj
    exact ⟨u, h1, by simp [h2], h3⟩
  · intro hx
    obtain ⟨u, h1, h2, h3⟩ := h.nxd hx
    exact ⟨u, h1, by simp [h2], h3⟩
  · have := h.sz; simp at this; omega

theorem CInv.lev_lt {u : Nat} (h : CInv N d M VF VC O Dn T Lv Nx u0 c0 c1 k1) (hu : u < N.n) (hm : M u = (d : Int)) : d < N.n := by
  have := levels_le N.n (d + 1) M (fun j hj => by
    by_cases e : j = d
    · exact ⟨u, hu, by rw [hm, e]⟩
    · obtain ⟨u', h1, _, h3⟩ := h.lev j (by omega)
      exact ⟨u', h1, h3⟩)
  omega

theorem CInv.lev_le (h : CInv N d M VF VC O Dn T Lv Nx u0 c0 c1 k1) : d ≤ N.n :=
  levels_le N.n d M (fun j hj => by obtain ⟨u', h1, _, h3⟩ := h.lev j hj; exact ⟨u', h1, h3⟩)

theorem CInv.cls_no {u c : Nat} (h : CInv N d M VF VC O Dn T Lv Nx u c N.nc k1) (hn : N.has u c = false) : CInv N d M VF VC O Dn T Lv Nx u (c + 1) N.nc k1 :=
  { h with
    o1 := fun u' c' h1 h2 h3 h4 h5 => by
      by_cases e : u' = u ∧ c' = c
      · obtain ⟨rfl, rfl⟩ := e; rw [hn] at h4; cases h4
      · exact h.o1 u' c' h1 h2 h3 h4 (fun e' => by omega) }

theorem CInv.cls_keep {u c : Nat} (h : CInv N d M VF VC O Dn T Lv Nx u c N.nc k1) (hk : O c ≤ M u + N.wt u c) (hb : M u + N.wt u c ≤ (N.n : Int)) : CInv N d M VF VC O Dn T Lv Nx u (c + 1) N.nc k1 :=
  { h with
    o1 := fun u' c' h1 h2 h3 h4 h5 => by
      by_cases e : u' = u ∧ c' = c
      · obtain ⟨rfl, rfl⟩ := e; exact ⟨hk, by omega⟩
      · exact h.o1 u' c' h1 h2 h3 h4 (fun e' => by omega) }

theorem CInv.cls_set {u c : Nat} {x : Int} (h : CInv N d M VF VC O Dn T Lv Nx u c N.nc k1) (hx : x = M u + N.wt u c) (hk : x < O c) (hb : x ≤ (N.n : Int)) :
    CInv N d M VF VC (fun i => if i = c then x else O i) Dn T Lv Nx u (c + 1) c 0 :=
  { h with
    o1 := fun u' c' h1 h2 h3 h4 h5 => by
      by_cases e : c' = c
      · subst e
        simp only [if_true]
        by_cases e' : u' = u
        · subst e'; omega
        · have := h.o1 u' c' h1 h2 h3 h4 (fun e'' => e' e''.1)
          omega
      · simp only [e, if_false]
        exact h.o1 u' c' h1 h2 h3 h4 (fun e' => by omega)
    o2 := fun c' k' h1 h2 h3 h4 v hv he ha => by
      by_cases e : c' = c
      · have := h3 e; omega
      · simp only [e, if_false] at h4 ⊢
        exact h.o2 c' k' h1 h2 (fun e' => by omega) h4 v hv he ha }

theorem CInv.v_keep {c k v : Nat} (h : CInv N d M VF VC O Dn T Lv Nx u0 c0 c k) (he : N.E c k = (v : Int)) (hk : N.act v = true → 0 ≤ M v ∧ M v ≤ O c) : CInv N d M VF VC O Dn T Lv Nx u0 c0 c (k + 1) :=
  { h with
    o2 := fun c' k' h1 h2 h3 h4 v' hv' he' ha' => by
      by_cases e : c' = c ∧ k' = k
      · obtain ⟨rfl, rfl⟩ := e
        have : v' = v := by omega
        subst this
        exact hk ha'
      · exact h.o2 c' k' h1 h2 (fun e' => by have := h3 e'; omega) h4 v' hv' he' ha' }

theorem CInv.cls_done {u c : Nat} (h : CInv N d M VF VC O Dn T Lv Nx u0 c0 c (N.EL c)) : CInv N d M VF VC O Dn T Lv Nx u0 c0 N.nc 0 :=
  { h with
    o2 := fun c' k' h1 h2 h3 h4 v' hv' he' ha' => h.o2 c' k' h1 h2 (fun e' => by subst e'; exact h2) h4 v' hv' he' ha' }

theorem CInv.v_set {u c k v : Nat} {x : Int} {Lv' Nx' : List Nat} (h : CInv N d M VF VC O Dn T Lv Nx u c0 c k) (hu : u < N.n) (hc : c < N.nc) (hk : k < N.EL c) (hv : v < N.n) (hh : N.has u c = true) (hdu : Dn u = true) (hmu : M u = (d : Int))
    (he : N.E c k = (v : Int)) (ha : N.act v = true) (hx : x = M u + N.wt u c) (hOx : O c = x) (hn : ¬ (0 ≤ M v ∧ M v ≤ x))
    (hL : (x = (d : Int) ∧ Lv' = Lv ++ [v] ∧ Nx' = Nx) ∨ (x = (d : Int) + 1 ∧ Lv' = Lv ∧ Nx' = Nx ++ [v])) :
    CInv N d (fun i => if i = v then x else M i) (fun i => if i = v then (u : Int) else VF i) (fun i => if i = v then (c : Int) else VC i) O Dn T Lv' Nx' u c0 c (k + 1) ∧
      Lv'.length + Phi (fun i => if i = v then x else M i) d N.n ≤ Lv.length + Phi M d N.n := by
  have hw := N.wt_bd u c
  have hdv : Dn v = false := by
    cases e : Dn v with
    | false => rfl
    | true => have := h.m5 v hv e; omega
  have hne : ∀ u, Dn u = true → u ≠ v := fun u hu e => by subst e; rw [hdv] at hu; cases hu
  have hsv : N.start v = false := by
    cases e : N.start v with
    | false => rfl
    | true => have := (h.m2 v hv e).1; omega
  have hpot : pot x d + 1 ≤ pot (M v) d := by
    rcases h.m1 v hv with e | e
    · unfold pot; rw [if_pos (by omega : M v < 0)]
      split
      · omega
      · split <;> omega
    · have hx' : x = (d : Int) := by omega
      have hm : M v = (d : Int) + 1 := by omega
      unfold pot
      rw [if_neg (by omega), if_neg (by omega), if_neg (by omega), if_pos hm]
      omega
  have hphi := Phi_set M d v x hpot N.n hv
  have hlen : Lv'.length + Nx'.length = Lv.length + Nx.length + 1 := by
    rcases hL with ⟨_, rfl, rfl⟩ | ⟨_, rfl, rfl⟩ <;> simp <;> omega
  have hlen' : Lv'.length ≤ Lv.length + 1 := by
    rcases hL with ⟨_, rfl, rfl⟩ | ⟨_, rfl, rfl⟩ <;> simp
  have hsubL : ∀ y, y ∈ Lv → y ∈ Lv' := fun y hy => by
    rcases hL with ⟨_, rfl, rfl⟩ | ⟨_, rfl, rfl⟩
    · exact List.mem_append_left _ hy
    · exact hy
  have hsubN : ∀ y, y ∈ Nx → y ∈ Nx' := fun y hy => by
    rcases hL with ⟨_, rfl, rfl⟩ | ⟨_, rfl, rfl⟩
    · exact hy
    · exact List.mem_append_left _ hy
  refine ⟨⟨?_, ?_, ?_, ?_, ?_, ?_, ?_, ?_, ?_, ?_, ?_, ?_, ?_⟩, by omega⟩
  · intro y hy
    by_cases e : y = v
    · subst e; simp only [if_true]; exact Or.inr ⟨by omega, by omega, ha⟩
    · simp only [e, if_false]; exact h.m1 y hy
  · intro y hy hs
    have e : y ≠ v := fun e => by subst e; rw [hsv] at hs; cases hs
    simp only [e, if_false]
    exact h.m2 y hy hs
  · intro y hy hm
    by_cases e : y = v
    · subst e; simp only [if_true] at hm; omega
    · simp only [e, if_false] at hm ⊢; exact h.m3 y hy hm
  · intro y hy h0 hs
    by_cases e : y = v
    · subst e
      simp only [if_true]
      have hne' := hne u hdu
      refine ⟨u, c, ⟨hu, hc, hv, hh, ⟨k, hk, he⟩, ha⟩, rfl, rfl, hdu, ?_, fun hd => ?_⟩
      · simp only [hne', if_false]; exact hx
      · rw [hdv] at hd; cases hd
    · simp only [e, if_false] at h0 ⊢
      obtain ⟨u', c', h1, h2, h3, h4, h5, h6⟩ := h.m4 y hy h0 hs
      exact ⟨u', c', h1, h2, h3, h4, by simp only [hne u' h4, if_false]; exact h5, h6⟩
  · intro y hy hd
    simp only [hne y hd, if_false]
    exact h.m5 y hy hd
  · intro u' c' h1 h2 h3 h4 h5
    simp only [hne u' h3, if_false]
    exact h.o1 u' c' h1 h2 h3 h4 h5
  · intro c' k' h1 h2 h3 h4 v' hv' he' ha'
    by_cases e : v' = v
    · subst e
      simp only [if_true]
      by_cases e' : c' = c
      · subst e'; omega
      · have := h.o2 c' k' h1 h2 (fun e'' => absurd e'' e') h4 v' hv' he' ha'
        omega
    · simp only [e, if_false]
      refine h.o2 c' k' h1 h2 (fun e' => ?_) h4 v' hv' he' ha'
      have := h3 e'
      by_cases e2 : k' = k
      · subst e2; subst e'
        exfalso; apply e; omega
      · omega
  · intro y hy h0 hd
    by_cases e : y = v
    · subst e
      simp only [if_true]
      rcases hL with ⟨hx1, rfl, rfl⟩ | ⟨hx1, rfl, rfl⟩
      · exact Or.inl ⟨hx1, by simp⟩
      · exact Or.inr ⟨hx1, by simp⟩
    · simp only [e, if_false] at h0 ⊢
      rcases h.q y hy h0 hd with ⟨e1, e2⟩ | ⟨e1, e2⟩
      · exact Or.inl ⟨e1, hsubL y e2⟩
      · exact Or.inr ⟨e1, hsubN y e2⟩
  · intro y hy
    rcases hL with ⟨_, rfl, rfl⟩ | ⟨_, rfl, rfl⟩
    · rcases List.mem_append.1 hy with hy | hy
      · exact h.lv y hy
      · rw [List.mem_singleton.1 hy]; exact hv
    · exact h.lv y hy
  · intro y hy
    rcases hL with ⟨_, rfl, rfl⟩ | ⟨_, rfl, rfl⟩
    · exact h.nx y hy
    · rcases List.mem_append.1 hy with hy | hy
      · exact h.nx y hy
      · rw [List.mem_singleton.1 hy]; exact hv
  · intro j hj
    obtain ⟨u', h1, h2, h3⟩ := h.lev j hj
    exact ⟨u', h1, h2, by simp only [hne u' h2, if_false]; exact h3⟩
  · intro _
    exact ⟨u, hu, hdu, by simp only [hne u hdu, if_false]; exact hmu⟩
  · have := h.sz; omega

/-- the next level -/
theorem CInv.shift (h : CInv N d M VF VC O Dn T [] Nx u0 N.nc N.nc k1) (hne : Nx ≠ []) : CInv N (d + 1) M VF VC O Dn T Nx [] u0 N.nc N.nc k1 :=
  { h with
    m1 := fun v hv => by
      rcases h.m1 v hv with e | e
      · exact Or.inl e
      · exact Or.inr ⟨e.1, by omega, e.2.2⟩
    m5 := fun u hu hd => by have := h.m5 u hu hd; exact ⟨this.1, by omega, this.2.2⟩
    q := fun v hv h0 hd => by
      rcases h.q v hv h0 hd with ⟨_, e⟩ | e
      · cases e
      · left; exact ⟨by omega, e.2⟩
    lv := h.nx
    nx := fun x hx => by cases hx
    lev := fun j hj => by
      by_cases e : j = d
      · subst e; exact h.nxd hne
      · exact h.lev j (by omega)
    nxd := fun h => absurd rfl h
    sz := by
      have := h.sz
      have h2 := Phi_succ M d N.n (fun i hi => by rcases h.m1 i hi with e | e <;> omega)
      simp at this ⊢
      omega }

/-- what chains hands back -/
structure COK (N : Net) (M VF VC : Nat → Int) (T : Nat → Nat) : Prop where
  sound : N.Sound M
  complete : N.Complete M
  tame : N.Tame M
  st : ∀ v, v < N.n → N.start v = true → VF v = -1 ∧ VC v = 0
  un : ∀ v, v < N.n → M v = -1 → VF v = 0 ∧ VC v = 0
  ln : ∀ v, v < N.n → 0 ≤ M v → N.start v = false → ∃ u c, N.hop u c v ∧ VF v = (u : Int) ∧ VC v = (c : Int) ∧ 0 ≤ M u ∧ M v = M u + N.wt u c ∧ T u < T v
  tl : ∀ v, v < N.n → 0 ≤ M v → T v < N.n

theorem CInv.final (h : CInv N d M VF VC O Dn T [] [] u0 N.nc N.nc k1) : COK N M VF VC T := by
  have hdone : ∀ v, v < N.n → 0 ≤ M v → Dn v = true := fun v hv h0 => by
    cases e : Dn v with
    | true => rfl
    | false => rcases h.q v hv h0 e with ⟨_, e'⟩ | ⟨_, e'⟩ <;> cases e'
  have hln : ∀ v, v < N.n → 0 ≤ M v → N.start v = false → ∃ u c, N.hop u c v ∧ VF v = (u : Int) ∧ VC v = (c : Int) ∧ 0 ≤ M u ∧ M v = M u + N.wt u c ∧ T u < T v := fun v hv h0 hs => by
    obtain ⟨u, c, h1, h2, h3, h4, h5, h6⟩ := h.m4 v hv h0 hs
    exact ⟨u, c, h1, h2, h3, (h.m5 u h1.1 h4).1, h5, h6 (hdone v hv h0)⟩
  refine ⟨?_, ⟨fun v hv hs => (h.m2 v hv hs).1, fun u c v hh h0 => ?_⟩, fun v hv => ?_, fun v hv hs => (h.m2 v hv hs).2, h.m3, hln, fun v hv h0 => ?_⟩
  · have key : ∀ t v, v < N.n → T v ≤ t → 0 ≤ M v → N.Reach v (M v) := by
      intro t
      induction t with
      | zero =>
        intro v hv ht h0
        cases e : N.start v with
        | true => exact ⟨0, hv, e, (h.m2 v hv e).1⟩
        | false =>
          obtain ⟨u, c, _, _, _, _, _, h6⟩ := hln v hv h0 e
          omega
      | succ t ih =>
        intro v hv ht h0
        cases e : N.start v with
        | true => exact ⟨0, hv, e, (h.m2 v hv e).1⟩
        | false =>
          obtain ⟨u, c, h1, _, _, h4, h5, h6⟩ := hln v hv h0 e
          rw [h5]
          exact Net.reach_hop (ih u h1.1 (by omega) h4) h1
    exact fun v hv h0 => key (T v) v hv (Nat.le_refl _) h0
  · obtain ⟨g1, g2, g3, g4, ⟨k, gk, ge⟩, g6⟩ := hh
    have o1 := h.o1 u c g1 g2 (hdone u g1 h0) g4 (fun e => by omega)
    have o2 := h.o2 c k g2 gk (fun e => by omega) o1.2 v g3 ge g6
    omega
  · rcases h.m1 v hv with e | e
    · exact Or.inl e
    · exact Or.inr e.1
  · have := (h.m5 v hv (hdone v hv h0)).2.2
    have := cnt_le Dn N.n
    omega

end Go.Proofs.Qxb6003132aMods
