/- chains: what it hands back. -/
import Derived.Test.Qxb6003132aModsBfs
import Derived.Test.Qxb6003132aModsCmem
import Derived.Test.Qxb6003132aModsMaps
import Derived.Test.Qxb6003132aModsFew
import Derived.Test.Qxb6003132aModsRepeat
namespace Go.Proofs.Qxb6003132aMods
open Go.RowKit
set_option linter.unusedVariables false

/-- the links of a slice at vo -/
def SlV (w : World) (lo : Nat) (vo : Option Addr) (n : Nat) (VF VC : Nat → Int) : Prop :=
  ∃ b o : Nat, (0 < n → vo = some ⟨b, o, none⟩ ∧ lo ≤ b) ∧ ∀ i, i < n → w.cell? ⟨b, o + i * 2, none⟩ = some (.int .i64 (VF i)) ∧ w.cell? ⟨b, o + (i * 2 + 1), none⟩ = some (.int .i32 (VC i))

/-- the giving in memory, as chains reads it -/
structure Giv (w : World) (gb : Nat) (ea ka aa la : Option Addr) (n nc ec kc ac lc : Nat) (EL KL AL : Nat → Nat) (KLL ALL : Nat → Nat → Nat) (E : Nat → Nat → Int) (ld : Nat → Int) (KM AM : Nat → Nat) : Prop where
  g0 : w.cell? ⟨gb, 0, none⟩ = some (.slice ea nc ec)
  g2 : w.cell? ⟨gb, 2, none⟩ = some (.slice ka n kc)
  g3 : w.cell? ⟨gb, 3, none⟩ = some (.slice aa n ac)
  g4 : w.cell? ⟨gb, 4, none⟩ = some (.slice la n lc)
  hE : Mat w ea nc EL E
  kS : Sl w 0 ka n (fun u => .map (some (KM u)))
  aS : Sl w 0 aa n (fun u => .map (some (AM u)))
  kM : ∀ u, u < n → MapLens w (KM u) (fun c => plen KL KLL u c)
  aM : ∀ u, u < n → MapLens w (AM u) (fun c => plen AL ALL u c)
  hL : Sl w 0 la n (fun i => .int .i64 (ld i))

theorem cell0_since {w wr : World} {b o : Nat} {v : Value} (hs : w.Since w.heap.size wr) (h : w.cell? ⟨b, o, none⟩ = some v) : wr.cell? ⟨b, o, none⟩ = some v := cell_since (o := o) (i := 0) hs h

theorem Giv.since {w w' : World} {gb : Nat} {ea ka aa la : Option Addr} {n nc ec kc ac lc : Nat} {EL KL AL : Nat → Nat} {KLL ALL : Nat → Nat → Nat} {E : Nat → Nat → Int} {ld : Nat → Int} {KM AM : Nat → Nat}
    (h : Giv w gb ea ka aa la n nc ec kc ac lc EL KL AL KLL ALL E ld KM AM) (hs : w.Since w.heap.size w') : Giv w' gb ea ka aa la n nc ec kc ac lc EL KL AL KLL ALL E ld KM AM :=
  ⟨cell0_since hs h.g0, cell0_since hs h.g2, cell0_since hs h.g3, cell0_since hs h.g4, h.hE.since hs, h.kS.since hs, h.aS.since hs, fun u hu => (h.kM u hu).since hs, fun u hu => (h.aM u hu).since hs, h.hL.since hs⟩

/-- what holds of the starts when k members are looked at -/
structure Ini (N : Net) (k : Nat) (M VF VC : Nat → Int) (Lv : List Nat) : Prop where
  m : ∀ v, M v = if v < k ∧ N.start v = true then 0 else -1
  f : ∀ v, VF v = if v < k ∧ N.start v = true then -1 else 0
  c : ∀ v, VC v = 0
  l1 : ∀ v, v < k → N.start v = true → v ∈ Lv
  l2 : ∀ x ∈ Lv, x < k
  l3 : Lv.length ≤ k

theorem Ini.start (N : Net) : Ini N 0 (fun _ => -1) (fun _ => 0) (fun _ => 0) [] :=
  ⟨fun v => by simp, fun v => by simp, fun v => rfl, fun v hv => absurd hv (Nat.not_lt_zero _), fun x hx => (by cases hx), Nat.le_refl _⟩

theorem Ini.no {N : Net} {k : Nat} {M VF VC : Nat → Int} {Lv : List Nat} (h : Ini N k M VF VC Lv) (hs : N.start k = false) : Ini N (k + 1) M VF VC Lv := by
  have key : ∀ v, (v < k + 1 ∧ N.start v = true) ↔ (v < k ∧ N.start v = true) := fun v => by
    constructor
    · rintro ⟨h1, h2⟩
      refine ⟨?_, h2⟩
      by_cases e : v = k
      · subst e; rw [hs] at h2; cases h2
      · omega
    · rintro ⟨h1, h2⟩; exact ⟨by omega, h2⟩
  refine ⟨fun v => ?_, fun v => ?_, h.c, fun v hv hv2 => h.l1 v ((key v).1 ⟨hv, hv2⟩).1 hv2, fun x hx => by have := h.l2 x hx; omega, by have := h.l3; omega⟩
  · rw [h.m v]; simp only [key v]
  · rw [h.f v]; simp only [key v]

theorem Ini.yes {N : Net} {k : Nat} {M VF VC : Nat → Int} {Lv : List Nat} (h : Ini N k M VF VC Lv) (hs : N.start k = true) : Ini N (k + 1) (fun i => if i = k then 0 else M i) (fun i => if i = k then -1 else VF i) (fun i => if i = k then 0 else VC i) (Lv ++ [k]) := by
  refine ⟨fun v => ?_, fun v => ?_, fun v => ?_, fun v hv hv2 => ?_, fun x hx => ?_, by have := h.l3; simp; omega⟩
  · by_cases e : v = k
    · subst e; simp [hs]
    · simp only [e, if_false, h.m v]
      have : (v < k + 1 ∧ N.start v = true) ↔ (v < k ∧ N.start v = true) := ⟨fun h => ⟨by omega, h.2⟩, fun h => ⟨by omega, h.2⟩⟩
      simp only [this]
  · by_cases e : v = k
    · subst e; simp [hs]
    · simp only [e, if_false, h.f v]
      have : (v < k + 1 ∧ N.start v = true) ↔ (v < k ∧ N.start v = true) := ⟨fun h => ⟨by omega, h.2⟩, fun h => ⟨by omega, h.2⟩⟩
      simp only [this]
  · split
    · rfl
    · exact h.c v
  · by_cases e : v = k
    · subst e; simp
    · exact List.mem_append_left _ (h.l1 v (by omega) hv2)
  · rcases List.mem_append.1 hx with hx | hx
    · have := h.l2 x hx; omega
    · rw [List.mem_singleton.1 hx]; omega

theorem SlV.of_row {w : World} {b lo n : Nat} {VF VC : Nat → Int} (h : w.rowIs b 64 (n * 2) (viaC VF VC)) (hl : lo ≤ b) : SlV w lo (some ⟨b, 0, none⟩) n VF VC :=
  ⟨b, 0, fun _ => ⟨rfl, hl⟩, fun i hi => by
    have h1 := h.cell (i := i * 2) (by omega)
    have h2 := h.cell (i := i * 2 + 1) (by omega)
    rw [viaC_even] at h1
    rw [viaC_odd] at h2
    rw [Nat.zero_add, Nat.zero_add]
    exact ⟨h1, h2⟩⟩

/-- the head of chains' outer loop -/
def Head (N : Net) (w wr : World) (bM bV bO bD : Nat) (d : Nat) (aL : Option Addr) (cL : Nat) (Lv : List Nat) : Prop :=
  ∃ (dd : Nat) (M VF VC O : Nat → Int) (Dn : Nat → Bool) (T : Nat → Nat) (u0 : Nat), R4 w wr N.n N.nc bM bV bO bD M VF VC O Dn ∧ QQ wr (bad4 w.heap.size bM bV bO bD) aL cL Lv none 0 [] ∧
    CInv N dd M VF VC O Dn T Lv [] u0 N.nc N.nc 0 ∧ (Lv = [] ∨ dd = d)

/-- what chains hands back -/
def ChRes (N : Net) (n : Nat) (w : World) (e : Ending) (w' : World) : Prop :=
  ∃ (mo vo : Option Addr) (mc vc : Nat) (M VF VC : Nat → Int) (T : Nat → Nat),
    e = .returned (.tuple #[.slice mo n mc, .slice vo n vc]) ∧ Sl w' w.heap.size mo n (fun i => .int .i64 (M i)) ∧ SlV w' w.heap.size vo n VF VC ∧ w.Since w.heap.size w' ∧ COK N M VF VC T

set_option maxHeartbeats 40000000 in
set_option maxRecDepth 100000 in
theorem chains_any (gb : Nat) (ea ka aa la ba : Option Addr) (n nc ec kc ac lc bc : Nat) (EL KL AL : Nat → Nat) (KLL ALL : Nat → Nat → Nat) (E : Nat → Nat → Int) (act : Nat → Bool) (ld : Nat → Int) (KM AM : Nat → Nat) (most : Int) (w : World)
    (hn : n ≤ 256) (hnc : nc ≤ 256) (hEL : ∀ c, c < nc → EL c ≤ 1048576) (hEr : ∀ c, c < nc → ∀ k, k < EL c → ∃ v : Nat, v < n ∧ E c k = (v : Int))
    (hpk : ∀ u, u < n → ∀ c, c < nc → plen KL KLL u c ≤ 1048576) (hpa : ∀ u, u < n → ∀ c, c < nc → plen AL ALL u c ≤ 1048576)
    (hG : Giv w gb ea ka aa la n nc ec kc ac lc EL KL AL KLL ALL E ld KM AM) (hB : Sl w 0 ba n (fun i => .bool (act i))) :
    Calls Trym.prog 28 #[.pointer (some ⟨gb, 0, none⟩), .slice ba n bc, .int .i64 most] w fun e w' => ChRes (netOf n nc EL E KL KLL AL ALL act ld most) n w e w' := by
  obtain ⟨N, hN⟩ : ∃ N, N = netOf n nc EL E KL KLL AL ALL act ld most := ⟨_, rfl⟩
  have HN : Hid (N = netOf n nc EL E KL KLL AL ALL act ld most) := hN
  rw [← hN]
  clear hN
  have HNn : Hid (N.n = n ∧ N.nc = nc ∧ N.EL = EL ∧ N.E = E ∧ N.act = act ∧ N.has = hasB KL KLL AL ALL ∧ N.fresh = freshB AL ALL ∧ ∀ v, N.start v = (act v && (ld v == most))) := by rw [HN.out]; exact ⟨rfl, rfl, rfl, rfl, rfl, rfl, rfl, fun _ => rfl⟩
  replace hEL : Hid (∀ c, c < nc → EL c ≤ 1048576) := hEL
  replace hEr : Hid (∀ c, c < nc → ∀ k, k < EL c → ∃ v : Nat, v < n ∧ E c k = (v : Int)) := hEr
  replace hpk : Hid (∀ u, u < n → ∀ c, c < nc → plen KL KLL u c ≤ 1048576) := hpk
  replace hpa : Hid (∀ u, u < n → ∀ c, c < nc → plen AL ALL u c ≤ 1048576) := hpa
  have hmk := run_make_links n (by omega)
  have g4 := hG.g4
  go_enter Trym.func28, Trym.ntmps28
  go_wp2_with fail
  refine (repeat_any w.heap.size n (-1) _ (by omega) (by simp [go_sem])).mono ?_
  rintro e w1 ⟨rfl, hM, hs1⟩
  have e1 : (w.alloc (.cells #[.int .i64 (-1)] 3)).heap.size = w.heap.size + 1 := by simp
  rw [e1] at hM hs1
  rw [e1]
  have hs2 : w.Since w.heap.size w1 := ((World.Since.refl _ w).alloc (Nat.le_refl _) _).trans (since_mono hs1 (by omega))
  have hR2 := R2.start hs2 hM (by omega)
  have hQ0 : QQ (w1.alloc (.cells (madeCells #[.int .i64 0, .int .i32 0] (n * 2)) 64)) (bad2 w.heap.size (w.heap.size + 1) w1.heap.size) none 0 [] none 0 [] := QQ.nil _ _ (fun b hb => by
    have h1 := hM.lt
    have h2 := hs2.size
    rw [Go.Deep.nblk_alloc]
    rcases hb with hb | hb | hb <;> omega)
  have HR2 : Hid _ := hR2
  have HQ0 : Hid _ := hQ0
  clear hR2 hQ0 hM hs1 hs2 e1
  go_wp2
  clear hmk g4
  obtain ⟨bM, hbM⟩ : ∃ bM, bM = w.heap.size + 1 := ⟨_, rfl⟩
  obtain ⟨bV, hbV⟩ : ∃ bV, bV = w1.heap.size := ⟨_, rfl⟩
  rw [← hbM, ← hbV] at HR2 HQ0
  simp only [← hbM, ← hbV]
  replace hbM : Hid _ := hbM
  replace hbV : Hid _ := hbV
  go_loopg [9, 31] n (fun g lv i wr => ∃ (k : Nat) (aL : Option Addr) (cL : Nat) (Lv : List Nat) (M VF VC : Nat → Int), k ≤ n ∧ g = n - k ∧ i = .int .i64 k ∧ lv = .slice aL Lv.length cL ∧ R2 w wr n bM bV M VF VC ∧ QQ wr (bad2 w.heap.size bM bV) aL cL Lv none 0 [] ∧ Ini N k M VF VC Lv)
  case atStart => exact ⟨0, none, 0, [], _, _, _, Nat.zero_le _, rfl, rfl, rfl, HR2.out, HQ0.out, Ini.start N⟩
  case round =>
    clear HR2 HQ0
    obtain ⟨k, aL, cL, Lv, M, VF, VC, hk, rfl, rfl, rfl, hR, hQ, hI⟩ := hrel
    have HI : Hid _ := hI
    clear hI
    by_cases hlt : k < n
    · as_aux_lemma =>
        obtain ⟨b1, o1, e1, _, hc1⟩ := hG.hL.get (by omega)
        obtain ⟨b2, o2, e2, _, hc2⟩ := hB.get (by omega)
        cases e1
        cases e2
        have c1 := cell_since hR.since (hc1 k hlt)
        have c2 := cell_since hR.since (hc2 k hlt)
        have c3 := cell0_since hR.since hG.g4
        have c4 := hR.rM.cell hlt
        have c5 := hR.rM.frozen k
        have c6 := hR.rV.cell (i := k * 2) (by omega)
        have c7 := hR.rV.cell (i := k * 2 + 1) (by omega)
        have c8 := hR.rV.frozen (k * 2)
        have c9 := hR.rV.frozen (k * 2 + 1)
        rw [viaC_even] at c6
        rw [viaC_odd] at c7
        have hlen : Lv.length ≤ 1048576 := by have := HI.out.l3; omega
        have hkn : (k : Int) < (n : Int) := by omega
        have hne := hR.ne
        have HS := HNn.out.2.2.2.2.2.2.2 k
        replace HS : Hid _ := HS
        clear hc1 hc2
        cases ha : act k
        · rw [ha] at c2
          have HS2 : Hid (N.start k = false) := by show _ = _; rw [HS.out, ha]; rfl
          clear ha
          go_wp2
          go_roundg (n - (k + 1))
          case measure => go_light; omega
          case rel => go_light; exact ⟨k + 1, aL, cL, Lv, M, VF, VC, by omega, rfl, by simp, rfl, hR, hQ, HI.out.no HS2.out⟩
        · rw [ha] at c2
          cases hm : (ld k == most)
          · have HS2 : Hid (N.start k = false) := by show _ = _; rw [HS.out, ha, hm]; rfl
            clear ha
            go_wp2
            go_roundg (n - (k + 1))
            case measure => go_light; omega
            case rel => go_light; exact ⟨k + 1, aL, cL, Lv, M, VF, VC, by omega, rfl, by simp, rfl, hR, hQ, HI.out.no HS2.out⟩
          · have HS2 : Hid (N.start k = true) := by show _ = _; rw [HS.out, ha, hm]; rfl
            clear ha
            have HQx := (((hQ.setBad (a := ⟨bM, k, none⟩) (bad2_M _ _ _) (.int .i64 0)).setBad (a := ⟨bV, k * 2, none⟩) (bad2_V _ _ _) (.int .i64 (-1))).setBad (a := ⟨bV, k * 2 + 1, none⟩) (bad2_V _ _ _) (.int .i32 0)).alloc (.cells #[.int .i64 (k : Int)] 3)
            replace HQx : Hid _ := HQx
            have HRx := (hR.put k 0 (-1) 0).alloc (.cells #[.int .i64 (k : Int)] 3)
            replace HRx : Hid _ := HRx
            go_wp2_with (at_builtin; refine wpList_append_q rfl (.tmp 56) (.tmp 58) rfl (bad2 w.heap.size bM bV) aL none cL 0 Lv [] k rfl HQx.out _ rfl (by simp [go_sem]) hlen ?_; intro a1' c1' w' hQ' hK)
            go_roundg (n - (k + 1))
            case measure => go_light; omega
            case rel =>
              go_light
              exact ⟨k + 1, a1', c1', Lv ++ [k], _, _, _, by omega, rfl, by simp, by simp, HRx.out.keep hK (fun b hb => Or.inl hb) (bad2_M _ _ _) (bad2_V _ _ _), hQ', HI.out.yes HS2.out⟩
    · obtain rfl : n = k := by omega
      have c3 := cell0_since hR.since hG.g0
      have c3' : ∀ o, (wr.alloc o).cell? ⟨gb, 0, none⟩ = some (.slice ea nc ec) := fun o => cell0_since ((World.Since.refl _ _).alloc (Nat.le_refl _) o) c3
      go_wp2_with fail
      refine (repeat_any wr.heap.size nc ((n : Int) + 1) _ (by omega) (by simp [go_sem])).mono ?_
      rintro e w2 ⟨rfl, hO, hs2⟩
      have hmk := run_make_row' (P := Trym.prog) 30 4 (.bool false) 1 Trym.underlying30 Trym.info4 rfl .i64 .i64 n (by omega) (by omega)
      have e1 : (wr.alloc (.cells #[.int .i64 ((n : Int) + 1)] 3)).heap.size = wr.heap.size + 1 := by simp
      have hO' := hO
      rw [e1] at hO'
      obtain ⟨hR4, hs4⟩ := R4.start hR hs2 hO'
      rw [e1]
      have hQ4 := hQ.more (bad' := bad4 w.heap.size bM bV (wr.heap.size + 1) w2.heap.size) hs4 (fun b hb => by
        have h1 := hR4.r2.rM.lt
        have h2 := hR4.r2.rV.lt
        have h3 := hR4.rO.lt
        have h4 := hR4.rD.lt
        have h5 := hR4.r2.since.size
        rcases hb with hb | hb | hb | hb | hb <;> omega) (fun b hb => by
        have h3 := hO'.lt
        rcases hb with hb | hb | hb | hb | hb
        · exact Or.inl (Or.inl hb)
        · exact Or.inl (Or.inr (Or.inl hb))
        · exact Or.inl (Or.inr (Or.inr hb))
        · right; omega
        · right; omega)
      have HR4 : Hid _ := hR4
      have HQ4 : Hid _ := hQ4
      clear hR4 hs4 hQ4 hO hO' hs2 e1 c3 c3' hQ
      obtain ⟨bO, hbO⟩ : ∃ bO, bO = wr.heap.size + 1 := ⟨_, rfl⟩
      obtain ⟨bD, hbD⟩ : ∃ bD, bD = w2.heap.size := ⟨_, rfl⟩
      rw [← hbO, ← hbD] at HR4 HQ4
      replace hbD : Hid _ := hbD
      rw [← hbO]
      replace hbO : Hid _ := hbO
      go_wp2
      clear hmk
      have e2 := hbD.out
      simp only [← e2]
      clear e2
      have HH : Hid (Head N w (w2.alloc (.cells (madeCells #[.bool false] n) 4)) bM bV bO bD 0 aL cL Lv) := by
        obtain ⟨q1, q2, q3, q4, q5, q6, q7, q8⟩ := HNn.out
        refine ⟨0, M, VF, VC, fun _ => (n : Int) + 1, fun _ => false, fun _ => 0, 0, ?_, HQ4.out, CInv.start (fun v hv => ?_) (fun v hv => ?_) (fun v hv => ?_) (fun v _ => HI.out.c v) (fun c _ => by rw [q1]) (fun _ _ => rfl) (fun v hv hs => HI.out.l1 v (by omega) hs) (fun x hx => by have := HI.out.l2 x hx; omega) (by have := HI.out.l3; omega), Or.inr rfl⟩
        · rw [q1, q2]; exact HR4.out
        · rw [q8 v] at hv
          rw [q5]
          simp only [Bool.and_eq_true] at hv
          exact hv.1
        · have := HI.out.m v
          rw [q1] at hv
          simpa [hv] using this
        · have := HI.out.f v
          rw [q1] at hv
          simpa [hv] using this
      clear HI HR4 HQ4 hR
      go_loopg [9, 13] (n + 1) (fun g lv s13 wr => ∃ (d : Nat) (aL : Option Addr) (cL : Nat) (Lv : List Nat), d ≤ n + 1 ∧ g = n + 1 - d ∧ s13 = .int .i64 d ∧ lv = .slice aL Lv.length cL ∧ Head N w wr bM bV bO bD d aL cL Lv)
      case atStart => exact ⟨0, aL, cL, Lv, by omega, rfl, rfl, rfl, HH.out⟩
      case round =>
        clear HH
        obtain ⟨d, aL, cL, Lv, hd, rfl, rfl, rfl, dd, M, VF, VC, O, Dn, T, u0, hR, hQ, hC, hor⟩ := hrel
        rw [HNn.out.1, HNn.out.2.1] at hR
        have HC : Hid _ := hC
        clear hC
        cases Lv with
        | nil =>
          have HF := HC.out.final
          replace HF : Hid _ := HF
          clear HC hQ
          go_wp2
          go_ret2
          exact ⟨_, _, _, _, M, VF, VC, T, rfl, Sl.of_row hR.r2.rM hR.r2.lM, SlV.of_row hR.r2.rV hR.r2.lV, hR.r2.since, HF.out⟩
        | cons x Lv =>
          have hdd : dd = d := by rcases hor with h | h; cases h; exact h
          subst hdd
          have hdn : dd ≤ n := by have := HC.out.lev_le; have := HNn.out.1; omega
          clear hor
          go_wp2
          -- one level
          go_loopg [9, 14] (Phi M dd n + (x :: Lv).length) (fun g lv nx wr => ∃ (M VF VC O : Nat → Int) (Dn : Nat → Bool) (T : Nat → Nat) (u0 : Nat) (aL : Option Addr) (cL : Nat) (Lv : List Nat) (aN : Option Addr) (cN : Nat) (Nx : List Nat),
            g = Phi M dd n + Lv.length ∧ lv = .slice aL Lv.length cL ∧ nx = .slice aN Nx.length cN ∧ R4 w wr n nc bM bV bO bD M VF VC O Dn ∧ QQ wr (bad4 w.heap.size bM bV bO bD) aL cL Lv aN cN Nx ∧ CInv N dd M VF VC O Dn T Lv Nx u0 N.nc N.nc 0)
          case atStart => exact ⟨M, VF, VC, O, Dn, T, u0, aL, cL, x :: Lv, none, 0, [], rfl, rfl, rfl, hR, hQ, HC.out⟩
          case round =>
            clear HC hR hQ
            obtain ⟨M, VF, VC, O, Dn, T, u0, aL, cL, Lv, aN, cN, Nx, rfl, rfl, rfl, hR, hQ, hC⟩ := hrel
            have HC : Hid _ := hC
            clear hC
            cases Lv with
            | nil =>
              go_wp2
              go_roundg (n + 1 - (dd + 1))
              case measure => go_light; omega
              case rel =>
                go_light
                refine ⟨dd + 1, aN, cN, Nx, by omega, rfl, by simp, rfl, ?_⟩
                by_cases e : Nx = []
                · subst e
                  exact ⟨dd, M, VF, VC, O, Dn, T, u0, by rw [HNn.out.1, HNn.out.2.1]; exact hR, hQ.move, HC.out, Or.inl rfl⟩
                · exact ⟨dd + 1, M, VF, VC, O, Dn, T, u0, by rw [HNn.out.1, HNn.out.2.1]; exact hR, hQ.move, HC.out.shift e, Or.inr rfl⟩
            | cons x Lv =>
              obtain ⟨bq, oq, rfl, cq, hcap, hQ1⟩ := hQ.head
              have hx : x < n := by have := HC.out.lv x (by simp); have := HNn.out.1; omega
              have c1 := hR.rD.cell hx
              have c2 := hR.r2.rM.cell hx
              have c3 := hR.rD.frozen x
              have hxi : (x : Int) < (n : Int) := by omega
              have hlv2 : (1 : Int) ≤ (cL : Int) := by omega
              simp only [List.length_cons]
              go_upto_region 20 with fail
              go_cut [9] from 77 to 209 (fun s9 wx => ∃ aL1, s9 = .slice aL1 Lv.length (cL - 1) ∧ QQ wr (bad4 w.heap.size bM bV bO bD) aL1 (cL - 1) Lv aN cN Nx ∧ wr = wx)
              case first =>
                by_cases hc1 : cL = 1
                · subst hc1
                  simp only [if_true] at hQ1
                  have hL0 : Lv.length = 0 := by omega
                  have HL0 : Hid (Lv.length = 0) := hL0
                  clear hL0
                  go_wp2_with fail
                  go_meet
                  case rel => exact ⟨_, by rw [HL0.out], hQ1, rfl⟩
                · simp only [hc1, if_false] at hQ1
                  go_wp2_with fail
                  go_meet
                  case rel => exact ⟨_, rfl, hQ1, rfl⟩
              case rest =>
                clear hQ1
                obtain ⟨aL1, rfl, hQ1, rfl⟩ := hcut
                clear cq hQ hlv2
                cases hdx : Dn x
                · rw [hdx] at c1
                  cases hmx : (M x != (dd : Int))
                  · have hmx' : M x = (dd : Int) := by simpa using hmx
                    have hR1 := hR.setD x
                    have hQ2 := hQ1.setBad (a := ⟨bD, x, none⟩) (bad4_D _ _ _ _ _) (.bool true)
                    have hC1 := HC.out.mark hdx hmx'
                    have c4 := cell0_since hR1.r2.since hG.g0
                    have HC1 : Hid _ := hC1
                    have Hmx : Hid (M x = (dd : Int)) := hmx'
                    clear hC1 hmx' HC
                    obtain ⟨Dn1, hDn1⟩ : ∃ Dn1 : Nat → Bool, Dn1 = fun i => if i = x then true else Dn i := ⟨_, rfl⟩
                    obtain ⟨T1, hT1⟩ : ∃ T1 : Nat → Nat, T1 = fun i => if i = x then cnt Dn N.n else T i := ⟨_, rfl⟩
                    rw [← hDn1, ← hT1] at HC1
                    rw [← hDn1] at hR1
                    have HDx : Hid (Dn1 x = true) := by show _ = _; rw [hDn1]; simp
                    obtain ⟨K0, hK0⟩ : ∃ K0, K0 = Lv.length + Phi M dd n := ⟨_, rfl⟩
                    have HK0 : Hid (K0 = Lv.length + Phi M dd n) := hK0
                    clear hDn1 hT1 hK0
                    obtain ⟨bb, bo, e5, _, hbc⟩ := hB.get (by omega)
                    cases e5
                    obtain ⟨EA, EC, hE1, hE2⟩ := hG.hE
                    go_wp2
                    -- the classes of x
                    go_loopg [9, 14, 106] nc (fun g lv nx ci wr => ∃ (c : Nat) (M VF VC O : Nat → Int) (aL : Option Addr) (cL : Nat) (Lv : List Nat) (aN : Option Addr) (cN : Nat) (Nx : List Nat), c ≤ nc ∧ g = nc - c ∧ ci = .int .i32 c ∧ lv = .slice aL Lv.length cL ∧ nx = .slice aN Nx.length cN ∧
                      R4 w wr n nc bM bV bO bD M VF VC O Dn1 ∧ QQ wr (bad4 w.heap.size bM bV bO bD) aL cL Lv aN cN Nx ∧ CInv N dd M VF VC O Dn1 T1 Lv Nx x c N.nc 0 ∧ M x = (dd : Int) ∧ Lv.length + Phi M dd n ≤ K0)
                    case atStart => exact ⟨0, M, VF, VC, O, aL1, cL - 1, Lv, aN, cN, Nx, Nat.zero_le _, rfl, rfl, rfl, rfl, hR1, hQ2, HC1.out, Hmx.out, by rw [HK0.out]; omega⟩
                    case round =>
                      clear hR1 hQ2 HC1 Hmx hR hQ1 c1 c2 c3 c4
                      obtain ⟨c, M, VF, VC, O, aL, cL, Lv, aN, cN, Nx, hc, rfl, rfl, rfl, rfl, hR, hQ, hC, hmx, hK⟩ := hrel
                      have HC : Hid _ := hC
                      have Hmx : Hid (M x = (dd : Int)) := hmx
                      have HK : Hid _ := hK
                      clear hC hmx hK
                      by_cases hlc : c < nc
                      · have hG' := hG.since hR.r2.since
                        have g2 := hG'.g2
                        have g3 := hG'.g3
                        obtain ⟨kb, ko, e1, _, hkc⟩ := hG'.kS.get (by omega)
                        obtain ⟨ab, ao, e2, _, hac⟩ := hG'.aS.get (by omega)
                        rw [e1] at g2
                        rw [e2] at g3
                        have ck := hkc x hx
                        have ca := hac x hx
                        obtain ⟨ka1, kc1, hlk⟩ := (hG'.kM x hx).look_all c (by omega)
                        obtain ⟨aa1, ac1, hla⟩ := (hG'.aM x hx).look_all c (by omega)
                        have hlk1 := fun m => hlk (wr.drewN m) rfl
                        have hla1 := fun m => hla (wr.drewN m) rfl
                        have hp1 := hpk.out x hx c hlc
                        have hp2 := hpa.out x hx c hlc
                        have Hhas : Hid (N.has x c = decide (0 < plen KL KLL x c + plen AL ALL x c)) := by show _ = _; rw [HNn.out.2.2.2.2.2.1]; rfl
                        have Hfr : Hid (N.fresh x c = decide (0 < plen AL ALL x c)) := by show _ = _; rw [HNn.out.2.2.2.2.2.2.1]; rfl
                        clear hkc hac e1 e2 hlk hla hG'
                        generalize plen KL KLL x c = p1 at *
                        generalize plen AL ALL x c = p2 at *
                        have hci : (c : Int) < (nc : Int) := by omega
                        by_cases h0 : p1 + p2 = 0
                        · as_aux_lemma =>
                            have hz : ((p1 : Int) + (p2 : Int) == 0) = true := by simp; omega
                            have Hh : Hid (N.has x c = false) := by show _ = _; rw [Hhas.out]; simp; omega
                            go_wp2_with fail
                            go_quiet (fail)
                            go_wp2
                            go_roundg (nc - (c + 1))
                            case measure => go_light; omega
                            case rel => go_light; exact ⟨c + 1, M, VF, VC, O, aL, cL, Lv, aN, cN, Nx, by omega, rfl, by simp, rfl, rfl, hR.drewN _, hQ.drewN _, HC.out.cls_no Hh.out, Hmx.out, HK.out⟩
                        · have hz : ((p1 : Int) + (p2 : Int) == 0) = false := by simp; omega
                          have Hh : Hid (N.has x c = true) := by show _ = _; rw [Hhas.out]; simp; omega
                          obtain ⟨cst, hcst⟩ : ∃ cst : Int, cst = (dd : Int) + N.wt x c := ⟨_, rfl⟩
                          have Hcst : Hid (cst = (dd : Int) + N.wt x c) := hcst
                          have Hw : Hid (cst = if p2 = 0 then (dd : Int) + 1 else (dd : Int)) := by
                            show _ = _
                            rw [hcst]
                            unfold Net.wt
                            rw [Hfr.out]
                            by_cases e : p2 = 0
                            · simp [e]
                            · rw [if_neg e, if_pos (by simp; omega)]; omega
                          have hwb := N.wt_bd x c
                          have hcb1 : (dd : Int) ≤ cst := by omega
                          have hcb2 : cst ≤ (dd : Int) + 1 := by omega
                          have hcb3 : cst ≤ (n : Int) := by
                            have h1 := HC.out.lev_lt (u := x) (by rw [HNn.out.1]; exact hx) Hmx.out
                            rw [HNn.out.1] at h1
                            omega
                          clear hcst hwb
                          go_wp2_with fail
                          go_quiet (fail)
                          have hR1 := hR.drewN nq
                          have hQ1 := hQ.drewN nq
                          have g3' : (wr.drewN nq).cell? ⟨gb, 3, none⟩ = some (.slice (some ⟨ab, ao, none⟩) n ac) := g3
                          have ca' : (wr.drewN nq).cell? ⟨ab, ao + x, none⟩ = some (.map (some (AM x))) := ca
                          have hla2 := hla1 nq
                          clear hlk1 hla1 g2 g3 ck ca hR hQ hz
                          generalize wr.drewN nq = w3 at *
                          have cO := hR1.rO.cell hlc
                          have cOf := hR1.rO.frozen c
                          go_upto_if 142 with fail
                          go_cut [17, 106] from 106 to 209 (fun s17 s106 wx => s17 = .int .i64 cst ∧ s106 = .int .i32 c ∧ w3 = wx)
                          case first =>
                            by_cases e : p2 = 0
                            · have hw := Hw.out
                              rw [if_pos e] at hw
                              have Hw2 : Hid (cst = (dd : Int) + 1) := hw
                              clear hw
                              have hz2 : ((p2 : Int) == 0) = true := by simp; omega
                              go_wp2_with fail
                              go_meet
                              case rel => exact ⟨by rw [Hw2.out], rfl, rfl⟩
                            · have hw := Hw.out
                              rw [if_neg e] at hw
                              have Hw2 : Hid (cst = (dd : Int)) := hw
                              clear hw
                              have hz2 : ((p2 : Int) == 0) = false := by simp; omega
                              go_wp2_with fail
                              go_meet
                              case rel => exact ⟨by rw [Hw2.out], rfl, rfl⟩
                          case rest =>
                            obtain ⟨rfl, rfl, rfl⟩ := hcut
                            clear g3' ca' hla2 Hw Hhas Hfr
                            by_cases hco : cst < O c
                            · have hR2 := hR1.setO c cst
                              have hQ2 := hQ1.setBad (a := ⟨bO, c, none⟩) (bad4_O _ _ _ _ _) (.int .i64 cst)
                              have hC2 := HC.out.cls_set (x := cst) (by rw [Hmx.out, ← Hcst.out]) hco (by rw [HNn.out.1]; exact hcb3)
                              have HC2 : Hid _ := hC2
                              have c0 := cell0_since hR2.r2.since hG.g0
                              obtain ⟨eb, eo, e1, _, hec⟩ := (hE1.since hR2.r2.since).get (by omega)
                              rw [e1] at c0
                              have ce := hec c hlc
                              have hELc := hEL.out c hlc
                              obtain ⟨O2, hO2⟩ : ∃ O2 : Nat → Int, O2 = fun i => if i = c then cst else O i := ⟨_, rfl⟩
                              rw [← hO2] at hR2 HC2
                              have HO2 : Hid (O2 c = cst) := by show _ = _; rw [hO2]; simp
                              clear hC2 hO2 hec e1 HC
                              by_cases hE0 : EL c = 0
                              · as_aux_lemma =>
                                  have HE0 : Hid (EL c = 0) := hE0
                                  clear hE0
                                  go_wp2
                                  go_loopg [9, 14, 163] 0 (fun g lv nx ki wr => lv = .slice aL Lv.length cL ∧ nx = .slice aN Nx.length cN ∧ ki = .int .i64 0 ∧ w3.setCell ⟨bO, c, none⟩ (.int .i64 cst) = wr)
                                  case atStart => exact ⟨rfl, rfl, rfl, rfl⟩
                                  case round =>
                                    obtain ⟨rfl, rfl, rfl, rfl⟩ := hrel
                                    have hE0 := HE0.out
                                    have hE0i : ¬ (0 : Int) < (EL c : Int) := by omega
                                    clear hE0
                                    go_wp2
                                    go_roundg (nc - (c + 1))
                                    case measure => go_light; omega
                                    case rel =>
                                      go_light
                                      have h1 : CInv N dd M VF VC O2 Dn1 T1 Lv Nx x (c + 1) c (N.EL c) := by rw [HNn.out.2.2.1, HE0.out]; exact HC2.out
                                      exact ⟨c + 1, M, VF, VC, O2, aL, cL, Lv, aN, cN, Nx, by omega, rfl, by simp, rfl, rfl, hR2, hQ2, h1.cls_done (u := 0), Hmx.out, HK.out⟩
                              · obtain ⟨rb, ro, e3, _, _⟩ := (hE2 c hlc).get (by omega)
                                simp only [e3] at ce
                                have HE3 : Hid (EA c = some ⟨rb, ro, none⟩) := e3
                                clear e3
                                go_wp2
                                -- the members of class c
                                go_loopg [9, 14, 163] (EL c) (fun g lv nx ki wr => ∃ (k : Nat) (M VF VC : Nat → Int) (aL : Option Addr) (cL : Nat) (Lv : List Nat) (aN : Option Addr) (cN : Nat) (Nx : List Nat), k ≤ EL c ∧ g = EL c - k ∧ ki = .int .i64 k ∧ lv = .slice aL Lv.length cL ∧ nx = .slice aN Nx.length cN ∧
                                  R4 w wr n nc bM bV bO bD M VF VC O2 Dn1 ∧ QQ wr (bad4 w.heap.size bM bV bO bD) aL cL Lv aN cN Nx ∧ CInv N dd M VF VC O2 Dn1 T1 Lv Nx x (c + 1) c k ∧ M x = (dd : Int) ∧ Lv.length + Phi M dd n ≤ K0)
                                case atStart => exact ⟨0, M, VF, VC, aL, cL, Lv, aN, cN, Nx, Nat.zero_le _, rfl, rfl, rfl, rfl, hR2, hQ2, HC2.out, Hmx.out, HK.out⟩
                                case round =>
                                  clear hR2 hQ2 HC2 Hmx HK hR1 hQ1 cO cOf c0 ce hco
                                  obtain ⟨k, M, VF, VC, aL, cL, Lv, aN, cN, Nx, hk, rfl, rfl, rfl, rfl, hR, hQ, hC, hmx, hK⟩ := hrel
                                  have hsz := hC.sz
                                  have hszL : Lv.length ≤ 1048576 := by have := HNn.out.1; omega
                                  have hszN : Nx.length ≤ 1048576 := by have := HNn.out.1; omega
                                  have HC : Hid _ := hC
                                  have Hmx : Hid (M x = (dd : Int)) := hmx
                                  have HK : Hid _ := hK
                                  clear hC hmx hK hsz
                                  by_cases hlk : k < EL c
                                  · obtain ⟨rb1, ro1, e4, _, hrc⟩ := ((hE2 c hlc).since hR.r2.since).get (by omega)
                                    have e3 := HE3.out
                                    rw [e3] at e4
                                    cases e4
                                    clear e3
                                    have ce := hrc k hlk
                                    obtain ⟨v, hv, hev⟩ := hEr.out c hlc k hlk
                                    rw [hev] at ce
                                    have HEv : Hid (N.E c k = (v : Int)) := by show _ = _; rw [HNn.out.2.2.2.1]; exact hev
                                    have cb := cell_since hR.r2.since (hbc v hv)
                                    have cM := hR.r2.rM.cell hv
                                    have cMf := hR.r2.rM.frozen v
                                    have cV1 := hR.r2.rV.cell (i := v * 2) (by omega)
                                    have cV2 := hR.r2.rV.cell (i := v * 2 + 1) (by omega)
                                    have cV3 := hR.r2.rV.frozen (v * 2)
                                    have cV4 := hR.r2.rV.frozen (v * 2 + 1)
                                    rw [viaC_even] at cV1
                                    rw [viaC_odd] at cV2
                                    have hne := hR.r2.ne
                                    have hvi : (v : Int) < (n : Int) := by omega
                                    have hki : (k : Int) < (EL c : Int) := by omega
                                    clear hrc hev
                                    cases ha : act v
                                    · as_aux_lemma =>
                                        rw [ha] at cb
                                        have Ha : Hid (N.act v = false) := by show _ = _; rw [HNn.out.2.2.2.2.1]; exact ha
                                        clear ha
                                        go_wp2
                                        go_roundg (EL c - (k + 1))
                                        case measure => go_light; omega
                                        case rel => go_light; exact ⟨k + 1, M, VF, VC, aL, cL, Lv, aN, cN, Nx, by omega, rfl, by simp, rfl, rfl, hR, hQ, HC.out.v_keep HEv.out (fun h => by rw [Ha.out] at h; cases h), Hmx.out, HK.out⟩
                                    · rw [ha] at cb
                                      have Ha : Hid (N.act v = true) := by show _ = _; rw [HNn.out.2.2.2.2.1]; exact ha
                                      clear ha
                                      by_cases hm0 : 0 ≤ M v
                                      · by_cases hm1 : M v ≤ cst
                                        · as_aux_lemma =>
                                            go_wp2
                                            go_roundg (EL c - (k + 1))
                                            case measure => go_light; omega
                                            case rel => go_light; exact ⟨k + 1, M, VF, VC, aL, cL, Lv, aN, cN, Nx, by omega, rfl, by simp, rfl, rfl, hR, hQ, HC.out.v_keep HEv.out (fun _ => ⟨hm0, by rw [HO2.out]; exact hm1⟩), Hmx.out, HK.out⟩
                                        · have HQx := (((hQ.setBad (a := ⟨bM, v, none⟩) (bad4_M _ _ _ _ _) (.int .i64 cst)).setBad (a := ⟨bV, v * 2, none⟩) (bad4_V _ _ _ _ _) (.int .i64 (x : Int))).setBad (a := ⟨bV, v * 2 + 1, none⟩) (bad4_V _ _ _ _ _) (.int .i32 (c : Int))).alloc (.cells #[.int .i64 (v : Int)] 3)
                                          have HQy := HQx.swap
                                          replace HQx : Hid _ := HQx
                                          replace HQy : Hid _ := HQy
                                          have HRx := (hR.put v cst (x : Int) (c : Int)).alloc (.cells #[.int .i64 (v : Int)] 3)
                                          replace HRx : Hid _ := HRx
                                          by_cases hcd : cst = (dd : Int)
                                          · as_aux_lemma =>
                                              have Hd : Hid (cst = (dd : Int)) := hcd
                                              have hcd' : (cst == (dd : Int)) = true := by simp [hcd]
                                              clear hcd
                                              have hv2 := HC.out.v_set (x := cst) (Lv' := (Lv ++ [v])) (Nx' := Nx) (by rw [HNn.out.1]; exact hx) (by rw [HNn.out.2.1]; exact hlc) (by rw [HNn.out.2.2.1]; exact hlk) (by rw [HNn.out.1]; exact hv) Hh.out HDx.out Hmx.out HEv.out Ha.out (by rw [Hmx.out, ← Hcst.out]) HO2.out (by omega) (Or.inl ⟨Hd.out, rfl, rfl⟩)
                                              have hMx : (if x = v then cst else M x) = (dd : Int) := by
                                                have e : x ≠ v := fun e => by subst e; have := Hmx.out; omega
                                                rw [if_neg e]; exact Hmx.out
                                              replace hv2 : Hid _ := hv2
                                              replace hMx : Hid _ := hMx
                                              go_wp2_with (at_builtin; refine wpList_append_q rfl (.tmp 200) (.tmp 202) rfl (bad4 w.heap.size bM bV bO bD) aL aN cL cN Lv Nx v rfl HQx.out _ rfl (by simp [go_sem]) (by omega) ?_; intro a1' c1' w' hQ' hK')
                                              go_roundg (EL c - (k + 1))
                                              case measure => go_light; omega
                                              case rel =>
                                                go_light
                                                replace hv2 := hv2.out
                                                replace hMx := hMx.out
                                                have hb5 := hv2.2
                                                rw [HNn.out.1] at hb5
                                                exact ⟨k + 1, _, _, _, a1', c1', Lv ++ [v], aN, cN, Nx, by omega, rfl, by simp, by simp, rfl, HRx.out.keep hK', hQ', hv2.1, hMx, by have := HK.out; omega⟩
                                          · as_aux_lemma =>
                                              have Hd : Hid (cst = (dd : Int) + 1) := by show _ = _; omega
                                              have hcd' : (cst == (dd : Int)) = false := by simp [hcd]
                                              clear hcd
                                              have hv2 := HC.out.v_set (x := cst) (Lv' := Lv) (Nx' := (Nx ++ [v])) (by rw [HNn.out.1]; exact hx) (by rw [HNn.out.2.1]; exact hlc) (by rw [HNn.out.2.2.1]; exact hlk) (by rw [HNn.out.1]; exact hv) Hh.out HDx.out Hmx.out HEv.out Ha.out (by rw [Hmx.out, ← Hcst.out]) HO2.out (by omega) (Or.inr ⟨Hd.out, rfl, rfl⟩)
                                              have hMx : (if x = v then cst else M x) = (dd : Int) := by
                                                have e : x ≠ v := fun e => by subst e; have := Hmx.out; omega
                                                rw [if_neg e]; exact Hmx.out
                                              replace hv2 : Hid _ := hv2
                                              replace hMx : Hid _ := hMx
                                              go_wp2_with (at_builtin; refine wpList_append_q rfl (.tmp 204) (.tmp 206) rfl (bad4 w.heap.size bM bV bO bD) aN aL cN cL Nx Lv v rfl HQy.out _ rfl (by simp [go_sem]) (by omega) ?_; intro a1' c1' w' hQ' hK')
                                              go_roundg (EL c - (k + 1))
                                              case measure => go_light; omega
                                              case rel =>
                                                go_light
                                                replace hv2 := hv2.out
                                                replace hMx := hMx.out
                                                have hb5 := hv2.2
                                                rw [HNn.out.1] at hb5
                                                exact ⟨k + 1, _, _, _, aL, cL, Lv, a1', c1', Nx ++ [v], by omega, rfl, by simp, rfl, by simp, HRx.out.keep hK', hQ'.swap, hv2.1, hMx, by have := HK.out; omega⟩
                                      · have HQx := (((hQ.setBad (a := ⟨bM, v, none⟩) (bad4_M _ _ _ _ _) (.int .i64 cst)).setBad (a := ⟨bV, v * 2, none⟩) (bad4_V _ _ _ _ _) (.int .i64 (x : Int))).setBad (a := ⟨bV, v * 2 + 1, none⟩) (bad4_V _ _ _ _ _) (.int .i32 (c : Int))).alloc (.cells #[.int .i64 (v : Int)] 3)
                                        have HQy := HQx.swap
                                        replace HQx : Hid _ := HQx
                                        replace HQy : Hid _ := HQy
                                        have HRx := (hR.put v cst (x : Int) (c : Int)).alloc (.cells #[.int .i64 (v : Int)] 3)
                                        replace HRx : Hid _ := HRx
                                        by_cases hcd : cst = (dd : Int)
                                        · as_aux_lemma =>
                                            have Hd : Hid (cst = (dd : Int)) := hcd
                                            have hcd' : (cst == (dd : Int)) = true := by simp [hcd]
                                            clear hcd
                                            have hv2 := HC.out.v_set (x := cst) (Lv' := (Lv ++ [v])) (Nx' := Nx) (by rw [HNn.out.1]; exact hx) (by rw [HNn.out.2.1]; exact hlc) (by rw [HNn.out.2.2.1]; exact hlk) (by rw [HNn.out.1]; exact hv) Hh.out HDx.out Hmx.out HEv.out Ha.out (by rw [Hmx.out, ← Hcst.out]) HO2.out (by omega) (Or.inl ⟨Hd.out, rfl, rfl⟩)
                                            have hMx : (if x = v then cst else M x) = (dd : Int) := by
                                              have e : x ≠ v := fun e => by subst e; have := Hmx.out; omega
                                              rw [if_neg e]; exact Hmx.out
                                            replace hv2 : Hid _ := hv2
                                            replace hMx : Hid _ := hMx
                                            go_wp2_with (at_builtin; refine wpList_append_q rfl (.tmp 200) (.tmp 202) rfl (bad4 w.heap.size bM bV bO bD) aL aN cL cN Lv Nx v rfl HQx.out _ rfl (by simp [go_sem]) (by omega) ?_; intro a1' c1' w' hQ' hK')
                                            go_roundg (EL c - (k + 1))
                                            case measure => go_light; omega
                                            case rel =>
                                              go_light
                                              replace hv2 := hv2.out
                                              replace hMx := hMx.out
                                              have hb5 := hv2.2
                                              rw [HNn.out.1] at hb5
                                              exact ⟨k + 1, _, _, _, a1', c1', Lv ++ [v], aN, cN, Nx, by omega, rfl, by simp, by simp, rfl, HRx.out.keep hK', hQ', hv2.1, hMx, by have := HK.out; omega⟩
                                        · as_aux_lemma =>
                                            have Hd : Hid (cst = (dd : Int) + 1) := by show _ = _; omega
                                            have hcd' : (cst == (dd : Int)) = false := by simp [hcd]
                                            clear hcd
                                            have hv2 := HC.out.v_set (x := cst) (Lv' := Lv) (Nx' := (Nx ++ [v])) (by rw [HNn.out.1]; exact hx) (by rw [HNn.out.2.1]; exact hlc) (by rw [HNn.out.2.2.1]; exact hlk) (by rw [HNn.out.1]; exact hv) Hh.out HDx.out Hmx.out HEv.out Ha.out (by rw [Hmx.out, ← Hcst.out]) HO2.out (by omega) (Or.inr ⟨Hd.out, rfl, rfl⟩)
                                            have hMx : (if x = v then cst else M x) = (dd : Int) := by
                                              have e : x ≠ v := fun e => by subst e; have := Hmx.out; omega
                                              rw [if_neg e]; exact Hmx.out
                                            replace hv2 : Hid _ := hv2
                                            replace hMx : Hid _ := hMx
                                            go_wp2_with (at_builtin; refine wpList_append_q rfl (.tmp 204) (.tmp 206) rfl (bad4 w.heap.size bM bV bO bD) aN aL cN cL Nx Lv v rfl HQy.out _ rfl (by simp [go_sem]) (by omega) ?_; intro a1' c1' w' hQ' hK')
                                            go_roundg (EL c - (k + 1))
                                            case measure => go_light; omega
                                            case rel =>
                                              go_light
                                              replace hv2 := hv2.out
                                              replace hMx := hMx.out
                                              have hb5 := hv2.2
                                              rw [HNn.out.1] at hb5
                                              exact ⟨k + 1, _, _, _, aL, cL, Lv, a1', c1', Nx ++ [v], by omega, rfl, by simp, rfl, by simp, HRx.out.keep hK', hQ'.swap, hv2.1, hMx, by have := HK.out; omega⟩
                                  · as_aux_lemma =>
                                      obtain rfl : EL c = k := by omega
                                      go_wp2
                                      go_roundg (nc - (c + 1))
                                      case measure => go_light; omega
                                      case rel =>
                                        go_light
                                        have h1 : CInv N dd M VF VC O2 Dn1 T1 Lv Nx x (c + 1) c (N.EL c) := by rw [HNn.out.2.2.1]; exact HC.out
                                        exact ⟨c + 1, M, VF, VC, O2, aL, cL, Lv, aN, cN, Nx, by omega, rfl, by simp, rfl, rfl, hR, hQ, h1.cls_done (u := 0), Hmx.out, HK.out⟩
                            · as_aux_lemma =>
                                go_wp2
                                go_roundg (nc - (c + 1))
                                case measure => go_light; omega
                                case rel =>
                                  go_light
                                  exact ⟨c + 1, M, VF, VC, O, aL, cL, Lv, aN, cN, Nx, by omega, rfl, by simp, rfl, rfl, hR1, hQ1, HC.out.cls_keep (by rw [Hmx.out, ← Hcst.out]; omega) (by rw [Hmx.out, ← Hcst.out, HNn.out.1]; omega), Hmx.out, HK.out⟩
                      · as_aux_lemma =>
                          obtain rfl : nc = c := by omega
                          go_wp2
                          go_roundg (Phi M dd n + Lv.length)
                          case measure => go_light; have := HK.out; have := HK0.out; simp only [List.length_cons]; omega
                          case rel =>
                            go_light
                            have h1 := HC.out
                            rw [← HNn.out.2.1] at h1
                            exact ⟨M, VF, VC, O, Dn1, T1, x, aL, cL, Lv, aN, cN, Nx, rfl, rfl, rfl, hR, hQ, h1⟩
                  · as_aux_lemma =>
                      have hmx' : M x ≠ (dd : Int) := by simpa using hmx
                      have Hmx : Hid (M x ≠ (dd : Int)) := hmx'
                      clear hmx'
                      go_wp2
                      go_roundg (Phi M dd n + Lv.length)
                      case measure => go_light; simp only [List.length_cons]; omega
                      case rel => go_light; exact ⟨M, VF, VC, O, Dn, T, u0, aL1, cL - 1, Lv, aN, cN, Nx, rfl, rfl, rfl, hR, hQ1, HC.out.pop (Or.inr Hmx.out)⟩
                · rw [hdx] at c1
                  go_wp2
                  go_roundg (Phi M dd n + Lv.length)
                  case measure => go_light; simp only [List.length_cons]; omega
                  case rel => go_light; exact ⟨M, VF, VC, O, Dn, T, u0, aL1, cL - 1, Lv, aN, cN, Nx, rfl, rfl, rfl, hR, hQ1, HC.out.pop (Or.inl hdx)⟩
end Go.Proofs.Qxb6003132aMods
