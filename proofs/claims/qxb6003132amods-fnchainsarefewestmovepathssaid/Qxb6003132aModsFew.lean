/- fewestMoves: what it hands back is Sound, Complete and Tame. -/
import Derived.Test.Qxb6003132aModsBell
import Derived.Test.Qxb6003132aModsParts
namespace Go.Proofs.Qxb6003132aMods
open Go.RowKit
set_option linter.unusedVariables false

/-- the net of an input -/
def netOf (n nc : Nat) (EL : Nat → Nat) (E : Nat → Nat → Int) (KL : Nat → Nat) (KLL : Nat → Nat → Nat) (AL : Nat → Nat) (ALL : Nat → Nat → Nat) (act : Nat → Bool) (ld : Nat → Int) (most : Int) : Net where
  n := n
  nc := nc
  EL := EL
  E := E
  has := hasB KL KLL AL ALL
  fresh := freshB AL ALL
  act := act
  start := fun v => act v && (ld v == most)

/-- d and offer, rows of the call's own -/
structure FM (w wr : World) (n nc : Nat) (D O : Nat → Int) : Prop where
  since : w.Since w.heap.size wr
  size : wr.heap.size = w.heap.size + 2
  rD : wr.rowIs w.heap.size 3 n (fun v => .int .i64 (D v))
  rO : wr.rowIs (w.heap.size + 1) 3 nc (fun c => .int .i64 (O c))

theorem FM.drewN {w wr : World} {n nc : Nat} {D O : Nat → Int} (h : FM w wr n nc D O) (m : Nat) : FM w (wr.drewN m) n nc D O := ⟨since_drewN h.since m, h.size, h.rD, h.rO⟩

theorem FM.setD {w wr : World} {n nc : Nat} {D O : Nat → Int} (h : FM w wr n nc D O) (v : Nat) (x : Int) : FM w (wr.setCell ⟨w.heap.size, v, none⟩ (.int .i64 x)) n nc (fun i => if i = v then x else D i) O :=
  ⟨h.since.setCell (Nat.le_refl _) _, by rw [Go.Deep.nblk_setCell]; exact h.size, (h.rD.set v _).congr (fun i _ => by split <;> rfl), h.rO.setOther (by show w.heap.size + 1 ≠ w.heap.size; omega) _⟩

theorem FM.setO {w wr : World} {n nc : Nat} {D O : Nat → Int} (h : FM w wr n nc D O) (c : Nat) (x : Int) : FM w (wr.setCell ⟨w.heap.size + 1, c, none⟩ (.int .i64 x)) n nc D (fun i => if i = c then x else O i) :=
  ⟨h.since.setCell (by show w.heap.size ≤ w.heap.size + 1; omega) _, by rw [Go.Deep.nblk_setCell]; exact h.size, h.rD.setOther (by show w.heap.size ≠ w.heap.size + 1; omega) _, (h.rO.set c _).congr (fun i _ => by split <;> rfl)⟩

theorem FM.start {w wr : World} {n nc : Nat} {D : Nat → Int} {z : Value} (h : Fill w wr 3 n n (fun i => .int .i64 (D i)) z) (hz : wr.heap.size = w.heap.size + 1) : FM w (wr.alloc (.cells (madeCells #[.int .i64 0] nc) 3)) n nc D (fun _ => 0) := by
  have hr := World.rowIs_made wr (.int .i64 0) nc 3
  rw [hz] at hr
  exact ⟨h.since.alloc (by omega) _, by rw [Go.Deep.nblk_alloc]; omega, (h.row.alloc _).congr (fun i hi => by simp [hi]), hr⟩

set_option maxHeartbeats 4000000 in
set_option maxRecDepth 100000 in
theorem few_any (ea ka aa la ba : Option Addr) (n nc ec kc ac lc bc : Nat) (EL KL AL : Nat → Nat) (KLL ALL : Nat → Nat → Nat) (E : Nat → Nat → Int) (act : Nat → Bool) (ld : Nat → Int) (most : Int) (w : World)
    (hn : n ≤ 256) (hnc : nc ≤ 256) (hEL : ∀ c, c < nc → EL c ≤ 1048576) (hEr : ∀ c, c < nc → ∀ k, k < EL c → ∃ v : Nat, v < n ∧ E c k = (v : Int))
    (hpk : ∀ u, u < n → ∀ c, c < nc → plen KL KLL u c ≤ 1048576) (hpa : ∀ u, u < n → ∀ c, c < nc → plen AL ALL u c ≤ 1048576)
    (hE : Mat w ea nc EL E) (hK : Cube w ka n KL KLL) (hA : Cube w aa n AL ALL) (hL : Sl w 0 la n (fun i => .int .i64 (ld i))) (hB : Sl w 0 ba n (fun i => .bool (act i))) :
    Calls Trym.prog 15 #[.slice ea nc ec, .slice ka n kc, .slice aa n ac, .slice la n lc, .slice ba n bc, .int .i64 most] w fun e w' => ∃ (ao : Option Addr) (cap : Nat) (W : Nat → Int),
      e = .returned (.slice ao n cap) ∧ Sl w' w.heap.size ao n (fun i => .int .i64 (W i)) ∧ w.Since w.heap.size w' ∧
      (netOf n nc EL E KL KLL AL ALL act ld most).Sound W ∧ (netOf n nc EL E KL KLL AL ALL act ld most).Complete W ∧ (netOf n nc EL E KL KLL AL ALL act ld most).Tame W := by
  obtain ⟨N, hN⟩ : ∃ N, N = netOf n nc EL E KL KLL AL ALL act ld most := ⟨_, rfl⟩
  have HN : Hid (N = netOf n nc EL E KL KLL AL ALL act ld most) := hN
  rw [← hN]
  clear hN
  replace hEL : Hid (∀ c, c < nc → EL c ≤ 1048576) := hEL
  replace hEr : Hid (∀ c, c < nc → ∀ k, k < EL c → ∃ v : Nat, v < n ∧ E c k = (v : Int)) := hEr
  replace hpk : Hid (∀ u, u < n → ∀ c, c < nc → plen KL KLL u c ≤ 1048576) := hpk
  replace hpa : Hid (∀ u, u < n → ∀ c, c < nc → plen AL ALL u c ≤ 1048576) := hpa
  have hmk1 := run_make_row' (P := Trym.prog) 24 3 (.int .i64 0) 8 Trym.underlying24 Trym.info3 rfl .i64 .i64 n (by omega) (by omega)
  have hmk2 := run_make_row' (P := Trym.prog) 24 3 (.int .i64 0) 8 Trym.underlying24 Trym.info3 rfl .i64 .i64 nc (by omega) (by omega)
  go_enter Trym.func15, Trym.ntmps15
  go_wp2
  -- the starts
  go_loopg [16] n (fun g i wr => ∃ k : Nat, k ≤ n ∧ g = n - k ∧ i = .int .i64 k ∧ wr.heap.size = w.heap.size + 1 ∧ Fill w wr 3 n k (fun i => .int .i64 (if N.start i then 0 else 1073741824)) (.int .i64 0))
  case atStart => exact ⟨0, Nat.zero_le _, rfl, rfl, by simp, Fill.start _ _ _ _ _⟩
  case round =>
    obtain ⟨k, hk, rfl, rfl, hz, hF⟩ := hrel
    by_cases hlt : k < n
    · obtain ⟨b1, o1, e1, _, hc1⟩ := hL.get (by omega)
      obtain ⟨b2, o2, e2, _, hc2⟩ := hB.get (by omega)
      cases e1
      cases e2
      have c1 := cell_since hF.since (hc1 k hlt)
      have c2 := cell_since hF.since (hc2 k hlt)
      have c3 := hF.row.cell hlt
      have c4 := hF.row.frozen k
      have hs := hF.step
      have HS : Hid (N.start k = (act k && (ld k == most))) := by rw [HN.out]; rfl
      clear hc1 hc2 hmk1 hmk2
      have HF : Hid _ := hs
      clear hs
      cases ha : act k
      · rw [ha] at c2
        have HS2 : Hid (N.start k = false) := by show _ = _; rw [HS.out, ha]; rfl
        go_wp2
        go_roundg (n - (k + 1))
        case measure => go_light; omega
        case rel =>
          go_light
          have := HF.out
          simp only [HS2.out] at this
          exact ⟨k + 1, by omega, rfl, by simp, by simpa using hz, this⟩
      · rw [ha] at c2
        cases hm : (ld k == most)
        · have HS2 : Hid (N.start k = false) := by show _ = _; rw [HS.out, ha, hm]; rfl
          go_wp2
          go_roundg (n - (k + 1))
          case measure => go_light; omega
          case rel =>
            go_light
            have := HF.out
            simp only [HS2.out] at this
            exact ⟨k + 1, by omega, rfl, by simp, by simpa using hz, this⟩
        · have HS2 : Hid (N.start k = true) := by show _ = _; rw [HS.out, ha, hm]; rfl
          go_wp2
          go_roundg (n - (k + 1))
          case measure => go_light; omega
          case rel =>
            go_light
            have := HF.out
            simp only [HS2.out] at this
            exact ⟨k + 1, by omega, rfl, by simp, by simpa using hz, this⟩
    · obtain rfl : n = k := by omega
      have hfm := FM.start (nc := nc) hF hz
      have HFM : Hid _ := hfm
      have HB : Hid (BF N 0 (fun i => if N.start i then 0 else 1073741824) (fun v => v < N.n ∧ N.start v = true)) := BF.start _ (fun v _ => rfl)
      clear hfm hF
      go_wp2
      clear hmk1 hmk2
      have HNn : Hid (N.n = n ∧ N.nc = nc ∧ N.EL = EL ∧ N.E = E ∧ N.act = act ∧ N.has = hasB KL KLL AL ALL ∧ N.fresh = freshB AL ALL) := by rw [HN.out]; exact ⟨rfl, rfl, rfl, rfl, rfl, rfl, rfl⟩
      -- the rounds
      go_loopg [18] (n + 3) (fun g i wr => ∃ (r : Nat) (D O : Nat → Int) (F : Nat → Prop), r ≤ n + 2 ∧ g = n + 3 - r ∧ i = .int .i64 r ∧ FM w wr n nc D O ∧ BF N r D F ∧ (r = 0 ∨ ∃ v, F v))
      case atStart => exact ⟨0, _, _, _, by omega, rfl, rfl, HFM.out, HB.out, Or.inl rfl⟩
      case round =>
        clear HFM HB hz
        obtain ⟨r, D, O, F, hr, rfl, rfl, hfm, hbf, hor⟩ := hrel
        have hrn : r ≤ n + 1 := by
          rcases hor with h0 | ⟨v, hv⟩
          · omega
          · have := hbf.over hv; have := HNn.out.1; omega
        have hri : (r : Int) ≤ (n : Int) + 1 := by omega
        have HBF : Hid (BF N r D F) := hbf
        clear hbf hor
        go_wp2
        -- every offer infinite
        go_loopg [19] nc (fun g i wr => ∃ (k : Nat) (O : Nat → Int), k ≤ nc ∧ g = nc - k ∧ i = .int .i64 k ∧ FM w wr n nc D O ∧ ∀ c, c < k → O c = 1073741824)
        case atStart => exact ⟨0, O, Nat.zero_le _, rfl, rfl, hfm, fun c hc => absurd hc (Nat.not_lt_zero _)⟩
        case round =>
          clear hfm
          obtain ⟨k, O1, hk, rfl, rfl, hfm, hP⟩ := hrel
          have HP : Hid (∀ c, c < k → O1 c = 1073741824) := hP
          clear hP
          by_cases hlt : k < nc
          · have c1 := hfm.rO.cell hlt
            have c2 := hfm.rO.frozen k
            go_wp2
            go_roundg (nc - (k + 1))
            case measure => go_light; omega
            case rel =>
              go_light
              refine ⟨k + 1, _, by omega, rfl, by simp, hfm.setO k _, fun c hc => ?_⟩
              by_cases e : c = k
              · simp [e]
              · simp only [e, if_false]; exact HP.out c (by omega)
          · obtain rfl : nc = k := by omega
            have HO : Hid (Off N D O1 0 0) := Off.start D O1 (by rw [HNn.out.2.1]; exact HP.out)
            clear HP
            go_wp2
            -- the offers, row by row
            go_loopg [20] n (fun g i wr => ∃ (u : Nat) (O : Nat → Int), u ≤ n ∧ g = n - u ∧ i = .int .i64 u ∧ FM w wr n nc D O ∧ Off N D O u 0)
            case atStart => exact ⟨0, O1, Nat.zero_le _, rfl, rfl, hfm, HO.out⟩
            case round =>
              clear hfm HO
              obtain ⟨u, O2, hu, rfl, rfl, hfm, hoff⟩ := hrel
              have HO : Hid (Off N D O2 u 0) := hoff
              clear hoff
              by_cases hlu : u < n
              · have c1 := hfm.rD.cell hlu
                by_cases hinf : (1073741824 : Int) ≤ D u
                · go_wp2
                  go_roundg (n - (u + 1))
                  case measure => go_light; omega
                  case rel => go_light; exact ⟨u + 1, O2, by omega, rfl, by simp, hfm, HO.out.skip (by omega)⟩
                · have hdu : 0 ≤ D u ∧ D u ≤ r := by
                    rcases HBF.out.rng u (by rw [HNn.out.1]; exact hlu) with e | e
                    · omega
                    · exact e
                  obtain ⟨hd0, hd1⟩ := hdu
                  go_wp2
                  go_loopg [21] nc (fun g i wr => ∃ (c : Nat) (O : Nat → Int), c ≤ nc ∧ g = nc - c ∧ i = .int .i64 c ∧ FM w wr n nc D O ∧ Off N D O u c)
                  case atStart => exact ⟨0, O2, Nat.zero_le _, rfl, rfl, hfm, HO.out⟩
                  case round =>
                    clear hfm HO c1
                    obtain ⟨c, O3, hc, rfl, rfl, hfm, hoff⟩ := hrel
                    have HO : Hid (Off N D O3 u c) := hoff
                    clear hoff
                    by_cases hlc : c < nc
                    · have c1 := hfm.rD.cell hlu
                      have c2 := hfm.rO.cell hlc
                      have c3 := hfm.rO.frozen c
                      go_wp2_with fail
                      refine (partsOf_any _ _ _ _ _ KL AL KLL ALL u c _ hlu (by omega) (by omega) (hK.since hfm.since) (hA.since hfm.since) (hpk.out u hlu c hlc) (hpa.out u hlu c hlc)).mono ?_
                      rintro e w' ⟨rfl, hw⟩
                      subst hw
                      cases hh : hasB KL KLL AL ALL u c
                      · have Hh : Hid (N.has u c = false) := by show _ = _; rw [HNn.out.2.2.2.2.2.1]; exact hh
                        clear hh
                        go_wp2
                        go_roundg (nc - (c + 1))
                        case measure => go_light; omega
                        case rel => go_light; exact ⟨c + 1, O3, by omega, rfl, by simp, hfm, HO.out.no Hh.out⟩
                      · have Hh : Hid (N.has u c = true) := by show _ = _; rw [HNn.out.2.2.2.2.2.1]; exact hh
                        clear hh
                        cases hfr : freshB AL ALL u c
                        · have Hw : Hid (N.wt u c = 1) := by show _ = _; unfold Net.wt; rw [HNn.out.2.2.2.2.2.2, hfr]; rfl
                          clear hfr
                          by_cases hcost : D u + 1 < O3 c
                          · go_wp2
                            go_roundg (nc - (c + 1))
                            case measure => go_light; omega
                            case rel =>
                              go_light
                              have h1 := HO.out.lower (by rw [HNn.out.1]; exact hlu) (by omega) Hh.out (by rw [Hw.out]; exact hcost)
                              rw [Hw.out] at h1
                              exact ⟨c + 1, _, by omega, rfl, by simp, hfm.setO c _, h1⟩
                          · go_wp2
                            go_roundg (nc - (c + 1))
                            case measure => go_light; omega
                            case rel => go_light; exact ⟨c + 1, O3, by omega, rfl, by simp, hfm, HO.out.keep (by rw [Hw.out]; omega)⟩
                        · have Hw : Hid (N.wt u c = 0) := by show _ = _; unfold Net.wt; rw [HNn.out.2.2.2.2.2.2, hfr]; rfl
                          clear hfr
                          by_cases hcost : D u < O3 c
                          · go_wp2
                            go_roundg (nc - (c + 1))
                            case measure => go_light; omega
                            case rel =>
                              go_light
                              have h1 := HO.out.lower (by rw [HNn.out.1]; exact hlu) (by omega) Hh.out (by rw [Hw.out]; omega)
                              rw [Hw.out, Int.add_zero] at h1
                              exact ⟨c + 1, _, by omega, rfl, by simp, hfm.setO c _, h1⟩
                          · go_wp2
                            go_roundg (nc - (c + 1))
                            case measure => go_light; omega
                            case rel => go_light; exact ⟨c + 1, O3, by omega, rfl, by simp, hfm, HO.out.keep (by rw [Hw.out]; omega)⟩
                    · obtain rfl : nc = c := by omega
                      go_wp2
                      go_roundg (n - (u + 1))
                      case measure => go_light; omega
                      case rel =>
                        go_light
                        have h1 := HO.out
                        rw [← HNn.out.2.1] at h1
                        exact ⟨u + 1, O3, by omega, rfl, by simp, hfm, h1.row⟩
              · obtain rfl : n = u := by omega
                have HO' : Hid (Off N D O2 N.n 0) := by show _; rw [HNn.out.1]; exact HO.out
                clear HO
                go_wp2
                -- the new distances
                go_loopg [25, 26] nc (fun g ch i wr => ∃ (c : Nat) (b : Bool) (D' : Nat → Int), c ≤ nc ∧ g = nc - c ∧ i = .int .i64 c ∧ ch = .bool b ∧ FM w wr n nc D' O2 ∧ Upd N D O2 D' b c 0)
                case atStart => exact ⟨0, false, D, Nat.zero_le _, rfl, rfl, rfl, hfm, Upd.start _ _⟩
                case round =>
                  clear hfm
                  obtain ⟨c, b, D', hc, rfl, rfl, rfl, hfm, hupd⟩ := hrel
                  have HU : Hid (Upd N D O2 D' b c 0) := hupd
                  clear hupd
                  by_cases hlc : c < nc
                  · have c1 := hfm.rO.cell hlc
                    by_cases hinf : (1073741824 : Int) ≤ O2 c
                    · go_wp2
                      go_roundg (nc - (c + 1))
                      case measure => go_light; omega
                      case rel => go_light; exact ⟨c + 1, b, D', by omega, rfl, by simp, rfl, hfm, HU.out.skip (by omega)⟩
                    · have hELc := hEL.out c hlc
                      have hfm0 := hfm
                      clear hfm0
                      go_wp2
                      go_loopg [25, 27] (EL c) (fun g ch i wr => ∃ (k : Nat) (b : Bool) (D' : Nat → Int), k ≤ EL c ∧ g = EL c - k ∧ i = .int .i64 k ∧ ch = .bool b ∧ FM w wr n nc D' O2 ∧ Upd N D O2 D' b c k)
                      case atStart => exact ⟨0, b, D', Nat.zero_le _, rfl, rfl, rfl, hfm, HU.out⟩
                      case round =>
                        clear hfm HU c1
                        obtain ⟨k, b1, D1, hk, rfl, rfl, rfl, hfm, hupd⟩ := hrel
                        have HU : Hid (Upd N D O2 D1 b1 c k) := hupd
                        clear hupd
                        obtain ⟨EA, EC, hE1, hE2⟩ := hE.since hfm.since
                        have hE2 := hE2 c hlc
                        obtain ⟨b2, o2, e2, _, hc2⟩ := hE1.get (by omega)
                        cases e2
                        have c3 := hc2 c hlc
                        clear hc2 hE1
                        by_cases hlk : k < EL c
                        · obtain ⟨b3, o3, e3, _, hc3⟩ := hE2.get (by omega)
                          simp only [e3] at c3
                          have c4 := hc3 k hlk
                          obtain ⟨v, hv, hev⟩ := hEr.out c hlc k hlk
                          rw [hev] at c4
                          obtain ⟨b4, o4, e4, _, hc4⟩ := (hB.since hfm.since).get (by omega)
                          cases e4
                          have c5 := hc4 v hv
                          have c6 := hfm.rO.cell hlc
                          have c7 := hfm.rD.cell hv
                          have c8 := hfm.rD.frozen v
                          have HEv : Hid (N.E c k = (v : Int)) := by show _ = _; rw [HNn.out.2.2.2.1]; exact hev
                          have hvi : (v : Int) < (n : Int) := by omega
                          have hci : (c : Int) < (nc : Int) := by omega
                          clear hc3 hc4 hE2 e3 hev
                          cases ha : act v
                          · rw [ha] at c5
                            have Ha : Hid (N.act v = false) := by show _ = _; rw [HNn.out.2.2.2.2.1]; exact ha
                            clear ha
                            go_wp2_with fail
                            go_quiet (fail)
                            go_wp2
                            go_roundg (EL c - (k + 1))
                            case measure => go_light; omega
                            case rel =>
                              go_light
                              exact ⟨k + 1, b1, D1, by omega, rfl, by simp, rfl, hfm.drewN _, HU.out.keep HEv.out (fun h => by rw [Ha.out] at h; cases h)⟩
                          · rw [ha] at c5
                            have Ha : Hid (N.act v = true) := by show _ = _; rw [HNn.out.2.2.2.2.1]; exact ha
                            clear ha
                            by_cases hlt2 : O2 c < D1 v
                            · go_wp2_with fail
                              go_quiet (fail)
                              go_wp2
                              go_roundg (EL c - (k + 1))
                              case measure => go_light; omega
                              case rel =>
                                go_light
                                exact ⟨k + 1, true, _, by omega, rfl, by simp, rfl, (hfm.setD v _).drewN _, HU.out.set (by rw [HNn.out.2.1]; exact hlc) (by rw [HNn.out.2.2.1]; exact hlk) (by omega) (by rw [HNn.out.1]; exact hv) HEv.out Ha.out hlt2⟩
                            · go_wp2_with fail
                              go_quiet (fail)
                              go_wp2
                              go_roundg (EL c - (k + 1))
                              case measure => go_light; omega
                              case rel =>
                                go_light
                                exact ⟨k + 1, b1, D1, by omega, rfl, by simp, rfl, hfm.drewN _, HU.out.keep HEv.out (fun _ => by omega)⟩
                        · obtain rfl : EL c = k := by omega
                          clear hE2
                          go_wp2
                          go_roundg (nc - (c + 1))
                          case measure => go_light; omega
                          case rel =>
                            go_light
                            have h1 := HU.out
                            rw [← HNn.out.2.2.1] at h1
                            exact ⟨c + 1, b1, D1, by omega, rfl, by simp, rfl, hfm, h1.row⟩
                  · obtain rfl : nc = c := by omega
                    have hnx := HBF.out.next HO'.out (by rw [HNn.out.2.1]; exact HU.out) (by omega)
                    have HX : Hid (BF N (r + 1) D' (fun v => v < N.n ∧ D' v < D v)) := hnx
                    clear hnx
                    cases b
                    · have HU3 : Hid (∀ v, v < N.n → D' v = D v) := HU.out.u3 rfl
                      have HR := HX.out.stop (fun v hv => by have := HU3.out v hv.1; omega) (by omega)
                      have HR : Hid _ := HR
                      clear HX HU3 HBF HO' HU
                      obtain ⟨wo, hwo⟩ : ∃ wo, wo = wr := ⟨_, rfl⟩
                      subst hwo
                      have hmk1 := run_make_row' (P := Trym.prog) 24 3 (.int .i64 0) 8 Trym.underlying24 Trym.info3 rfl .i64 .i64 n (by omega) (by omega)
                      go_wp2
                      clear hmk1
                      go_loopg [30] n (fun g i wr => ∃ k : Nat, k ≤ n ∧ g = n - k ∧ i = .int .i64 k ∧ Fill wo wr 3 n k (fun i => .int .i64 (outOf D' i)) (.int .i64 0))
                      case atStart => exact ⟨0, Nat.zero_le _, rfl, rfl, Fill.start _ _ _ _ _⟩
                      case round =>
                        obtain ⟨k, hk, rfl, rfl, hF⟩ := hrel
                        by_cases hlt : k < n
                        · have c1 := (hfm.rD.of_block (hF.since.block _ hfm.rD.lt)).cell hlt
                          have c2 := hF.row.cell hlt
                          have c3 := hF.row.frozen k
                          have HS : Hid _ := hF.step
                          by_cases hinf : (1073741824 : Int) ≤ D' k
                          · have HO1 : Hid (outOf D' k = -1) := by show _ = _; unfold outOf; rw [if_pos hinf]
                            go_wp2
                            go_roundg (n - (k + 1))
                            case measure => go_light; omega
                            case rel =>
                              go_light
                              have h1 := HS.out
                              simp only [HO1.out] at h1
                              exact ⟨k + 1, by omega, rfl, by simp, h1⟩
                          · have HO1 : Hid (outOf D' k = D' k) := by show _ = _; unfold outOf; rw [if_neg hinf]
                            go_wp2
                            go_roundg (n - (k + 1))
                            case measure => go_light; omega
                            case rel =>
                              go_light
                              have h1 := HS.out
                              simp only [HO1.out] at h1
                              exact ⟨k + 1, by omega, rfl, by simp, h1⟩
                        · obtain rfl : n = k := by omega
                          go_wp2
                          go_ret
                          exact ⟨_, _, outOf D', rfl, hF.full.lower (by have := hfm.size; omega), since_trans hfm.since hF.since, HR.out.1, HR.out.2.1, HR.out.2.2⟩
                    · have HU4 : Hid (∃ v, v < N.n ∧ D' v < D v) := HU.out.u4 rfl
                      go_wp2
                      go_roundg (n + 3 - (r + 1))
                      case measure => go_light; omega
                      case rel =>
                        go_light
                        exact ⟨r + 1, D', O2, _, by omega, rfl, by simp, hfm, HX.out, Or.inr HU4.out⟩
end Go.Proofs.Qxb6003132aMods
