/- zzBytes: what its 'true' says: every length is at most 2^20. -/
import Derived.Test.Qxb6003132aModsParts
namespace Go.Proofs.Qxb6003132aMods
open Go.RowKit
set_option linter.unusedVariables false

/-- every length is at most 2^20 -/
def Small (nc : Nat) (EL : Nat → Nat) (nk : Nat) (KL : Nat → Nat) (KLL : Nat → Nat → Nat) (na : Nat) (AL : Nat → Nat) (ALL : Nat → Nat → Nat) (nl nb : Nat) : Prop :=
  nc ≤ 1048576 ∧ (∀ i, i < nc → EL i ≤ 1048576) ∧ nk ≤ 1048576 ∧ (∀ i, i < nk → KL i ≤ 1048576 ∧ ∀ j, j < KL i → KLL i j ≤ 1048576) ∧
  na ≤ 1048576 ∧ (∀ i, i < na → AL i ≤ 1048576 ∧ ∀ j, j < AL i → ALL i j ≤ 1048576) ∧ nl ≤ 1048576 ∧ nb ≤ 1048576

/-- a bool; where it is true, p holds; the world as it was -/
def BRes (p : Prop) (w : World) (e : Ending) (w' : World) : Prop := w' = w ∧ ∃ b, e = .returned (.bool b) ∧ (b = true → p)

set_option maxHeartbeats 4000000 in
set_option maxRecDepth 100000 in
theorem bytes_any (ea ka aa la ba : Option Addr) (nc nk na nl nb ec kc ac lc bc : Nat) (EL KL AL : Nat → Nat) (KLL ALL : Nat → Nat → Nat) (E : Nat → Nat → Int) (most : Int) (w : World)
    (hE : Mat w ea nc EL E) (hK : Cube w ka nk KL KLL) (hA : Cube w aa na AL ALL) :
    Calls Trym.prog 10 #[.slice ea nc ec, .slice ka nk kc, .slice aa na ac, .slice la nl lc, .slice ba nb bc, .int .i64 most] w fun e w' => BRes (Small nc EL nk KL KLL na AL ALL nl nb) w e w' := by
  obtain ⟨EA, EC, e1, _⟩ := hE
  obtain ⟨KA, KC, KAA, KCC, k1, k2⟩ := hK
  obtain ⟨AA, AC, AAA, ACC, a1, a2⟩ := hA
  replace e1 : Hid (Sl w 0 ea nc (fun i => .slice (EA i) (EL i) (EC i))) := e1
  replace k1 : Hid (Sl w 0 ka nk (fun i => .slice (KA i) (KL i) (KC i))) := k1
  replace k2 : Hid (∀ i, i < nk → Sl w 0 (KA i) (KL i) (fun j => .slice (KAA i j) (KLL i j) (KCC i j))) := k2
  replace a1 : Hid (Sl w 0 aa na (fun i => .slice (AA i) (AL i) (AC i))) := a1
  replace a2 : Hid (∀ i, i < na → Sl w 0 (AA i) (AL i) (fun j => .slice (AAA i j) (ALL i j) (ACC i j))) := a2
  by_cases hnc : nc ≤ 1048576
  · go_enter Trym.func10, Trym.ntmps10
    go_wp2
    go_loopg [13, 14] nc (fun g z i wr => ∃ (k : Nat) (zz : Int), k ≤ nc ∧ g = nc - k ∧ i = .int .i64 k ∧ z = .int .i64 zz ∧ 0 ≤ zz ∧ zz ≤ 1048576 ∧ w = wr ∧ ∀ i, i < k → EL i ≤ 1048576)
    case atStart => exact ⟨0, _, Nat.zero_le _, rfl, rfl, rfl, by omega, by omega, rfl, fun i hi => absurd hi (Nat.not_lt_zero _)⟩
    case round =>
      obtain ⟨k, zz, hk, rfl, rfl, rfl, hz0, hz1, rfl, hP⟩ := hrel
      by_cases hlt : k < nc
      · obtain ⟨b, o, e, _, hc⟩ := e1.out.get (by omega)
        cases e
        have c1 := hc k hlt
        have HP : Hid _ := hP
        clear hc hP
        by_cases hl : EL k ≤ 1048576
        · by_cases hz2 : zz + EL k ≤ 1048576
          · go_wp2
            go_roundg (nc - (k + 1))
            case measure => go_light; omega
            case rel =>
              go_light
              refine ⟨k + 1, _, by omega, rfl, by simp, rfl, by omega, by omega, rfl, fun i hi => ?_⟩
              by_cases e : i = k
              · subst e; exact hl
              · exact HP.out i (by omega)
          · go_wp2
            go_ret
            exact ⟨rfl, false, rfl, fun h => by cases h⟩
        · go_wp2
          go_ret
          exact ⟨rfl, false, rfl, fun h => by cases h⟩
      · obtain rfl : nc = k := by omega
        have HE : Hid (∀ i, i < nc → EL i ≤ 1048576) := hP
        clear hP
        by_cases hnk : nk ≤ 1048576
        · by_cases hz2 : zz + nk ≤ 1048576
          · go_wp2
            go_loopg [13, 15] nk (fun g z i wr => ∃ (k : Nat) (zz : Int), k ≤ nk ∧ g = nk - k ∧ i = .int .i64 k ∧ z = .int .i64 zz ∧ 0 ≤ zz ∧ zz ≤ 1048576 ∧ w = wr ∧ ∀ i, i < k → KL i ≤ 1048576 ∧ ∀ j, j < KL i → KLL i j ≤ 1048576)
            case atStart => exact ⟨0, _, Nat.zero_le _, rfl, rfl, rfl, by omega, by omega, rfl, fun i hi => absurd hi (Nat.not_lt_zero _)⟩
            case round =>
              obtain ⟨k, zz, hk, rfl, rfl, rfl, hz0, hz1, rfl, hP⟩ := hrel
              by_cases hlt : k < nk
              · obtain ⟨b, o, e, _, hc⟩ := k1.out.get (by omega)
                cases e
                have c1 := hc k hlt
                have hm := k2.out k hlt
                have HP : Hid _ := hP
                clear hc hP
                by_cases hl : KL k ≤ 1048576
                · by_cases hz2 : zz + KL k ≤ 1048576
                  · go_wp2
                    go_loopg [13, 16] (KL k) (fun g z i wr => ∃ (c : Nat) (zz : Int), c ≤ KL k ∧ g = KL k - c ∧ i = .int .i64 c ∧ z = .int .i64 zz ∧ 0 ≤ zz ∧ zz ≤ 1048576 ∧ w = wr ∧ ∀ j, j < c → KLL k j ≤ 1048576)
                    case atStart => exact ⟨0, _, Nat.zero_le _, rfl, rfl, rfl, by omega, by omega, rfl, fun i hi => absurd hi (Nat.not_lt_zero _)⟩
                    case round =>
                      clear hz0 hz1 hz2
                      obtain ⟨c, zz, hcL, rfl, rfl, rfl, hz0, hz1, rfl, hQ⟩ := hrel
                      have HQ : Hid _ := hQ
                      clear hQ
                      by_cases hlc : c < KL k
                      · obtain ⟨b1, o1, e1, _, hc1⟩ := hm.get (by omega)
                        rw [e1] at c1
                        have c2 := hc1 c hlc
                        clear hc1 hm
                        by_cases hl2 : KLL k c ≤ 1048576
                        · by_cases hz2 : zz + KLL k c ≤ 1048576
                          · go_wp2
                            go_roundg (KL k - (c + 1))
                            case measure => go_light; omega
                            case rel =>
                              go_light
                              refine ⟨c + 1, _, by omega, rfl, by simp, rfl, by omega, by omega, rfl, fun j hj => ?_⟩
                              by_cases e : j = c
                              · subst e; exact hl2
                              · exact HQ.out j (by omega)
                          · go_wp2
                            go_ret
                            exact ⟨rfl, false, rfl, fun h => by cases h⟩
                        · go_wp2
                          go_ret
                          exact ⟨rfl, false, rfl, fun h => by cases h⟩
                      · obtain rfl : KL k = c := by omega
                        clear hm
                        go_wp2
                        go_roundg (nk - (k + 1))
                        case measure => go_light; omega
                        case rel =>
                          go_light
                          refine ⟨k + 1, _, by omega, rfl, by simp, rfl, by omega, by omega, rfl, fun i hi => ?_⟩
                          by_cases e : i = k
                          · subst e; exact ⟨hl, HQ.out⟩
                          · exact HP.out i (by omega)
                  · go_wp2
                    go_ret
                    exact ⟨rfl, false, rfl, fun h => by cases h⟩
                · go_wp2
                  go_ret
                  exact ⟨rfl, false, rfl, fun h => by cases h⟩
              · obtain rfl : nk = k := by omega
                have HK : Hid (∀ i, i < nk → KL i ≤ 1048576 ∧ ∀ j, j < KL i → KLL i j ≤ 1048576) := hP
                clear hP
                by_cases hna : na ≤ 1048576
                · by_cases hz2 : zz + na ≤ 1048576
                  · go_wp2
                    go_loopg [13, 17] na (fun g z i wr => ∃ (k : Nat) (zz : Int), k ≤ na ∧ g = na - k ∧ i = .int .i64 k ∧ z = .int .i64 zz ∧ 0 ≤ zz ∧ zz ≤ 1048576 ∧ w = wr ∧ ∀ i, i < k → AL i ≤ 1048576 ∧ ∀ j, j < AL i → ALL i j ≤ 1048576)
                    case atStart => exact ⟨0, _, Nat.zero_le _, rfl, rfl, rfl, by omega, by omega, rfl, fun i hi => absurd hi (Nat.not_lt_zero _)⟩
                    case round =>
                      obtain ⟨k, zz, hk, rfl, rfl, rfl, hz0, hz1, rfl, hP⟩ := hrel
                      by_cases hlt : k < na
                      · obtain ⟨b, o, e, _, hc⟩ := a1.out.get (by omega)
                        cases e
                        have c1 := hc k hlt
                        have hm := a2.out k hlt
                        have HP : Hid _ := hP
                        clear hc hP
                        by_cases hl : AL k ≤ 1048576
                        · by_cases hz2 : zz + AL k ≤ 1048576
                          · go_wp2
                            go_loopg [13, 18] (AL k) (fun g z i wr => ∃ (c : Nat) (zz : Int), c ≤ AL k ∧ g = AL k - c ∧ i = .int .i64 c ∧ z = .int .i64 zz ∧ 0 ≤ zz ∧ zz ≤ 1048576 ∧ w = wr ∧ ∀ j, j < c → ALL k j ≤ 1048576)
                            case atStart => exact ⟨0, _, Nat.zero_le _, rfl, rfl, rfl, by omega, by omega, rfl, fun i hi => absurd hi (Nat.not_lt_zero _)⟩
                            case round =>
                              clear hz0 hz1 hz2
                              obtain ⟨c, zz, hcL, rfl, rfl, rfl, hz0, hz1, rfl, hQ⟩ := hrel
                              have HQ : Hid _ := hQ
                              clear hQ
                              by_cases hlc : c < AL k
                              · obtain ⟨b1, o1, e1, _, hc1⟩ := hm.get (by omega)
                                rw [e1] at c1
                                have c2 := hc1 c hlc
                                clear hc1 hm
                                by_cases hl2 : ALL k c ≤ 1048576
                                · by_cases hz2 : zz + ALL k c ≤ 1048576
                                  · go_wp2
                                    go_roundg (AL k - (c + 1))
                                    case measure => go_light; omega
                                    case rel =>
                                      go_light
                                      refine ⟨c + 1, _, by omega, rfl, by simp, rfl, by omega, by omega, rfl, fun j hj => ?_⟩
                                      by_cases e : j = c
                                      · subst e; exact hl2
                                      · exact HQ.out j (by omega)
                                  · go_wp2
                                    go_ret
                                    exact ⟨rfl, false, rfl, fun h => by cases h⟩
                                · go_wp2
                                  go_ret
                                  exact ⟨rfl, false, rfl, fun h => by cases h⟩
                              · obtain rfl : AL k = c := by omega
                                clear hm
                                go_wp2
                                go_roundg (na - (k + 1))
                                case measure => go_light; omega
                                case rel =>
                                  go_light
                                  refine ⟨k + 1, _, by omega, rfl, by simp, rfl, by omega, by omega, rfl, fun i hi => ?_⟩
                                  by_cases e : i = k
                                  · subst e; exact ⟨hl, HQ.out⟩
                                  · exact HP.out i (by omega)
                          · go_wp2
                            go_ret
                            exact ⟨rfl, false, rfl, fun h => by cases h⟩
                        · go_wp2
                          go_ret
                          exact ⟨rfl, false, rfl, fun h => by cases h⟩
                      · obtain rfl : na = k := by omega
                        have HA : Hid (∀ i, i < na → AL i ≤ 1048576 ∧ ∀ j, j < AL i → ALL i j ≤ 1048576) := hP
                        clear hP
                        by_cases q1 : nl ≤ 1048576
                        · by_cases q2 : zz + nl ≤ 1048576
                          · by_cases q3 : nb ≤ 1048576
                            · by_cases q4 : zz + nl + nb ≤ 1048576
                              · go_wp2
                                go_ret
                                exact ⟨rfl, true, rfl, fun _ => ⟨hnc, HE.out, hnk, HK.out, hna, HA.out, q1, q3⟩⟩
                              · go_wp2
                                go_ret
                                exact ⟨rfl, false, rfl, fun h => by cases h⟩
                            · go_wp2
                              go_ret
                              exact ⟨rfl, false, rfl, fun h => by cases h⟩
                          · go_wp2
                            go_ret
                            exact ⟨rfl, false, rfl, fun h => by cases h⟩
                        · go_wp2
                          go_ret
                          exact ⟨rfl, false, rfl, fun h => by cases h⟩
                  · go_wp2
                    go_ret
                    exact ⟨rfl, false, rfl, fun h => by cases h⟩
                · go_wp2
                  go_ret
                  exact ⟨rfl, false, rfl, fun h => by cases h⟩
          · go_wp2
            go_ret
            exact ⟨rfl, false, rfl, fun h => by cases h⟩
        · go_wp2
          go_ret
          exact ⟨rfl, false, rfl, fun h => by cases h⟩
  · go_enter Trym.func10, Trym.ntmps10
    go_wp2
    go_ret
    exact ⟨rfl, false, rfl, fun h => by cases h⟩

end Go.Proofs.Qxb6003132aMods
