/- The law: FnChainsAreFewestMovePaths returns true. -/
import Derived.Test.Qxb6003132aModsBytes
import Derived.Test.Qxb6003132aModsClone
import Derived.Test.Qxb6003132aModsFew
import Derived.Test.Qxb6003132aModsZz
namespace Go.Proofs.Qxb6003132aMods
open Go.RowKit
set_option linter.unusedVariables false

/-- true, and of what was there nothing has turned -/
def LRes (w : World) (e : Ending) (w' : World) : Prop := e = .returned (.bool true) ∧ w.Since w.heap.size w'

theorem COK.bd {N : Net} {M VF VC : Nat → Int} {T : Nat → Nat} (h : COK N M VF VC T) : ∀ v, v < N.n → 0 ≤ M v → M v ≤ (T v : Int) ∧ T v < N.n := by
  have key : ∀ t v, v < N.n → T v ≤ t → 0 ≤ M v → M v ≤ (T v : Int) := by
    intro t
    induction t with
    | zero =>
      intro v hv ht h0
      cases e : N.start v with
      | true => have := h.complete.1 v hv e; omega
      | false =>
        obtain ⟨u, c, _, _, _, _, _, h6⟩ := h.ln v hv h0 e
        omega
    | succ t ih =>
      intro v hv ht h0
      cases e : N.start v with
      | true => have := h.complete.1 v hv e; omega
      | false =>
        obtain ⟨u, c, h1, _, _, h4, h5, h6⟩ := h.ln v hv h0 e
        have := ih u h1.1 (by omega) h4
        have := N.wt_bd u c
        omega
  exact fun v hv h0 => ⟨key (T v) v hv (Nat.le_refl _) h0, h.tl v hv h0⟩

set_option maxHeartbeats 40000000 in
set_option maxRecDepth 100000 in
theorem law_any (ea ka aa la ba : Option Addr) (nc nk na nl nb ec kc ac lc bc : Nat) (EA KA AA : Nat → Option Addr) (EC KC AC : Nat → Nat) (EL KL AL : Nat → Nat) (KAA AAA : Nat → Nat → Option Addr) (KLL KCC ALL ACC : Nat → Nat → Nat) (E : Nat → Nat → Int) (KF AF : Nat → Nat → Nat → Int) (act : Nat → Bool) (ld : Nat → Int) (most : Int) (w : World)
    (e1 : Sl w 0 ea nc (fun i => .slice (EA i) (EL i) (EC i))) (e2 : ∀ i, i < nc → Sl w 0 (EA i) (EL i) (fun k => .int .i64 (E i k)))
    (k1 : Sl w 0 ka nk (fun i => .slice (KA i) (KL i) (KC i))) (k2 : ∀ i, i < nk → Sl w 0 (KA i) (KL i) (fun j => .slice (KAA i j) (KLL i j) (KCC i j))) (k3 : ∀ i, i < nk → ∀ j, j < KL i → Sl w 0 (KAA i j) (KLL i j) (fun t => .int .i32 (KF i j t)))
    (a1 : Sl w 0 aa na (fun i => .slice (AA i) (AL i) (AC i))) (a2 : ∀ i, i < na → Sl w 0 (AA i) (AL i) (fun j => .slice (AAA i j) (ALL i j) (ACC i j))) (a3 : ∀ i, i < na → ∀ j, j < AL i → Sl w 0 (AAA i j) (ALL i j) (fun t => .int .i32 (AF i j t)))
    (hL : Sl w 0 la nl (fun i => .int .i64 (ld i))) (hB : Sl w 0 ba nb (fun i => .bool (act i))) :
    Calls Trym.prog 4 #[.slice ea nc ec, .slice ka nk kc, .slice aa na ac, .slice la nl lc, .slice ba nb bc, .int .i64 most] w fun e w' => LRes w e w' := by
  have hb := bytes_any ea ka aa la ba nc nk na nl nb ec kc ac lc bc EL KL AL KLL ALL E most w ⟨EA, EC, e1, e2⟩ ⟨KA, KC, KAA, KCC, k1, k2⟩ ⟨AA, AC, AAA, ACC, a1, a2⟩
  replace e1 : Hid (Sl w 0 ea nc (fun i => .slice (EA i) (EL i) (EC i))) := e1
  replace e2 : Hid (∀ i, i < nc → Sl w 0 (EA i) (EL i) (fun k => .int .i64 (E i k))) := e2
  replace k1 : Hid (Sl w 0 ka nk (fun i => .slice (KA i) (KL i) (KC i))) := k1
  replace k2 : Hid (∀ i, i < nk → Sl w 0 (KA i) (KL i) (fun j => .slice (KAA i j) (KLL i j) (KCC i j))) := k2
  replace k3 : Hid (∀ i, i < nk → ∀ j, j < KL i → Sl w 0 (KAA i j) (KLL i j) (fun t => .int .i32 (KF i j t))) := k3
  replace a1 : Hid (Sl w 0 aa na (fun i => .slice (AA i) (AL i) (AC i))) := a1
  replace a2 : Hid (∀ i, i < na → Sl w 0 (AA i) (AL i) (fun j => .slice (AAA i j) (ALL i j) (ACC i j))) := a2
  replace a3 : Hid (∀ i, i < na → ∀ j, j < AL i → Sl w 0 (AAA i j) (ALL i j) (fun t => .int .i32 (AF i j t))) := a3
  replace hb : Hid _ := hb
  go_enter Trym.func4, Trym.ntmps4
  go_wp2_with fail
  refine Calls.mono hb.out ?_
  clear hb
  rintro e w' ⟨hw, b, rfl, hS⟩
  replace hw := hw.symm
  subst hw
  cases b
  · clear hS
    go_wp2
    go_ret
    exact ⟨rfl, World.Since.refl _ _⟩
  · obtain ⟨s1, HE, s3, HK, s5, HA, s7, s8⟩ := hS rfl
    clear hS
    replace HE : Hid (∀ i, i < nc → EL i ≤ 1048576) := HE
    replace HK : Hid (∀ i, i < nk → KL i ≤ 1048576 ∧ ∀ j, j < KL i → KLL i j ≤ 1048576) := HK
    replace HA : Hid (∀ i, i < na → AL i ≤ 1048576 ∧ ∀ j, j < AL i → ALL i j ≤ 1048576) := HA
    by_cases hsz : (nl : Int) * 8 + (nb : Int) + (nk : Int) * 24 + (na : Int) * 24 + (nc : Int) * 24 ≤ 1048576
    · go_wp2
      go_loopg [13, 14] nc (fun g z i wr => ∃ (k : Nat) (zz : Int), k ≤ nc ∧ g = nc - k ∧ i = .int .i64 k ∧ z = .int .i64 zz ∧ 0 ≤ zz ∧ zz ≤ 1048576 ∧ w = wr)
      case atStart => exact ⟨0, _, Nat.zero_le _, rfl, rfl, rfl, by omega, by omega, rfl⟩
      case round =>
        obtain ⟨k, zz, hk, rfl, rfl, rfl, hz0, hz1, rfl⟩ := hrel
        by_cases hlt : k < nc
        · as_aux_lemma =>
          obtain ⟨b, o, e, _, hc⟩ := e1.out.get (by omega)
          cases e
          have c1 := hc k hlt
          have hl := HE.out k hlt
          clear hc
          by_cases hz2 : zz + (EL k : Int) * 8 ≤ 1048576
          · go_wp2
            go_roundg (nc - (k + 1))
            case measure => go_light; omega
            case rel => go_light; exact ⟨k + 1, _, by omega, rfl, by simp, rfl, by omega, by omega, rfl⟩
          · go_wp2
            go_ret
            exact ⟨rfl, World.Since.refl _ _⟩
        · obtain rfl : nc = k := by omega
          as_aux_lemma =>
          go_wp2
          go_loopg [13, 15] nk (fun g z i wr => ∃ (k : Nat) (zz : Int), k ≤ nk ∧ g = nk - k ∧ i = .int .i64 k ∧ z = .int .i64 zz ∧ 0 ≤ zz ∧ zz ≤ 1048576 ∧ w = wr)
          case atStart => exact ⟨0, _, Nat.zero_le _, rfl, rfl, rfl, by omega, by omega, rfl⟩
          case round =>
            clear hz0 hz1
            obtain ⟨k, zz, hk, rfl, rfl, rfl, hz0, hz1, rfl⟩ := hrel
            by_cases hlt : k < nk
            · as_aux_lemma =>
              obtain ⟨b, o, e, _, hc⟩ := k1.out.get (by omega)
              cases e
              have c1 := hc k hlt
              have hm := k2.out k hlt
              have hl := (HK.out k hlt).1
              have hl2 := (HK.out k hlt).2
              replace hl2 : Hid _ := hl2
              have hli : ¬ (1048576 : Int) < (KL k : Int) := by omega
              clear hc
              by_cases hz2 : zz + (KL k : Int) * 24 ≤ 1048576
              · go_wp2
                go_loopg [13, 16] (KL k) (fun g z i wr => ∃ (c : Nat) (zz : Int), c ≤ KL k ∧ g = KL k - c ∧ i = .int .i64 c ∧ z = .int .i64 zz ∧ 0 ≤ zz ∧ zz ≤ 1048576 ∧ w = wr)
                case atStart => exact ⟨0, _, Nat.zero_le _, rfl, rfl, rfl, by omega, by omega, rfl⟩
                case round =>
                  clear hz0 hz1 hz2
                  obtain ⟨c, zz, hcL, rfl, rfl, rfl, hz0, hz1, rfl⟩ := hrel
                  by_cases hlc : c < KL k
                  · obtain ⟨b1, o1, e1, _, hc1⟩ := hm.get (by omega)
                    simp only [e1] at c1
                    have c2 := hc1 c hlc
                    have hl3 := hl2.out c hlc
                    clear hc1 hm e1
                    by_cases hz2 : zz + (KLL k c : Int) * 4 ≤ 1048576
                    · go_wp2
                      go_roundg (KL k - (c + 1))
                      case measure => go_light; omega
                      case rel => go_light; exact ⟨c + 1, _, by omega, rfl, by simp, rfl, by omega, by omega, rfl⟩
                    · go_wp2
                      go_ret
                      exact ⟨rfl, World.Since.refl _ _⟩
                  · obtain rfl : KL k = c := by omega
                    clear hm
                    go_wp2
                    go_roundg (nk - (k + 1))
                    case measure => go_light; omega
                    case rel => go_light; exact ⟨k + 1, _, by omega, rfl, by simp, rfl, by omega, by omega, rfl⟩
              · go_wp2
                go_ret
                exact ⟨rfl, World.Since.refl _ _⟩
            · obtain rfl : nk = k := by omega
              go_wp2
              go_loopg [13, 17] na (fun g z i wr => ∃ (k : Nat) (zz : Int), k ≤ na ∧ g = na - k ∧ i = .int .i64 k ∧ z = .int .i64 zz ∧ 0 ≤ zz ∧ zz ≤ 1048576 ∧ w = wr)
              case atStart => exact ⟨0, _, Nat.zero_le _, rfl, rfl, rfl, by omega, by omega, rfl⟩
              case round =>
                clear hz0 hz1
                obtain ⟨k, zz, hk, rfl, rfl, rfl, hz0, hz1, rfl⟩ := hrel
                by_cases hlt : k < na
                · as_aux_lemma =>
                  obtain ⟨b, o, e, _, hc⟩ := a1.out.get (by omega)
                  cases e
                  have c1 := hc k hlt
                  have hm := a2.out k hlt
                  have hl := (HA.out k hlt).1
                  have hl2 := (HA.out k hlt).2
                  replace hl2 : Hid _ := hl2
                  have hli : ¬ (1048576 : Int) < (AL k : Int) := by omega
                  clear hc
                  by_cases hz2 : zz + (AL k : Int) * 24 ≤ 1048576
                  · go_wp2
                    go_loopg [13, 18] (AL k) (fun g z i wr => ∃ (c : Nat) (zz : Int), c ≤ AL k ∧ g = AL k - c ∧ i = .int .i64 c ∧ z = .int .i64 zz ∧ 0 ≤ zz ∧ zz ≤ 1048576 ∧ w = wr)
                    case atStart => exact ⟨0, _, Nat.zero_le _, rfl, rfl, rfl, by omega, by omega, rfl⟩
                    case round =>
                      clear hz0 hz1 hz2
                      obtain ⟨c, zz, hcL, rfl, rfl, rfl, hz0, hz1, rfl⟩ := hrel
                      by_cases hlc : c < AL k
                      · obtain ⟨b1, o1, e1, _, hc1⟩ := hm.get (by omega)
                        simp only [e1] at c1
                        have c2 := hc1 c hlc
                        have hl3 := hl2.out c hlc
                        clear hc1 hm e1
                        by_cases hz2 : zz + (ALL k c : Int) * 4 ≤ 1048576
                        · go_wp2
                          go_roundg (AL k - (c + 1))
                          case measure => go_light; omega
                          case rel => go_light; exact ⟨c + 1, _, by omega, rfl, by simp, rfl, by omega, by omega, rfl⟩
                        · go_wp2
                          go_ret
                          exact ⟨rfl, World.Since.refl _ _⟩
                      · obtain rfl : AL k = c := by omega
                        clear hm
                        go_wp2
                        go_roundg (na - (k + 1))
                        case measure => go_light; omega
                        case rel => go_light; exact ⟨k + 1, _, by omega, rfl, by simp, rfl, by omega, by omega, rfl⟩
                  · go_wp2
                    go_ret
                    exact ⟨rfl, World.Since.refl _ _⟩
                · obtain rfl : na = k := by omega
                  as_aux_lemma =>
                  clear hz0 hz1
                  by_cases t1 : nc ≤ 256
                  · by_cases t2 : nl ≤ 256
                    · by_cases t3 : nb = nl
                      · by_cases t4 : nk = nl
                        · by_cases t5 : na = nl
                          · subst t3
                            subst t4
                            subst t5
                            go_wp2
                            obtain ⟨n, hn⟩ : ∃ n, n = na := ⟨_, rfl⟩
                            subst hn
                            -- every eligible member lies below n
                            go_loopg [20] nc (fun g i wr => ∃ k : Nat, k ≤ nc ∧ g = nc - k ∧ i = .int .i64 k ∧ w = wr ∧ ∀ c, c < k → ∀ j, j < EL c → ∃ v : Nat, v < n ∧ E c j = (v : Int))
                            case atStart => exact ⟨0, Nat.zero_le _, rfl, rfl, rfl, fun c hc => absurd hc (Nat.not_lt_zero _)⟩
                            case round =>
                              obtain ⟨k, hk, rfl, rfl, rfl, hP⟩ := hrel
                              have HP : Hid (∀ c, c < k → ∀ j, j < EL c → ∃ v : Nat, v < n ∧ E c j = (v : Int)) := hP
                              clear hP
                              by_cases hlt : k < nc
                              · as_aux_lemma =>
                                obtain ⟨b, o, e, _, hc⟩ := e1.out.get (by omega)
                                cases e
                                have c1 := hc k hlt
                                have hr := e2.out k hlt
                                have hl := HE.out k hlt
                                clear hc
                                go_wp2
                                go_loopg [21] (EL k) (fun g i wr => ∃ c : Nat, c ≤ EL k ∧ g = EL k - c ∧ i = .int .i64 c ∧ w = wr ∧ ∀ j, j < c → ∃ v : Nat, v < n ∧ E k j = (v : Int))
                                case atStart => exact ⟨0, Nat.zero_le _, rfl, rfl, rfl, fun c hc => absurd hc (Nat.not_lt_zero _)⟩
                                case round =>
                                  obtain ⟨c, hcL, rfl, rfl, rfl, hQ⟩ := hrel
                                  have HQ : Hid (∀ j, j < c → ∃ v : Nat, v < n ∧ E k j = (v : Int)) := hQ
                                  clear hQ
                                  by_cases hlc : c < EL k
                                  · obtain ⟨b1, o1, e3, _, hc1⟩ := hr.get (by omega)
                                    simp only [e3] at c1
                                    have c2 := hc1 c hlc
                                    clear hc1 hr e3
                                    by_cases q1 : 0 ≤ E k c
                                    · by_cases q2 : E k c < (n : Int)
                                      · go_wp2
                                        go_roundg (EL k - (c + 1))
                                        case measure => go_light; omega
                                        case rel =>
                                          go_light
                                          refine ⟨c + 1, by omega, rfl, by simp, rfl, fun j hj => ?_⟩
                                          by_cases e : j = c
                                          · subst e; exact ⟨(E k j).toNat, by omega, by omega⟩
                                          · exact HQ.out j (by omega)
                                      · go_wp2
                                        go_ret
                                        exact ⟨rfl, World.Since.refl _ _⟩
                                    · go_wp2
                                      go_ret
                                      exact ⟨rfl, World.Since.refl _ _⟩
                                  · obtain rfl : EL k = c := by omega
                                    clear hr
                                    go_wp2
                                    go_roundg (nc - (k + 1))
                                    case measure => go_light; omega
                                    case rel =>
                                      go_light
                                      refine ⟨k + 1, by omega, rfl, by simp, rfl, fun c hc => ?_⟩
                                      by_cases e : c = k
                                      · subst e; exact HQ.out
                                      · exact HP.out c (by omega)
                              · obtain rfl : nc = k := by omega
                                as_aux_lemma =>
                                go_wp2_with fail
                                refine (cloneInts2_any ea nc ec 0 EA EL EC E w s1 HE.out e1.out e2.out).mono ?_
                                rintro e w1 ⟨ea1, ec1, EA1, EC1, rfl, f1, f2, hs1⟩
                                go_wp2_with fail
                                refine (clone32x3_any ka n kc 0 KA KL KC KAA KLL KCC KF w1 (by omega) (fun i hi => (HK.out i hi).1) (fun i hi => (HK.out i hi).2) (k1.out.since hs1) (fun i hi => (k2.out i hi).since hs1) (fun i hi j hj => (k3.out i hi j hj).since hs1)).mono ?_
                                rintro e w2 ⟨ka1, kc1, KA1, KC1, KAA1, KCC1, rfl, g1, g2, hs2⟩
                                have hs12 := since_trans hs1 hs2
                                go_wp2_with fail
                                refine (clone32x3_any aa n ac 0 AA AL AC AAA ALL ACC AF w2 (by omega) (fun i hi => (HA.out i hi).1) (fun i hi => (HA.out i hi).2) (a1.out.since hs12) (fun i hi => (a2.out i hi).since hs12) (fun i hi j hj => (a3.out i hi j hj).since hs12)).mono ?_
                                rintro e w3 ⟨aa1, ac1, AA1, AC1, AAA1, ACC1, rfl, h1, h2, hs3⟩
                                have hs13 := since_trans hs12 hs3
                                go_wp2_with fail
                                refine (cloneInts_any la n lc 0 ld w3 (by omega) (hL.since hs13)).mono ?_
                                rintro e w4 ⟨la1, lc1, rfl, hL4, hs4⟩
                                have hs14 := since_trans hs13 hs4
                                go_wp2_with fail
                                refine (cloneBools_any ba n bc 0 act w4 (by omega) (hB.since hs14)).mono ?_
                                rintro e w5 ⟨ba1, bc1, rfl, hB5, hs5⟩
                                have hs15 := since_trans hs14 hs5
                                have t25 := since_trans hs2 (since_trans hs3 (since_trans hs4 hs5))
                                have t35 := since_trans hs3 (since_trans hs4 hs5)
                                have t45 := since_trans hs4 hs5
                                have hE5 : Mat w5 ea1 nc EL E := ⟨EA1, EC1, (f1.since t25).lower (Nat.zero_le _), fun i hi => ((f2 i hi).since t25).lower (Nat.zero_le _)⟩
                                have hK5 : Cube w5 ka1 n KL KLL := ⟨KA1, KC1, KAA1, KCC1, (g1.since t35).lower (Nat.zero_le _), fun i hi => ((g2 i hi).since t35).lower (Nat.zero_le _)⟩
                                have hA5 : Cube w5 aa1 n AL ALL := ⟨AA1, AC1, AAA1, ACC1, (h1.since t45).lower (Nat.zero_le _), fun i hi => ((h2 i hi).since t45).lower (Nat.zero_le _)⟩
                                have hL5 := (hL4.since hs5).lower (Nat.zero_le _)
                                replace hB5 := hB5.lower (Nat.zero_le _)
                                clear f1 f2 g1 g2 h1 h2 hL4 t25 t35 t45 hs1 hs2 hs3 hs4 hs5 hs12 hs13 hs14 e1 e2 k1 k2 k3 a1 a2 a3 hL hB
                                go_wp2_with fail
                                refine (zz_any ea1 ka1 aa1 la1 ba1 n nc ec1 kc1 ac1 lc1 bc1 EL KL AL KLL ALL E act ld most w5 t2 t1 HE.out HP.out HK.out HA.out hE5 hK5 hA5 hL5 hB5).mono ?_
                                rintro e w6 ⟨mo, fo, co, mc, fc, cc, M, VF, VC, T, rfl, hM, hF, hC, hs6, hOK⟩
                                have hpk : ∀ u, u < n → ∀ c, c < nc → plen KL KLL u c ≤ 1048576 := fun u hu c _ => by
                                  unfold plen
                                  split
                                  · exact (HK.out u hu).2 c (by assumption)
                                  · omega
                                have hpa : ∀ u, u < n → ∀ c, c < nc → plen AL ALL u c ≤ 1048576 := fun u hu c _ => by
                                  unfold plen
                                  split
                                  · exact (HA.out u hu).2 c (by assumption)
                                  · omega
                                replace hpk : Hid (∀ u, u < n → ∀ c, c < nc → plen KL KLL u c ≤ 1048576) := hpk
                                replace hpa : Hid (∀ u, u < n → ∀ c, c < nc → plen AL ALL u c ≤ 1048576) := hpa
                                go_wp2_with fail
                                refine (few_any ea1 ka1 aa1 la1 ba1 n nc ec1 kc1 ac1 lc1 bc1 EL KL AL KLL ALL E act ld most w6 t2 t1 HE.out HP.out hpk.out hpa.out (hE5.since hs6) (hK5.since hs6) (hA5.since hs6) (hL5.since hs6) (hB5.since hs6)).mono ?_
                                rintro e w7 ⟨wo, wc, W, rfl, hW, hs7, hS1, hS2, hS3⟩
                                have hMW : ∀ v, v < n → M v = W v := fun v hv => Net.unique hOK.sound hOK.complete hOK.tame hS1 hS2 hS3 v hv
                                replace hMW : Hid (∀ v, v < n → M v = W v) := hMW
                                have hs57 := since_trans hs6 hs7
                                replace hE5 := hE5.since hs57
                                replace hK5 := hK5.since hs57
                                replace hA5 := hA5.since hs57
                                replace hL5 := hL5.since hs57
                                replace hB5 := hB5.since hs57
                                replace hM := hM.since hs7
                                replace hF := hF.since hs7
                                replace hC := hC.since hs7
                                have hs07 := since_trans hs15 hs57
                                clear hs6 hs7 hs57 hs15 hS1 hS2 hS3
                                as_aux_lemma =>
                                by_cases hn0 : n = 0
                                · have HN0 : Hid (n = 0) := hn0
                                  clear hn0
                                  go_wp2
                                  go_loopg [26] 0 (fun g i wr => i = .int .i64 0 ∧ w7 = wr)
                                  case atStart => exact ⟨rfl, rfl⟩
                                  case round =>
                                    obtain ⟨rfl, rfl⟩ := hrel
                                    have h0 := HN0.out
                                    have hi : ¬ (0 : Int) < (n : Int) := by omega
                                    clear h0
                                    go_wp2
                                    go_loopg [32] 0 (fun g i wr => i = .int .i64 0 ∧ w7 = wr)
                                    case atStart => exact ⟨rfl, rfl⟩
                                    case round =>
                                      obtain ⟨rfl, rfl⟩ := hrel
                                      go_wp2
                                      go_ret
                                      exact ⟨rfl, hs07⟩
                                · obtain ⟨mb, mf, e3, _, cM⟩ := hM.get (by omega)
                                  obtain ⟨fb, ff, e4, _, cF⟩ := hF.get (by omega)
                                  obtain ⟨cb, cf, e5, _, cC⟩ := hC.get (by omega)
                                  obtain ⟨wb, wf, e6, _, cW⟩ := hW.get (by omega)
                                  obtain ⟨lb, lf, e7, _, cL⟩ := hL5.get (by omega)
                                  obtain ⟨bb, bf, e8, _, cB⟩ := hB5.get (by omega)
                                  cases e3
                                  cases e4
                                  cases e5
                                  cases e6
                                  cases e7
                                  cases e8
                                  replace cM : Hid (∀ i, i < n → w7.cell? ⟨mb, mf + i, none⟩ = some (.int .i64 (M i))) := cM
                                  replace cF : Hid (∀ i, i < n → w7.cell? ⟨fb, ff + i, none⟩ = some (.int .i64 (VF i))) := cF
                                  replace cC : Hid (∀ i, i < n → w7.cell? ⟨cb, cf + i, none⟩ = some (.int .i32 (VC i))) := cC
                                  replace cW : Hid (∀ i, i < n → w7.cell? ⟨wb, wf + i, none⟩ = some (.int .i64 (M i))) := fun i hi => by rw [cW i hi, hMW.out i hi]
                                  replace cL : Hid (∀ i, i < n → w7.cell? ⟨lb, lf + i, none⟩ = some (.int .i64 (ld i))) := cL
                                  replace cB : Hid (∀ i, i < n → w7.cell? ⟨bb, bf + i, none⟩ = some (.bool (act i))) := cB
                                  have HB := hOK.bd
                                  replace HB : Hid (∀ v, v < n → 0 ≤ M v → M v ≤ (T v : Int) ∧ T v < n) := HB
                                  clear hM hF hC hW hL5 hB5 hMW
                                  have Hs : Hid (∀ v, (netOf n nc EL E KL KLL AL ALL act ld most).start v = (act v && (ld v == most))) := fun _ => rfl
                                  go_wp2
                                  go_loopg [26] n (fun g i wr => ∃ k : Nat, k ≤ n ∧ g = n - k ∧ i = .int .i64 k ∧ w7.Since w7.heap.size wr)
                                  case atStart => exact ⟨0, Nat.zero_le _, rfl, rfl, World.Since.refl _ _⟩
                                  case round =>
                                    obtain ⟨k, hk, rfl, rfl, hs⟩ := hrel
                                    by_cases hlt : k < n
                                    · as_aux_lemma =>
                                      have dM := cell_since hs (cM.out k hlt)
                                      have dF := cell_since hs (cF.out k hlt)
                                      have dC := cell_since hs (cC.out k hlt)
                                      have dW := cell_since hs (cW.out k hlt)
                                      have dL := cell_since hs (cL.out k hlt)
                                      have dB := cell_since hs (cB.out k hlt)
                                      have hki : (k : Int) < (n : Int) := by omega
                                      rcases hOK.tame k hlt with hm | hm
                                      · obtain ⟨u1, u2⟩ := hOK.un k hlt hm
                                        rw [hm] at dM dW
                                        rw [u1] at dF
                                        rw [u2] at dC
                                        clear hm u1 u2
                                        go_wp2_with fail
                                        go_quiet (fail)
                                        go_wp2
                                        go_roundg (n - (k + 1))
                                        case measure => go_light; omega
                                        case rel => go_light; exact ⟨k + 1, by omega, rfl, by simp, since_drewN hs _⟩
                                      · cases hst : (netOf n nc EL E KL KLL AL ALL act ld most).start k
                                        · obtain ⟨u, c, hh, u1, u2, u3, u4, u5⟩ := hOK.ln k hlt hm hst
                                          obtain ⟨j1, j2, _, j4, j5, j6⟩ := hh
                                          replace j1 : u < n := j1
                                          replace j2 : c < nc := j2
                                          replace j4 : hasB KL KLL AL ALL u c = true := j4
                                          replace j6 : act k = true := j6
                                          obtain ⟨t, t3, t4⟩ := j5
                                          replace t3 : t < EL c := t3
                                          replace t4 : E c t = (k : Int) := t4
                                          rw [Hs.out k, j6] at hst
                                          replace hst : (ld k == most) = false := by simpa using hst
                                          rw [u1] at dF
                                          rw [u2] at dC
                                          rw [j6] at dB
                                          have dU := cell_since hs (cW.out u j1)
                                          have hub := HB.out u j1 u3
                                          have hub1 : M u ≤ 256 := by omega
                                          clear hub
                                          have hui : (u : Int) < (n : Int) := by omega
                                          have hci : (c : Int) < (nc : Int) := by omega
                                          obtain ⟨EA2, EC2, hE1, hE2⟩ := hE5.since hs
                                          obtain ⟨eb, ef, e9, _, hec⟩ := hE1.get (by omega)
                                          cases e9
                                          have dE := hec c j2
                                          have hrow := hE2 c j2
                                          have HL3 : Hid (∃ k', k' < EL c ∧ E c k' = (k : Int)) := ⟨t, t3, t4⟩
                                          have hELc := HE.out c j2
                                          replace u4 : Hid (M k = M u + (netOf n nc EL E KL KLL AL ALL act ld most).wt u c) := u4
                                          have HK6 : Hid _ := hK5.since hs
                                          have HA6 : Hid _ := hA5.since hs
                                          clear hE1 hE2 hec t3 t4 u1 u2 j6
                                          cases hfr : freshB AL ALL u c
                                          · have hw : (netOf n nc EL E KL KLL AL ALL act ld most).wt u c = 1 := by show (if freshB AL ALL u c = true then (0 : Int) else 1) = 1; rw [hfr]; rfl
                                            have hMk := u4.out
                                            rw [hw] at hMk
                                            rw [hMk] at dM dW
                                            replace hMk : Hid (M k = M u + 1) := hMk
                                            clear hw hm
                                            go_wp2_with fail
                                            go_quiet (fail)
                                            go_wp2_with fail
                                            refine (partsOf_any ka1 aa1 n kc1 ac1 KL AL KLL ALL u c _ j1 (by omega) (by omega) (Cube.since HK6.out (since_drewN (World.Since.refl _ _) _)) (Cube.since HA6.out (since_drewN (World.Since.refl _ _) _)) (hpk.out u j1 c j2) (hpa.out u j1 c j2)).mono ?_
                                            rintro e w8 ⟨rfl, hw8⟩
                                            replace hw8 := hw8.symm
                                            subst hw8
                                            simp only [j4, hfr]
                                            go_wp2_with fail
                                            refine (listed_any (EA2 c) (EL c) (EC2 c) (E c) (k : Int) _ hELc (hrow.since (since_drewN (World.Since.refl _ _) _)) HL3.out).mono ?_
                                            rintro e w9 ⟨rfl, hw9⟩
                                            replace hw9 := hw9.symm
                                            subst hw9
                                            go_wp2
                                            go_roundg (n - (k + 1))
                                            case measure => go_light; omega
                                            case rel => go_light; exact ⟨k + 1, by omega, rfl, by simp, since_drewN hs _⟩
                                          · have hw : (netOf n nc EL E KL KLL AL ALL act ld most).wt u c = 0 := by show (if freshB AL ALL u c = true then (0 : Int) else 1) = 0; rw [hfr]; rfl
                                            have hMk := u4.out
                                            rw [hw, Int.add_zero] at hMk
                                            rw [hMk] at dM dW
                                            replace hMk : Hid (M k = M u) := hMk
                                            clear hw hm
                                            go_wp2_with fail
                                            go_quiet (fail)
                                            go_wp2_with fail
                                            refine (partsOf_any ka1 aa1 n kc1 ac1 KL AL KLL ALL u c _ j1 (by omega) (by omega) (Cube.since HK6.out (since_drewN (World.Since.refl _ _) _)) (Cube.since HA6.out (since_drewN (World.Since.refl _ _) _)) (hpk.out u j1 c j2) (hpa.out u j1 c j2)).mono ?_
                                            rintro e w8 ⟨rfl, hw8⟩
                                            replace hw8 := hw8.symm
                                            subst hw8
                                            simp only [j4, hfr]
                                            go_wp2_with fail
                                            refine (listed_any (EA2 c) (EL c) (EC2 c) (E c) (k : Int) _ hELc (hrow.since (since_drewN (World.Since.refl _ _) _)) HL3.out).mono ?_
                                            rintro e w9 ⟨rfl, hw9⟩
                                            replace hw9 := hw9.symm
                                            subst hw9
                                            go_wp2
                                            go_roundg (n - (k + 1))
                                            case measure => go_light; omega
                                            case rel => go_light; exact ⟨k + 1, by omega, rfl, by simp, since_drewN hs _⟩
                                        · obtain ⟨u1, u2⟩ := hOK.st k hlt hst
                                          rw [Hs.out k] at hst
                                          simp only [Bool.and_eq_true] at hst
                                          obtain ⟨ha, hm2⟩ := hst
                                          rw [u1] at dF
                                          rw [u2] at dC
                                          rw [ha] at dB
                                          clear u1 u2 ha
                                          go_wp2_with fail
                                          go_quiet (fail)
                                          go_wp2
                                          go_roundg (n - (k + 1))
                                          case measure => go_light; omega
                                          case rel => go_light; exact ⟨k + 1, by omega, rfl, by simp, since_drewN hs _⟩
                                    · obtain rfl : n = k := by omega
                                      as_aux_lemma =>
                                      clear hn0
                                      go_wp2
                                      go_loopg [32] n (fun g i wr => ∃ k : Nat, k ≤ n ∧ g = n - k ∧ i = .int .i64 k ∧ w7.Since w7.heap.size wr)
                                      case atStart => exact ⟨0, Nat.zero_le _, rfl, rfl, hs⟩
                                      case round =>
                                        clear hs
                                        obtain ⟨k, hk, rfl, rfl, hs⟩ := hrel
                                        by_cases hlt : k < n
                                        · as_aux_lemma =>
                                          have dW := cell_since hs (cW.out k hlt)
                                          have hki : (k : Int) < (n : Int) := by omega
                                          rcases hOK.tame k hlt with hm | hm
                                          · rw [hm] at dW
                                            clear hm
                                            go_wp2
                                            go_roundg (n - (k + 1))
                                            case measure => go_light; omega
                                            case rel => go_light; exact ⟨k + 1, by omega, rfl, by simp, hs⟩
                                          · have hTk := (HB.out k hlt hm).2
                                            go_wp2
                                            go_loopg [33, 34] n (fun g s33 s34 wx => ∃ (j : Nat) (xi : Int), j ≤ n ∧ g = n - j ∧ s34 = .int .i64 j ∧ s33 = .int .i64 xi ∧ (xi = -1 ∨ ∃ x : Nat, x < n ∧ xi = (x : Int) ∧ 0 ≤ M x ∧ T x + j ≤ T k) ∧ wr = wx)
                                            case atStart => exact ⟨0, _, Nat.zero_le _, rfl, rfl, rfl, Or.inr ⟨k, hlt, rfl, hm, by omega⟩, rfl⟩
                                            case round =>
                                              obtain ⟨j, xi, hj, rfl, rfl, rfl, hx, rfl⟩ := hrel
                                              rcases hx with rfl | ⟨x, hx, rfl, hmx, hTx⟩
                                              · by_cases hjn : j < n
                                                · go_wp2
                                                  go_roundg (n - (k + 1))
                                                  case measure => go_light; omega
                                                  case rel => go_light; exact ⟨k + 1, by omega, rfl, by simp, hs⟩
                                                · go_wp2
                                                  go_roundg (n - (k + 1))
                                                  case measure => go_light; omega
                                                  case rel => go_light; exact ⟨k + 1, by omega, rfl, by simp, hs⟩
                                              · have hjn : j < n := by omega
                                                have dX := cell_since hs (cF.out x hx)
                                                have hxi : (x : Int) < (n : Int) := by omega
                                                have hji : (j : Int) < (n : Int) := by omega
                                                have HT : Hid (VF x = -1 ∨ ∃ y : Nat, y < n ∧ VF x = (y : Int) ∧ 0 ≤ M y ∧ T y + (j + 1) ≤ T k) := by
                                                  cases hst : (netOf n nc EL E KL KLL AL ALL act ld most).start x
                                                  · obtain ⟨u, c, hh, u1, _, u3, _, u5⟩ := hOK.ln x hx hmx hst
                                                    exact Or.inr ⟨u, hh.1, u1, u3, by omega⟩
                                                  · exact Or.inl (hOK.st x hx hst).1
                                                clear hmx
                                                go_wp2
                                                go_roundg (n - (j + 1))
                                                case measure => go_light; omega
                                                case rel => go_light; exact ⟨j + 1, _, by omega, rfl, by simp, rfl, HT.out, rfl⟩
                                        · obtain rfl : n = k := by omega
                                          go_wp2
                                          go_ret
                                          exact ⟨rfl, since_trans hs07 hs⟩
                          · have t5' : ((na : Int) != (nl : Int)) = true := by simp; omega
                            subst t3
                            subst t4
                            go_wp2
                            go_ret
                            exact ⟨rfl, World.Since.refl _ _⟩
                        · have t4' : ((nk : Int) != (nl : Int)) = true := by simp; omega
                          subst t3
                          go_wp2
                          go_ret
                          exact ⟨rfl, World.Since.refl _ _⟩
                      · have t3' : ((nb : Int) != (nl : Int)) = true := by simp; omega
                        go_wp2
                        go_ret
                        exact ⟨rfl, World.Since.refl _ _⟩
                    · go_wp2
                      go_ret
                      exact ⟨rfl, World.Since.refl _ _⟩
                  · go_wp2
                    go_ret
                    exact ⟨rfl, World.Since.refl _ _⟩
    · go_wp2
      go_ret
      exact ⟨rfl, World.Since.refl _ _⟩

end Go.Proofs.Qxb6003132aMods
