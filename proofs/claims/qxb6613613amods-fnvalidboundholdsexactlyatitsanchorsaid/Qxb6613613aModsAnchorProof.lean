/- A law over validBound: the walk is ours; the step to the row is the given shell. -/
import Derived.Test.Qxb6613613aModsRows
import Derived.Test.Qxb6613613aModsBound
import Derived.WalkKit
import Derived.ProofKit
import Derived.OpenShut
import Derived.ShutString
namespace Go.Proofs.Qxb6613613aMods.fnValidBoundHoldsExactlyAtItsAnchor
open Go.ChangeShapes Go.WideShapes Go.ChangeAt Go.RowKit
open Go.ChangeMaps (open_string shut_string)
set_option linter.unnecessarySimpa false
set_option linter.unusedVariables false      -- a walk need not use every 'w<i>' (that an integer argument fits its kind)

theorem own : ownKnob Trym.prog.godebug = none := by kernel_rfl

/-! ### STEP 1: THE WALK: the Go text returns true. 'Grown w w'': the world has at most new blocks (Derived/RowKit3.lean). Part the cases AHEAD of 'go_enter' where a test parts the walk; take each callee by a contract of your own. -/
theorem bytes_no (a0 : ByteArray) (a1 a2 : Int) (a3 : Bool) (a4 a5 : Int) (w0 : a0.size ≤ maxLen) (hs : 1048576 < a0.size) (w : World) :
    Calls Trym.prog 6 #[.string a0, .int .i64 a1, .int .i32 a2, .bool a3, .int .i64 a4, .int .i32 a5] w fun e w' => e = .returned (.bool false) ∧ w' = w := by
  unfold maxLen at w0
  go_enter Trym.func6, Trym.ntmps6
  go_wp2
  go_ret
  exact ⟨rfl, rfl⟩

theorem bytes_any (a0 : ByteArray) (a1 a2 : Int) (a3 : Bool) (a4 a5 : Int) (hs : a0.size ≤ 1048576) (w : World) :
    Calls Trym.prog 6 #[.string a0, .int .i64 a1, .int .i32 a2, .bool a3, .int .i64 a4, .int .i32 a5] w fun e w' => e = .returned (.bool true) ∧ w' = w := by
  go_enter Trym.func6, Trym.ntmps6
  go_wp2
  go_ret
  exact ⟨rfl, rfl⟩

def Vb (id : ByteArray) (s n : Int) (an to : Bool) (x y : Int) : Prop :=
  ∀ w, Calls Trym.prog 10 #[.agg #[.string id, .int .i64 s, .int .i32 n, .bool an], .bool to] w fun e w' => e = .returned (.agg #[.int .i64 x, .int .i32 y]) ∧ Gr w w'

theorem pcells {id : ByteArray} {s n : Int} {an : Bool} {w1 w2 : World} (g : Gr (w1.alloc (.cells #[.string id, .int .i64 s, .int .i32 n, .bool an] 27)) w2) :
    w2.cell? ⟨w1.heap.size, 0, none⟩ = some (.string id) ∧ w2.cell? ⟨w1.heap.size, 1, none⟩ = some (.int .i64 s) ∧ w2.cell? ⟨w1.heap.size, 2, none⟩ = some (.int .i32 n) ∧ w2.cell? ⟨w1.heap.size, 3, none⟩ = some (.bool an) := by
  obtain ⟨hc, _, _⟩ := g.cells
  refine ⟨?_, ?_, ?_, ?_⟩ <;> (rw [hc _ _ (by simp)]; simp [go_sem])

set_option maxHeartbeats 1000000 in
theorem main_in (a0 : ByteArray) (s n xs xn x1 y1 x2 y2 : Int) (an : Bool) (hs : a0.size ≤ 1048576)
    (i1 : -62167219200 ≤ s) (i2 : s ≤ 253402300799) (i3 : 0 ≤ n) (i4 : n ≤ 999999999)
    (j1 : -62167219200 ≤ xs) (j2 : xs ≤ 253402300799) (j3 : 0 ≤ xn) (j4 : xn ≤ 999999999)
    (han : an = true ∨ an ≠ true ∧ (s != 0) = false ∧ (n != 0) = false)
    (H1 : Vb a0 s n an false x1 y1) (H2 : Vb a0 s n an true x2 y2)
    (HL : Hid (((!lessB xs xn x1 y1 && lessB xs xn x2 y2) == (!an || ((xs == s) && (xn == n)))) = true)) (w : World) :
    Calls Trym.prog 3 #[.string a0, .int .i64 s, .int .i32 n, .bool an, .int .i64 xs, .int .i32 xn] w fun e w' => e = .returned (.bool true) ∧ Grown w w' := by
  have hb := bytes_any a0 s n an xs xn hs w
  rcases han with rfl | ⟨hn, k1, k2⟩
  · go_enter Trym.func3, Trym.ntmps3
    go_wp2_with fail
    refine hb.mono ?_
    rintro e w' ⟨rfl, rfl⟩
    clear hb
    go_wp2_with fail
    refine (span_yes _ _ i1 i2 i3 i4 _).mono ?_
    rintro e w' ⟨rfl, rfl⟩
    go_wp2_with fail
    refine (span_yes _ _ j1 j2 j3 j4 _).mono ?_
    rintro e w' ⟨rfl, rfl⟩
    go_wp2_with fail
    refine (newpred_any _ _ _ _ _).mono ?_
    rintro e w1 ⟨rfl, g1⟩
    have G1 : Hid _ := g1
    clear g1
    go_wp2_with fail
    refine (H1 _).mono ?_
    rintro e w2 ⟨rfl, g2⟩
    obtain ⟨c0, c1, c2, c3⟩ := pcells g2
    have G2 : Hid _ := g2
    clear g2
    go_wp2_with fail
    refine (parts2_any _ _ _).mono ?_
    rintro e w3 ⟨rfl, g3⟩
    clear c0 c1 c2 c3
    have g3 := G2.out.trans g3
    obtain ⟨c0, c1, c2, c3⟩ := pcells g3
    have G3 : Hid _ := g3
    clear g3 G2
    go_wp2_with fail
    refine (H2 _).mono ?_
    rintro e w4 ⟨rfl, g4⟩
    clear c0 c1 c2 c3
    have G4 : Hid _ := G3.out.trans g4
    clear g4 G3
    go_wp2_with fail
    refine (parts2_any _ _ _).mono ?_
    rintro e w5 ⟨rfl, g5⟩
    have G5 : Hid (Grown w' w5) := (G1.out.trans (((Gr.refl _).alloc _ _).trans (G4.out.trans g5))).grown
    clear g5 G4 G1
    go_wp2_with fail
    refine (less_any _ _ _ _ _).mono ?_
    rintro e w6 ⟨rfl, rfl⟩
    generalize lessB xs xn x1 y1 = l1 at *
    cases l1
    all_goals
      cases e1 : (xs == s)
      all_goals
        rw [e1] at HL
        go_wp2_with fail
        try
          refine (less_any _ _ _ _ _).mono ?_
          rintro e w6 ⟨rfl, rfl⟩
          generalize lessB xs xn x2 y2 = l2 at *
          go_wp2
        go_ret
        have hl := HL.out
        exact ⟨congrArg (fun b => Ending.returned (.bool b)) (by simpa using hl), G5.out⟩
  · cases an
    rotate_left
    · exact absurd rfl hn
    clear hn
    go_enter Trym.func3, Trym.ntmps3
    go_wp2_with fail
    refine hb.mono ?_
    rintro e w' ⟨rfl, rfl⟩
    clear hb
    go_wp2_with fail
    refine (span_yes _ _ i1 i2 i3 i4 _).mono ?_
    rintro e w' ⟨rfl, rfl⟩
    go_wp2_with fail
    refine (span_yes _ _ j1 j2 j3 j4 _).mono ?_
    rintro e w' ⟨rfl, rfl⟩
    go_wp2_with fail
    refine (newpred_any _ _ _ _ _).mono ?_
    rintro e w1 ⟨rfl, g1⟩
    have G1 : Hid _ := g1
    clear g1
    go_wp2_with fail
    refine (H1 _).mono ?_
    rintro e w2 ⟨rfl, g2⟩
    obtain ⟨c0, c1, c2, c3⟩ := pcells g2
    have G2 : Hid _ := g2
    clear g2
    go_wp2_with fail
    refine (parts2_any _ _ _).mono ?_
    rintro e w3 ⟨rfl, g3⟩
    clear c0 c1 c2 c3
    have g3 := G2.out.trans g3
    obtain ⟨c0, c1, c2, c3⟩ := pcells g3
    have G3 : Hid _ := g3
    clear g3 G2
    go_wp2_with fail
    refine (H2 _).mono ?_
    rintro e w4 ⟨rfl, g4⟩
    clear c0 c1 c2 c3
    have G4 : Hid _ := G3.out.trans g4
    clear g4 G3
    go_wp2_with fail
    refine (parts2_any _ _ _).mono ?_
    rintro e w5 ⟨rfl, g5⟩
    have G5 : Hid (Grown w' w5) := (G1.out.trans (((Gr.refl _).alloc _ _).trans (G4.out.trans g5))).grown
    clear g5 G4 G1
    go_wp2_with fail
    refine (less_any _ _ _ _ _).mono ?_
    rintro e w6 ⟨rfl, rfl⟩
    generalize lessB xs xn x1 y1 = l1 at *
    cases l1
    all_goals
        go_wp2_with fail
        try
          refine (less_any _ _ _ _ _).mono ?_
          rintro e w6 ⟨rfl, rfl⟩
          generalize lessB xs xn x2 y2 = l2 at *
          go_wp2
        go_ret
        have hl := HL.out
        exact ⟨congrArg (fun b => Ending.returned (.bool b)) (by simpa using hl), G5.out⟩
/-! ### The plain laws -/
theorem law_always (xs xn : Int) (j1 : -62167219200 ≤ xs) (j2 : xs ≤ 253402300799) (e : Bool) :
    ((!lessB xs xn (-9223372036854775808) 0 && lessB xs xn 9223372036854775807 0) == (!false || e)) = true := by
  have h1 : lessB xs xn (-9223372036854775808) 0 = false := by unfold lessB; simp; omega
  have h2 : lessB xs xn 9223372036854775807 0 = true := by unfold lessB; simp; omega
  simp [h1, h2]

theorem law_last (s n xs xn : Int) (j3 : 0 ≤ xn) (j4 : xn ≤ 999999999) (h : n = 999999999) :
    ((!lessB xs xn s n && lessB xs xn (s + 1) 0) == (!true || ((xs == s) && (xn == n)))) = true := by
  rw [beq_iff_eq, Bool.eq_iff_iff]
  simp [lessB]
  omega

theorem law_mid (s n xs xn : Int) :
    ((!lessB xs xn s n && lessB xs xn s (n + 1)) == (!true || ((xs == s) && (xn == n)))) = true := by
  rw [beq_iff_eq, Bool.eq_iff_iff]
  simp [lessB]
  omega

set_option maxHeartbeats 400000 in
theorem walk (a0 : ByteArray) (a1 : Int) (a2 : Int) (a3 : Bool) (a4 : Int) (a5 : Int) (w0 : a0.size ≤ maxLen) (w1 : (Lit.int .i64 a1).wf = true) (w2 : (Lit.int .i32 a2).wf = true) (w4 : (Lit.int .i64 a4).wf = true) (w5 : (Lit.int .i32 a5).wf = true) (w : World) :
    Calls Trym.prog 3 #[.string a0, .int .i64 a1, .int .i32 a2, .bool a3, .int .i64 a4, .int .i32 a5] w fun e w' => e = .returned (.bool true) ∧ Grown w w' := by
  by_cases hs : a0.size ≤ 1048576
  · have hb := bytes_any a0 a1 a2 a3 a4 a5 hs w
    by_cases hi : -62167219200 ≤ a1 ∧ a1 ≤ 253402300799 ∧ 0 ≤ a2 ∧ a2 ≤ 999999999
    · obtain ⟨i1, i2, i3, i4⟩ := hi
      by_cases hj : -62167219200 ≤ a4 ∧ a4 ≤ 253402300799 ∧ 0 ≤ a5 ∧ a5 ≤ 999999999
      · obtain ⟨j1, j2, j3, j4⟩ := hj
        cases a3
        · cases h1 : (a1 != 0)
          · cases h2 : (a2 != 0)
            · clear hb
              exact main_in a0 a1 a2 a4 a5 _ _ _ _ false hs i1 i2 i3 i4 j1 j2 j3 j4 (Or.inr ⟨by simp, h1, h2⟩)
                (fun w => zvb _ _ _ _ _ _ _ w (vb_not_from _ _ _)) (fun w => zvb _ _ _ _ _ _ _ w (vb_not_to _ _ _)) (law_always a4 a5 j1 j2 _) w
            · go_enter Trym.func3, Trym.ntmps3
              go_wp2_with fail
              refine hb.mono ?_
              rintro e w' ⟨rfl, rfl⟩
              clear hb
              go_wp2_with fail
              refine (span_yes _ _ i1 i2 i3 i4 _).mono ?_
              rintro e w' ⟨rfl, rfl⟩
              go_wp2_with fail
              refine (span_yes _ _ j1 j2 j3 j4 _).mono ?_
              rintro e w' ⟨rfl, rfl⟩
              go_wp2
              go_ret
              exact ⟨rfl, Grown.refl _⟩
          · go_enter Trym.func3, Trym.ntmps3
            go_wp2_with fail
            refine hb.mono ?_
            rintro e w' ⟨rfl, rfl⟩
            clear hb
            go_wp2_with fail
            refine (span_yes _ _ i1 i2 i3 i4 _).mono ?_
            rintro e w' ⟨rfl, rfl⟩
            go_wp2_with fail
            refine (span_yes _ _ j1 j2 j3 j4 _).mono ?_
            rintro e w' ⟨rfl, rfl⟩
            go_wp2
            go_ret
            exact ⟨rfl, Grown.refl _⟩
        · clear hb
          cases h2 : (a2 == 999999999)
          · have h3 : a2 ≠ 999999999 := by simpa using h2
            exact main_in a0 a1 a2 a4 a5 _ _ _ _ true hs i1 i2 i3 i4 j1 j2 j3 j4 (Or.inl rfl)
              (fun w => zvb _ _ _ _ _ _ _ w (vb_from _ _ _)) (fun w => zvb _ _ _ _ _ _ _ w (fun w => vb_mid _ _ _ w i3 (by omega) h2)) (law_mid a1 a2 a4 a5) w
          · exact main_in a0 a1 a2 a4 a5 _ _ _ _ true hs i1 i2 i3 i4 j1 j2 j3 j4 (Or.inl rfl)
              (fun w => zvb _ _ _ _ _ _ _ w (vb_from _ _ _)) (fun w => zvb _ _ _ _ _ _ _ w (fun w => vb_last _ _ _ w i1 i2 h2)) (law_last a1 a2 a4 a5 j3 j4 (by simpa using h2)) w
      · go_enter Trym.func3, Trym.ntmps3
        go_wp2_with fail
        refine hb.mono ?_
        rintro e w' ⟨rfl, rfl⟩
        clear hb
        go_wp2_with fail
        refine (span_yes _ _ i1 i2 i3 i4 _).mono ?_
        rintro e w' ⟨rfl, rfl⟩
        go_wp2_with fail
        refine (span_no _ _ hj _).mono ?_
        rintro e w' ⟨rfl, rfl⟩
        go_wp2
        go_ret
        exact ⟨rfl, Grown.refl _⟩
    · go_enter Trym.func3, Trym.ntmps3
      go_wp2_with fail
      refine hb.mono ?_
      rintro e w' ⟨rfl, rfl⟩
      clear hb
      go_wp2_with fail
      refine (span_no _ _ hi _).mono ?_
      rintro e w' ⟨rfl, rfl⟩
      go_wp2
      go_ret
      exact ⟨rfl, Grown.refl _⟩
  · have hb := bytes_no a0 a1 a2 a3 a4 a5 w0 (by omega) w
    go_enter Trym.func3, Trym.ntmps3
    go_wp2_with fail
    refine hb.mono ?_
    rintro e w' ⟨rfl, rfl⟩
    clear hb
    go_wp2
    go_ret
    exact ⟨rfl, Grown.refl _⟩

/-! ### THE ROW's STEP: WRITTEN OUT: LEAVE IT -/
set_option maxRecDepth 100000 in
theorem lifted (os : Os) (started : os.Started) (H : Type) (enc : TypeId × Value → H) :
    ReturnsInHanded {} Trym.checked os 3 .any (Rows.fnValidBoundHoldsExactlyAtItsAnchorSpec.pre6 enc Trym.prog Trym.f3 Rows.fnValidBoundHoldsExactlyAtItsAnchorRow.domain false) (Rows.fnValidBoundHoldsExactlyAtItsAnchorSpec.post enc Trym.prog Trym.f3 false true false false) := by
  refine returnsInHanded_of_change (C := Trym.checked) own started (by kernel_rfl) Trym.func3
    (ChangeSpec.witness6 (enc := enc) (C := Trym.checked) false ⟨#[], #[.string ByteArray.empty, .int .i64 0, .int .i32 0, .bool false, .int .i64 0, .int .i32 0], []⟩ 8 (by kernel_rfl) (by kernel_rfl) (by kernel_rfl) (by kernel_rfl)) ?_
  intro W base args ds gs before hval0 hW hcnd _
  have hval : ∀ (j : Nat) t v, Trym.f3.params[j]? = some t → args[j]? = some v → Value.okWide Trym.prog W .any base t v := hval0
  have hW' := hW
  obtain ⟨p, q, hA0, hV, rfl, hfz, hnd⟩ := hW
  have hA : DataW.TrodAll enc Trym.prog W 0 (fun _ => true) true Trym.f3.params.toList args.toList ds p := hA0
  rw [Trym.params3] at hA hval
  obtain ⟨v0, vs0, d0, ds0, p0, q0, hargs, rfl, rfl, h0, r0⟩ := trodAll_cons hA
  obtain ⟨v1, vs1, d1, ds1, p1, q1, rfl, rfl, rfl, h1, r1⟩ := trodAll_cons r0
  obtain ⟨v2, vs2, d2, ds2, p2, q2, rfl, rfl, rfl, h2, r2⟩ := trodAll_cons r1
  obtain ⟨v3, vs3, d3, ds3, p3, q3, rfl, rfl, rfl, h3, r3⟩ := trodAll_cons r2
  obtain ⟨v4, vs4, d4, ds4, p4, q4, rfl, rfl, rfl, h4, r4⟩ := trodAll_cons r3
  obtain ⟨v5, vs5, d5, ds5, p5, q5, rfl, rfl, rfl, h5, r5⟩ := trodAll_cons r4
  obtain ⟨rfl, rfl, rfl⟩ := trodAll_nil r5
  obtain rfl : args = #[v0, v1, v2, v3, v4, v5] := by cases args; simp_all
  obtain ⟨rfl, rfl⟩ := trodVars_none hV
  obtain ⟨a0, rfl, rfl, rfl, w0⟩ := open_string Trym.underlying9 (hval 0 9 v0 rfl rfl) h0
  obtain ⟨a1, rfl, rfl, rfl, w1⟩ := open_int Trym.underlying2 (hval 1 2 v1 rfl rfl) h1
  obtain ⟨a2, rfl, rfl, rfl, w2⟩ := open_int Trym.underlying21 (hval 2 21 v2 rfl rfl) h2
  obtain ⟨a3, rfl, rfl, rfl⟩ := open_bool Trym.underlying4 (hval 3 4 v3 rfl rfl) h3
  obtain ⟨a4, rfl, rfl, rfl, w4⟩ := open_int Trym.underlying2 (hval 4 2 v4 rfl rfl) h4
  obtain ⟨a5, rfl, rfl, rfl, w5⟩ := open_int Trym.underlying21 (hval 5 21 v5 rfl rfl) h5
  clear hA0 hval0
  simp only [List.append_nil] at hW'
  refine (walk a0 a1 a2 a3 a4 a5 w0 w1 w2 w4 w5 W).mono fun e W' ⟨he, hg⟩ => ?_
  subst he
  exact ⟨_, rfl, post_of_same (pa := []) (pv := []) hW' (fun _ _ _ => (trodAll_cons_mk (shut_bool Trym.underlying4 _) trodAll_mk0)) (fun sp _ => (trodAll_cons_mk (shut_string Trym.underlying9 w0) (trodAll_cons_mk (shut_int Trym.underlying2 w1) (trodAll_cons_mk (shut_int Trym.underlying21 w2) (trodAll_cons_mk (shut_bool Trym.underlying4 _) (trodAll_cons_mk (shut_int Trym.underlying2 w4) (trodAll_cons_mk (shut_int Trym.underlying21 w5) trodAll_mk0))))))) (fun _ _ => rfl) rfl
    (hg.frame _) hg.2.1 (ok_one (by kernel_rfl) rfl (okWide_bool_mk Trym.underlying4 _))⟩

theorem over : Rows.fnValidBoundHoldsExactlyAtItsAnchorRow.holds Trym.pinned (OpenSpec.ofChange Rows.fnValidBoundHoldsExactlyAtItsAnchorSpec) :=
  OpenClaim.holds_of_wide 3 Trym.f3 rfl rfl rfl rfl rfl rfl rfl ⟨rfl, rfl, rfl, rfl, rfl⟩ rfl rfl rfl rfl rfl (by kernel_rfl) Trym.func3 (by kernel_rfl)
    (of_decide_eq_true (by kernel_rfl)) (by unfold Func.isWrapper; first | (rw [if_pos (by decide +kernel)]; kernel_rfl) | (rw [if_neg (by decide +kernel)]; exact ⟨rfl, rfl⟩))
    (fun os started H enc _ => lifted os started H enc)

/-- ████ THE STATEMENT ████ -/
theorem proved : Rows.FnValidBoundHoldsExactlyAtItsAnchorSaid :=
  over
end Go.Proofs.Qxb6613613aMods.fnValidBoundHoldsExactlyAtItsAnchor

namespace Go.Proofs.Qxb6613613aMods
theorem anchorProved : Rows.FnValidBoundHoldsExactlyAtItsAnchorSaid := fnValidBoundHoldsExactlyAtItsAnchor.proved
end Go.Proofs.Qxb6613613aMods
