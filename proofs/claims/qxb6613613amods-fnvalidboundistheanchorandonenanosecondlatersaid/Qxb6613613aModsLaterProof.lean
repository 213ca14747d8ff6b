/- A law over validBound: the walk is ours; the step to the row is the given shell. -/
import Derived.Test.Qxb6613613aModsRows
import Derived.Test.Qxb6613613aModsBound
import Derived.WalkKit
import Derived.ProofKit
import Derived.OpenShut
import Derived.ShutString
namespace Go.Proofs.Qxb6613613aMods.fnValidBoundIsTheAnchorAndOneNanosecondLater
open Go.ChangeShapes Go.WideShapes Go.ChangeAt Go.RowKit
open Go.ChangeMaps (open_string shut_string)
set_option linter.unusedVariables false      -- a walk need not use every 'w<i>' (that an integer argument fits its kind)

theorem own : ownKnob Trym.prog.godebug = none := by kernel_rfl

/-! ### STEP 1: THE WALK: the Go text returns true. 'Grown w w'': the world has at most new blocks (Derived/RowKit3.lean). Part the cases AHEAD of 'go_enter' where a test parts the walk; take each callee by a contract of your own. -/
theorem bytes_no (a0 a1 : ByteArray) (a2 a3 : Int) (a4 : Bool) (w0 : a0.size ≤ maxLen) (w1 : a1.size ≤ maxLen) (hs : 1048576 < a0.size + a1.size) (w : World) :
    Calls Trym.prog 12 #[.string a0, .string a1, .int .i64 a2, .int .i32 a3, .bool a4] w fun e w' => e = .returned (.bool false) ∧ w' = w := by
  unfold maxLen at w0 w1
  by_cases h1 : 1048576 < a0.size
  · go_enter Trym.func12, Trym.ntmps12
    go_wp2
    go_ret
    exact ⟨rfl, rfl⟩
  · by_cases h2 : 1048576 < a1.size
    · go_enter Trym.func12, Trym.ntmps12
      go_wp2
      go_ret
      exact ⟨rfl, rfl⟩
    · go_enter Trym.func12, Trym.ntmps12
      go_wp2
      go_ret
      exact ⟨rfl, rfl⟩

theorem bytes_any (a0 a1 : ByteArray) (a2 a3 : Int) (a4 : Bool) (hs : a0.size + a1.size ≤ 1048576) (w : World) :
    Calls Trym.prog 12 #[.string a0, .string a1, .int .i64 a2, .int .i32 a3, .bool a4] w fun e w' => e = .returned (.bool true) ∧ w' = w := by
  go_enter Trym.func12, Trym.ntmps12
  go_wp2
  go_ret
  exact ⟨rfl, rfl⟩

def Vb (id : ByteArray) (s n : Int) (an to : Bool) (x y : Int) : Prop :=
  ∀ w, Calls Trym.prog 10 #[.agg #[.string id, .int .i64 s, .int .i32 n, .bool an], .bool to] w fun e w' => e = .returned (.agg #[.int .i64 x, .int .i32 y]) ∧ Gr w w'

theorem pcells {id : ByteArray} {s n : Int} {an : Bool} {w1 w2 : World} (g : Gr (w1.alloc (.cells #[.string id, .int .i64 s, .int .i32 n, .bool an] 27)) w2) :
    w2.cell? ⟨w1.heap.size, 0, none⟩ = some (.string id) ∧ w2.cell? ⟨w1.heap.size, 1, none⟩ = some (.int .i64 s) ∧ w2.cell? ⟨w1.heap.size, 2, none⟩ = some (.int .i32 n) ∧ w2.cell? ⟨w1.heap.size, 3, none⟩ = some (.bool an) := by
  obtain ⟨hc, _, _⟩ := g.cells
  refine ⟨?_, ?_, ?_, ?_⟩ <;> (rw [hc _ _ (by simp)]; simp [go_sem])

set_option maxHeartbeats 1000000 in
theorem main_not (a0 a1 : ByteArray) (s n x1 y1 x2 y2 : Int) (hs : a0.size + a1.size ≤ 1048576)
    (i1 : -62167219200 ≤ s) (i2 : s ≤ 253402300799) (i3 : 0 ≤ n) (i4 : n ≤ 999999999)
    (k1 : (s != 0) = false) (k2 : (n != 0) = false)
    (H1 : Vb a0 s n false false x1 y1) (H2 : Vb a0 s n false true x2 y2) (H3 : Vb a1 s n false false x1 y1) (H4 : Vb a1 s n false true x2 y2)
    (l1 : x1 < -62167219200) (l2 : 253402300799 < x2) (l3 : 0 ≤ y1) (l4 : y1 ≤ 999999999) (l5 : 0 ≤ y2) (l6 : y2 ≤ 999999999) (w : World) :
    Calls Trym.prog 4 #[.string a0, .string a1, .int .i64 s, .int .i32 n, .bool false] w fun e w' => e = .returned (.bool true) ∧ Grown w w' := by
  have hb := bytes_any a0 a1 s n false hs w
  go_enter Trym.func4, Trym.ntmps4
  go_wp2_with fail
  refine hb.mono ?_
  rintro e w' ⟨rfl, rfl⟩
  clear hb
  go_wp2_with fail
  refine (span_yes _ _ i1 i2 i3 i4 _).mono ?_
  rintro e w' ⟨rfl, rfl⟩
  go_wp2_with fail
  refine (newpred_any _ _ _ _ _).mono ?_
  rintro e w1 ⟨rfl, g1⟩
  have G1 : Hid _ := g1
  clear g1
  go_wp2_with fail
  refine (newpred_any _ _ _ _ _).mono ?_
  rintro e w2 ⟨rfl, g2⟩
  have g2' := g2.alloc #[.string a1, .int .i64 s, .int .i32 n, .bool false] 27
  obtain ⟨c0, c1, c2, c3⟩ := pcells g2'
  have G2 : Hid _ := g2'
  clear g2 g2'
  go_wp2_with fail
  refine (H1 _).mono ?_
  rintro e w3 ⟨rfl, g3⟩
  clear c0 c1 c2 c3
  go_wp2_with fail
  refine (parts2_any _ _ _).mono ?_
  rintro e w4 ⟨rfl, g4⟩
  have g4 := g3.trans g4
  clear g3
  have g5 := G2.out.trans g4
  obtain ⟨c0, c1, c2, c3⟩ := pcells g5
  have G4 : Hid _ := g4
  clear g4 g5
  go_wp2_with fail
  refine (H2 _).mono ?_
  rintro e w5 ⟨rfl, g5⟩
  clear c0 c1 c2 c3
  go_wp2_with fail
  refine (parts2_any _ _ _).mono ?_
  rintro e w6 ⟨rfl, g6⟩
  have g6 := G4.out.trans (g5.trans g6)
  obtain ⟨c0, c1, c2, c3⟩ := pcells g6
  have G6 : Hid _ := g6
  clear g5 g6
  go_wp2_with fail
  refine (H3 _).mono ?_
  rintro e w7 ⟨rfl, g7⟩
  clear c0 c1 c2 c3
  go_wp2_with fail
  refine (parts2_any _ _ _).mono ?_
  rintro e w8 ⟨rfl, g8⟩
  have g8 := G6.out.trans (g7.trans g8)
  obtain ⟨c0, c1, c2, c3⟩ := pcells g8
  have G8 : Hid _ := g8
  clear g7 g8
  go_wp2_with fail
  refine (H4 _).mono ?_
  rintro e w9 ⟨rfl, g9⟩
  clear c0 c1 c2 c3
  go_wp2_with fail
  refine (parts2_any _ _ _).mono ?_
  rintro e w10 ⟨rfl, g10⟩
  have GG : Hid (Grown w' w10) := (G1.out.trans (((Gr.refl _).alloc _ _).trans (G2.out.trans (G8.out.trans (g9.trans g10))))).grown
  clear g9 g10 G1 G2 G4 G6 G8
  go_wp2
  go_ret
  exact ⟨rfl, GG.out⟩
set_option maxHeartbeats 1000000 in
theorem main_mid (a0 a1 : ByteArray) (s n : Int) (hs : a0.size + a1.size ≤ 1048576)
    (i1 : -62167219200 ≤ s) (i2 : s ≤ 253402300799) (i3 : 0 ≤ n) (i4 : n ≤ 999999999)
    (H1 : Vb a0 s n true false s n) (H2 : Vb a0 s n true true s (n + 1)) (H3 : Vb a1 s n true false s n) (H4 : Vb a1 s n true true s (n + 1))
    (k : n < 999999999) (w : World) :
    Calls Trym.prog 4 #[.string a0, .string a1, .int .i64 s, .int .i32 n, .bool true] w fun e w' => e = .returned (.bool true) ∧ Grown w w' := by
  have hb := bytes_any a0 a1 s n true hs w
  go_enter Trym.func4, Trym.ntmps4
  go_wp2_with fail
  refine hb.mono ?_
  rintro e w' ⟨rfl, rfl⟩
  clear hb
  go_wp2_with fail
  refine (span_yes _ _ i1 i2 i3 i4 _).mono ?_
  rintro e w' ⟨rfl, rfl⟩
  go_wp2_with fail
  refine (newpred_any _ _ _ _ _).mono ?_
  rintro e w1 ⟨rfl, g1⟩
  have G1 : Hid _ := g1
  clear g1
  go_wp2_with fail
  refine (newpred_any _ _ _ _ _).mono ?_
  rintro e w2 ⟨rfl, g2⟩
  have g2' := g2.alloc #[.string a1, .int .i64 s, .int .i32 n, .bool true] 27
  obtain ⟨c0, c1, c2, c3⟩ := pcells g2'
  have G2 : Hid _ := g2'
  clear g2 g2'
  go_wp2_with fail
  refine (H1 _).mono ?_
  rintro e w3 ⟨rfl, g3⟩
  clear c0 c1 c2 c3
  go_wp2_with fail
  refine (parts2_any _ _ _).mono ?_
  rintro e w4 ⟨rfl, g4⟩
  have g4 := g3.trans g4
  clear g3
  have g5 := G2.out.trans g4
  obtain ⟨c0, c1, c2, c3⟩ := pcells g5
  have G4 : Hid _ := g4
  clear g4 g5
  go_wp2_with fail
  refine (H2 _).mono ?_
  rintro e w5 ⟨rfl, g5⟩
  clear c0 c1 c2 c3
  go_wp2_with fail
  refine (parts2_any _ _ _).mono ?_
  rintro e w6 ⟨rfl, g6⟩
  have g6 := G4.out.trans (g5.trans g6)
  obtain ⟨c0, c1, c2, c3⟩ := pcells g6
  have G6 : Hid _ := g6
  clear g5 g6
  go_wp2_with fail
  refine (H3 _).mono ?_
  rintro e w7 ⟨rfl, g7⟩
  clear c0 c1 c2 c3
  go_wp2_with fail
  refine (parts2_any _ _ _).mono ?_
  rintro e w8 ⟨rfl, g8⟩
  have g8 := G6.out.trans (g7.trans g8)
  obtain ⟨c0, c1, c2, c3⟩ := pcells g8
  have G8 : Hid _ := g8
  clear g7 g8
  go_wp2_with fail
  refine (H4 _).mono ?_
  rintro e w9 ⟨rfl, g9⟩
  clear c0 c1 c2 c3
  go_wp2_with fail
  refine (parts2_any _ _ _).mono ?_
  rintro e w10 ⟨rfl, g10⟩
  have GG : Hid (Grown w' w10) := (G1.out.trans (((Gr.refl _).alloc _ _).trans (G2.out.trans (G8.out.trans (g9.trans g10))))).grown
  clear g9 g10 G1 G2 G4 G6 G8
  go_wp2
  go_ret
  exact ⟨congrArg (fun b => Ending.returned (.bool b)) (by rw [beq_iff_eq]; omega), GG.out⟩
set_option maxHeartbeats 1000000 in
theorem main_last (a0 a1 : ByteArray) (s n : Int) (hs : a0.size + a1.size ≤ 1048576)
    (i1 : -62167219200 ≤ s) (i2 : s ≤ 253402300799) (i3 : 0 ≤ n) (i4 : n ≤ 999999999)
    (H1 : Vb a0 s n true false s n) (H2 : Vb a0 s n true true (s + 1) 0) (H3 : Vb a1 s n true false s n) (H4 : Vb a1 s n true true (s + 1) 0)
    (k : (1000000000 - n == 1) = true) (w : World) :
    Calls Trym.prog 4 #[.string a0, .string a1, .int .i64 s, .int .i32 n, .bool true] w fun e w' => e = .returned (.bool true) ∧ Grown w w' := by
  have hb := bytes_any a0 a1 s n true hs w
  go_enter Trym.func4, Trym.ntmps4
  go_wp2_with fail
  refine hb.mono ?_
  rintro e w' ⟨rfl, rfl⟩
  clear hb
  go_wp2_with fail
  refine (span_yes _ _ i1 i2 i3 i4 _).mono ?_
  rintro e w' ⟨rfl, rfl⟩
  go_wp2_with fail
  refine (newpred_any _ _ _ _ _).mono ?_
  rintro e w1 ⟨rfl, g1⟩
  have G1 : Hid _ := g1
  clear g1
  go_wp2_with fail
  refine (newpred_any _ _ _ _ _).mono ?_
  rintro e w2 ⟨rfl, g2⟩
  have g2' := g2.alloc #[.string a1, .int .i64 s, .int .i32 n, .bool true] 27
  obtain ⟨c0, c1, c2, c3⟩ := pcells g2'
  have G2 : Hid _ := g2'
  clear g2 g2'
  go_wp2_with fail
  refine (H1 _).mono ?_
  rintro e w3 ⟨rfl, g3⟩
  clear c0 c1 c2 c3
  go_wp2_with fail
  refine (parts2_any _ _ _).mono ?_
  rintro e w4 ⟨rfl, g4⟩
  have g4 := g3.trans g4
  clear g3
  have g5 := G2.out.trans g4
  obtain ⟨c0, c1, c2, c3⟩ := pcells g5
  have G4 : Hid _ := g4
  clear g4 g5
  go_wp2_with fail
  refine (H2 _).mono ?_
  rintro e w5 ⟨rfl, g5⟩
  clear c0 c1 c2 c3
  go_wp2_with fail
  refine (parts2_any _ _ _).mono ?_
  rintro e w6 ⟨rfl, g6⟩
  have g6 := G4.out.trans (g5.trans g6)
  obtain ⟨c0, c1, c2, c3⟩ := pcells g6
  have G6 : Hid _ := g6
  clear g5 g6
  go_wp2_with fail
  refine (H3 _).mono ?_
  rintro e w7 ⟨rfl, g7⟩
  clear c0 c1 c2 c3
  go_wp2_with fail
  refine (parts2_any _ _ _).mono ?_
  rintro e w8 ⟨rfl, g8⟩
  have g8 := G6.out.trans (g7.trans g8)
  obtain ⟨c0, c1, c2, c3⟩ := pcells g8
  have G8 : Hid _ := g8
  clear g7 g8
  go_wp2_with fail
  refine (H4 _).mono ?_
  rintro e w9 ⟨rfl, g9⟩
  clear c0 c1 c2 c3
  go_wp2_with fail
  refine (parts2_any _ _ _).mono ?_
  rintro e w10 ⟨rfl, g10⟩
  have GG : Hid (Grown w' w10) := (G1.out.trans (((Gr.refl _).alloc _ _).trans (G2.out.trans (G8.out.trans (g9.trans g10))))).grown
  clear g9 g10 G1 G2 G4 G6 G8
  go_wp2
  go_ret
  exact ⟨rfl, GG.out⟩
set_option maxHeartbeats 400000 in
theorem walk (a0 : ByteArray) (a1 : ByteArray) (a2 : Int) (a3 : Int) (a4 : Bool) (w0 : a0.size ≤ maxLen) (w1 : a1.size ≤ maxLen) (w2 : (Lit.int .i64 a2).wf = true) (w3 : (Lit.int .i32 a3).wf = true) (w : World) :
    Calls Trym.prog 4 #[.string a0, .string a1, .int .i64 a2, .int .i32 a3, .bool a4] w fun e w' => e = .returned (.bool true) ∧ Grown w w' := by
  by_cases hs : a0.size + a1.size ≤ 1048576
  · have hb := bytes_any a0 a1 a2 a3 a4 hs w
    by_cases hi : -62167219200 ≤ a2 ∧ a2 ≤ 253402300799 ∧ 0 ≤ a3 ∧ a3 ≤ 999999999
    · obtain ⟨i1, i2, i3, i4⟩ := hi
      cases a4
      · cases h1 : (a2 != 0)
        · cases h2 : (a3 != 0)
          · clear hb
            exact main_not a0 a1 a2 a3 _ _ _ _ hs i1 i2 i3 i4 h1 h2
              (fun w => zvb _ _ _ _ _ _ _ w (vb_not_from _ _ _)) (fun w => zvb _ _ _ _ _ _ _ w (vb_not_to _ _ _))
              (fun w => zvb _ _ _ _ _ _ _ w (vb_not_from _ _ _)) (fun w => zvb _ _ _ _ _ _ _ w (vb_not_to _ _ _))
              (by omega) (by omega) (by omega) (by omega) (by omega) (by omega) w
          · go_enter Trym.func4, Trym.ntmps4
            go_wp2_with fail
            refine hb.mono ?_
            rintro e w' ⟨rfl, rfl⟩
            clear hb
            go_wp2_with fail
            refine (span_yes _ _ i1 i2 i3 i4 _).mono ?_
            rintro e w' ⟨rfl, rfl⟩
            go_wp2
            go_ret
            exact ⟨rfl, Grown.refl _⟩
        · go_enter Trym.func4, Trym.ntmps4
          go_wp2_with fail
          refine hb.mono ?_
          rintro e w' ⟨rfl, rfl⟩
          clear hb
          go_wp2_with fail
          refine (span_yes _ _ i1 i2 i3 i4 _).mono ?_
          rintro e w' ⟨rfl, rfl⟩
          go_wp2
          go_ret
          exact ⟨rfl, Grown.refl _⟩
      · clear hb
        cases h2 : (a3 == 999999999)
        · have h3 : a3 ≠ 999999999 := by simpa using h2
          exact main_mid a0 a1 a2 a3 hs i1 i2 i3 i4
            (fun w => zvb _ _ _ _ _ _ _ w (vb_from _ _ _)) (fun w => zvb _ _ _ _ _ _ _ w (fun w => vb_mid _ _ _ w i3 (by omega) h2))
            (fun w => zvb _ _ _ _ _ _ _ w (vb_from _ _ _)) (fun w => zvb _ _ _ _ _ _ _ w (fun w => vb_mid _ _ _ w i3 (by omega) h2)) (by omega) w
        · have h3 : a3 = 999999999 := by simpa using h2
          exact main_last a0 a1 a2 a3 hs i1 i2 i3 i4
            (fun w => zvb _ _ _ _ _ _ _ w (vb_from _ _ _)) (fun w => zvb _ _ _ _ _ _ _ w (fun w => vb_last _ _ _ w i1 i2 h2))
            (fun w => zvb _ _ _ _ _ _ _ w (vb_from _ _ _)) (fun w => zvb _ _ _ _ _ _ _ w (fun w => vb_last _ _ _ w i1 i2 h2)) (by rw [h3]; decide) w
    · go_enter Trym.func4, Trym.ntmps4
      go_wp2_with fail
      refine hb.mono ?_
      rintro e w' ⟨rfl, rfl⟩
      clear hb
      go_wp2_with fail
      refine (span_no _ _ hi _).mono ?_
      rintro e w' ⟨rfl, rfl⟩
      go_wp2
      go_ret
      exact ⟨rfl, Grown.refl _⟩
  · have hb := bytes_no a0 a1 a2 a3 a4 w0 w1 (by omega) w
    go_enter Trym.func4, Trym.ntmps4
    go_wp2_with fail
    refine hb.mono ?_
    rintro e w' ⟨rfl, rfl⟩
    clear hb
    go_wp2
    go_ret
    exact ⟨rfl, Grown.refl _⟩

/-! ### THE ROW's STEP: WRITTEN OUT: LEAVE IT -/
set_option maxRecDepth 100000 in
theorem lifted (os : Os) (started : os.Started) (H : Type) (enc : TypeId × Value → H) :
    ReturnsInHanded {} Trym.checked os 4 .any (Rows.fnValidBoundIsTheAnchorAndOneNanosecondLaterSpec.pre6 enc Trym.prog Trym.f4 Rows.fnValidBoundIsTheAnchorAndOneNanosecondLaterRow.domain false) (Rows.fnValidBoundIsTheAnchorAndOneNanosecondLaterSpec.post enc Trym.prog Trym.f4 false true false false) := by
  refine returnsInHanded_of_change (C := Trym.checked) own started (by kernel_rfl) Trym.func4
    (ChangeSpec.witness6 (enc := enc) (C := Trym.checked) false ⟨#[], #[.string ByteArray.empty, .string ByteArray.empty, .int .i64 0, .int .i32 0, .bool false], []⟩ 8 (by kernel_rfl) (by kernel_rfl) (by kernel_rfl) (by kernel_rfl)) ?_
  intro W base args ds gs before hval0 hW hcnd _
  have hval : ∀ (j : Nat) t v, Trym.f4.params[j]? = some t → args[j]? = some v → Value.okWide Trym.prog W .any base t v := hval0
  have hW' := hW
  obtain ⟨p, q, hA0, hV, rfl, hfz, hnd⟩ := hW
  have hA : DataW.TrodAll enc Trym.prog W 0 (fun _ => true) true Trym.f4.params.toList args.toList ds p := hA0
  rw [Trym.params4] at hA hval
  obtain ⟨v0, vs0, d0, ds0, p0, q0, hargs, rfl, rfl, h0, r0⟩ := trodAll_cons hA
  obtain ⟨v1, vs1, d1, ds1, p1, q1, rfl, rfl, rfl, h1, r1⟩ := trodAll_cons r0
  obtain ⟨v2, vs2, d2, ds2, p2, q2, rfl, rfl, rfl, h2, r2⟩ := trodAll_cons r1
  obtain ⟨v3, vs3, d3, ds3, p3, q3, rfl, rfl, rfl, h3, r3⟩ := trodAll_cons r2
  obtain ⟨v4, vs4, d4, ds4, p4, q4, rfl, rfl, rfl, h4, r4⟩ := trodAll_cons r3
  obtain ⟨rfl, rfl, rfl⟩ := trodAll_nil r4
  obtain rfl : args = #[v0, v1, v2, v3, v4] := by cases args; simp_all
  obtain ⟨rfl, rfl⟩ := trodVars_none hV
  obtain ⟨a0, rfl, rfl, rfl, w0⟩ := open_string Trym.underlying9 (hval 0 9 v0 rfl rfl) h0
  obtain ⟨a1, rfl, rfl, rfl, w1⟩ := open_string Trym.underlying9 (hval 1 9 v1 rfl rfl) h1
  obtain ⟨a2, rfl, rfl, rfl, w2⟩ := open_int Trym.underlying2 (hval 2 2 v2 rfl rfl) h2
  obtain ⟨a3, rfl, rfl, rfl, w3⟩ := open_int Trym.underlying21 (hval 3 21 v3 rfl rfl) h3
  obtain ⟨a4, rfl, rfl, rfl⟩ := open_bool Trym.underlying4 (hval 4 4 v4 rfl rfl) h4
  clear hA0 hval0
  simp only [List.append_nil] at hW'
  refine (walk a0 a1 a2 a3 a4 w0 w1 w2 w3 W).mono fun e W' ⟨he, hg⟩ => ?_
  subst he
  exact ⟨_, rfl, post_of_same (pa := []) (pv := []) hW' (fun _ _ _ => (trodAll_cons_mk (shut_bool Trym.underlying4 _) trodAll_mk0)) (fun sp _ => (trodAll_cons_mk (shut_string Trym.underlying9 w0) (trodAll_cons_mk (shut_string Trym.underlying9 w1) (trodAll_cons_mk (shut_int Trym.underlying2 w2) (trodAll_cons_mk (shut_int Trym.underlying21 w3) (trodAll_cons_mk (shut_bool Trym.underlying4 _) trodAll_mk0)))))) (fun _ _ => rfl) rfl
    (hg.frame _) hg.2.1 (ok_one (by kernel_rfl) rfl (okWide_bool_mk Trym.underlying4 _))⟩

theorem over : Rows.fnValidBoundIsTheAnchorAndOneNanosecondLaterRow.holds Trym.pinned (OpenSpec.ofChange Rows.fnValidBoundIsTheAnchorAndOneNanosecondLaterSpec) :=
  OpenClaim.holds_of_wide 4 Trym.f4 rfl rfl rfl rfl rfl rfl rfl ⟨rfl, rfl, rfl, rfl, rfl⟩ rfl rfl rfl rfl rfl (by kernel_rfl) Trym.func4 (by kernel_rfl)
    (of_decide_eq_true (by kernel_rfl)) (by unfold Func.isWrapper; first | (rw [if_pos (by decide +kernel)]; kernel_rfl) | (rw [if_neg (by decide +kernel)]; exact ⟨rfl, rfl⟩))
    (fun os started H enc _ => lifted os started H enc)

/-- ████ THE STATEMENT ████ -/
theorem proved : Rows.FnValidBoundIsTheAnchorAndOneNanosecondLaterSaid :=
  over
end Go.Proofs.Qxb6613613aMods.fnValidBoundIsTheAnchorAndOneNanosecondLater

namespace Go.Proofs.Qxb6613613aMods
theorem laterProved : Rows.FnValidBoundIsTheAnchorAndOneNanosecondLaterSaid := fnValidBoundIsTheAnchorAndOneNanosecondLater.proved
end Go.Proofs.Qxb6613613aMods
