/- The law over decide: the walk is ours; the step to the row is the given shell. -/
import Derived.Test.Qxb6612843aModsRows
import Derived.Test.Qxb6612843aModsDec
import Derived.WalkKit
import Derived.ProofKit
import Derived.OpenShut
import Derived.ShutString
namespace Go.Proofs.Qxb6612843aMods.fnDecideAlwaysRunsUnlessHeldManualNeverBySelf
open Go.ChangeShapes Go.WideShapes Go.ChangeAt Go.RowKit
open Go.ChangeMaps (open_string shut_string)
set_option linter.unusedVariables false      -- a walk need not use every 'w<i>' (that an integer argument fits its kind)

theorem own : ownKnob Trym.prog.godebug = none := by kernel_rfl

/-! ### STEP 1: THE WALK: the Go text returns true. 'Grown w w'': the world has at most new blocks (Derived/RowKit3.lean). Part the cases AHEAD of 'go_enter' where a test parts the walk; take each callee by a contract of your own. -/
theorem grown_trans {a b c : World} (h : Grown a b) (k : Grown b c) : Grown a c :=
  ⟨World.keptBut_trans h.1 k.1, fun x => (k.2.1 x).trans (h.2.1 x), Nat.le_trans h.2.2 k.2.2⟩

theorem bytes_any (a0 : ByteArray) (a1 a2 a3 : Bool) (w0 : a0.size ≤ maxLen) (hs : a0.size ≤ 1048576) (w : World) :
    Calls Trym.prog 7 #[.string a0, .bool a1, .bool a2, .bool a3] w fun e w' => e = .returned (.bool true) ∧ w' = w := by
  unfold maxLen at w0
  go_enter Trym.func7, Trym.ntmps7
  go_wp2
  go_ret
  exact ⟨rfl, rfl⟩

theorem bytes_no (a0 : ByteArray) (a1 a2 a3 : Bool) (w0 : a0.size ≤ maxLen) (hs : 1048576 < a0.size) (w : World) :
    Calls Trym.prog 7 #[.string a0, .bool a1, .bool a2, .bool a3] w fun e w' => e = .returned (.bool false) ∧ w' = w := by
  unfold maxLen at w0
  go_enter Trym.func7, Trym.ntmps7
  go_wp2
  go_ret
  exact ⟨rfl, rfl⟩

theorem als_any (f h k : Bool) (w : World) : Dec ⟨#[97, 108, 119, 97, 121, 115]⟩ true false false f h k w :=
  dec_any _ _ _ _ _ _ _ w (by decide +kernel) (by decide +kernel) (by decide +kernel)

theorem man_any (f h k : Bool) (w : World) : Dec ⟨#[109, 97, 110, 117, 97, 108]⟩ false false true f h k w :=
  dec_any _ _ _ _ _ _ _ w (by decide +kernel) (by decide +kernel) (by decide +kernel)

/-- the third call's answer: of a job held back it is settled; else any -/
theorem when_any (s : ByteArray) (f h k : Bool) (w : World) :
    ∃ z b, ((h && !f) = true → z = 0 ∧ b = false) ∧ ∀ w, Calls Trym.prog 6 #[.string s, .bool f, .bool h, .bool k] w fun e w' => e = .returned (.tuple #[.int .i64 z, .bool b]) ∧ Grown w w' :=
  ⟨_, _, fun h => by simp [dst, dok, h], fun w => dec_any s _ _ _ f h k w rfl rfl rfl⟩

set_option maxHeartbeats 2000000 in
theorem walk_in (a0 : ByteArray) (a1 a2 a3 : Bool) (w0 : a0.size ≤ maxLen) (w : World) (hs : a0.size ≤ 1048576) :
    Calls Trym.prog 4 #[.string a0, .bool a1, .bool a2, .bool a3] w fun e w' => e = .returned (.bool true) ∧ Grown w w' := by
  have hb := bytes_any a0 a1 a2 a3 w0 hs w
  obtain ⟨z, b, hh, hc⟩ := when_any a0 a1 a2 a3 w
  have Hc : Hid (∀ w, Calls Trym.prog 6 #[.string a0, .bool a1, .bool a2, .bool a3] w fun e w' => e = .returned (.tuple #[.int .i64 z, .bool b]) ∧ Grown w w') := hc
  clear hc
  cases a1 <;> cases a2
  all_goals
    cases a3
    all_goals
      first | (obtain ⟨rfl, rfl⟩ := hh rfl; clear hh) | (clear hh; cases b)
      all_goals
        go_enter Trym.func4, Trym.ntmps4
        go_wp2_with fail
        refine hb.mono ?_
        rintro e w' ⟨rfl, rfl⟩
        clear hb
        go_wp2_with fail
        refine Calls.mono (als_any _ _ _ _) ?_
        rintro e w1 ⟨rfl, g1⟩
        simp only [dst, dok]
        go_wp2_with fail
        refine Calls.mono (man_any _ _ _ _) ?_
        rintro e w2 ⟨rfl, g2⟩
        simp only [dst, dok]
        go_wp2_with fail
        refine Calls.mono (Hc.out _) ?_
        rintro e w3 ⟨rfl, g3⟩
        go_wp2
        go_ret
        exact ⟨rfl, grown_trans g1 (grown_trans g2 g3)⟩

theorem walk (a0 : ByteArray) (a1 : Bool) (a2 : Bool) (a3 : Bool) (w0 : a0.size ≤ maxLen) (w : World) :
    Calls Trym.prog 4 #[.string a0, .bool a1, .bool a2, .bool a3] w fun e w' => e = .returned (.bool true) ∧ Grown w w' := by
  by_cases hs : a0.size ≤ 1048576
  · exact walk_in a0 a1 a2 a3 w0 w hs
  · have hb := bytes_no a0 a1 a2 a3 w0 (by omega) w
    go_enter Trym.func4, Trym.ntmps4
    go_wp2_with fail
    refine hb.mono ?_
    rintro e w' ⟨rfl, rfl⟩
    clear hb
    go_wp2
    go_ret
    exact ⟨rfl, Grown.refl _⟩

/-! ### THE ROW's STEP: WRITTEN OUT: LEAVE IT -/
set_option maxRecDepth 100000 in
theorem lifted (os : Os) (started : os.Started) (H : Type) (enc : TypeId × Value → H) :
    ReturnsInHanded {} Trym.checked os 4 .any (Rows.fnDecideAlwaysRunsUnlessHeldManualNeverBySelfSpec.pre6 enc Trym.prog Trym.f4 Rows.fnDecideAlwaysRunsUnlessHeldManualNeverBySelfRow.domain false) (Rows.fnDecideAlwaysRunsUnlessHeldManualNeverBySelfSpec.post enc Trym.prog Trym.f4 false true false false) := by
  refine returnsInHanded_of_change (C := Trym.checked) own started (by kernel_rfl) Trym.func4
    (ChangeSpec.witness6 (enc := enc) (C := Trym.checked) false ⟨#[], #[.string ByteArray.empty, .bool false, .bool false, .bool false], []⟩ 8 (by kernel_rfl) (by kernel_rfl) (by kernel_rfl) (by kernel_rfl)) ?_
  intro W base args ds gs before hval0 hW hcnd _
  have hval : ∀ (j : Nat) t v, Trym.f4.params[j]? = some t → args[j]? = some v → Value.okWide Trym.prog W .any base t v := hval0
  have hW' := hW
  obtain ⟨p, q, hA0, hV, rfl, hfz, hnd⟩ := hW
  have hA : DataW.TrodAll enc Trym.prog W 0 (fun _ => true) true Trym.f4.params.toList args.toList ds p := hA0
  rw [Trym.params4] at hA hval
  obtain ⟨v0, vs0, d0, ds0, p0, q0, hargs, rfl, rfl, h0, r0⟩ := trodAll_cons hA
  obtain ⟨v1, vs1, d1, ds1, p1, q1, rfl, rfl, rfl, h1, r1⟩ := trodAll_cons r0
  obtain ⟨v2, vs2, d2, ds2, p2, q2, rfl, rfl, rfl, h2, r2⟩ := trodAll_cons r1
  obtain ⟨v3, vs3, d3, ds3, p3, q3, rfl, rfl, rfl, h3, r3⟩ := trodAll_cons r2
  obtain ⟨rfl, rfl, rfl⟩ := trodAll_nil r3
  obtain rfl : args = #[v0, v1, v2, v3] := by cases args; simp_all
  obtain ⟨rfl, rfl⟩ := trodVars_none hV
  obtain ⟨a0, rfl, rfl, rfl, w0⟩ := open_string Trym.underlying9 (hval 0 9 v0 rfl rfl) h0
  obtain ⟨a1, rfl, rfl, rfl⟩ := open_bool Trym.underlying4 (hval 1 4 v1 rfl rfl) h1
  obtain ⟨a2, rfl, rfl, rfl⟩ := open_bool Trym.underlying4 (hval 2 4 v2 rfl rfl) h2
  obtain ⟨a3, rfl, rfl, rfl⟩ := open_bool Trym.underlying4 (hval 3 4 v3 rfl rfl) h3
  clear hA0 hval0
  simp only [List.append_nil] at hW'
  refine (walk a0 a1 a2 a3 w0 W).mono fun e W' ⟨he, hg⟩ => ?_
  subst he
  exact ⟨_, rfl, post_of_same (pa := []) (pv := []) hW' (fun _ _ _ => (trodAll_cons_mk (shut_bool Trym.underlying4 _) trodAll_mk0)) (fun sp _ => (trodAll_cons_mk (shut_string Trym.underlying9 w0) (trodAll_cons_mk (shut_bool Trym.underlying4 _) (trodAll_cons_mk (shut_bool Trym.underlying4 _) (trodAll_cons_mk (shut_bool Trym.underlying4 _) trodAll_mk0))))) (fun _ _ => rfl) rfl
    (hg.frame _) hg.2.1 (ok_one (by kernel_rfl) rfl (okWide_bool_mk Trym.underlying4 _))⟩

theorem over : Rows.fnDecideAlwaysRunsUnlessHeldManualNeverBySelfRow.holds Trym.pinned (OpenSpec.ofChange Rows.fnDecideAlwaysRunsUnlessHeldManualNeverBySelfSpec) :=
  OpenClaim.holds_of_wide 4 Trym.f4 rfl rfl rfl rfl rfl rfl rfl ⟨rfl, rfl, rfl, rfl, rfl⟩ rfl rfl rfl rfl rfl (by kernel_rfl) Trym.func4 (by kernel_rfl)
    (of_decide_eq_true (by kernel_rfl)) (by unfold Func.isWrapper; first | (rw [if_pos (by decide +kernel)]; kernel_rfl) | (rw [if_neg (by decide +kernel)]; exact ⟨rfl, rfl⟩))
    (fun os started H enc _ => lifted os started H enc)

/-- ████ THE STATEMENT ████ -/
theorem proved : Rows.FnDecideAlwaysRunsUnlessHeldManualNeverBySelfSaid :=
  over
end Go.Proofs.Qxb6612843aMods.fnDecideAlwaysRunsUnlessHeldManualNeverBySelf

namespace Go.Proofs.Qxb6612843aMods
theorem alwaysProved : Rows.FnDecideAlwaysRunsUnlessHeldManualNeverBySelfSaid := fnDecideAlwaysRunsUnlessHeldManualNeverBySelf.proved
end Go.Proofs.Qxb6612843aMods
