/- The clones: cloneInts, cloneBools, clone32, cloneInts2, clone32x3. -/
import Derived.Test.Qxb6003132aModsBase
namespace Go.Proofs.Qxb6003132aMods
open Go.RowKit
set_option linter.unusedVariables false

set_option maxHeartbeats 400000 in
theorem cloneInts_any (ao : Option Addr) (n cap lo : Nat) (f : Nat → Int) (w : World) (hn : n ≤ 1048576) (h : Sl w lo ao n (fun i => .int .i64 (f i))) :
    Calls Trym.prog 12 #[.slice ao n cap] w fun e w' => ∃ ao' cap', e = .returned (.slice ao' n cap') ∧ Sl w' w.heap.size ao' n (fun i => .int .i64 (f i)) ∧ w.Since w.heap.size w' := by
  cases ao with
  | none =>
    obtain rfl := h.none_zero
    have hnil := fun w => Lib.run_eql_slice_nil (P := Trym.prog) w 24 3 none 0 cap 0 0 Trym.underlying24
    go_enter Trym.func12, Trym.ntmps12
    go_wp2
    go_ret
    exact ⟨none, 0, rfl, Sl.nil _ _ _ _, World.Since.refl _ _⟩
  | some ad =>
    have hnil := fun w => Lib.run_eql_slice_nil (P := Trym.prog) w 24 3 (some ad) n cap 0 0 Trym.underlying24
    have hmk := run_make_row' (P := Trym.prog) 24 3 (.int .i64 0) 8 Trym.underlying24 Trym.info3 rfl .i64 .i64 n (by omega) (by omega)
    go_enter Trym.func12, Trym.ntmps12
    go_wp2
    clear hnil hmk
    go_loopg [4] n (fun g i wr => ∃ k : Nat, k ≤ n ∧ g = n - k ∧ i = .int .i64 k ∧ Fill w wr 3 n k (fun i => .int .i64 (f i)) (.int .i64 0))
    case atStart => exact ⟨0, Nat.zero_le _, rfl, rfl, Fill.start _ _ _ _ _⟩
    case round =>
      obtain ⟨k, hk, rfl, rfl, hF⟩ := hrel
      by_cases hlt : k < n
      · obtain ⟨b, o, e, _, hc⟩ := h.get (by omega)
        cases e
        have c1 := cell_since hF.since (hc k hlt)
        have c2 := hF.row.cell hlt
        have c3 := hF.row.frozen k
        clear hc h
        go_wp2
        go_roundg (n - (k + 1))
        case measure => go_light; omega
        case rel => go_light; exact ⟨k + 1, by omega, rfl, by simp, hF.step⟩
      · obtain rfl : k = n := by omega
        go_wp2
        go_ret
        exact ⟨_, _, rfl, hF.full, hF.since⟩

set_option maxHeartbeats 400000 in
theorem cloneBools_any (ao : Option Addr) (n cap lo : Nat) (f : Nat → Bool) (w : World) (hn : n ≤ 1048576) (h : Sl w lo ao n (fun i => .bool (f i))) :
    Calls Trym.prog 13 #[.slice ao n cap] w fun e w' => ∃ ao' cap', e = .returned (.slice ao' n cap') ∧ Sl w' w.heap.size ao' n (fun i => .bool (f i)) ∧ w.Since w.heap.size w' := by
  cases ao with
  | none =>
    obtain rfl := h.none_zero
    have hnil := fun w => Lib.run_eql_slice_nil (P := Trym.prog) w 30 4 none 0 cap 0 0 Trym.underlying30
    go_enter Trym.func13, Trym.ntmps13
    go_wp2
    go_ret
    exact ⟨none, 0, rfl, Sl.nil _ _ _ _, World.Since.refl _ _⟩
  | some ad =>
    have hnil := fun w => Lib.run_eql_slice_nil (P := Trym.prog) w 30 4 (some ad) n cap 0 0 Trym.underlying30
    have hmk := run_make_row' (P := Trym.prog) 30 4 (.bool false) 1 Trym.underlying30 Trym.info4 rfl .i64 .i64 n (by omega) (by omega)
    go_enter Trym.func13, Trym.ntmps13
    go_wp2
    clear hnil hmk
    go_loopg [4] n (fun g i wr => ∃ k : Nat, k ≤ n ∧ g = n - k ∧ i = .int .i64 k ∧ Fill w wr 4 n k (fun i => .bool (f i)) (.bool false))
    case atStart => exact ⟨0, Nat.zero_le _, rfl, rfl, Fill.start _ _ _ _ _⟩
    case round =>
      obtain ⟨k, hk, rfl, rfl, hF⟩ := hrel
      by_cases hlt : k < n
      · obtain ⟨b, o, e, _, hc⟩ := h.get (by omega)
        cases e
        have c1 := cell_since hF.since (hc k hlt)
        have c2 := hF.row.cell hlt
        have c3 := hF.row.frozen k
        clear hc h
        go_wp2
        go_roundg (n - (k + 1))
        case measure => go_light; omega
        case rel => go_light; exact ⟨k + 1, by omega, rfl, by simp, hF.step⟩
      · obtain rfl : k = n := by omega
        go_wp2
        go_ret
        exact ⟨_, _, rfl, hF.full, hF.since⟩

set_option maxHeartbeats 400000 in
theorem clone32_any (ao : Option Addr) (n cap lo : Nat) (f : Nat → Int) (w : World) (hn : n ≤ 1048576) (h : Sl w lo ao n (fun i => .int .i32 (f i))) :
    Calls Trym.prog 27 #[.slice ao n cap] w fun e w' => ∃ ao' cap', e = .returned (.slice ao' n cap') ∧ Sl w' w.heap.size ao' n (fun i => .int .i32 (f i)) ∧ w.Since w.heap.size w' := by
  cases ao with
  | none =>
    obtain rfl := h.none_zero
    have hnil := fun w => Lib.run_eql_slice_nil (P := Trym.prog) w 36 21 none 0 cap 0 0 Trym.underlying36
    go_enter Trym.func27, Trym.ntmps27
    go_wp2
    go_ret
    exact ⟨none, 0, rfl, Sl.nil _ _ _ _, World.Since.refl _ _⟩
  | some ad =>
    have hnil := fun w => Lib.run_eql_slice_nil (P := Trym.prog) w 36 21 (some ad) n cap 0 0 Trym.underlying36
    have hmk := run_make_row' (P := Trym.prog) 36 21 (.int .i32 0) 4 Trym.underlying36 Trym.info21 rfl .i64 .i64 n (by omega) (by omega)
    go_enter Trym.func27, Trym.ntmps27
    go_wp2
    clear hnil hmk
    go_loopg [4] n (fun g i wr => ∃ k : Nat, k ≤ n ∧ g = n - k ∧ i = .int .i64 k ∧ Fill w wr 21 n k (fun i => .int .i32 (f i)) (.int .i32 0))
    case atStart => exact ⟨0, Nat.zero_le _, rfl, rfl, Fill.start _ _ _ _ _⟩
    case round =>
      obtain ⟨k, hk, rfl, rfl, hF⟩ := hrel
      by_cases hlt : k < n
      · obtain ⟨b, o, e, _, hc⟩ := h.get (by omega)
        cases e
        have c1 := cell_since hF.since (hc k hlt)
        have c2 := hF.row.cell hlt
        have c3 := hF.row.frozen k
        clear hc h
        go_wp2
        go_roundg (n - (k + 1))
        case measure => go_light; omega
        case rel => go_light; exact ⟨k + 1, by omega, rfl, by simp, hF.step⟩
      · obtain rfl : k = n := by omega
        go_wp2
        go_ret
        exact ⟨_, _, rfl, hF.full, hF.since⟩

set_option maxHeartbeats 400000 in
theorem cloneInts2_any (ao : Option Addr) (n cap lo : Nat) (A : Nat → Option Addr) (L C : Nat → Nat) (E : Nat → Nat → Int) (w : World) (hn : n ≤ 1048576) (hL : ∀ i, i < n → L i ≤ 1048576)
    (h : Sl w lo ao n (fun i => .slice (A i) (L i) (C i))) (hr : ∀ i, i < n → Sl w lo (A i) (L i) (fun k => .int .i64 (E i k))) :
    Calls Trym.prog 7 #[.slice ao n cap] w fun e w' => ∃ (ao' : Option Addr) (cap' : Nat) (A' : Nat → Option Addr) (C' : Nat → Nat), e = .returned (.slice ao' n cap') ∧
      Sl w' w.heap.size ao' n (fun i => .slice (A' i) (L i) (C' i)) ∧ (∀ i, i < n → Sl w' w.heap.size (A' i) (L i) (fun k => .int .i64 (E i k))) ∧ w.Since w.heap.size w' := by
  cases ao with
  | none =>
    obtain rfl := h.none_zero
    have hnil := fun w => Lib.run_eql_slice_nil (P := Trym.prog) w 22 24 none 0 cap 0 0 Trym.underlying22
    go_enter Trym.func7, Trym.ntmps7
    go_wp2
    go_ret
    exact ⟨none, 0, fun _ => none, fun _ => 0, rfl, Sl.nil _ _ _ _, fun i hi => absurd hi (Nat.not_lt_zero _), World.Since.refl _ _⟩
  | some ad =>
    have hnil := fun w => Lib.run_eql_slice_nil (P := Trym.prog) w 22 24 (some ad) n cap 0 0 Trym.underlying22
    have hmk := run_make_row' (P := Trym.prog) 22 24 (.slice none 0 0) 24 Trym.underlying22 Trym.info24 rfl .i64 .i64 n (by omega) (by omega)
    go_enter Trym.func7, Trym.ntmps7
    go_wp2
    clear hnil hmk
    go_loopg [4] n (fun g i wr => ∃ (k : Nat) (A' : Nat → Option Addr) (C' : Nat → Nat), k ≤ n ∧ g = n - k ∧ i = .int .i64 k ∧ Fill w wr 24 n k (fun i => .slice (A' i) (L i) (C' i)) (.slice none 0 0) ∧
      ∀ i, i < k → Sl wr (w.heap.size + 1) (A' i) (L i) (fun k => .int .i64 (E i k)))
    case atStart => exact ⟨0, fun _ => none, fun _ => 0, Nat.zero_le _, rfl, rfl, Fill.start _ _ _ _ _, fun i hi => absurd hi (Nat.not_lt_zero _)⟩
    case round =>
      obtain ⟨k, A', C', hk, rfl, rfl, hF, hR⟩ := hrel
      by_cases hlt : k < n
      · obtain ⟨b, o, e, _, hc⟩ := h.get (by omega)
        cases e
        have c1 := cell_since hF.since (hc k hlt)
        have hrk := (hr k hlt).since hF.since
        have hLk := hL k hlt
        clear hc h hr hL
        go_wp2_with fail
        refine (cloneInts_any _ _ _ _ _ _ hLk hrk).mono ?_
        rintro e w1 ⟨ao1, cap1, rfl, hS1, hs1⟩
        have hF1 := hF.after hs1
        have c2 := hF1.row.cell hlt
        have c3 := hF1.row.frozen k
        clear c1 hrk
        go_wp2
        go_roundg (n - (k + 1))
        case measure => go_light; omega
        case rel =>
          go_light
          have hF2 : Fill w w1 24 n k (fun i => .slice ((fun i => if i = k then ao1 else A' i) i) (L i) ((fun i => if i = k then cap1 else C' i) i)) (.slice none 0 0) :=
            hF1.re (fun i hi => by simp [Nat.ne_of_lt hi])
          refine ⟨k + 1, fun i => if i = k then ao1 else A' i, fun i => if i = k then cap1 else C' i, by omega, rfl, by simp, by simpa using hF2.step, fun i hi => ?_⟩
          have hsz : w.heap.size + 1 ≤ wr.heap.size := hF.row.lt
          by_cases e : i = k
          · subst e
            simpa using (hS1.lower hsz).set (a := ⟨w.heap.size, i, none⟩) (Nat.lt_succ_self _) _
          · simpa [e] using ((hR i (by omega)).since hs1).set (a := ⟨w.heap.size, k, none⟩) (Nat.lt_succ_self _) _
      · obtain rfl : k = n := by omega
        go_wp2
        go_ret
        exact ⟨_, _, A', C', rfl, hF.full, fun i hi => (hR i hi).lower (Nat.le_succ _), hF.since⟩

set_option maxHeartbeats 1000000 in
theorem clone32x3_any (ao : Option Addr) (n cap lo : Nat) (A : Nat → Option Addr) (L C : Nat → Nat) (AA : Nat → Nat → Option Addr) (LL CC : Nat → Nat → Nat) (F : Nat → Nat → Nat → Int) (w : World)
    (hn : n ≤ 1048576) (hL : ∀ i, i < n → L i ≤ 1048576) (hLL : ∀ i, i < n → ∀ j, j < L i → LL i j ≤ 1048576)
    (h : Sl w lo ao n (fun i => .slice (A i) (L i) (C i))) (hm : ∀ i, i < n → Sl w lo (A i) (L i) (fun j => .slice (AA i j) (LL i j) (CC i j)))
    (hb : ∀ i, i < n → ∀ j, j < L i → Sl w lo (AA i j) (LL i j) (fun k => .int .i32 (F i j k))) :
    Calls Trym.prog 11 #[.slice ao n cap] w fun e w' => ∃ (ao' : Option Addr) (cap' : Nat) (A' : Nat → Option Addr) (C' : Nat → Nat) (AA' : Nat → Nat → Option Addr) (CC' : Nat → Nat → Nat), e = .returned (.slice ao' n cap') ∧
      Sl w' w.heap.size ao' n (fun i => .slice (A' i) (L i) (C' i)) ∧ (∀ i, i < n → Sl w' w.heap.size (A' i) (L i) (fun j => .slice (AA' i j) (LL i j) (CC' i j))) ∧ w.Since w.heap.size w' := by
  cases ao with
  | none =>
    obtain rfl := h.none_zero
    have hnil := fun w => Lib.run_eql_slice_nil (P := Trym.prog) w 33 35 none 0 cap 0 0 Trym.underlying33
    go_enter Trym.func11, Trym.ntmps11
    go_wp2
    go_ret
    exact ⟨none, 0, fun _ => none, fun _ => 0, fun _ _ => none, fun _ _ => 0, rfl, Sl.nil _ _ _ _, fun i hi => absurd hi (Nat.not_lt_zero _), World.Since.refl _ _⟩
  | some ad =>
    have hnil := fun w => Lib.run_eql_slice_nil (P := Trym.prog) w 33 35 (some ad) n cap 0 0 Trym.underlying33
    have hmk := run_make_row' (P := Trym.prog) 33 35 (.slice none 0 0) 24 Trym.underlying33 Trym.info35 rfl .i64 .i64 n (by omega) (by omega)
    go_enter Trym.func11, Trym.ntmps11
    go_wp2
    clear hnil hmk
    go_loopg [4] n (fun g i wr => ∃ (k : Nat) (A' : Nat → Option Addr) (C' : Nat → Nat) (AA' : Nat → Nat → Option Addr) (CC' : Nat → Nat → Nat), k ≤ n ∧ g = n - k ∧ i = .int .i64 k ∧ Fill w wr 35 n k (fun i => .slice (A' i) (L i) (C' i)) (.slice none 0 0) ∧
      ∀ i, i < k → Sl wr (w.heap.size + 1) (A' i) (L i) (fun j => .slice (AA' i j) (LL i j) (CC' i j)))
    case atStart => exact ⟨0, fun _ => none, fun _ => 0, fun _ _ => none, fun _ _ => 0, Nat.zero_le _, rfl, rfl, Fill.start _ _ _ _ _, fun i hi => absurd hi (Nat.not_lt_zero _)⟩
    case round =>
      obtain ⟨k, A', C', AA', CC', hk, rfl, rfl, hF, hR⟩ := hrel
      obtain ⟨wo, hwo⟩ : ∃ wo, wo = wr := ⟨_, rfl⟩
      subst hwo
      by_cases hlt : k < n
      · obtain ⟨b, o, e, _, hc⟩ := h.get (by omega)
        cases e
        have c1 := cell_since hF.since (hc k hlt)
        have hmk0 := (hm k hlt)
        have hbk := hb k hlt
        have hLk := hL k hlt
        have hLLk := hLL k hlt
        have hck := hc k hlt
        clear hc h hm hL hLL hb
        cases hA : A k with
        | none =>
          rw [hA] at c1 hmk0
          have hL0 := hmk0.none_zero
          have hnil := fun w => Lib.run_eql_slice_nil (P := Trym.prog) w 35 36 none (L k) (C k) 0 0 Trym.underlying35
          have HL0 : Hid (L k = 0) := hL0
          clear hL0 hmk0 hbk hck hA
          go_wp2
          go_roundg (n - (k + 1))
          case measure => go_light; omega
          case rel =>
            go_light
            have hL0 := HL0.out
            refine ⟨k + 1, fun i => if i = k then none else A' i, fun i => if i = k then 0 else C' i, AA', CC', by omega, rfl, by simp, ⟨hF.since, hF.row.congr fun i _ => ?_⟩, fun i hi => ?_⟩
            · by_cases e : i = k
              · subst e; simp [hL0]
              · by_cases hik : i < k
                · simp [hik, e, Nat.lt_succ_of_lt hik]
                · simp [hik, show ¬ i < k + 1 by omega]
            · by_cases e : i = k
              · subst e; rw [hL0]; exact Sl.nil _ _ _ _
              · simpa [e] using hR i (by omega)
        | some ad1 =>
          rw [hA] at c1 hmk0 hck
          have hnil := fun w => Lib.run_eql_slice_nil (P := Trym.prog) w 35 36 (some ad1) (L k) (C k) 0 0 Trym.underlying35
          have hmk := run_make_row' (P := Trym.prog) 35 36 (.slice none 0 0) 24 Trym.underlying35 Trym.info36 rfl .i64 .i64 (L k) (by omega) (by omega)
          clear hA
          go_wp2
          clear hnil hmk
          go_loopg [6] (L k) (fun g i wi => ∃ (c : Nat) (AAk : Nat → Option Addr) (CCk : Nat → Nat), c ≤ L k ∧ g = L k - c ∧ i = .int .i64 c ∧ Fill wo wi 36 (L k) c (fun j => .slice (AAk j) (LL k j) (CCk j)) (.slice none 0 0))
          case atStart => exact ⟨0, fun _ => none, fun _ => 0, Nat.zero_le _, rfl, rfl, Fill.start _ _ _ _ _⟩
          case round =>
            obtain ⟨c, AAk, CCk, hcL, rfl, rfl, hFi⟩ := hrel
            have hsw := since_trans hF.since hFi.since
            have c1' := cell_since hsw hck
            by_cases hlc : c < L k
            · obtain ⟨b1, o1, e1, _, hc1⟩ := hmk0.get (by omega)
              cases e1
              have c4 := cell_since hsw (hc1 c hlc)
              have hS := (hbk c hlc).since hsw
              have hLc := hLLk c hlc
              clear hc1 hmk0 hbk hLLk c1 hck hsw
              go_wp2_with fail
              refine (clone32_any _ _ _ _ _ _ hLc hS).mono ?_
              rintro e w2 ⟨ao2, cap2, rfl, hS2, hs2⟩
              have hF2 := hFi.after hs2
              have c5 := hF2.row.cell hlc
              have c6 := hF2.row.frozen c
              clear c1' c4 hS
              go_wp2
              go_roundg (L k - (c + 1))
              case measure => go_light; omega
              case rel =>
                go_light
                have hF3 : Fill _ w2 36 (L k) c (fun j => .slice ((fun j => if j = c then ao2 else AAk j) j) (LL k j) ((fun j => if j = c then cap2 else CCk j) j)) (.slice none 0 0) :=
                  hF2.re (fun i hi => by simp [Nat.ne_of_lt hi])
                exact ⟨c + 1, fun j => if j = c then ao2 else AAk j, fun j => if j = c then cap2 else CCk j, by omega, rfl, by simp, by simpa using hF3.step⟩
            · obtain rfl : c = L k := by omega
              have hF1 := hF.after hFi.since
              have c2 := hF1.row.cell hlt
              have c3 := hF1.row.frozen k
              clear hmk0 hbk hLLk c1 hck hsw
              go_wp2
              go_roundg (n - (k + 1))
              case measure => go_light; omega
              case rel =>
                go_light
                have hF2 : Fill w wr 35 n k (fun i => .slice ((fun i => if i = k then some ⟨wo.heap.size, 0, none⟩ else A' i) i) (L i) ((fun i => if i = k then L k else C' i) i)) (.slice none 0 0) :=
                  hF1.re (fun i hi => by simp [Nat.ne_of_lt hi])
                refine ⟨k + 1, fun i => if i = k then some ⟨wo.heap.size, 0, none⟩ else A' i, fun i => if i = k then L k else C' i, fun i j => if i = k then AAk j else AA' i j, fun i j => if i = k then CCk j else CC' i j, by omega, rfl, by simp, by simpa using hF2.step, fun i hi => ?_⟩
                have hsz : w.heap.size + 1 ≤ wo.heap.size := hF.row.lt
                by_cases e : i = k
                · subst e
                  simpa using (hFi.full.lower hsz).set (a := ⟨w.heap.size, i, none⟩) (Nat.lt_succ_self _) _
                · simpa [e] using ((hR i (by omega)).since hFi.since).set (a := ⟨w.heap.size, k, none⟩) (Nat.lt_succ_self _) _
      · obtain rfl : k = n := by omega
        go_wp2
        go_ret
        exact ⟨_, _, A', C', AA', CC', rfl, hF.full, fun i hi => (hR i hi).lower (Nat.le_succ _), hF.since⟩

end Go.Proofs.Qxb6003132aMods
