/- The callees of the two laws over validBound. -/
import Derived.Test.Qxb6613613aModsRows
import Derived.WalkKit
import Derived.ProofKit
import Derived.OpenShut
import Derived.ShutString
import Derived.BigQuiet
namespace Go.Proofs.Qxb6613613aMods
open Go.ChangeShapes Go.WideShapes Go.ChangeAt Go.RowKit

/-- w' is w with new blocks laid behind it: what was there has not turned -/
structure Gr (w w' : World) : Prop where
  b : Below w.heap.size w w'
  f : ∀ a, w'.frozen? a = w.frozen? a

theorem Gr.refl (w : World) : Gr w w := ⟨Below.refl _ _, fun _ => rfl⟩
theorem Gr.trans {a b c : World} (h : Gr a b) (k : Gr b c) : Gr a c := ⟨h.b.trans (k.b.mono h.b.size), fun x => (k.f x).trans (h.f x)⟩
theorem Gr.alloc {a w : World} (h : Gr a w) (c : Array Value) (t : TypeId) : Gr a (w.alloc (.cells c t)) := ⟨h.b.alloc h.b.size _, fun x => (frozen?_alloc_cells _ _ _ x).trans (h.f x)⟩
theorem Gr.drew {a w : World} (h : Gr a w) : Gr a w.drew := ⟨h.b.drew, h.f⟩
theorem Gr.drewN {a w : World} (h : Gr a w) (n : Nat) : Gr a (w.drewN n) := ⟨⟨h.b.os, h.b.tape, h.b.output, h.b.size, h.b.block⟩, h.f⟩
theorem Gr.setCell {a w : World} (h : Gr a w) {p : Addr} (hp : a.heap.size ≤ p.block) (u : Value) : Gr a (w.setCell p u) := ⟨h.b.setCell hp u, fun x => (World.frozen?_setCell _ _ _ _).trans (h.f x)⟩
theorem Gr.grown {a w : World} (h : Gr a w) : Grown a w := ⟨h.b.frame _, h.f, h.b.size⟩
theorem Gr.cells {a w : World} (h : Gr a w) : (∀ b o, b < a.heap.size → w.cell? ⟨b, o, none⟩ = a.cell? ⟨b, o, none⟩) ∧ (∀ b o, w.frozen? ⟨b, o, none⟩ = a.frozen? ⟨b, o, none⟩) ∧ a.heap.size ≤ w.heap.size :=
  ⟨fun b o hb => h.b.cell (p := ⟨b, o, none⟩) hb, fun _ _ => h.f _, h.b.size⟩

theorem newpred_any (id : ByteArray) (s n : Int) (an : Bool) (w : World) :
    Calls Trym.prog 8 #[.string id, .int .i64 s, .int .i32 n, .bool an] w fun e w' => e = .returned (.agg #[.string id, .int .i64 s, .int .i32 n, .bool an]) ∧ Gr w w' := by
  go_enter Trym.func8, Trym.ntmps8
  go_wp2
  exact bodyPost_ret (v := .agg #[.string id, .int .i64 s, .int .i32 n, .bool an]) (by simp [results, Trym.results8, go_sem]) rfl ⟨rfl, by repeat (first | with_reducible exact Gr.refl _ | with_reducible apply Gr.drew | with_reducible apply Gr.alloc)⟩

theorem anchor_any (id : ByteArray) (s n : Int) (an : Bool) (w : World) :
    Calls Trym.prog 19 #[.agg #[.string id, .int .i64 s, .int .i32 n, .bool an]] w fun e w' => e = .returned (.tuple #[.agg #[.int .i64 s, .int .i32 n], .bool an]) ∧ w' = ((w.alloc (.cells #[.string id, .int .i64 s, .int .i32 n, .bool an] 27)).alloc (.cells #[.int .i64 s, .int .i32 n] 25)).drew := by
  go_enter Trym.func19, Trym.ntmps19
  go_wp2
  go_region
  all_goals
    go_wp2
    exact bodyPost_ret (v := .tuple #[.agg #[.int .i64 s, .int .i32 n], .bool an]) (by simp [results, Trym.results19, go_sem]) rfl ⟨rfl, rfl⟩

theorem always_to (w : World) :
    Calls Trym.prog 20 #[.bool true] w fun e w' => e = .returned (.agg #[.int .i64 9223372036854775807, .int .i32 0]) ∧ w' = w.alloc (.cells #[.int .i64 9223372036854775807, .int .i32 0] 25) := by
  go_enter Trym.func20, Trym.ntmps20
  go_wp2
  exact bodyPost_ret (v := .agg #[.int .i64 9223372036854775807, .int .i32 0]) (by simp [results, Trym.results20, go_sem]) rfl ⟨rfl, rfl⟩

theorem always_from (w : World) :
    Calls Trym.prog 20 #[.bool false] w fun e w' => e = .returned (.agg #[.int .i64 (-9223372036854775808), .int .i32 0]) ∧ w' = w.alloc (.cells #[.int .i64 (-9223372036854775808), .int .i32 0] 25) := by
  go_enter Trym.func20, Trym.ntmps20
  go_wp2
  exact bodyPost_ret (v := .agg #[.int .i64 (-9223372036854775808), .int .i32 0]) (by simp [results, Trym.results20, go_sem]) rfl ⟨rfl, rfl⟩

theorem next_last (s n : Int) (w : World) (h0 : -62167219200 ≤ s) (h1 : s ≤ 253402300799) (h2 : (n == 999999999) = true) :
    Calls Trym.prog 21 #[.agg #[.int .i64 s, .int .i32 n]] w fun e w' => e = .returned (.agg #[.int .i64 (s + 1), .int .i32 0]) ∧ w' = (w.alloc (.cells #[.int .i64 s, .int .i32 n] 25)).alloc (.cells #[.int .i64 (s + 1), .int .i32 0] 25) := by
  go_enter Trym.func21, Trym.ntmps21
  go_wp2
  exact bodyPost_ret (v := .agg #[.int .i64 (s + 1), .int .i32 0]) (by simp [results, Trym.results21, go_sem]) rfl ⟨rfl, rfl⟩

theorem next_mid (s n : Int) (w : World) (h0 : 0 ≤ n) (h1 : n < 999999999) (h2 : (n == 999999999) = false) :
    Calls Trym.prog 21 #[.agg #[.int .i64 s, .int .i32 n]] w fun e w' => e = .returned (.agg #[.int .i64 s, .int .i32 (n + 1)]) ∧ w' = (w.alloc (.cells #[.int .i64 s, .int .i32 n] 25)).alloc (.cells #[.int .i64 s, .int .i32 (n + 1)] 25) := by
  go_enter Trym.func21, Trym.ntmps21
  go_wp2
  exact bodyPost_ret (v := .agg #[.int .i64 s, .int .i32 (n + 1)]) (by simp [results, Trym.results21, go_sem]) rfl ⟨rfl, rfl⟩

theorem parts2_any (s n : Int) (w : World) :
    Calls Trym.prog 9 #[.agg #[.int .i64 s, .int .i32 n]] w fun e w' => e = .returned (.tuple #[.int .i64 s, .int .i32 n]) ∧ Gr w w' := by
  go_enter Trym.func9, Trym.ntmps9
  go_wp2
  go_quiet (fail)
  go_wp2
  go_ret2
  exact ⟨rfl, ((Gr.refl _).alloc _ _).drewN _⟩

set_option maxHeartbeats 400000 in
theorem vb_not_to (id : ByteArray) (s n : Int) (w : World) :
    Calls Trym.prog 17 #[.agg #[.string id, .int .i64 s, .int .i32 n, .bool false], .bool true] w fun e w' => e = .returned (.agg #[.int .i64 9223372036854775807, .int .i32 0]) ∧ Gr w w' := by
  go_enter Trym.func17, Trym.ntmps17
  go_wp2_with fail
  refine (anchor_any _ _ _ _ _).mono ?_
  rintro e w1 ⟨rfl, rfl⟩
  go_wp2_with fail
  refine (always_to _).mono ?_
  rintro e w2 ⟨rfl, rfl⟩
  go_wp2
  exact bodyPost_ret (v := .agg #[.int .i64 9223372036854775807, .int .i32 0]) (by simp [results, Trym.results17, go_sem]) rfl ⟨rfl, by repeat (first | with_reducible exact Gr.refl _ | with_reducible apply Gr.drew | with_reducible apply Gr.drewN | with_reducible apply Gr.alloc)⟩

set_option maxHeartbeats 400000 in
theorem vb_not_from (id : ByteArray) (s n : Int) (w : World) :
    Calls Trym.prog 17 #[.agg #[.string id, .int .i64 s, .int .i32 n, .bool false], .bool false] w fun e w' => e = .returned (.agg #[.int .i64 (-9223372036854775808), .int .i32 0]) ∧ Gr w w' := by
  go_enter Trym.func17, Trym.ntmps17
  go_wp2_with fail
  refine (anchor_any _ _ _ _ _).mono ?_
  rintro e w1 ⟨rfl, rfl⟩
  go_wp2_with fail
  refine (always_from _).mono ?_
  rintro e w2 ⟨rfl, rfl⟩
  go_wp2
  exact bodyPost_ret (v := .agg #[.int .i64 (-9223372036854775808), .int .i32 0]) (by simp [results, Trym.results17, go_sem]) rfl ⟨rfl, by repeat (first | with_reducible exact Gr.refl _ | with_reducible apply Gr.drew | with_reducible apply Gr.drewN | with_reducible apply Gr.alloc)⟩

set_option maxHeartbeats 400000 in
theorem vb_last (id : ByteArray) (s n : Int) (w : World) (h0 : -62167219200 ≤ s) (h1 : s ≤ 253402300799) (h2 : (n == 999999999) = true) :
    Calls Trym.prog 17 #[.agg #[.string id, .int .i64 s, .int .i32 n, .bool true], .bool true] w fun e w' => e = .returned (.agg #[.int .i64 (s + 1), .int .i32 0]) ∧ Gr w w' := by
  go_enter Trym.func17, Trym.ntmps17
  go_wp2_with fail
  refine (anchor_any _ _ _ _ _).mono ?_
  rintro e w1 ⟨rfl, rfl⟩
  go_wp2_with fail
  refine (next_last _ _ _ h0 h1 h2).mono ?_
  rintro e w2 ⟨rfl, rfl⟩
  go_wp2
  exact bodyPost_ret (v := .agg #[.int .i64 (s + 1), .int .i32 0]) (by simp [results, Trym.results17, go_sem]) rfl ⟨rfl, by repeat (first | with_reducible exact Gr.refl _ | with_reducible apply Gr.drew | with_reducible apply Gr.drewN | with_reducible apply Gr.alloc)⟩

set_option maxHeartbeats 400000 in
theorem vb_mid (id : ByteArray) (s n : Int) (w : World) (h0 : 0 ≤ n) (h1 : n < 999999999) (h2 : (n == 999999999) = false) :
    Calls Trym.prog 17 #[.agg #[.string id, .int .i64 s, .int .i32 n, .bool true], .bool true] w fun e w' => e = .returned (.agg #[.int .i64 s, .int .i32 (n + 1)]) ∧ Gr w w' := by
  go_enter Trym.func17, Trym.ntmps17
  go_wp2_with fail
  refine (anchor_any _ _ _ _ _).mono ?_
  rintro e w1 ⟨rfl, rfl⟩
  go_wp2_with fail
  refine (next_mid _ _ _ h0 h1 h2).mono ?_
  rintro e w2 ⟨rfl, rfl⟩
  go_wp2
  exact bodyPost_ret (v := .agg #[.int .i64 s, .int .i32 (n + 1)]) (by simp [results, Trym.results17, go_sem]) rfl ⟨rfl, by repeat (first | with_reducible exact Gr.refl _ | with_reducible apply Gr.drew | with_reducible apply Gr.drewN | with_reducible apply Gr.alloc)⟩

set_option maxHeartbeats 400000 in
theorem vb_from (id : ByteArray) (s n : Int) (w : World) :
    Calls Trym.prog 17 #[.agg #[.string id, .int .i64 s, .int .i32 n, .bool true], .bool false] w fun e w' => e = .returned (.agg #[.int .i64 s, .int .i32 n]) ∧ Gr w w' := by
  go_enter Trym.func17, Trym.ntmps17
  go_wp2_with fail
  refine (anchor_any _ _ _ _ _).mono ?_
  rintro e w1 ⟨rfl, rfl⟩
  go_wp2
  exact bodyPost_ret (v := .agg #[.int .i64 s, .int .i32 n]) (by simp [results, Trym.results17, go_sem]) rfl ⟨rfl, by repeat (first | with_reducible exact Gr.refl _ | with_reducible apply Gr.drew | with_reducible apply Gr.drewN | with_reducible apply Gr.alloc)⟩

set_option maxHeartbeats 400000 in
theorem zvb (id : ByteArray) (s n x y : Int) (an to : Bool) (w : World)
    (H : Hid (∀ w, Calls Trym.prog 17 #[.agg #[.string id, .int .i64 s, .int .i32 n, .bool an], .bool to] w fun e w' => e = .returned (.agg #[.int .i64 x, .int .i32 y]) ∧ Gr w w')) :
    Calls Trym.prog 10 #[.agg #[.string id, .int .i64 s, .int .i32 n, .bool an], .bool to] w fun e w' => e = .returned (.agg #[.int .i64 x, .int .i32 y]) ∧ Gr w w' := by
  go_enter Trym.func10, Trym.ntmps10
  go_wp2_with fail
  refine (H.out _).mono ?_
  rintro e w1 ⟨rfl, g1⟩
  obtain ⟨hc, hf, hz⟩ := g1.cells
  have c0 := hc (w.heap.size + 1) 0 (by simp)
  have c1 := hc (w.heap.size + 1) 1 (by simp)
  have f0 := hf (w.heap.size + 1) 0
  have f1 := hf (w.heap.size + 1) 1
  clear hc hf
  have G : Hid (Gr w w1) := ((((Gr.refl _).alloc _ _).alloc _ _).trans g1)
  clear g1
  go_wp2
  refine bodyPost_ret (v := .agg #[.int .i64 x, .int .i32 y]) (by simp [results, Trym.results10, go_sem, c0, c1]) rfl ⟨rfl, ?_⟩
  exact (Gr.setCell (Gr.setCell G.out (by simp) _) (by simp) _)

theorem span_yes (s n : Int) (h1 : -62167219200 ≤ s) (h2 : s ≤ 253402300799) (h3 : 0 ≤ n) (h4 : n ≤ 999999999) (w : World) :
    Calls Trym.prog 7 #[.int .i64 s, .int .i32 n] w fun e w' => e = .returned (.bool true) ∧ w' = w := by
  go_enter Trym.func7, Trym.ntmps7
  go_wp2
  go_ret
  exact ⟨rfl, rfl⟩

theorem span_no (s n : Int) (h : ¬ (-62167219200 ≤ s ∧ s ≤ 253402300799 ∧ 0 ≤ n ∧ n ≤ 999999999)) (w : World) :
    Calls Trym.prog 7 #[.int .i64 s, .int .i32 n] w fun e w' => e = .returned (.bool false) ∧ w' = w := by
  by_cases h1 : -62167219200 ≤ s
  · by_cases h2 : s ≤ 253402300799
    · by_cases h3 : 0 ≤ n
      · have h4 : ¬ n ≤ 999999999 := fun h4 => h ⟨h1, h2, h3, h4⟩
        clear h
        go_enter Trym.func7, Trym.ntmps7
        go_wp2
        go_ret
        exact ⟨rfl, rfl⟩
      · clear h
        go_enter Trym.func7, Trym.ntmps7
        go_wp2
        go_ret
        exact ⟨rfl, rfl⟩
    · clear h
      go_enter Trym.func7, Trym.ntmps7
      go_wp2
      go_ret
      exact ⟨rfl, rfl⟩
  · clear h
    go_enter Trym.func7, Trym.ntmps7
    go_wp2
    go_ret
    exact ⟨rfl, rfl⟩

def lessB (a b c d : Int) : Bool := decide (a < c) || ((a == c) && decide (b < d))

theorem less_any (a b c d : Int) (w : World) :
    Calls Trym.prog 11 #[.int .i64 a, .int .i32 b, .int .i64 c, .int .i32 d] w fun e w' => e = .returned (.bool (lessB a b c d)) ∧ w' = w := by
  by_cases h1 : a < c
  · have e : Hid (lessB a b c d = true) := by show lessB a b c d = true; simp [lessB, h1]
    go_enter Trym.func11, Trym.ntmps11
    go_wp2
    go_ret
    exact ⟨by rw [e.out]; rfl, rfl⟩
  · cases h2 : (a == c)
    · have e : Hid (lessB a b c d = false) := by show lessB a b c d = false; simp [lessB, h1, h2]
      go_enter Trym.func11, Trym.ntmps11
      go_wp2
      go_ret
      exact ⟨by rw [e.out]; rfl, rfl⟩
    · have e : Hid (lessB a b c d = decide (b < d)) := by show lessB a b c d = decide (b < d); simp [lessB, h1, h2]
      go_enter Trym.func11, Trym.ntmps11
      go_wp2
      go_ret
      exact ⟨by rw [e.out]; rfl, rfl⟩

end Go.Proofs.Qxb6613613aMods
