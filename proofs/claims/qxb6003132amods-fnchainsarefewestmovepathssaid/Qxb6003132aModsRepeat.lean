import Derived.Test.Qxb6003132aModsBase
import Derived.Laws.Bits64b
import Derived.Laws.CopyOwn
import Derived.Deep.RegionLaw
namespace Go.Proofs.Qxb6003132aMods
open Go.RowKit
set_option linter.unusedVariables false
theorem mask_u64 (a : Nat) (ha : a < 4294967296) : bits .and .u64 (a : Int) 4294967295 = (a : Int) := by
  have h := bits_and_u64_nat a 4294967295 (by omega) (by omega)
  have e : a &&& 4294967295 = a % 4294967296 := Nat.and_two_pow_sub_one_eq_mod a 32
  rw [e, Nat.mod_eq_of_lt ha] at h
  exact h
theorem wrap_u64 (a : Nat) (ha : a < 4294967296) : IntKind.u64.wrap (a : Int) = (a : Int) := by rw [IntKind.wrap_u64]; omega

set_option maxHeartbeats 400000 in
theorem mul_any (n : Nat) (hn : n ≤ 1048576) (w : World) :
    Calls Trym.prog 33 #[.int .u64 1, .int .u64 n] w fun e w' => e = .returned (.tuple #[.int .u64 0, .int .u64 n]) ∧ w' = w := by
  have m1 : bits .and .u64 1 4294967295 = 1 := mask_u64 1 (by omega)
  have m0 : bits .and .u64 0 4294967295 = 0 := mask_u64 0 (by omega)
  have mn := mask_u64 n (by omega)
  have wn := wrap_u64 n (by omega)
  have w0 : IntKind.u64.wrap 0 = 0 := wrap_u64 0 (by omega)
  have dn : (n : Int) / 4294967296 = 0 := by omega
  go_enter Trym.func33, Trym.ntmps33
  go_wp2
  go_ret2
  exact ⟨rfl, rfl⟩

/-- k cells of x, then zeros -/
def half (n k : Nat) (v : Int) : List Value := List.replicate k (.int .i64 v) ++ List.replicate (n - k) (.int .i64 0)

theorem made_list (z : Value) (n : Nat) : madeCells #[z] n = (List.replicate n z).toArray := by
  apply Array.ext
  · simp [size_madeCells]
  · intro i h1 h2
    simp [madeCells, Nat.mod_one]

theorem half_first (n : Nat) (v : Int) (hn : 0 < n) : splice (List.replicate n (Value.int .i64 0)) 0 [Value.int .i64 v] = half n 1 v := by
  simp [splice, half]

theorem half_next (n k : Nat) (v : Int) (hk : k ≤ n) : splice (half n k v) k (List.replicate (Nat.min k (n - k)) (Value.int .i64 v)) = half n (k + Nat.min k (n - k)) v := by
  have e1 : (half n k v).take k = List.replicate k (.int .i64 v) := by
    rw [half, List.take_append_of_le_length (by simp)]; simp
  have e2 : (half n k v).drop (k + Nat.min k (n - k)) = List.replicate (n - (k + Nat.min k (n - k))) (.int .i64 0) := by
    rw [half, List.drop_append]; simp; omega
  simp only [splice, List.length_replicate, e1, e2]
  rw [← List.append_assoc, List.replicate_append_replicate]
  rfl

theorem half_full (w : World) (b n : Nat) (v : Int) (h : w.heap[b]? = some (.cells (half n n v).toArray 3 (0, 0))) : w.rowIs b 3 n (fun _ => .int .i64 v) :=
  ⟨_, h, by simp [half], fun i hi => by simp [half, hi]⟩

theorem half_cell (w : World) (b n k j : Nat) (v : Int) (h : w.heap[b]? = some (.cells (half n k v).toArray 3 (0, 0))) (hj : j < k) : w.cell? ⟨b, j, none⟩ = some (.int .i64 v) := by
  simp [World.cell?, h, half, List.getElem?_append, hj]

def halfW (w : World) (b n k : Nat) (v : Int) : World := w.setRow b (half n k v).toArray

theorem half_src (w : World) (b n k m : Nat) (v : Int) (h : w.heap[b]? = some (.cells (half n k v).toArray 3 (0, 0))) (hm : m ≤ k) :
    ∀ j u, (List.replicate m (Value.int .i64 v))[j]? = some u → w.drew.cell? ((⟨b, 0, none⟩ : Addr).add j) = some u := by
  intro j u hj
  obtain ⟨hlt, he⟩ := List.getElem?_eq_some_iff.1 hj
  simp at hlt he
  subst he
  have := half_cell w b n k j v h (by omega)
  have e : (if j = 0 then (⟨b, 0, none⟩ : Addr) else ⟨b, j, none⟩) = ⟨b, j, none⟩ := by split <;> simp_all
  simpa [Addr.add, e] using this

theorem wrap_sum (k m : Nat) (h : k + m ≤ 1048576) : IntKind.i64.wrap ((k : Int) + (m : Int)) = ((k + m : Nat) : Int) := by
  rw [IntKind.wrap_i64]; omega

theorem size3 : (Trym.prog.info? 3).map (·.size) = some 1 := by kernel_rfl

set_option maxHeartbeats 400000 in
theorem repeat_any (xb n : Nat) (v : Int) (w : World) (hn : n ≤ 1048576) (hx : w.cell? ⟨xb, 0, none⟩ = some (.int .i64 v)) :
    Calls Trym.prog 30 #[.slice (some ⟨xb, 0, none⟩) 1 1, .int .i64 n] w fun e w' => e = .returned (.slice (some ⟨w.heap.size, 0, none⟩) n n) ∧ w'.rowIs w.heap.size 3 n (fun _ => .int .i64 v) ∧ w.Since w.heap.size w' := by
  have hmk := run_make_row' (P := Trym.prog) 24 3 (.int .i64 0) 8 Trym.underlying24 Trym.info3 rfl .i64 .i64 n (by omega) (by omega)
  have wn := wrap_u64 n (by omega)
  have hg0 : (w.alloc (.cells (madeCells #[.int .i64 0] n) 3)).heap[w.heap.size]? = some (.cells (List.replicate n (Value.int .i64 0)).toArray 3 (0, 0)) := by
    rw [made_list]; exact Go.Deep.blk_alloc_new _ _
  have hb0 : Below w.heap.size w (w.alloc (.cells (madeCells #[.int .i64 0] n) 3)) := (Below.refl _ _).alloc (Nat.le_refl _) _
  have hx0 : (w.alloc (.cells (madeCells #[.int .i64 0] n) 3)).cell? ⟨xb, 0, none⟩ = some (.int .i64 v) := by
    rw [hb0.cell (p := ⟨xb, 0, none⟩) (World.block_lt_of_cell? _ _ hx)]; exact hx
  obtain ⟨k0, hk0, hk1, hcp, hg1, hb1⟩ : ∃ k0 : Nat, k0 ≤ n ∧ (0 < n → 0 < k0) ∧
      Sem.run Trym.prog (Builtin.copy_ #[24, 24] 3 #[.slice (some ⟨w.heap.size, 0, none⟩) n n, .slice (some ⟨xb, 0, none⟩) 1 1]) (w.alloc (.cells (madeCells #[.int .i64 0] n) 3)) = .ok (.int .i64 k0) (halfW (w.alloc (.cells (madeCells #[.int .i64 0] n) 3)) w.heap.size n k0 v) ∧
      (halfW (w.alloc (.cells (madeCells #[.int .i64 0] n) 3)) w.heap.size n k0 v).heap[w.heap.size]? = some (.cells (half n k0 v).toArray 3 (0, 0)) ∧ Below w.heap.size w (halfW (w.alloc (.cells (madeCells #[.int .i64 0] n) 3)) w.heap.size n k0 v) := by
    by_cases hn0 : n = 0
    · subst hn0
      have e : halfW (w.alloc (.cells (madeCells #[.int .i64 0] 0) 3)) w.heap.size 0 0 v = w.alloc (.cells (madeCells #[.int .i64 0] 0) 3) := setRow_self _ _ _ 3 (0, 0) hg0
      refine ⟨0, Nat.le_refl _, fun h => h, ?_, by rw [e]; exact hg0, by rw [e]; exact hb0⟩
      rw [e]
      exact run_copy_none (P := Trym.prog) _ 24 24 3 3 _ _ 0 0 1 1 Trym.underlying24 size3 rfl
    · refine ⟨1, by omega, fun _ => Nat.one_pos, ?_, setRow_heap _ _ _ _ 3 (0, 0) hg0, below_setRow hb0 (Nat.le_refl _) _⟩
      have hr := run_copy_row (P := Trym.prog) (w.alloc (.cells (madeCells #[.int .i64 0] n) 3)) 24 24 3 3 w.heap.size 0 n n ⟨xb, 0, none⟩ 1 1 _ 3 [.int .i64 v] Trym.underlying24 size3 hg0 (by show 1 = min 1 n; omega)
        (by intro j u hj; match j, hj with | 0, hj => simp at hj; subst hj; exact hx0) (by simp; omega) (by intro u hu; simp at hu; subst hu; rfl)
      rw [hr]
      have e := half_first n v (by omega)
      rw [splice] at e
      show Result.ok _ _ = Result.ok _ (World.setRow _ _ (half n 1 v).toArray)
      rw [← e]
      rfl
  have Hg : Hid _ := hg1
  have Hb : Hid _ := hb1
  clear hg0 hb0 hx0 hx hg1 hb1
  have hm := mul_any n hn w
  go_enter Trym.func30, Trym.ntmps30
  go_wp2_with fail
  refine hm.mono ?_
  rintro e w' ⟨rfl, hw⟩
  subst hw
  clear hm
  go_wp2_with fail
  clear hcp hmk
  go_loopg [8] n (fun g i wr => ∃ k : Nat, n - k ≤ g ∧ k ≤ n ∧ (0 < n → 0 < k) ∧ i = .int .i64 k ∧ wr.heap[w'.heap.size]? = some (.cells (half n k v).toArray 3 (0, 0)) ∧ Below w'.heap.size w' wr)
  case atStart => exact ⟨k0, by omega, hk0, hk1, rfl, Hg.out, Hb.out⟩
  case round =>
    obtain ⟨k, hgk, hk, hkp, rfl, hg, hb⟩ := hrel
    by_cases hlt : k < n
    · have hki : (k : Int) < (n : Int) := by omega
      have hkn : n ≠ k := by omega
      obtain ⟨m, hm⟩ : ∃ m, m = Nat.min k (n - k) := ⟨_, rfl⟩
      have hm1 : m ≤ k := by rw [hm]; exact Nat.min_le_left _ _
      have hm2 : m ≤ n - k := by rw [hm]; exact Nat.min_le_right _ _
      have hm0 : 0 < m := by rw [hm]; exact Nat.lt_min.2 ⟨hkp (by omega), by omega⟩
      have hnx := half_next n k v hk
      rw [← hm] at hnx
      have Hm : Hid (m = Nat.min k (n - k)) := hm
      have Hx : Hid _ := hnx
      have Hg2 : Hid _ := hg
      have Hb2 : Hid _ := hb
      clear hm hnx hg hb
      go_wp2_with fail
      go_region_law (refine step_copy_splice rfl (.tmp 41) (.tmp 44) 24 24 rfl 3 Trym.underlying24 size3 (some ⟨w'.heap.size, k, none⟩) (some ⟨w'.heap.size, 0, none⟩) (n - k) (n - k) k n (by simp [Act.eval, Act.put]) (by simp [Act.eval, Act.put]) w'.heap.size k (half n k v) 3 Hg2.out (List.replicate m (.int .i64 v)) (by simp [Hm.out]) (fun _ => ⟨rfl, _, rfl, half_src wr w'.heap.size n k m v Hg2.out hm1⟩) (by simp [half]; omega) (by intro u hu; simp at hu; rw [hu.2]; rfl) w'.heap.size w' Hb2.out.drew (Nat.le_refl _) ?_; intro w1 hg1 hb1)
      rw [Hx.out] at hg1
      have Hb3 : Hid _ := hb1
      have hle : (m : Int) ≤ 1048576 := by omega
      clear hb1 Hb2 Hg2
      go_wp2
      go_roundg (n - (k + m))
      case measure => go_light; omega
      case rel => go_light; exact ⟨k + m, Nat.le_refl _, by omega, fun _ => by omega, congrArg (Value.int .i64) (wrap_sum k m (by omega)), hg1, Hb3.out⟩
    · obtain rfl : n = k := by omega
      have Hg2 : Hid _ := hg
      clear hg
      go_wp2
      go_ret
      exact ⟨rfl, half_full _ _ _ _ Hg2.out, ⟨hb.os, hb.tape, hb.output, hb.size, hb.block⟩⟩
end Go.Proofs.Qxb6003132aMods
