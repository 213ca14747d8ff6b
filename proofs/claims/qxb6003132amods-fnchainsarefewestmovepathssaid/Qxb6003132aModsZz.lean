/- ZZchains: the giving laid out of plain data, chains called, the links handed out as two slices. -/
import Derived.Test.Qxb6003132aModsMapto
import Derived.Test.Qxb6003132aModsChains
namespace Go.Proofs.Qxb6003132aMods
open Go.RowKit Go.Maps
set_option linter.unusedVariables false

theorem Trym.info32 : (Trym.prog.info? 32).map (fun i => (i.zero, i.size, i.bytes)) = some (some (.map none), 1, 8) := by kernel_rfl

/-- the giving's five cells -/
def gcell (ea : Option Addr) (nc ec bK bA n : Nat) (la : Option Addr) (lc : Nat) : Nat → Value
  | 0 => .slice ea nc ec
  | 1 => .slice none 0 0
  | 2 => .slice (some ⟨bK, 0, none⟩) n n
  | 3 => .slice (some ⟨bA, 0, none⟩) n n
  | _ => .slice la n lc

structure ZG (w wr : World) (n nc ec lc : Nat) (ea la : Option Addr) (bK bA gb : Nat) (fK fA : Nat → Value) : Prop where
  since : w.Since w.heap.size wr
  rK : wr.rowIs bK 32 n fK
  rA : wr.rowIs bA 32 n fA
  rG : wr.rowIs gb 58 5 (gcell ea nc ec bK bA n la lc)
  lK : w.heap.size ≤ bK
  lA : w.heap.size ≤ bA
  lG : w.heap.size ≤ gb
  n1 : bK ≠ bA
  n2 : bK ≠ gb
  n3 : bA ≠ gb

variable {w wr : World} {n nc ec lc : Nat} {ea la : Option Addr} {bK bA gb : Nat} {fK fA : Nat → Value}

theorem ZG.later {w' : World} (h : ZG w wr n nc ec lc ea la bK bA gb fK fA) (hs : wr.Since wr.heap.size w') : ZG w w' n nc ec lc ea la bK bA gb fK fA :=
  ⟨since_trans h.since hs, h.rK.of_block (hs.block _ h.rK.lt), h.rA.of_block (hs.block _ h.rA.lt), h.rG.of_block (hs.block _ h.rG.lt), h.lK, h.lA, h.lG, h.n1, h.n2, h.n3⟩
theorem ZG.setK (h : ZG w wr n nc ec lc ea la bK bA gb fK fA) (i : Nat) (v : Value) : ZG w (wr.setCell ⟨bK, i, none⟩ v) n nc ec lc ea la bK bA gb (fun j => if j = i then v else fK j) fA :=
  ⟨h.since.setCell h.lK _, h.rK.set i v, h.rA.setOther (Ne.symm h.n1) _, h.rG.setOther (Ne.symm h.n2) _, h.lK, h.lA, h.lG, h.n1, h.n2, h.n3⟩
theorem ZG.setA (h : ZG w wr n nc ec lc ea la bK bA gb fK fA) (i : Nat) (v : Value) : ZG w (wr.setCell ⟨bA, i, none⟩ v) n nc ec lc ea la bK bA gb fK (fun j => if j = i then v else fA j) :=
  ⟨h.since.setCell h.lA _, h.rK.setOther h.n1 _, h.rA.set i v, h.rG.setOther (Ne.symm h.n3) _, h.lK, h.lA, h.lG, h.n1, h.n2, h.n3⟩
theorem ZG.congrK {f : Nat → Value} (h : ZG w wr n nc ec lc ea la bK bA gb fK fA) (e : ∀ i, i < n → fK i = f i) : ZG w wr n nc ec lc ea la bK bA gb f fA :=
  ⟨h.since, h.rK.congr e, h.rA, h.rG, h.lK, h.lA, h.lG, h.n1, h.n2, h.n3⟩
theorem ZG.congrA {f : Nat → Value} (h : ZG w wr n nc ec lc ea la bK bA gb fK fA) (e : ∀ i, i < n → fA i = f i) : ZG w wr n nc ec lc ea la bK bA gb fK f :=
  ⟨h.since, h.rK, h.rA.congr e, h.rG, h.lK, h.lA, h.lG, h.n1, h.n2, h.n3⟩

theorem ZG.start1 (w : World) (n nc ec lc : Nat) (ea la : Option Addr) :
    ZG w (((w.alloc (.cells (madeCells #[.map none] n) 32)).alloc (.cells (madeCells #[.map none] n) 32)).alloc (.cells #[.slice ea nc ec, .slice none 0 0, .slice (some ⟨w.heap.size, 0, none⟩) n n, .slice (some ⟨w.heap.size + 1, 0, none⟩) n n, .slice la n lc] 58)).drew
      n nc ec lc ea la w.heap.size (w.heap.size + 1) (w.heap.size + 1 + 1) (fun _ => .map none) (fun _ => .map none) := by
  have e1 : (w.alloc (.cells (madeCells #[.map none] n) 32)).heap.size = w.heap.size + 1 := Go.Deep.nblk_alloc _ _
  have e2 : ((w.alloc (.cells (madeCells #[.map none] n) 32)).alloc (.cells (madeCells #[.map none] n) 32)).heap.size = w.heap.size + 1 + 1 := by rw [Go.Deep.nblk_alloc, e1]
  have r1 := World.rowIs_made w (.map none) n 32
  have r2 := World.rowIs_made (w.alloc (.cells (madeCells #[.map none] n) 32)) (.map none) n 32
  rw [e1] at r2
  refine ⟨((((World.Since.refl _ _).alloc (Nat.le_refl _) _).alloc (by omega) _).alloc (by omega) _).drew, ((r1.alloc _).alloc _).drew, (r2.alloc _).drew, ⟨_, by rw [← e2]; exact Go.Deep.blk_alloc_new _ _, rfl, fun i hi => ?_⟩, by omega, by omega, by omega, by omega, by omega, by omega⟩
  match i, hi with
  | 0, _ => rfl
  | 1, _ => rfl
  | 2, _ => rfl
  | 3, _ => rfl
  | 4, _ => rfl

theorem ZG.start2 (w : World) (n nc ec lc : Nat) (ea la : Option Addr) :
    ZG w (((w.alloc (.cells (madeCells #[.map none] n) 32)).alloc (.cells (madeCells #[.map none] n) 32)).alloc (.cells #[.slice ea nc ec, .slice none 0 0, .slice (some ⟨w.heap.size + 1, 0, none⟩) n n, .slice (some ⟨w.heap.size, 0, none⟩) n n, .slice la n lc] 58)).drew
      n nc ec lc ea la (w.heap.size + 1) w.heap.size (w.heap.size + 1 + 1) (fun _ => .map none) (fun _ => .map none) := by
  have e1 : (w.alloc (.cells (madeCells #[.map none] n) 32)).heap.size = w.heap.size + 1 := Go.Deep.nblk_alloc _ _
  have e2 : ((w.alloc (.cells (madeCells #[.map none] n) 32)).alloc (.cells (madeCells #[.map none] n) 32)).heap.size = w.heap.size + 1 + 1 := by rw [Go.Deep.nblk_alloc, e1]
  have r1 := World.rowIs_made w (.map none) n 32
  have r2 := World.rowIs_made (w.alloc (.cells (madeCells #[.map none] n) 32)) (.map none) n 32
  rw [e1] at r2
  refine ⟨((((World.Since.refl _ _).alloc (Nat.le_refl _) _).alloc (by omega) _).alloc (by omega) _).drew, (r2.alloc _).drew, ((r1.alloc _).alloc _).drew, ⟨_, by rw [← e2]; exact Go.Deep.blk_alloc_new _ _, rfl, fun i hi => ?_⟩, by omega, by omega, by omega, by omega, by omega, by omega⟩
  match i, hi with
  | 0, _ => rfl
  | 1, _ => rfl
  | 2, _ => rfl
  | 3, _ => rfl
  | 4, _ => rfl

/-- the two slices of links, k of them filled -/
structure ZF (w1 wr : World) (n k : Nat) (VF VC : Nat → Int) : Prop where
  since : w1.Since w1.heap.size wr
  rF : wr.rowIs w1.heap.size 3 n (fun i => if i < k then .int .i64 (VF i) else .int .i64 0)
  rC : wr.rowIs (w1.heap.size + 1) 21 n (fun i => if i < k then .int .i32 (VC i) else .int .i32 0)

theorem ZF.start (w1 : World) (n : Nat) (VF VC : Nat → Int) : ZF w1 ((w1.alloc (.cells (madeCells #[.int .i64 0] n) 3)).alloc (.cells (madeCells #[.int .i32 0] n) 21)) n 0 VF VC := by
  have r1 := World.rowIs_made w1 (.int .i64 0) n 3
  have r2 := World.rowIs_made (w1.alloc (.cells (madeCells #[.int .i64 0] n) 3)) (.int .i32 0) n 21
  have e1 : (w1.alloc (.cells (madeCells #[.int .i64 0] n) 3)).heap.size = w1.heap.size + 1 := Go.Deep.nblk_alloc _ _
  rw [e1] at r2
  exact ⟨((World.Since.refl _ _).alloc (Nat.le_refl _) _).alloc (by omega) _, (r1.alloc _).congr (fun i _ => by simp), r2.congr (fun i _ => by simp)⟩

theorem fill_next (k : Nat) (f : Nat → Value) (z : Value) (i : Nat) : (if i = k then f k else if i < k then f i else z) = if i < k + 1 then f i else z := by
  by_cases e : i = k
  · subst e; simp
  · rw [if_neg e]
    by_cases h : i < k
    · rw [if_pos h, if_pos (by omega)]
    · rw [if_neg h, if_neg (by omega)]

theorem ZF.step {w1 wr : World} {n k : Nat} {VF VC : Nat → Int} (h : ZF w1 wr n k VF VC) : ZF w1 ((wr.setCell ⟨w1.heap.size, k, none⟩ (.int .i64 (VF k))).setCell ⟨w1.heap.size + 1, k, none⟩ (.int .i32 (VC k))) n (k + 1) VF VC :=
  ⟨(h.since.setCell (Nat.le_refl _) _).setCell (by show w1.heap.size ≤ w1.heap.size + 1; omega) _,
    ((h.rF.set k _).setOther (by show w1.heap.size ≠ w1.heap.size + 1; omega) _).congr (fun i _ => fill_next k (fun i => .int .i64 (VF i)) _ i),
    ((h.rC.setOther (by show w1.heap.size + 1 ≠ w1.heap.size; omega) _).set k _).congr (fun i _ => fill_next k (fun i => .int .i32 (VC i)) _ i)⟩

theorem ZF.fullF {w1 wr : World} {n : Nat} {VF VC : Nat → Int} (h : ZF w1 wr n n VF VC) : Sl wr w1.heap.size (some ⟨w1.heap.size, 0, none⟩) n (fun i => .int .i64 (VF i)) :=
  Sl.of_row (h.rF.congr (fun i hi => by rw [if_pos hi])) (Nat.le_refl _)
theorem ZF.fullC {w1 wr : World} {n : Nat} {VF VC : Nat → Int} (h : ZF w1 wr n n VF VC) : Sl wr (w1.heap.size + 1) (some ⟨w1.heap.size + 1, 0, none⟩) n (fun i => .int .i32 (VC i)) :=
  Sl.of_row (h.rC.congr (fun i hi => by rw [if_pos hi])) (Nat.le_refl _)

/-- what ZZchains hands back -/
def ZRes (N : Net) (n : Nat) (w : World) (e : Ending) (w' : World) : Prop :=
  ∃ (mo fo co : Option Addr) (mc fc cc : Nat) (M VF VC : Nat → Int) (T : Nat → Nat),
    e = .returned (.tuple #[.slice mo n mc, .slice fo n fc, .slice co n cc]) ∧ Sl w' w.heap.size mo n (fun i => .int .i64 (M i)) ∧ Sl w' w.heap.size fo n (fun i => .int .i64 (VF i)) ∧ Sl w' w.heap.size co n (fun i => .int .i32 (VC i)) ∧ w.Since w.heap.size w' ∧ COK N M VF VC T

set_option maxHeartbeats 8000000 in
set_option maxRecDepth 100000 in
theorem zz_any (ea ka aa la ba : Option Addr) (n nc ec kc ac lc bc : Nat) (EL KL AL : Nat → Nat) (KLL ALL : Nat → Nat → Nat) (E : Nat → Nat → Int) (act : Nat → Bool) (ld : Nat → Int) (most : Int) (w : World)
    (hn : n ≤ 256) (hnc : nc ≤ 256) (hEL : ∀ c, c < nc → EL c ≤ 1048576) (hEr : ∀ c, c < nc → ∀ k, k < EL c → ∃ v : Nat, v < n ∧ E c k = (v : Int))
    (kL : ∀ i, i < n → KL i ≤ 1048576 ∧ ∀ j, j < KL i → KLL i j ≤ 1048576) (aL : ∀ i, i < n → AL i ≤ 1048576 ∧ ∀ j, j < AL i → ALL i j ≤ 1048576)
    (hE : Mat w ea nc EL E) (hK : Cube w ka n KL KLL) (hA : Cube w aa n AL ALL) (hL : Sl w 0 la n (fun i => .int .i64 (ld i))) (hB : Sl w 0 ba n (fun i => .bool (act i))) :
    Calls Trym.prog 14 #[.slice ea nc ec, .slice ka n kc, .slice aa n ac, .slice la n lc, .slice ba n bc, .int .i64 most] w fun e w' => ZRes (netOf n nc EL E KL KLL AL ALL act ld most) n w e w' := by
  obtain ⟨KA, KC, KAA, KCC, k1, k2⟩ := hK
  obtain ⟨AA, AC, AAA, ACC, a1, a2⟩ := hA
  replace k1 : Hid (Sl w 0 ka n (fun i => .slice (KA i) (KL i) (KC i))) := k1
  replace k2 : Hid (∀ i, i < n → Sl w 0 (KA i) (KL i) (fun j => .slice (KAA i j) (KLL i j) (KCC i j))) := k2
  replace a1 : Hid (Sl w 0 aa n (fun i => .slice (AA i) (AL i) (AC i))) := a1
  replace a2 : Hid (∀ i, i < n → Sl w 0 (AA i) (AL i) (fun j => .slice (AAA i j) (ALL i j) (ACC i j))) := a2
  replace kL : Hid (∀ i, i < n → KL i ≤ 1048576 ∧ ∀ j, j < KL i → KLL i j ≤ 1048576) := kL
  replace aL : Hid (∀ i, i < n → AL i ≤ 1048576 ∧ ∀ j, j < AL i → ALL i j ≤ 1048576) := aL
  replace hEL : Hid (∀ c, c < nc → EL c ≤ 1048576) := hEL
  replace hEr : Hid (∀ c, c < nc → ∀ k, k < EL c → ∃ v : Nat, v < n ∧ E c k = (v : Int)) := hEr
  have hmk := run_make_row' (P := Trym.prog) 27 32 (.map none) 8 Trym.underlying27 Trym.info32 rfl .i64 .i64 n (by omega) (by omega)
  go_enter Trym.func14, Trym.ntmps14
  go_wp2_with fail
  go_cut [15] from 25 to 34 (fun s15 wx => ∃ bK bA gb : Nat, s15 = .pointer (some ⟨gb, 0, none⟩) ∧ ZG w wx n nc ec lc ea la bK bA gb (fun _ => .map none) (fun _ => .map none))
  case first =>
    have HZ1 := ZG.start1 w n nc ec lc ea la
    have HZ2 := ZG.start2 w n nc ec lc ea la
    replace HZ1 : Hid _ := HZ1
    replace HZ2 : Hid _ := HZ2
    go_region
    all_goals
      go_wp2_with fail
      go_meet
      case rel =>
        first
          | exact ⟨_, _, _, rfl, HZ1.out⟩
          | exact ⟨_, _, _, rfl, HZ2.out⟩
  case rest =>
    obtain ⟨bK, bA, gb, rfl, hZ0⟩ := hcut
    clear hmk
    have HZ0 : Hid _ := hZ0
    clear hZ0
    go_wp2
    go_loopg [16] n (fun g i wr => ∃ (k : Nat) (KM : Nat → Nat), k ≤ n ∧ g = n - k ∧ i = .int .i64 k ∧ ZG w wr n nc ec lc ea la bK bA gb (fun i => if i < k then .map (some (KM i)) else .map none) (fun _ => .map none) ∧ (∀ i, i < k → MapLens wr (KM i) (fun c => plen KL KLL i c)))
    case atStart => exact ⟨0, fun _ => 0, Nat.zero_le _, rfl, rfl, HZ0.out.congrK (fun i _ => by simp), fun i hi => absurd hi (Nat.not_lt_zero _)⟩
    case round =>
      clear HZ0
      obtain ⟨k, KM, hk, rfl, rfl, hZ, hM⟩ := hrel
      have HM : Hid (∀ i, i < k → MapLens wr (KM i) (fun c => plen KL KLL i c)) := hM

      clear hM
      obtain ⟨wo, hwo⟩ : ∃ wo, wo = wr := ⟨_, rfl⟩
      subst hwo
      by_cases hlt : k < n
      · have hXL := kL.out k hlt
        obtain ⟨b1, o1, e1, _, hc1⟩ := k1.out.get (by omega)
        cases e1
        have ct := hc1 k hlt
        have hmid := k2.out k hlt
        have hmm := @run_makeMap Trym.prog
        have HT : Hid (MapTo (wo.alloc (.map #[] 0)) wo.heap.size 0 (KLL k)) := MapTo.start wo _
        have hkn : (k : Int) < (n : Int) := by omega
        clear hc1
        go_wp2
        clear hmm
        go_loopg [18] (KL k) (fun g i wr => ∃ c : Nat, c ≤ KL k ∧ g = KL k - c ∧ i = .int .i64 c ∧ wo.Since wo.heap.size wr ∧ MapTo wr wo.heap.size c (KLL k))
        case atStart => exact ⟨0, Nat.zero_le _, rfl, rfl, (World.Since.refl _ _).alloc (Nat.le_refl _) _, HT.out⟩
        case round =>
          clear HT
          obtain ⟨c, hc, rfl, rfl, hs, hT⟩ := hrel
          have hsw := since_trans hZ.since hs
          have ct1 := cell_since hsw ct
          by_cases hlc : c < KL k
          · obtain ⟨b3, o3, e3, _, hc3⟩ := hmid.get (by omega)
            simp only [e3] at ct1
            have cm := cell_since hsw (hc3 c hlc)
            obtain ⟨D, hown, hm, hat⟩ := hT
            have Hat : Hid _ := hat
            have hci : (c : Int) < (KL k : Int) := by omega
            clear hc3 e3 hsw ct hat
            go_wp2_with (at_mapUpdate; refine wpList_mapUpdate_own _ rfl _ _ _ 32 rfl 21 36 key21 Trym.underlying32 lenElem wo.heap.size c D rfl hown (by unfold maxLen; omega) _ _ (.int .i32 (c : Int)) rfl rfl (keyOf_int_mk Trym.underlying21 (wf32 c (by omega))) (.lit (.int .i64 (KLL k c : Int))) [] rfl ?_; intro w' hown' hgr)
            go_roundg (KL k - (c + 1))
            case measure => go_light; omega
            case rel => go_light; exact ⟨c + 1, by omega, rfl, by simp, hs.grown hgr hs.size (fun j hj => by cases hj; exact Nat.le_refl _), MapTo.put hm Hat.out hown'⟩
          · obtain rfl : KL k = c := by omega
            have hL := hT.full (hXL.1)
            have hZ1 := hZ.later hs
            have cg := hZ1.rG.cell (i := 2) (by omega)
            have c5 := hZ1.rK.cell hlt
            have c6 := hZ1.rK.frozen k
            have HL : Hid (MapLens wr wo.heap.size (fun c => plen KL KLL k c)) := hL
            simp only [gcell] at cg
            clear hsw hL hT hmid ct
            go_wp2
            go_roundg (n - (k + 1))
            case measure => go_light; omega
            case rel =>
              go_light
              have hne := MapLens.cells_ne HL.out hZ1.rK
              refine ⟨k + 1, fun i => if i = k then wo.heap.size else KM i, by omega, rfl, by simp, (hZ1.setK k _).congrK (fun i hi => ?_), fun i hi => ?_⟩
              · by_cases e : i = k
                · subst e; simp
                · by_cases e2 : i < k
                  · simp [e, e2, Nat.lt_succ_of_lt e2]
                  · simp [e, e2, show ¬ i < k + 1 by omega]
              · by_cases e : i = k
                · subst e
                  simp only [if_true]
                  exact HL.out.of_block (Go.Deep.blk_setCell_other _ _ _ _ hne)
                · simp only [e, if_false]
                  have h1 := (HM.out i (by omega)).since hs
                  exact h1.of_block (Go.Deep.blk_setCell_other _ _ _ _ (MapLens.cells_ne h1 hZ1.rK))
      · obtain rfl : n = k := by omega
        have HMK0 : Hid (∀ i, i < n → MapLens wo (KM i) (fun c => plen KL KLL i c)) := HM.out
        obtain ⟨fK, hfK⟩ : ∃ fK : Nat → Value, fK = fun i => if i < n then .map (some (KM i)) else .map none := ⟨_, rfl⟩
        rw [← hfK] at hZ
        have HfK : Hid (∀ i, i < n → fK i = .map (some (KM i))) := by intro i hi; rw [hfK]; simp [hi]
        clear hfK HM
        go_wp2
        go_loopg [19] n (fun g i wr => ∃ (k : Nat) (AM : Nat → Nat), k ≤ n ∧ g = n - k ∧ i = .int .i64 k ∧ ZG w wr n nc ec lc ea la bK bA gb fK (fun i => if i < k then .map (some (AM i)) else .map none) ∧ (∀ i, i < k → MapLens wr (AM i) (fun c => plen AL ALL i c)) ∧ ∀ i, i < n → MapLens wr (KM i) (fun c => plen KL KLL i c))
        case atStart => exact ⟨0, fun _ => 0, Nat.zero_le _, rfl, rfl, hZ.congrA (fun i _ => by simp), fun i hi => absurd hi (Nat.not_lt_zero _), HMK0.out⟩
        case round =>
          clear hZ HMK0
          obtain ⟨k, AM, hk, rfl, rfl, hZ, hM, hMK⟩ := hrel
          have HM : Hid (∀ i, i < k → MapLens wr (AM i) (fun c => plen AL ALL i c)) := hM
          have HMK : Hid (∀ i, i < n → MapLens wr (KM i) (fun c => plen KL KLL i c)) := hMK
          clear hM hMK
          obtain ⟨wo, hwo⟩ : ∃ wo, wo = wr := ⟨_, rfl⟩
          subst hwo
          by_cases hlt : k < n
          · have hXL := aL.out k hlt
            obtain ⟨b1, o1, e1, _, hc1⟩ := a1.out.get (by omega)
            cases e1
            have ct := hc1 k hlt
            have hmid := a2.out k hlt
            have hmm := @run_makeMap Trym.prog
            have HT : Hid (MapTo (wo.alloc (.map #[] 0)) wo.heap.size 0 (ALL k)) := MapTo.start wo _
            have hkn : (k : Int) < (n : Int) := by omega
            clear hc1
            go_wp2
            clear hmm
            go_loopg [21] (AL k) (fun g i wr => ∃ c : Nat, c ≤ AL k ∧ g = AL k - c ∧ i = .int .i64 c ∧ wo.Since wo.heap.size wr ∧ MapTo wr wo.heap.size c (ALL k))
            case atStart => exact ⟨0, Nat.zero_le _, rfl, rfl, (World.Since.refl _ _).alloc (Nat.le_refl _) _, HT.out⟩
            case round =>
              clear HT
              obtain ⟨c, hc, rfl, rfl, hs, hT⟩ := hrel
              have hsw := since_trans hZ.since hs
              have ct1 := cell_since hsw ct
              by_cases hlc : c < AL k
              · obtain ⟨b3, o3, e3, _, hc3⟩ := hmid.get (by omega)
                simp only [e3] at ct1
                have cm := cell_since hsw (hc3 c hlc)
                obtain ⟨D, hown, hm, hat⟩ := hT
                have Hat : Hid _ := hat
                have hci : (c : Int) < (AL k : Int) := by omega
                clear hc3 e3 hsw ct hat
                go_wp2_with (at_mapUpdate; refine wpList_mapUpdate_own _ rfl _ _ _ 32 rfl 21 36 key21 Trym.underlying32 lenElem wo.heap.size c D rfl hown (by unfold maxLen; omega) _ _ (.int .i32 (c : Int)) rfl rfl (keyOf_int_mk Trym.underlying21 (wf32 c (by omega))) (.lit (.int .i64 (ALL k c : Int))) [] rfl ?_; intro w' hown' hgr)
                go_roundg (AL k - (c + 1))
                case measure => go_light; omega
                case rel => go_light; exact ⟨c + 1, by omega, rfl, by simp, hs.grown hgr hs.size (fun j hj => by cases hj; exact Nat.le_refl _), MapTo.put hm Hat.out hown'⟩
              · obtain rfl : AL k = c := by omega
                have hL := hT.full (hXL.1)
                have hZ1 := hZ.later hs
                have cg := hZ1.rG.cell (i := 3) (by omega)
                have c5 := hZ1.rA.cell hlt
                have c6 := hZ1.rA.frozen k
                have HL : Hid (MapLens wr wo.heap.size (fun c => plen AL ALL k c)) := hL
                simp only [gcell] at cg
                clear hsw hL hT hmid ct
                go_wp2
                go_roundg (n - (k + 1))
                case measure => go_light; omega
                case rel =>
                  go_light
                  have hne := MapLens.cells_ne HL.out hZ1.rA
                  refine ⟨k + 1, fun i => if i = k then wo.heap.size else AM i, by omega, rfl, by simp, (hZ1.setA k _).congrA (fun i hi => ?_), fun i hi => ?_, fun i hi => ?_⟩
                  · by_cases e : i = k
                    · subst e; simp
                    · by_cases e2 : i < k
                      · simp [e, e2, Nat.lt_succ_of_lt e2]
                      · simp [e, e2, show ¬ i < k + 1 by omega]
                  · by_cases e : i = k
                    · subst e
                      simp only [if_true]
                      exact HL.out.of_block (Go.Deep.blk_setCell_other _ _ _ _ hne)
                    · simp only [e, if_false]
                      have h1 := (HM.out i (by omega)).since hs
                      exact h1.of_block (Go.Deep.blk_setCell_other _ _ _ _ (MapLens.cells_ne h1 hZ1.rA))
                  · have h1 := (HMK.out i hi).since hs
                    exact h1.of_block (Go.Deep.blk_setCell_other _ _ _ _ (MapLens.cells_ne h1 hZ1.rA))
          · obtain rfl : n = k := by omega
            have hG : Giv wo gb ea (some ⟨bK, 0, none⟩) (some ⟨bA, 0, none⟩) la n nc ec n n lc EL KL AL KLL ALL E ld KM AM :=
              ⟨hZ.rG.cell (i := 0) (by omega), hZ.rG.cell (i := 2) (by omega), hZ.rG.cell (i := 3) (by omega), hZ.rG.cell (i := 4) (by omega), hE.since hZ.since, Sl.of_row (hZ.rK.congr (fun i hi => HfK.out i hi)) (Nat.zero_le _), Sl.of_row (hZ.rA.congr (fun i hi => by simp [hi])) (Nat.zero_le _), HMK.out, HM.out, hL.since hZ.since⟩
            have hpk : ∀ u, u < n → ∀ c, c < nc → plen KL KLL u c ≤ 1048576 := fun u hu c _ => by
              unfold plen
              split
              · exact (kL.out u hu).2 c (by assumption)
              · omega
            have hpa : ∀ u, u < n → ∀ c, c < nc → plen AL ALL u c ≤ 1048576 := fun u hu c _ => by
              unfold plen
              split
              · exact (aL.out u hu).2 c (by assumption)
              · omega
            have HC := chains_any gb ea (some ⟨bK, 0, none⟩) (some ⟨bA, 0, none⟩) la ba n nc ec n n lc bc EL KL AL KLL ALL E act ld KM AM most wo hn hnc hEL.out hEr.out hpk hpa hG (hB.since hZ.since)
            replace HC : Hid _ := HC
            clear hpk hpa hG HM HMK
            go_wp2_with fail
            refine Calls.mono HC.out ?_
            rintro e w1 ⟨mo, vo, mc, vc, M, VF, VC, T, rfl, hSM, hSV, hs1, hCOK⟩
            have hs01 := since_trans hZ.since hs1
            have Hwo : Hid (w.heap.size ≤ wo.heap.size) := hZ.since.size
            clear HC hZ hs1
            have hmk1 := run_make_row' (P := Trym.prog) 24 3 (.int .i64 0) 8 Trym.underlying24 Trym.info3 rfl .i64 .i64 n (by omega) (by omega)
            have hmk2 := run_make_row' (P := Trym.prog) 36 21 (.int .i32 0) 4 Trym.underlying36 Trym.info21 rfl .i64 .i64 n (by omega) (by omega)
            have HF := ZF.start w1 n VF VC
            replace HF : Hid _ := HF
            go_wp2
            clear hmk1 hmk2
            go_loopg [24] n (fun g i wr => ∃ k : Nat, k ≤ n ∧ g = n - k ∧ i = .int .i64 k ∧ ZF w1 wr n k VF VC)
            case atStart => exact ⟨0, Nat.zero_le _, rfl, rfl, HF.out⟩
            case round =>
              clear HF
              obtain ⟨k, hk, rfl, rfl, hF⟩ := hrel
              by_cases hlt : k < n
              · obtain ⟨vb, vf, hv1, hv2⟩ := hSV
                obtain ⟨rfl, _⟩ := hv1 (by omega)
                have cv1 := cell0_since hF.since (hv2 k hlt).1
                have cv2 := cell0_since hF.since (hv2 k hlt).2
                have cv3 : wr.cell? ⟨vb, vf + k * 2 + 1, none⟩ = some (.int .i32 (VC k)) := by rw [Nat.add_assoc]; exact cv2
                have cv4 : wr.cell? ⟨vb, 1 + (vf + k * 2), none⟩ = some (.int .i32 (VC k)) := by rw [Nat.add_comm]; exact cv3
                have cf1 := hF.rF.cell hlt
                have cf2 := hF.rF.frozen k
                have cc1 := hF.rC.cell hlt
                have cc2 := hF.rC.frozen k
                have hne : vb ≠ w1.heap.size := Nat.ne_of_lt (World.block_lt_of_cell? _ _ (hv2 k hlt).1)
                have hki : (k : Int) < (n : Int) := by omega
                have cv5 : ∀ v, (wr.setCell ⟨w1.heap.size, k, none⟩ v).cell? ⟨vb, vf + k * 2 + 1, none⟩ = some (.int .i32 (VC k)) := fun v => by
                  rw [World.cell?_setCell_other _ _ _ _ (fun e => hne (congrArg Addr.block e).symm)]; exact cv3
                have hFs := hF.step
                replace hFs : Hid _ := hFs
                clear hv1 hv2
                go_wp2
                go_roundg (n - (k + 1))
                case measure => go_light; omega
                case rel => go_light; exact ⟨k + 1, by omega, rfl, by simp, hFs.out⟩
              · obtain rfl : n = k := by omega
                go_wp2
                go_ret3
                exact ⟨mo, _, _, _, _, _, M, VF, VC, T, rfl, (hSM.since hF.since).lower Hwo.out, hF.fullF.lower hs01.size, hF.fullC.lower (by have := hs01.size; omega), since_trans hs01 hF.since, hCOK⟩

end Go.Proofs.Qxb6003132aMods
