/- The contract of jpeg.scale: four blocks become one by averages of two by two. Conditions: both blocks lie there, apart, unfrozen; the numbers of the four lie within 2^20. The plain law of scale: what each place of the small block is. No program in sight. (Joined by wip/gen/merge.py.) -/
import Derived.Test.YtlibflbpajeeeaaDoorJBlk
import Derived.Deep.Quiet
import Derived.Deep.QuietTactic
import Derived.BigQuiet
namespace Go.Proofs.YtlibflbpajeeeaaDoor
open Go.RowKit Go.Sort

/-- The place and the number of step t (t = 16 i + 4 y + x). -/
def scaleAt (t : Nat) : Nat := 8 * (t / 4 % 4) + t % 4 + (t / 32 * 32 + t / 16 % 2 * 4)
def scaleFrom (t : Nat) : Nat := 64 * (t / 16) + (16 * (t / 4 % 4) + 2 * (t % 4))
def scaleVal (S : Array Int) (t : Nat) : Int := (S[scaleFrom t]! + S[scaleFrom t + 1]! + S[scaleFrom t + 8]! + S[scaleFrom t + 9]! + 2) / 4
def scaleN (S : Array Int) : Nat → Array Int → Array Int
  | 0, d => d
  | t + 1, d => (scaleN S t d).setIfInBounds (scaleAt t) (scaleVal S t)
theorem size_scaleN (S : Array Int) (t : Nat) (d : Array Int) : (scaleN S t d).size = d.size := by
  induction t with
  | zero => rfl
  | succ t ih => simp [scaleN, ih]

theorem dst_off (k : Nat) (hk : k < 4) : bits BinOp.or .i64 (wrap64 (bits BinOp.and .i64 (k : Int) 2 * 16)) (wrap64 (bits BinOp.and .i64 (k : Int) 1 * 4)) = ((k / 2 * 32 + k % 2 * 4 : Nat) : Int) := by
  match k, hk with
  | 0, _ => decide +kernel
  | 1, _ => decide +kernel
  | 2, _ => decide +kernel
  | 3, _ => decide +kernel

theorem src_cell {w wr : World} {bd bs q : Nat} {D' S : Array Int} (hHS : Holds i32v w bs 0 S) (hS : S.size = 256) (hne : bs ≠ bd) (hb : ∀ j, j < 256 → (-1048576 : Int) ≤ S[j]! ∧ S[j]! ≤ (1048576 : Int))
    (hw : wr = (putRow i32v w bd 0 D').drewN q) (j : Nat) (hj : j < 256) : ∃ x : Int, (wr.cell? ⟨bs, j, none⟩ = some (.int .i32 x)) ∧ x = S[j]! ∧ (-1048576 : Int) ≤ x ∧ x ≤ (1048576 : Int) := by
  refine ⟨S[j]!, ?_, rfl, hb j hj⟩
  rw [hw]
  show (putRow i32v w bd 0 D').cell? ⟨bs, j, none⟩ = _
  rw [cell?_putRow_other _ _ _ _ _ _ (Or.inl hne)]
  have h := (hHS j (by omega)).1
  rw [Nat.zero_add] at h
  exact h

set_option maxRecDepth 100000 in
set_option maxHeartbeats 4000000 in
theorem scale_any (bd bs : Nat) (D S : Array Int) (w : World) (hD : D.size = 64) (hS : S.size = 256) (hHD : Holds i32v w bd 0 D) (hHS : Holds i32v w bs 0 S) (hne : bs ≠ bd)
    (hb : ∀ j, j < 256 → (-1048576 : Int) ≤ S[j]! ∧ S[j]! ≤ (1048576 : Int)) :
    Calls Tryd.prog 62 #[.pointer (some ⟨bd, 0, none⟩), .pointer (some ⟨bs, 0, none⟩)] w fun e w' => e = .returned (.tuple #[]) ∧ ∃ q, w' = (putRow i32v w bd 0 (scaleN S 64 D)).drewN q := by
  have HD := Lib.hid hD
  have HS := Lib.hid hS
  have HHD := Lib.hid hHD
  have HHS := Lib.hid hHS
  have HB := Lib.hid hb
  have HNE := Lib.hid hne
  clear hD hS hHD hHS hb hne
  go_enter Tryd.func62, Tryd.ntmps62
  go_wp2_with fail
  go_loopw [4] (fun i wr => ∃ k : Nat, k ≤ 4 ∧ i = .int .i64 k ∧ ∃ q, wr = (putRow i32v w bd 0 (scaleN S (16 * k) D)).drewN q) (fun i _ => 4 - (intOf i).toNat)
  case atStart => exact ⟨0, Nat.zero_le _, rfl, 0, (putRow_self i32v w bd 0 D HHD.out).symm⟩
  case round =>
    obtain ⟨k, hk, rfl, q, hw⟩ := hrel
    have HW := Lib.hid hw
    clear hw
    by_cases hlt : k < 4
    · have hdst := dst_off k hlt
      obtain ⟨wo, rfl⟩ : ∃ wo : World, wo = wr := ⟨_, rfl⟩
      go_wp2_with fail
      go_loopw [6] (fun y wr => ∃ m : Nat, m ≤ 4 ∧ y = .int .i64 m ∧ ∃ q, wr = (putRow i32v w bd 0 (scaleN S (16 * k + 4 * m) D)).drewN q) (fun y _ => 4 - (intOf y).toNat)
      case atStart => exact ⟨0, Nat.zero_le _, rfl, q, HW.out⟩
      case round =>
        obtain ⟨m, hm, rfl, q2, hw2⟩ := hrel
        have HW2 := Lib.hid hw2
        clear hw2
        by_cases hltm : m < 4
        · obtain ⟨wo2, rfl⟩ : ∃ wo2 : World, wo2 = wr := ⟨_, rfl⟩
          go_wp2_with fail
          go_loopw [7] (fun x wr => ∃ n : Nat, n ≤ 4 ∧ x = .int .i64 n ∧ ∃ q, wr = (putRow i32v w bd 0 (scaleN S (16 * k + 4 * m + n) D)).drewN q) (fun x _ => 4 - (intOf x).toNat)
          case atStart => exact ⟨0, Nat.zero_le _, rfl, q2, HW2.out⟩
          case round =>
            obtain ⟨n, hn, rfl, q3, hw3⟩ := hrel
            have HW3 := Lib.hid hw3
            clear hw3
            by_cases hltn : n < 4
            · obtain ⟨x0, hx0, he0, hb0⟩ := src_cell HHS.out HS.out HNE.out HB.out HW3.out (k * 64 + (16 * m + 2 * n)) (by omega)
              obtain ⟨x1, hx1, he1, hb1⟩ := src_cell HHS.out HS.out HNE.out HB.out HW3.out (k * 64 + (16 * m + 2 * n + 1)) (by omega)
              obtain ⟨x2, hx2, he2, hb2⟩ := src_cell HHS.out HS.out HNE.out HB.out HW3.out (k * 64 + (16 * m + 2 * n + 8)) (by omega)
              obtain ⟨x3, hx3, he3, hb3⟩ := src_cell HHS.out HS.out HNE.out HB.out HW3.out (k * 64 + (16 * m + 2 * n + 9)) (by omega)
              have HE0 := Lib.hid he0
              have HE1 := Lib.hid he1
              have HE2 := Lib.hid he2
              have HE3 := Lib.hid he3
              clear he0 he1 he2 he3
              obtain ⟨hb00, hb01⟩ := hb0
              obtain ⟨hb10, hb11⟩ := hb1
              obtain ⟨hb20, hb21⟩ := hb2
              obtain ⟨hb30, hb31⟩ := hb3
              have i00 : (0 : Int) ≤ 16 * (m : Int) + 2 * (n : Int) := by omega
              have i01 : 16 * (m : Int) + 2 * (n : Int) < 64 := by omega
              have i10 : (0 : Int) ≤ 16 * (m : Int) + 2 * (n : Int) + 1 := by omega
              have i11 : 16 * (m : Int) + 2 * (n : Int) + 1 < 64 := by omega
              have i20 : (0 : Int) ≤ 16 * (m : Int) + 2 * (n : Int) + 8 := by omega
              have i21 : 16 * (m : Int) + 2 * (n : Int) + 8 < 64 := by omega
              have i30 : (0 : Int) ≤ 16 * (m : Int) + 2 * (n : Int) + 9 := by omega
              have i31 : 16 * (m : Int) + 2 * (n : Int) + 9 < 64 := by omega
              have t0 : (16 * (m : Int) + 2 * (n : Int)).toNat = 16 * m + 2 * n := by omega
              have t1 : (16 * (m : Int) + 2 * (n : Int) + 1).toNat = 16 * m + 2 * n + 1 := by omega
              have t2 : (16 * (m : Int) + 2 * (n : Int) + 8).toNat = 16 * m + 2 * n + 8 := by omega
              have t3 : (16 * (m : Int) + 2 * (n : Int) + 9).toNat = 16 * m + 2 * n + 9 := by omega
              have hcd : wr.cell? ⟨bd, 8 * m + n + (k / 2 * 32 + k % 2 * 4), none⟩ = some (.int .i32 (scaleN S (16 * k + 4 * m + n) D)[8 * m + n + (k / 2 * 32 + k % 2 * 4)]!) := by
                rw [HW3.out]
                exact cell_of w bd D _ HHD.out (by rw [size_scaleN]) _ (by rw [size_scaleN, HD.out]; omega)
              have hfd : wr.frozen? ⟨bd, 8 * m + n + (k / 2 * 32 + k % 2 * 4), none⟩ = false := by
                rw [HW3.out]
                exact free_of w bd D _ HHD.out (by rw [size_scaleN]) _ (by rw [size_scaleN, HD.out]; omega)
              obtain ⟨z, hz⟩ : ∃ z, z = (scaleN S (16 * k + 4 * m + n) D)[8 * m + n + (k / 2 * 32 + k % 2 * 4)]! := ⟨_, rfl⟩
              rw [← hz] at hcd
              clear hz
              go_wp2_with fail
              go_quiet (fail)
              go_wp2_with fail
              go_roundw
              case rel =>
                refine ⟨n + 1, by omega, by go_num, q3 + nq, ?_⟩
                rw [HW3.out]
                have hp : 8 * m + n + (k / 2 * 32 + k % 2 * 4) = scaleAt (16 * k + 4 * m + n) := by unfold scaleAt; omega
                have hf : scaleFrom (16 * k + 4 * m + n) = k * 64 + (16 * m + 2 * n) := by unfold scaleFrom; omega
                have hv : (x0 + x1 + x2 + x3 + 2) / 4 = scaleVal S (16 * k + 4 * m + n) := by
                  unfold scaleVal
                  rw [hf, HE0.out, HE1.out, HE2.out, HE3.out]
                  rfl
                rw [hp, hv]
                have h := put_one w bd (scaleN S (16 * k + 4 * m + n) D) (scaleAt (16 * k + 4 * m + n)) (scaleVal S (16 * k + 4 * m + n)) (by rw [size_scaleN, HD.out]; omega)
                show (((putRow i32v w bd 0 (scaleN S (16 * k + 4 * m + n) D)).setCell _ _).drewN q3).drewN nq = _
                rw [h, World.drewN_drewN]
                rfl
              case measure => simp [intOf]; omega
            · obtain rfl : n = 4 := by omega
              go_wp2_with fail
              go_roundw
              case rel => exact ⟨m + 1, by omega, by go_num, q3, HW3.out⟩
              case measure => simp [intOf]; omega
        · obtain rfl : m = 4 := by omega
          go_wp2_with fail
          go_roundw
          case rel => exact ⟨k + 1, by omega, by go_num, q2, HW2.out⟩
          case measure => simp [intOf]; omega
    · obtain rfl : k = 4 := by omega
      go_wp2
      go_end0
      exact ⟨rfl, q, HW.out⟩

end Go.Proofs.YtlibflbpajeeeaaDoor

namespace Go.Proofs.YtlibflbpajeeeaaDoor
open Go.RowKit Go.Sort

theorem scaleAt_all : ∀ t, t < 64 → ∀ u, u < 64 → scaleAt t = scaleAt u → t = u := by decide +kernel
theorem scaleAt_inj (t u : Nat) (ht : t < 64) (hu : u < 64) (h : scaleAt t = scaleAt u) : t = u := scaleAt_all t ht u hu h
theorem scaleAt_lt (t : Nat) (ht : t < 64) : scaleAt t < 64 := by unfold scaleAt; omega

theorem scaleN_get (S d : Array Int) (hd : d.size = 64) : ∀ T, T ≤ 64 → ∀ t, t < T → (scaleN S T d)[scaleAt t]! = scaleVal S t := by
  intro T
  induction T with
  | zero => intro _ t h; omega
  | succ T ih =>
    intro hT t ht
    rw [scaleN]
    by_cases e : t = T
    · subst e
      exact getElem!_set_same _ _ _ (by rw [size_scaleN, hd]; exact scaleAt_lt t (by omega))
    · rw [getElem!_set_other _ _ _ _ (fun x => e (scaleAt_inj _ _ (by omega) (by omega) x))]
      exact ih (by omega) t (by omega)

/-- The block of four, and the place in it, from which place k of the small block comes. -/
def fromBlock (k : Nat) : Nat := k / 32 * 2 + k % 8 / 4
def fromPlace (k : Nat) : Nat := k / 8 % 4 * 16 + k % 4 * 2

theorem place_all : ∀ k, k < 64 → 16 * fromBlock k + 4 * (k / 8 % 4) + k % 4 < 64 ∧ scaleAt (16 * fromBlock k + 4 * (k / 8 % 4) + k % 4) = k ∧ scaleFrom (16 * fromBlock k + 4 * (k / 8 % 4) + k % 4) = fromBlock k * 64 + fromPlace k := by decide +kernel

theorem quarter_law (S d : Array Int) (hd : d.size = 64) (k : Nat) (hk : k < 64) :
    (scaleN S 64 d)[k]! = (S[fromBlock k * 64 + fromPlace k]! + S[fromBlock k * 64 + fromPlace k + 1]! + S[fromBlock k * 64 + fromPlace k + 8]! + S[fromBlock k * 64 + fromPlace k + 9]! + 2) / 4 := by
  obtain ⟨e0, e1, e2⟩ := place_all k hk
  have h := scaleN_get S d hd 64 (Nat.le_refl _) _ e0
  rw [e1] at h
  rw [h, scaleVal, e2]

end Go.Proofs.YtlibflbpajeeeaaDoor
