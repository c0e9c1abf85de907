/- Plain: the transform forward, its numbers by eight to the nearest whole ones, and back: each number of the block again, off by five at the most. By the linear forms of Tabs, laid one into the other. No program in sight. -/
import Derived.Test.YtlibflbpajeeeaaTabs
import Derived.Test.YtlibflbpajeeeaaGet
namespace Go.Proofs.Ytlibflbpajeeeaa
open Go.RowKit Go.Sort

/-! ### Sums of eight -/
theorem S_congr {f g : Nat → Int} (h : ∀ j, j < 8 → f j = g j) : S f = S g := by
  unfold S
  rw [h 0 (by omega), h 1 (by omega), h 2 (by omega), h 3 (by omega), h 4 (by omega), h 5 (by omega), h 6 (by omega), h 7 (by omega)]
theorem S_add (f g : Nat → Int) : S (fun j => f j + g j) = S f + S g := by simp only [S]; omega
theorem S_sub (f g : Nat → Int) : S (fun j => f j - g j) = S f - S g := by simp only [S]; omega
theorem S_mul (c : Int) (f : Nat → Int) : S (fun j => c * f j) = c * S f := by simp only [S, Int.mul_add]
theorem S_mulr (c : Int) (f : Nat → Int) : S (fun j => f j * c) = S f * c := by simp only [S, Int.add_mul]
theorem S_mono {f g : Nat → Int} (h : ∀ j, j < 8 → f j ≤ g j) : S f ≤ S g := by
  unfold S
  have := h 0 (by omega); have := h 1 (by omega); have := h 2 (by omega); have := h 3 (by omega); have := h 4 (by omega); have := h 5 (by omega); have := h 6 (by omega); have := h 7 (by omega)
  omega
theorem S_comm (f : Nat → Nat → Int) : S (fun i => S (fun j => f i j)) = S (fun j => S (fun i => f i j)) := by simp only [S]; omega
theorem S_one (u : Nat) (hu : u < 8) (f : Nat → Int) : S (fun n => if n = u then f n else 0) = f u := by
  match u, hu with
  | 0, _ => simp [S]
  | 1, _ => simp [S]
  | 2, _ => simp [S]
  | 3, _ => simp [S]
  | 4, _ => simp [S]
  | 5, _ => simp [S]
  | 6, _ => simp [S]
  | 7, _ => simp [S]

theorem fc_range : ∀ j, j < 8 → (-268435456 : Int) ≤ (fcRows.getD j ⟨[], 0, 0, 0, 0⟩).ylo ∧ (fcRows.getD j ⟨[], 0, 0, 0, 0⟩).yhi ≤ (267386880 : Int) := by decide +kernel
theorem fr_range : ∀ j, j < 8 → (-8192 : Int) ≤ (frRows.getD j ⟨[], 0, 0, 0, 0⟩).ylo ∧ (frRows.getD j ⟨[], 0, 0, 0, 0⟩).yhi ≤ (8176 : Int) := by decide +kernel
def mlo (a l h : Int) : Int := if 0 ≤ a then a * l else a * h
def mhi (a l h : Int) : Int := if 0 ≤ a then a * h else a * l
def cf (rows : List LinRow) (i j : Nat) : Int := (rows.getD i ⟨[], 0, 0, 0, 0⟩).co.getD j 0
def el (rows : List LinRow) (i : Nat) : Int := (rows.getD i ⟨[], 0, 0, 0, 0⟩).elo
def eh (rows : List LinRow) (i : Nat) : Int := (rows.getD i ⟨[], 0, 0, 0, 0⟩).ehi

/-! ### Rows there and back -/
def trK : Int := 2251799813685248
def qTab : List (List Int) := [[1125928391876356, 24180687656, 26504209636, 34339359280, -41757248048, -24179778788, -26505118504, -21067144964], [26499186298, 1125816721447194, 2993126742, 24176668238, -26501099086, -10411015510, 90603284198, -24174755450], [24176668238, -10411015510, 1125816721447194, -24174755450, 26499186298, 90603284198, 2993126742, -26501099086], [-41757248048, 26504209636, -26505118504, 1125928391876356, -21067144964, 24180687656, -24179778788, 34339359280], [34339359280, -24179778788, 24180687656, -21067144964, 1125928391876356, -26505118504, 26504209636, -41757248048], [-26501099086, 2993126742, 90603284198, 26499186298, -24174755450, 1125816721447194, -10411015510, 24176668238], [-24174755450, 90603284198, -10411015510, -26501099086, 24176668238, 2993126742, 1125816721447194, 26499186298], [-21067144964, -26505118504, -24179778788, -41757248048, 34339359280, 26504209636, 24180687656, 1125928391876356]]
def qm (v m : Nat) : Int := (qTab.getD v []).getD m 0
def erLo : List Int := [-1282571593666241107012, -1274605330656398727172, -1269543097862036935636, -1271553786894592188828, -1259150666144457447468, -1258509686483617750892, -1262670637815844182844, -1257355231806766278020]
def erHi : List Int := [1252744327064764114308, 1258059045752550071100, 1263121278546911862636, 1263762133836413032492, 1276165254586547773852, 1274154689925331047380, 1269993738593104615428, 1277960688924238943300]
theorem trK_eq : trK = frK * (8 * irK) := by decide +kernel
theorem qm_eq : ∀ v, v < 8 → ∀ m, m < 8 → qm v m = S (fun l => cf irRows v l * cf frRows l m) := by decide +kernel
theorem er_ok : ∀ v, v < 8 → erLo.getD v 0 ≤ S (fun l => mlo (cf irRows v l) (el frRows l - 4 * frK) (eh frRows l + 4 * frK)) + 8 * frK * el irRows v ∧
    S (fun l => mhi (cf irRows v l) (el frRows l - 4 * frK) (eh frRows l + 4 * frK)) + 8 * frK * eh irRows v ≤ erHi.getD v 0 := by decide +kernel
theorem wbox_ok : ∀ v, v < 8 → (-134814314 - 1) * trK < S (fun m => mlo (qm v m) (-268435456) (267386880)) + erLo.getD v 0 ∧ S (fun m => mhi (qm v m) (-268435456) (267386880)) + erHi.getD v 0 < (134287978 + 1) * trK := by decide +kernel

theorem rows_comp (Y Z q W : Nat → Int) (hY : ∀ m, m < 8 → (-268435456 : Int) ≤ Y m ∧ Y m ≤ (267386880 : Int)) (hZ : ∀ l, l < 8 → RowSays frK (frRows.getD l ⟨[], 0, 0, 0, 0⟩) Y (Z l))
    (hq : ∀ l, l < 8 → -4 ≤ 8 * q l - Z l ∧ 8 * q l - Z l ≤ 4) (hW : ∀ v, v < 8 → RowSays irK (irRows.getD v ⟨[], 0, 0, 0, 0⟩) q (W v)) (v : Nat) (hv : v < 8) :
    (∃ e, trK * W v = S (fun m => qm v m * Y m) + e ∧ erLo.getD v 0 ≤ e ∧ e ≤ erHi.getD v 0) ∧ (-134814314 : Int) ≤ W v ∧ W v ≤ (134287978 : Int) := by
  obtain ⟨e4, h4, h4a, h4b⟩ := (hW v hv).lin
  have hfr : (0 : Int) < frK := by decide
  have hE : ∀ l, l < 8 → ∃ E, frK * (8 * q l) = S (fun m => cf frRows l m * Y m) + E ∧ el frRows l - 4 * frK ≤ E ∧ E ≤ eh frRows l + 4 * frK := by
    intro l hl
    obtain ⟨e2, h2, h2a, h2b⟩ := (hZ l hl).lin
    obtain ⟨g1, g2⟩ := hq l hl
    have a1 := Int.mul_le_mul_of_nonneg_left g1 (Int.le_of_lt hfr)
    have a2 := Int.mul_le_mul_of_nonneg_left g2 (Int.le_of_lt hfr)
    refine ⟨e2 + frK * (8 * q l - Z l), ?_, ?_, ?_⟩
    · rw [Int.mul_sub, h2]; unfold cf; omega
    · unfold el; omega
    · unfold eh; omega
  have hch : ∃ E : Nat → Int, ∀ l, l < 8 → frK * (8 * q l) = S (fun m => cf frRows l m * Y m) + E l ∧ el frRows l - 4 * frK ≤ E l ∧ E l ≤ eh frRows l + 4 * frK := by
    refine ⟨fun l => frK * (8 * q l) - S (fun m => cf frRows l m * Y m), fun l hl => ?_⟩
    obtain ⟨E, h1, h2, h3⟩ := hE l hl
    dsimp only
    refine ⟨by omega, by omega, by omega⟩
  obtain ⟨E, hE⟩ := hch
  have key : trK * W v = S (fun m => qm v m * Y m) + (S (fun l => cf irRows v l * E l) + 8 * frK * e4) := by
    have e1 : trK * W v = frK * (8 * (irK * W v)) := by rw [trK_eq, Int.mul_assoc, Int.mul_assoc]
    have e2 : frK * (8 * S (fun j => (irRows.getD v ⟨[], 0, 0, 0, 0⟩).co.getD j 0 * q j)) = S (fun l => cf irRows v l * (S (fun m => cf frRows l m * Y m) + E l)) := by
      rw [← S_mul 8, ← S_mul frK]
      refine S_congr fun l hl => ?_
      rw [← (hE l hl).1]
      show frK * (8 * (cf irRows v l * q l)) = cf irRows v l * (frK * (8 * q l))
      rw [Int.mul_left_comm 8, Int.mul_left_comm frK]
    have e3 : S (fun l => cf irRows v l * (S (fun m => cf frRows l m * Y m) + E l)) = S (fun m => qm v m * Y m) + S (fun l => cf irRows v l * E l) := by
      have f1 : S (fun l => cf irRows v l * (S (fun m => cf frRows l m * Y m) + E l)) = S (fun l => S (fun m => cf irRows v l * (cf frRows l m * Y m)) + cf irRows v l * E l) :=
        S_congr fun l _ => by rw [Int.mul_add, S_mul]
      rw [f1, S_add, S_comm]
      congr 1
      refine S_congr fun m hm => ?_
      rw [qm_eq v hv m hm, ← S_mulr]
      exact S_congr fun l _ => by rw [Int.mul_assoc]
    rw [e1, h4, Int.mul_add, Int.mul_add, e2, e3]
    have : frK * (8 * e4) = 8 * frK * e4 := by rw [Int.mul_left_comm, Int.mul_assoc]
    omega
  have hb1 : S (fun l => mlo (cf irRows v l) (el frRows l - 4 * frK) (eh frRows l + 4 * frK)) ≤ S (fun l => cf irRows v l * E l) := S_mono fun l hl => mul_lo _ _ _ _ (hE l hl).2.1 (hE l hl).2.2
  have hb2 : S (fun l => cf irRows v l * E l) ≤ S (fun l => mhi (cf irRows v l) (el frRows l - 4 * frK) (eh frRows l + 4 * frK)) := S_mono fun l hl => mul_hi _ _ _ _ (hE l hl).2.1 (hE l hl).2.2
  have hc1 : 8 * frK * el irRows v ≤ 8 * frK * e4 := Int.mul_le_mul_of_nonneg_left h4a (by decide)
  have hc2 : 8 * frK * e4 ≤ 8 * frK * eh irRows v := Int.mul_le_mul_of_nonneg_left h4b (by decide)
  obtain ⟨er1, er2⟩ := er_ok v hv
  have hlo : erLo.getD v 0 ≤ S (fun l => cf irRows v l * E l) + 8 * frK * e4 := by omega
  have hhi : S (fun l => cf irRows v l * E l) + 8 * frK * e4 ≤ erHi.getD v 0 := by omega
  refine ⟨⟨_, key, hlo, hhi⟩, ?_⟩
  obtain ⟨w1, w2⟩ := wbox_ok v hv
  have d1 : S (fun m => mlo (qm v m) (-268435456) (267386880)) ≤ S (fun m => qm v m * Y m) := S_mono fun m hm => mul_lo _ _ _ _ (hY m hm).1 (hY m hm).2
  have d2 : S (fun m => qm v m * Y m) ≤ S (fun m => mhi (qm v m) (-268435456) (267386880)) := S_mono fun m hm => mul_hi _ _ _ _ (hY m hm).1 (hY m hm).2
  have ht : (0 : Int) ≤ trK := by decide
  have g1 : trK * (-134814314 - 1) < trK * W v := by rw [Int.mul_comm trK (-134814314 - 1)]; omega
  have g2 : trK * W v < trK * (134287978 + 1) := by rw [Int.mul_comm trK (134287978 + 1)]; omega
  have k1 := Int.lt_of_mul_lt_mul_left g1 ht
  have k2 := Int.lt_of_mul_lt_mul_left g2 ht
  omega

/-! ### Columns there and back -/
def tK : Int := 324518553658426726783156020576256
def pTab : List (List Int) := [[288250104379208626, 7618318944704, -12236601816498, 5446682838386, -5802628253042, -7618495121998, 12236777993792, -19372282082226], [-12236232785066, 288223008293025213, -1375356187577, 7618821743644, 12236275194852, 1019410772921, 7723804101187, -7618864153430], [7618821743644, 1019410772921, 288223008293025213, -7618864153430, -12236232785066, 7723804101187, -1375356187577, 12236275194852], [-5802628253042, -12236601816498, 12236777993792, 288250104379208626, -19372282082226, 7618318944704, -7618495121998, 5446682838386], [5446682838386, -7618495121998, 7618318944704, -19372282082226, 288250104379208626, 12236777993792, -12236601816498, -5802628253042], [12236275194852, -1375356187577, 7723804101187, -12236232785066, -7618864153430, 288223008293025213, 1019410772921, 7618821743644], [-7618864153430, 7723804101187, 1019410772921, 12236275194852, 7618821743644, -1375356187577, 288223008293025213, -12236232785066], [-19372282082226, 12236777993792, -7618495121998, -5802628253042, 5446682838386, -12236601816498, 7618318944704, 288250104379208626]]
def pm (u n : Nat) : Int := (pTab.getD u []).getD n 0
theorem tK_eq : tK = fcK * (trK * icK) := by decide +kernel
theorem pm_eq : ∀ u, u < 8 → ∀ n, n < 8 → pm u n = S (fun j => cf icRows u j * cf fcRows j n) := by decide +kernel
def dm (u v n m : Nat) : Int := pm u n * qm v m - (if n = u then (if m = v then tK else 0) else 0)
def totLo (u v : Nat) : Int := S (fun n => S (fun m => mlo (dm u v n m) 0 255)) + S (fun j => S (fun m => mlo (cf icRows u j * qm v m) (el fcRows j) (eh fcRows j))) + S (fun j => mlo (cf icRows u j * fcK) (erLo.getD v 0) (erHi.getD v 0)) + fcK * trK * el icRows u
def totHi (u v : Nat) : Int := S (fun n => S (fun m => mhi (dm u v n m) 0 255)) + S (fun j => S (fun m => mhi (cf icRows u j * qm v m) (el fcRows j) (eh fcRows j))) + S (fun j => mhi (cf icRows u j * fcK) (erLo.getD v 0) (erHi.getD v 0)) + fcK * trK * eh icRows u
theorem tot_ok : ∀ u, u < 8 → ∀ v, v < 8 → tK * (-6) < totLo u v + tK * 128 ∧ totHi u v + tK * 128 < tK * 6 := by decide +kernel

def pmj (u v j n m : Nat) : Int := cf icRows u j * qm v m * cf fcRows j n

theorem cols_comp (X Y W : Nat → Nat → Int) (hX : ∀ n, n < 8 → ∀ m, m < 8 → (0 : Int) ≤ X n m ∧ X n m ≤ (255 : Int))
    (hY : ∀ j, j < 8 → ∀ m, m < 8 → RowSays fcK (fcRows.getD j ⟨[], 0, 0, 0, 0⟩) (fun n => X n m) (Y j m))
    (u v : Nat) (hu : u < 8) (hv : v < 8) (hW : ∀ j, j < 8 → ∃ e, trK * W j v = S (fun m => qm v m * Y j m) + e ∧ erLo.getD v 0 ≤ e ∧ e ≤ erHi.getD v 0)
    (O : Int) (hO : RowSays icK (icRows.getD u ⟨[], 0, 0, 0, 0⟩) (fun j => W j v) O) : -5 ≤ O + 128 - X u v ∧ O + 128 - X u v ≤ 5 := by
  obtain ⟨e5, h5, h5a, h5b⟩ := hO.lin
  have hch1 : ∃ E1 : Nat → Nat → Int, ∀ j, j < 8 → ∀ m, m < 8 → fcK * Y j m = S (fun n => cf fcRows j n * X n m) + E1 j m ∧ el fcRows j ≤ E1 j m ∧ E1 j m ≤ eh fcRows j := by
    refine ⟨fun j m => fcK * Y j m - S (fun n => cf fcRows j n * X n m), fun j hj m hm => ?_⟩
    obtain ⟨e, h1, h2, h3⟩ := (hY j hj m hm).lin
    unfold el eh cf
    dsimp only
    refine ⟨by omega, by omega, by omega⟩
  obtain ⟨E1, hE1⟩ := hch1
  have hch2 : ∃ R : Nat → Int, ∀ j, j < 8 → trK * W j v = S (fun m => qm v m * Y j m) + R j ∧ erLo.getD v 0 ≤ R j ∧ R j ≤ erHi.getD v 0 := by
    refine ⟨fun j => trK * W j v - S (fun m => qm v m * Y j m), fun j hj => ?_⟩
    obtain ⟨e, h1, h2, h3⟩ := hW j hj
    dsimp only
    refine ⟨by omega, by omega, by omega⟩
  obtain ⟨R, hR⟩ := hch2
  have key : tK * O = S (fun n => S (fun m => pm u n * qm v m * X n m)) + (S (fun j => S (fun m => cf icRows u j * qm v m * E1 j m)) + S (fun j => cf icRows u j * fcK * R j) + fcK * trK * e5) := by
    have a1 : tK * O = fcK * (trK * (icK * O)) := by rw [tK_eq, Int.mul_assoc, Int.mul_assoc]
    have a2 : fcK * (trK * S (fun j => (icRows.getD u ⟨[], 0, 0, 0, 0⟩).co.getD j 0 * W j v)) = S (fun j => cf icRows u j * (fcK * (trK * W j v))) := by
      rw [← S_mul trK, ← S_mul fcK]
      refine S_congr fun j _ => ?_
      show fcK * (trK * (cf icRows u j * W j v)) = cf icRows u j * (fcK * (trK * W j v))
      rw [Int.mul_left_comm trK, Int.mul_left_comm fcK]
    have a3 : S (fun j => cf icRows u j * (fcK * (trK * W j v))) = S (fun j => S (fun m => S (fun n => pmj u v j n m * X n m)) + (S (fun m => cf icRows u j * qm v m * E1 j m) + cf icRows u j * fcK * R j)) := by
      refine S_congr fun j hj => ?_
      rw [(hR j hj).1, Int.mul_add, Int.mul_add, ← S_mul fcK, ← S_mul (cf icRows u j)]
      have b1 : S (fun m => cf icRows u j * (fcK * (qm v m * Y j m))) = S (fun m => S (fun n => pmj u v j n m * X n m) + cf icRows u j * qm v m * E1 j m) := by
        refine S_congr fun m hm => ?_
        rw [Int.mul_left_comm fcK, (hE1 j hj m hm).1, ← Int.mul_assoc, Int.mul_add, ← S_mul]
        congr 1
        refine S_congr fun n _ => ?_
        unfold pmj
        rw [← Int.mul_assoc]
      rw [b1, S_add, Int.mul_assoc]
      omega
    have a4 : S (fun j => S (fun m => S (fun n => pmj u v j n m * X n m))) = S (fun n => S (fun m => pm u n * qm v m * X n m)) := by
      have c1 : S (fun j => S (fun m => S (fun n => pmj u v j n m * X n m))) = S (fun j => S (fun n => S (fun m => pmj u v j n m * X n m))) := S_congr fun j _ => S_comm _
      rw [c1, S_comm]
      refine S_congr fun n hn => ?_
      rw [S_comm]
      refine S_congr fun m _ => ?_
      rw [pm_eq u hu n hn, S_mulr (X n m), ← S_mulr (qm v m)]
      congr 1
      refine S_congr fun j _ => ?_
      unfold pmj
      rw [Int.mul_assoc, Int.mul_comm (qm v m), ← Int.mul_assoc]
    rw [a1, h5, Int.mul_add, Int.mul_add, a2, a3, S_add, S_add, a4, ← Int.mul_assoc fcK trK e5]
    omega
  have hd : S (fun n => S (fun m => dm u v n m * X n m)) = S (fun n => S (fun m => pm u n * qm v m * X n m)) - tK * X u v := by
    have b0 : S (fun n => S (fun m => dm u v n m * X n m)) = S (fun n => S (fun m => pm u n * qm v m * X n m) - (if n = u then tK * X n v else 0)) := by
      refine S_congr fun n _ => ?_
      by_cases hn : n = u
      · rw [if_pos hn]
        have b1 : S (fun m => dm u v n m * X n m) = S (fun m => pm u n * qm v m * X n m - (if m = v then tK * X n m else 0)) := by
          refine S_congr fun m _ => ?_
          unfold dm
          rw [if_pos hn, Int.sub_mul]
          by_cases hm : m = v
          · rw [if_pos hm, if_pos hm]
          · rw [if_neg hm, if_neg hm, Int.zero_mul]
        rw [b1, S_sub, S_one v hv]
      · rw [if_neg hn, Int.sub_zero]
        refine S_congr fun m _ => ?_
        unfold dm
        rw [if_neg hn, Int.sub_zero]
    rw [b0, S_sub, S_one u hu]
  have l1 : S (fun n => S (fun m => mlo (dm u v n m) 0 255)) ≤ S (fun n => S (fun m => dm u v n m * X n m)) := S_mono fun n hn => S_mono fun m hm => mul_lo _ _ _ _ (hX n hn m hm).1 (hX n hn m hm).2
  have l2 : S (fun n => S (fun m => dm u v n m * X n m)) ≤ S (fun n => S (fun m => mhi (dm u v n m) 0 255)) := S_mono fun n hn => S_mono fun m hm => mul_hi _ _ _ _ (hX n hn m hm).1 (hX n hn m hm).2
  have l3 : S (fun j => S (fun m => mlo (cf icRows u j * qm v m) (el fcRows j) (eh fcRows j))) ≤ S (fun j => S (fun m => cf icRows u j * qm v m * E1 j m)) := S_mono fun j hj => S_mono fun m hm => mul_lo _ _ _ _ (hE1 j hj m hm).2.1 (hE1 j hj m hm).2.2
  have l4 : S (fun j => S (fun m => cf icRows u j * qm v m * E1 j m)) ≤ S (fun j => S (fun m => mhi (cf icRows u j * qm v m) (el fcRows j) (eh fcRows j))) := S_mono fun j hj => S_mono fun m hm => mul_hi _ _ _ _ (hE1 j hj m hm).2.1 (hE1 j hj m hm).2.2
  have l5 : S (fun j => mlo (cf icRows u j * fcK) (erLo.getD v 0) (erHi.getD v 0)) ≤ S (fun j => cf icRows u j * fcK * R j) := S_mono fun j hj => mul_lo _ _ _ _ (hR j hj).2.1 (hR j hj).2.2
  have l6 : S (fun j => cf icRows u j * fcK * R j) ≤ S (fun j => mhi (cf icRows u j * fcK) (erLo.getD v 0) (erHi.getD v 0)) := S_mono fun j hj => mul_hi _ _ _ _ (hR j hj).2.1 (hR j hj).2.2
  have l7 : fcK * trK * el icRows u ≤ fcK * trK * e5 := Int.mul_le_mul_of_nonneg_left h5a (by decide)
  have l8 : fcK * trK * e5 ≤ fcK * trK * eh icRows u := Int.mul_le_mul_of_nonneg_left h5b (by decide)
  obtain ⟨t1, t2⟩ := tot_ok u hu v hv
  unfold totLo at t1
  unfold totHi at t2
  have hm : tK * (O + 128 - X u v) = tK * O + tK * 128 - tK * X u v := by rw [Int.mul_sub, Int.mul_add]
  have g1 : tK * (-6) < tK * (O + 128 - X u v) := by omega
  have g2 : tK * (O + 128 - X u v) < tK * 6 := by omega
  have ht : (0 : Int) ≤ tK := by decide
  have k1 := Int.lt_of_mul_lt_mul_left g1 ht
  have k2 := Int.lt_of_mul_lt_mul_left g2 ht
  omega

/-! ### The law -/
theorem line_is (p : Nat → Nat) (d : Array Int) : line p d = line8 (fun j => d[p j]!) := rfl

/-- Each number of the forward transform of a block of numbers from 0 to 255. -/
theorem forward_bounds (d : Array Int) (hd : d.size = 64) (hb : ∀ k, k < 64 → (0 : Int) ≤ d[k]! ∧ d[k]! ≤ (255 : Int)) (j l : Nat) (hj : j < 8) (hl : l < 8) :
    (-8192 : Int) ≤ (frowsA (fcolsA d))[8 * j + l]! ∧ (frowsA (fcolsA d))[8 * j + l]! ≤ (8191 : Int) := by
  have hsz : (fcolsA d).size = 64 := by unfold fcolsA; rw [size_steps]; exact hd
  have hY : ∀ m, m < 8 → (-268435456 : Int) ≤ (fcolsA d)[rowAt j m]! ∧ (fcolsA d)[rowAt j m]! ≤ (267386880 : Int) := by
    intro m hm
    show (-268435456 : Int) ≤ (fcolsA d)[8 * j + m]! ∧ (fcolsA d)[8 * j + m]! ≤ (267386880 : Int)
    rw [fcols_get d hd j m hj hm, line_is]
    have h := fc_says (fun n => d[colAt m n]!) (fun n hn => hb _ (by unfold colAt; omega)) j hj
    have hr := fc_range j hj
    have h1 := h.lo
    have h2 := h.hi
    omega
  rw [frows_get _ hsz j l hj hl, line_is]
  have h := fr_says _ hY l hl
  have hr := fr_range l hl
  have h1 := h.lo
  have h2 := h.hi
  omega

theorem inverse_law (d q : Array Int) (hd : d.size = 64) (hb : ∀ k, k < 64 → (0 : Int) ≤ d[k]! ∧ d[k]! ≤ (255 : Int)) (hqs : q.size = 64)
    (hq : ∀ k, k < 64 → (-4 : Int) ≤ 8 * q[k]! - (frowsA (fcolsA d))[k]! ∧ 8 * q[k]! - (frowsA (fcolsA d))[k]! ≤ (4 : Int)) (k : Nat) (hk : k < 64) :
    (-5 : Int) ≤ (icolsA (irowsA q))[k]! + 128 - d[k]! ∧ (icolsA (irowsA q))[k]! + 128 - d[k]! ≤ (5 : Int) := by
  have hsz : (fcolsA d).size = 64 := by unfold fcolsA; rw [size_steps]; exact hd
  have hisz : (irowsA q).size = 64 := by unfold irowsA; rw [size_steps]; exact hqs
  have hYs : ∀ j, j < 8 → ∀ m, m < 8 → RowSays fcK (fcRows.getD j ⟨[], 0, 0, 0, 0⟩) (fun n => d[8 * n + m]!) ((fcolsA d)[8 * j + m]!) := by
    intro j hj m hm
    rw [fcols_get d hd j m hj hm, line_is]
    exact fc_says (fun n => d[8 * n + m]!) (fun n hn => hb _ (by omega)) j hj
  have hYb : ∀ j, j < 8 → ∀ m, m < 8 → (-268435456 : Int) ≤ (fcolsA d)[8 * j + m]! ∧ (fcolsA d)[8 * j + m]! ≤ (267386880 : Int) := by
    intro j hj m hm
    have h := hYs j hj m hm
    have hr := fc_range j hj
    have h1 := h.lo
    have h2 := h.hi
    omega
  have hW : ∀ j, j < 8 → ∀ v, v < 8 → (∃ e, trK * (irowsA q)[8 * j + v]! = S (fun m => qm v m * (fcolsA d)[8 * j + m]!) + e ∧ erLo.getD v 0 ≤ e ∧ e ≤ erHi.getD v 0) ∧ (-134814314 : Int) ≤ (irowsA q)[8 * j + v]! ∧ (irowsA q)[8 * j + v]! ≤ (134287978 : Int) := by
    intro j hj v hv
    refine rows_comp (fun m => (fcolsA d)[8 * j + m]!) (fun l => (frowsA (fcolsA d))[8 * j + l]!) (fun l => q[8 * j + l]!) (fun v => (irowsA q)[8 * j + v]!) (hYb j hj) ?_ ?_ ?_ v hv
    · intro l hl
      rw [frows_get _ hsz j l hj hl, line_is]
      exact fr_says _ (hYb j hj) l hl
    · intro l hl
      exact hq (8 * j + l) (by omega)
    · intro v hv
      rw [irows_get q hqs j v hj hv, line_is]
      refine ir_says _ ?_ v hv
      intro l hl
      have h1 := forward_bounds d hd hb j l hj hl
      have h2 := hq (8 * j + l) (by omega)
      show (-1025 : Int) ≤ q[8 * j + l]! ∧ q[8 * j + l]! ≤ (1025 : Int)
      omega
  have e : k = 8 * (k / 8) + k % 8 := by omega
  have hu : k / 8 < 8 := by omega
  have hv : k % 8 < 8 := by omega
  generalize k / 8 = u at *
  generalize k % 8 = v at *
  subst e
  rw [icols_get _ hisz u v hu hv, line_is]
  exact cols_comp (fun n m => d[8 * n + m]!) (fun j m => (fcolsA d)[8 * j + m]!) (fun j v => (irowsA q)[8 * j + v]!) (fun n hn m hm => hb _ (by omega)) hYs u v hu hv (fun j hj => (hW j hj v hv).1) _
    (ic_says (fun j => (irowsA q)[8 * j + v]!) (fun j hj => (hW j hj v hv).2) u hu)

end Go.Proofs.Ytlibflbpajeeeaa
