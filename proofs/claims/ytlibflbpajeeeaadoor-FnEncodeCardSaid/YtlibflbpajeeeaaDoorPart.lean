/- The contract of the reference's part: a block of one of a pixel's numbers. -/
import Derived.Test.YtlibflbpajeeeaaDoorJImg
import Derived.Test.YtlibflbpajeeeaaDoorJArr
import Derived.Outline
namespace Go.Proofs.YtlibflbpajeeeaaDoor
open Go.RowKit Go.Sort

def pick (k : Nat) (a b c : Int) : Int := match k with | 0 => a | 1 => b | _ => c
theorem idx31_0 (a b c : Int) (w : World) : (Instr.index 31 (.agg #[.int .u8 a, .int .u8 b, .int .u8 c]) (.int .i64 ((0 : Nat) : Int))).run Tryd.prog w = .ok (.int .u8 a) w := by kernel_rfl
theorem idx31_1 (a b c : Int) (w : World) : (Instr.index 31 (.agg #[.int .u8 a, .int .u8 b, .int .u8 c]) (.int .i64 ((1 : Nat) : Int))).run Tryd.prog w = .ok (.int .u8 b) w := by kernel_rfl
theorem idx31_2 (a b c : Int) (w : World) : (Instr.index 31 (.agg #[.int .u8 a, .int .u8 b, .int .u8 c]) (.int .i64 ((2 : Nat) : Int))).run Tryd.prog w = .ok (.int .u8 c) w := by kernel_rfl
theorem idx31 (k : Nat) (hk : k < 3) (a b c : Int) (w : World) : (Instr.index 31 (.agg #[.int .u8 a, .int .u8 b, .int .u8 c]) (.int .i64 (k : Int))).run Tryd.prog w = .ok (.int .u8 (pick k a b c)) w := by
  match k, hk with
  | 0, _ => exact idx31_0 a b c w
  | 1, _ => exact idx31_1 a b c w
  | 2, _ => exact idx31_2 a b c w

/-- What the pixels' function says, as long as what stood there stands. -/
def AtSays (u0 : World) (fid : FuncId) (c1 c2 : Value) (wd ht : Nat) (f0 f1 f2 : Nat → Nat → Int) : Prop :=
  ∀ u, Below u0.heap.size u0 u → ∀ x y : Nat, x < wd → y < ht → Calls Tryd.prog fid #[.int .i64 x, .int .i64 y, c1, c2] u fun e u' => e = .returned (.agg #[.int .u8 (f0 x y), .int .u8 (f1 x y), .int .u8 (f2 x y)]) ∧ Below u.heap.size u u'

/-- A call of the function comes to its body. -/
def Enters (fid : FuncId) : Prop := ∀ (args : Array Value) (w : World), (callFunc fid args).run Tryd.prog w = .ok (.enter fid args) w
theorem enters5 : Enters 5 := fun args w => by kernel_rfl
theorem enters7 : Enters 7 := fun args w => by kernel_rfl
theorem enters8 : Enters 8 := fun args w => by kernel_rfl

/-- The three boxes that part reads. -/
structure PartMem (w : World) (ab wb hb : Nat) (fid : FuncId) (c1 c2 : Value) (wd ht : Nat) : Prop where
  ac : w.cell? ⟨ab, 0, none⟩ = some (.func (.func fid) #[] #[c1, c2])
  wc : w.cell? ⟨wb, 0, none⟩ = some (.int .i64 wd)
  hc : w.cell? ⟨hb, 0, none⟩ = some (.int .i64 ht)

theorem PartMem.below {w w' : World} {ab wb hb : Nat} {fid : FuncId} {c1 c2 : Value} {wd ht : Nat} (h : PartMem w ab wb hb fid c1 c2 wd ht) (hb' : Below w.heap.size w w') : PartMem w' ab wb hb fid c1 c2 wd ht :=
  ⟨(hb'.cell (World.block_lt_of_cell? w _ h.ac)).trans h.ac, (hb'.cell (World.block_lt_of_cell? w _ h.wc)).trans h.wc, (hb'.cell (World.block_lt_of_cell? w _ h.hc)).trans h.hc⟩

set_option maxRecDepth 100000 in
set_option maxHeartbeats 2000000 in
theorem part_any (u0 w : World) (ab wb hb : Nat) (fid : FuncId) (c1 c2 : Value) (wd ht : Nat) (f0 f1 f2 : Nat → Nat → Int) (x y k : Nat) (hk : k < 3) (hen : Enters fid) (hat : AtSays u0 fid c1 c2 wd ht f0 f1 f2) (hu : Below u0.heap.size u0 w) (hm : PartMem w ab wb hb fid c1 c2 wd ht)
    (hd : 1 ≤ wd ∧ wd ≤ 100 ∧ 1 ≤ ht ∧ ht ≤ 100) (hx : x ≤ 200 ∧ y ≤ 200) (h8 : ∀ x y, 0 ≤ pick k (f0 x y) (f1 x y) (f2 x y) ∧ pick k (f0 x y) (f1 x y) (f2 x y) ≤ 255) :
    Calls Tryd.prog 29 #[.int .i64 x, .int .i64 y, .int .i64 k, .pointer (some ⟨ab, 0, none⟩), .pointer (some ⟨wb, 0, none⟩), .pointer (some ⟨hb, 0, none⟩)] w fun e w' => e = .returned (.agg (arr32 64 (blkG (fun x y => pick k (f0 x y) (f1 x y) (f2 x y)) wd ht x y))) ∧ Below w.heap.size w w' := by
  have hz := zero79
  obtain ⟨zs, hzs⟩ : ∃ zs, zs = arr32 64 fun _ => 0 := ⟨_, rfl⟩
  rw [← hzs] at hz
  have HS := Lib.hid hzs
  have hsz : zs.size = 64 := by rw [hzs]; exact arr32_size _ _
  have h1 : zs.all (·.oneCell') = true := by rw [hzs]; exact arr32_one _ _
  have H79 := Lib.hid (info79.trans (congrArg some hsz.symm))
  have H1 := Lib.hid h1
  have HAT := Lib.hid hat
  have HU := Lib.hid hu
  have HM := Lib.hid hm
  have H8 := Lib.hid h8
  have hix := idx31 k hk
  have hcf : ∀ (args : Array Value) (w : World), (callFunc fid args).run Tryd.prog w = .ok (.enter fid args) w := hen
  obtain ⟨g, hg⟩ : ∃ g, g = blkG (fun x y => pick k (f0 x y) (f1 x y) (f2 x y)) wd ht x y := ⟨_, rfl⟩
  have HG := Lib.hid hg
  rw [← hg]
  obtain ⟨hd1, hd2, hd3, hd4⟩ := hd
  clear hzs hsz h1 hat hu hm h8 hg hen
  go_enter Tryd.func29, Tryd.ntmps29
  go_wp2_with ((with_reducible show wpList _ _ _ (⟨none, .store 79 (.tmp 10) (.tmp 12), _, _, _, _⟩ :: _) _ _); refine wpList_store_new rfl 79 (.tmp 10) (.tmp 12) rfl (w.heap.size + 1) zs rfl rfl _ _ 79 (size_alloc1 _ _) H79.out rfl H1.out ?_)
  go_loopw [11, 13] (fun _ jv wr => ∃ j : Nat, j ≤ 64 ∧ jv = .int .i64 j ∧ Arr32 wr (w.heap.size + 1) 79 64 (upto g 0 j) ∧ Arr32 wr w.heap.size 79 64 (fun _ => 0) ∧ Below w.heap.size w wr) (fun _ jv _ => 64 - (intOf jv).toNat)
  case atStart =>
    refine ⟨0, by omega, rfl, ?_, ?_, ((Below.refl _ _).alloc (Nat.le_refl _) _).alloc (by simp) _⟩
    · rw [upto_zero]
      unfold Arr32
      rw [← HS.out, size_alloc1 w (.cells zs 79)]
      exact heap_alloc_new _ _
    · unfold Arr32
      rw [← HS.out, _root_.Go.heap_alloc_old _ _ (by simp)]
      exact heap_alloc_new _ _
  case round =>
    obtain ⟨j, hj, rfl, h2, h3, h4⟩ := hrel
    by_cases hj64 : j < 64
    · have hM := HM.out.below h4
      have hma := hM.ac
      have hmw := hM.wc
      have hmh := hM.hc
      obtain ⟨X, hX⟩ : ∃ X, X = min (x + j % 8) (wd - 1) := ⟨_, rfl⟩
      obtain ⟨Y, hY⟩ : ∃ Y, Y = min (y + j / 8) (ht - 1) := ⟨_, rfl⟩
      have hgj : g j = pick k (f0 X Y) (f1 X Y) (f2 X Y) := by rw [HG.out]; unfold blkG; rw [← hX, ← hY]
      have hcall : ∀ a b : Int, a = (X : Int) → b = (Y : Int) → Calls Tryd.prog fid #[.int .i64 a, .int .i64 b, c1, c2] wr fun e u' => e = .returned (.agg #[.int .u8 (f0 X Y), .int .u8 (f1 X Y), .int .u8 (f2 X Y)]) ∧ Below wr.heap.size wr u' := fun a b ha hb => by
        rw [ha, hb]
        exact HAT.out wr (HU.out.trans (h4.mono HU.out.size)) X Y (by omega) (by omega)
      have H2 := Lib.hid h2
      have H3 := Lib.hid h3
      have H4 := Lib.hid h4
      have HC := Lib.hid hcall
      have HGJ := Lib.hid hgj
      obtain ⟨hp0, hp1⟩ := H8.out X Y
      obtain ⟨px, hpx⟩ : ∃ p, p = pick k (f0 X Y) (f1 X Y) (f2 X Y) := ⟨_, rfl⟩
      have hix2 := fun w => hix (f0 X Y) (f1 X Y) (f2 X Y) w
      rw [← hpx] at hp0 hp1
      rw [← hpx] at hix2
      obtain ⟨q0, hq0⟩ : ∃ q, q = f0 X Y := ⟨_, rfl⟩
      obtain ⟨q1, hq1⟩ : ∃ q, q = f1 X Y := ⟨_, rfl⟩
      obtain ⟨q2, hq2⟩ : ∃ q, q = f2 X Y := ⟨_, rfl⟩
      rw [← hq0, ← hq1, ← hq2] at HC
      rw [← hq0, ← hq1, ← hq2] at hix2
      have HPX := Lib.hid hpx
      clear h2 h3 h4 hM hcall hgj hpx hq0 hq1 hq2
      clear hix
      by_cases hxc : (wd : Int) - 1 < (x : Int) + (j : Int) % 8
      all_goals by_cases hyc : (ht : Int) - 1 < (y : Int) + (j : Int) / 8
      all_goals
        go_wp2_with fail
      all_goals
        refine (HC.out _ _ (by omega) (by omega)).mono ?_
        rintro e w1 ⟨rfl, hb⟩
        have g1 := H2.out.same (w' := w1) (hb.block _ H2.out.lt)
        have g0 := H3.out.same (w' := w1) (hb.block _ H3.out.lt)
        have gb := H4.out.trans (hb.mono H4.out.size)
        have hcell := g1.cell j hj64
        have hfree := g1.free j
        obtain ⟨old, hold⟩ : ∃ z, z = upto g 0 j j := ⟨_, rfl⟩
        rw [← hold] at hcell
        have N := Lib.hid (And.intro (g1.set j px) (And.intro (g0.same (heap_set_other w1 (w.heap.size + 1) j w.heap.size (.int .i32 px) (by omega))) (below_set gb (w.heap.size + 1) j (by omega) (.int .i32 px))))
        clear g1 g0 gb hb hold
        go_wp2_with fail
        go_roundw
      all_goals first
        | (refine ⟨j + 1, by omega, by go_num, ?_, N.out.2.1, N.out.2.2⟩
           have h := N.out.1
           have e : px = g j := by rw [HPX.out, HGJ.out]
           rw [e, upto_succ g 0 j] at h
           rw [e]
           exact h)
        | (simp [intOf]; omega)
    · obtain rfl : j = 64 := by omega
      obtain ⟨cz, hcz⟩ : ∃ c, c = arr32 64 g := ⟨_, rfl⟩
      have hg1 : wr.heap[w.heap.size + 1]? = some (.cells cz 79 (0, 0)) := by rw [hcz]; exact h2.congr (fun j hj => upto_all _ _ _ _ hj)
      have hg0 : wr.heap[w.heap.size]? = some (.cells zs 79 (0, 0)) := by rw [HS.out]; exact h3
      have hcs : cz.size = 64 := by rw [hcz]; exact arr32_size _ _
      have hzs : zs.size = cz.size := by rw [HS.out, hcs]; exact arr32_size _ _
      have HI := Lib.hid (info79.trans (congrArg some hcs.symm))
      have HC1 := Lib.hid (show cz.all (·.oneCell') = true by rw [hcz]; exact arr32_one _ _)
      have HG1 := Lib.hid hg1
      have HG0 := Lib.hid hg0
      have HZS := Lib.hid hzs
      have H4 := Lib.hid h4
      have HCZ := Lib.hid hcz
      clear h2 h3 h4 hcz hg1 hg0 hcs hzs
      go_wp2_with (first
        | ((with_reducible show wpList _ _ _ (⟨_, .load 79 (.tmp 10), _, _, _, _⟩ :: _) _ _); refine wpList_load_row rfl 79 (.tmp 10) rfl (w.heap.size + 1) rfl 79 cz (0, 0) _ HG1.out Tryd.underlying79 rfl HI.out ?_)
        | ((with_reducible show wpList _ _ _ (⟨none, .store 79 (.tmp 9) (.tmp 38), _, _, _, _⟩ :: _) _ _); refine wpList_store_row rfl 79 (.tmp 9) (.tmp 38) rfl w.heap.size cz rfl rfl 79 _ HG0.out HI.out HZS.out HC1.out ?_))
      refine bodyPost_ret (v := .agg cz) (results_cell_row rfl _ _ w.heap.size 79 cz (0, 0) _ rfl (setRow_heap _ _ _ _ _ _ HG0.out) Tryd.underlying79 rfl HI.out) rfl ⟨by rw [HCZ.out], ?_⟩
      exact Below_setRow H4.out (Nat.le_refl _) _
end Go.Proofs.YtlibflbpajeeeaaDoor
