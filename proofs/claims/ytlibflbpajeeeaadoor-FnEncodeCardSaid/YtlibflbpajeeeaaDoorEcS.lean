/- The loop of the reference's Encoded that fills the small block of one part, as a declaration of its own. Printed by wip/gen/ecs.py. -/
import Derived.Test.YtlibflbpajeeeaaDoorEcCl
import Derived.StillTailTactics
import Derived.IntWalk
namespace Go.Proofs.YtlibflbpajeeeaaDoor
open Go.RowKit Go.Sort

/-- Does a code hold a region? -/
def holdsR (n : Nat) : Code → Bool
  | .region id _ _ => id == n
  | .seq a b => holdsR n a || holdsR n b
  | .cond _ a b => holdsR n a || holdsR n b
  | .block _ c => holdsR n c
  | .loop c => holdsR n c
  | .scope c => holdsR n c
  | _ => false
/-- The body of the innermost loop that holds a region. -/
def inLoop (n : Nat) : Code → Option Code
  | .loop c => match inLoop n c with
    | some d => some d
    | none => if holdsR n c then some c else none
  | .seq a b => match inLoop n a with
    | some d => some d
    | none => inLoop n b
  | .cond _ a b => match inLoop n a with
    | some d => some d
    | none => inLoop n b
  | .block _ c => inLoop n c
  | .scope c => inLoop n c
  | _ => none
noncomputable def body71 : Code := (Tryd.f11.body.bind (inLoop 71)).getD .skip

set_option maxRecDepth 100000 in
set_option maxHeartbeats 4000000 in
theorem small_loop (w W0 W1 : World) (K : Bks) (fid : FuncId) (c1 c2 : Value) (wd ht : Nat) (q : Int) (bv : Value) (head : List Int) (v : Value) (a : Sc) (f0 f1 f2 ff : Nat → Nat → Int) (c r j NB : Nat) (Q0 : Exit → Act → World → Prop) (s0 s1 s2 s3 s4 s5 s6 s7 s8 s9 s10 s11 s12 s13 s14 s15 s16 s17 s18 s19 s20 s21 s22 s23 s24 s25 s26 s27 s28 s29 s30 s31 s33 s36 s39 s40 s41 s42 s43 s44 s45 s46 s47 s48 s49 s50 s51 s52 s53 s54 s55 s56 s57 s58 s59 s60 s61 s62 s63 s64 s65 s66 s67 s68 s69 s70 s71 s72 s73 s74 s75 s76 s77 s78 s79 s80 s81 s82 s83 s84 s85 s86 s87 s88 s89 s90 s91 s92 s93 s94 s95 s96 s97 s98 s99 s100 s101 s102 s103 s104 s105 s106 s107 s108 s109 s110 s111 s112 s113 s114 s115 s116 s117 s118 s119 s120 s121 s122 s123 s124 s125 s126 s127 s128 s129 s130 s131 s132 s133 s134 s135 s136 s137 s138 s139 s140 s141 s142 s143 s144 s145 s146 s147 s148 s149 s150 s151 s152 s153 s154 s155 s156 s157 s158 s159 s160 s161 s162 s163 s164 s165 s166 s167 s168 s169 s170 s171 s172 s173 s174 s175 s176 s177 s178 s179 s180 s181 s182 s183 s184 s185 s186 s187 s188 s189 s190 s191 s192 s193 s194 s195 s196 s197 s198 s199 s200 s201 s202 s203 s204 s205 s206 s207 s208 s209 s210 s211 s212 s213 s214 s215 s216 s217 s218 s220 s221 s222 s223 s224 s225 s226 s227 s228 s229 s230 s231 s232 s233 s234 s235 s236 s237 s238 s239 s240 s241 s242 s243 s244 s245 s246 s247 s248 s249 s250 s251 s252 s253 s254 s255 s256 s257 s258 s259 s260 s261 s262 s263 s264 s265 s266 s267 s268 s269 s270 s271 s272 s273 s274 s275 s276 s277 s278 s279 s280 s281 s282 s283 s284 s285 s286 s287 s288 s289 s290 s291 s292 s293 s294 s295 : Value)
    (hs : ScanAt w K fid c1 c2 wd ht (qt q) bv head v a W0) (hen : Enters fid) (hat : AtSays w fid c1 c2 wd ht f0 f1 f2) (hd : 1 ≤ wd ∧ wd ≤ 100 ∧ 1 ≤ ht ∧ ht ≤ 100) (hj : j < 2) (hf : ff = fun x y => pick (j + 1) (f0 x y) (f1 x y) (f2 x y)) (h8 : ∀ x y, 0 ≤ ff x y ∧ ff x y ≤ 255) (hc : 16 * c ≤ 100) (hr : 16 * r ≤ 100)
    (hb : Below W0.heap.size W0 W1) (ha : Arr32 W1 NB 79 64 (smF ff wd ht (16 * c) (16 * r) 0)) (hNB : W0.heap.size ≤ NB)
    (hexit : ∀ (t39 t40 t41 t42 t219 t220 t221 t222 t223 t224 t225 t226 t227 t228 t229 t230 t231 t232 t233 t234 t235 t236 t237 t238 t239 t240 t241 t242 t243 t244 t245 t246 t247 t248 t249 t250 t251 t252 t253 t254 t255 t256 t257 t258 t259 t260 t261 t262 t263 t264 t265 t266 t267 t268 t269 t270 t271 t272 t273 t274 t275 t276 t277 t278 t279 t280 t281 : Value) (wr : World), Below W0.heap.size W0 wr → Arr32 wr NB 79 64 (smF ff wd ht (16 * c) (16 * r) 64) → Q0 (.exit 18) ⟨List.toArray (s0 :: s1 :: s2 :: s3 :: s4 :: s5 :: s6 :: s7 :: s8 :: s9 :: s10 :: s11 :: s12 :: s13 :: s14 :: s15 :: s16 :: s17 :: s18 :: s19 :: s20 :: s21 :: s22 :: s23 :: s24 :: s25 :: s26 :: s27 :: s28 :: s29 :: s30 :: s31 :: (.func (.func 29) #[] #[.pointer (some ⟨K.ab, 0, none⟩), .pointer (some ⟨K.wb, 0, none⟩), .pointer (some ⟨K.hb, 0, none⟩)]) :: s33 :: (.int .i64 (16 * (r : Int))) :: (.int .i64 (16 * (c : Int))) :: s36 :: (.int .i64 ((j : Int) + 1)) :: (.pointer (some ⟨NB, 0, none⟩)) :: t39 :: t40 :: t41 :: t42 :: s43 :: s44 :: s45 :: s46 :: s47 :: s48 :: s49 :: s50 :: s51 :: s52 :: s53 :: s54 :: s55 :: s56 :: s57 :: s58 :: s59 :: s60 :: s61 :: s62 :: s63 :: s64 :: s65 :: s66 :: s67 :: s68 :: s69 :: s70 :: s71 :: s72 :: s73 :: s74 :: s75 :: s76 :: s77 :: s78 :: s79 :: s80 :: s81 :: s82 :: s83 :: s84 :: s85 :: s86 :: s87 :: s88 :: s89 :: s90 :: s91 :: s92 :: s93 :: s94 :: s95 :: s96 :: s97 :: s98 :: s99 :: s100 :: s101 :: s102 :: s103 :: s104 :: s105 :: s106 :: s107 :: s108 :: s109 :: s110 :: s111 :: s112 :: s113 :: s114 :: s115 :: s116 :: s117 :: s118 :: s119 :: s120 :: s121 :: s122 :: s123 :: s124 :: s125 :: s126 :: s127 :: s128 :: s129 :: s130 :: s131 :: s132 :: s133 :: s134 :: s135 :: s136 :: s137 :: s138 :: s139 :: s140 :: s141 :: s142 :: s143 :: s144 :: s145 :: s146 :: s147 :: s148 :: s149 :: s150 :: s151 :: s152 :: s153 :: s154 :: s155 :: s156 :: s157 :: s158 :: s159 :: s160 :: s161 :: s162 :: s163 :: s164 :: s165 :: s166 :: s167 :: s168 :: s169 :: s170 :: s171 :: s172 :: s173 :: s174 :: s175 :: s176 :: s177 :: s178 :: s179 :: s180 :: s181 :: s182 :: s183 :: s184 :: s185 :: s186 :: s187 :: s188 :: s189 :: s190 :: s191 :: s192 :: s193 :: s194 :: s195 :: s196 :: s197 :: s198 :: s199 :: s200 :: s201 :: s202 :: s203 :: s204 :: s205 :: s206 :: s207 :: s208 :: s209 :: s210 :: s211 :: s212 :: s213 :: s214 :: s215 :: s216 :: s217 :: s218 :: t219 :: t220 :: t221 :: t222 :: t223 :: t224 :: t225 :: t226 :: t227 :: t228 :: t229 :: t230 :: t231 :: t232 :: t233 :: t234 :: t235 :: t236 :: t237 :: t238 :: t239 :: t240 :: t241 :: t242 :: t243 :: t244 :: t245 :: t246 :: t247 :: t248 :: t249 :: t250 :: t251 :: t252 :: t253 :: t254 :: t255 :: t256 :: t257 :: t258 :: t259 :: t260 :: t261 :: t262 :: t263 :: t264 :: t265 :: t266 :: t267 :: t268 :: t269 :: t270 :: t271 :: t272 :: t273 :: t274 :: t275 :: t276 :: t277 :: t278 :: t279 :: t280 :: t281 :: s282 :: s283 :: s284 :: s285 :: s286 :: s287 :: s288 :: s289 :: s290 :: s291 :: s292 :: s293 :: s294 :: s295 :: []), []⟩ wr) :
    Code.wp Tryd.prog (.loop body71) Q0 ⟨List.toArray (s0 :: s1 :: s2 :: s3 :: s4 :: s5 :: s6 :: s7 :: s8 :: s9 :: s10 :: s11 :: s12 :: s13 :: s14 :: s15 :: s16 :: s17 :: s18 :: s19 :: s20 :: s21 :: s22 :: s23 :: s24 :: s25 :: s26 :: s27 :: s28 :: s29 :: s30 :: s31 :: (.func (.func 29) #[] #[.pointer (some ⟨K.ab, 0, none⟩), .pointer (some ⟨K.wb, 0, none⟩), .pointer (some ⟨K.hb, 0, none⟩)]) :: s33 :: (.int .i64 (16 * (r : Int))) :: (.int .i64 (16 * (c : Int))) :: s36 :: (.int .i64 ((j : Int) + 1)) :: (.pointer (some ⟨NB, 0, none⟩)) :: s39 :: s40 :: s41 :: s42 :: s43 :: s44 :: s45 :: s46 :: s47 :: s48 :: s49 :: s50 :: s51 :: s52 :: s53 :: s54 :: s55 :: s56 :: s57 :: s58 :: s59 :: s60 :: s61 :: s62 :: s63 :: s64 :: s65 :: s66 :: s67 :: s68 :: s69 :: s70 :: s71 :: s72 :: s73 :: s74 :: s75 :: s76 :: s77 :: s78 :: s79 :: s80 :: s81 :: s82 :: s83 :: s84 :: s85 :: s86 :: s87 :: s88 :: s89 :: s90 :: s91 :: s92 :: s93 :: s94 :: s95 :: s96 :: s97 :: s98 :: s99 :: s100 :: s101 :: s102 :: s103 :: s104 :: s105 :: s106 :: s107 :: s108 :: s109 :: s110 :: s111 :: s112 :: s113 :: s114 :: s115 :: s116 :: s117 :: s118 :: s119 :: s120 :: s121 :: s122 :: s123 :: s124 :: s125 :: s126 :: s127 :: s128 :: s129 :: s130 :: s131 :: s132 :: s133 :: s134 :: s135 :: s136 :: s137 :: s138 :: s139 :: s140 :: s141 :: s142 :: s143 :: s144 :: s145 :: s146 :: s147 :: s148 :: s149 :: s150 :: s151 :: s152 :: s153 :: s154 :: s155 :: s156 :: s157 :: s158 :: s159 :: s160 :: s161 :: s162 :: s163 :: s164 :: s165 :: s166 :: s167 :: s168 :: s169 :: s170 :: s171 :: s172 :: s173 :: s174 :: s175 :: s176 :: s177 :: s178 :: s179 :: s180 :: s181 :: s182 :: s183 :: s184 :: s185 :: s186 :: s187 :: s188 :: s189 :: s190 :: s191 :: s192 :: s193 :: s194 :: s195 :: s196 :: s197 :: s198 :: s199 :: s200 :: s201 :: s202 :: s203 :: s204 :: s205 :: s206 :: s207 :: s208 :: s209 :: s210 :: s211 :: s212 :: s213 :: s214 :: s215 :: s216 :: s217 :: s218 :: (.int .i64 0) :: s220 :: s221 :: s222 :: s223 :: s224 :: s225 :: s226 :: s227 :: s228 :: s229 :: s230 :: s231 :: s232 :: s233 :: s234 :: s235 :: s236 :: s237 :: s238 :: s239 :: s240 :: s241 :: s242 :: s243 :: s244 :: s245 :: s246 :: s247 :: s248 :: s249 :: s250 :: s251 :: s252 :: s253 :: s254 :: s255 :: s256 :: s257 :: s258 :: s259 :: s260 :: s261 :: s262 :: s263 :: s264 :: s265 :: s266 :: s267 :: s268 :: s269 :: s270 :: s271 :: s272 :: s273 :: s274 :: s275 :: s276 :: s277 :: s278 :: s279 :: s280 :: s281 :: s282 :: s283 :: s284 :: s285 :: s286 :: s287 :: s288 :: s289 :: s290 :: s291 :: s292 :: s293 :: s294 :: s295 :: []), []⟩ W1 := by
  have HS5 := Lib.hid hs
  have HEN := Lib.hid hen
  have HAT := Lib.hid hat
  have HD := Lib.hid hd
  have HFP := Lib.hid hf
  have HF8 := Lib.hid h8
  have HB1 := Lib.hid hb
  have HA1 := Lib.hid ha
  have HEX := Lib.hid hexit
  have HZ := zero79
  obtain ⟨z79, hz⟩ : ∃ c, c = arr32 64 fun _ => 0 := ⟨_, rfl⟩
  rw [← hz] at HZ
  have hz79 := HZ
  have hz1 : z79.size = 64 := by rw [hz]; exact arr32_size _ _
  have HZ79 := Lib.hid hz1
  clear hs hen hat hd hf h8 hb ha hexit HZ hz hz1
  conv => arg 2; arg 1; whnf
  go_loopw [39, 40, 41, 42, 219] (fun _ _ _ _ kv wr => ∃ k : Nat, k ≤ 4 ∧ kv = .int .i64 (k : Int) ∧ Below W0.heap.size W0 wr ∧ Arr32 wr NB 79 64 (smF ff wd ht (16 * c) (16 * r) (16 * k))) (fun _ _ _ _ kv _ => 4 - (intOf kv).toNat)
  case atStart => exact ⟨0, by omega, rfl, HB1.out, HA1.out⟩
  case round =>
    obtain ⟨k, hk, rfl, hb2, ha2⟩ := hrel
    have HB2 := Lib.hid hb2
    have HA2 := Lib.hid ha2
    clear hb2 ha2
    by_cases hk4 : k < 4
    · have hkb : decide ((k : Int) < 4) = true := by simp; omega
      obtain ⟨x1, hx1⟩ : ∃ x, x = 16 * c + k % 2 * 8 := ⟨_, rfl⟩
      obtain ⟨y1, hy1⟩ : ∃ y, y = 16 * r + k / 2 * 8 := ⟨_, rfl⟩
      have hxi : 16 * (c : Int) + (k : Int) % 2 * 8 = (x1 : Int) := by omega
      have hyi : 16 * (r : Int) + (k : Int) / 2 * 8 = (y1 : Int) := by omega
      obtain ⟨cd, hcd⟩ : ∃ c, c = (lumaB ff wd ht x1 y1).map i32v := ⟨_, rfl⟩
      have hpart : Calls Tryd.prog 29 #[.int .i64 (x1 : Int), .int .i64 (y1 : Int), .int .i64 ((j : Int) + 1), .pointer (some ⟨K.ab, 0, none⟩), .pointer (some ⟨K.wb, 0, none⟩), .pointer (some ⟨K.hb, 0, none⟩)] wr fun e w' => e = .returned (.agg cd) ∧ Below wr.heap.size wr w' := by
        have := (HS5.out.below HB2.out).part f0 f1 f2 HEN.out HAT.out HD.out ff x1 y1 (j + 1) (by omega) HFP.out HF8.out (by omega)
        rw [← hcd, show ((j + 1 : Nat) : Int) = (j : Int) + 1 by omega] at this
        exact this
      have hcells : ∀ b, b < 64 → cd[b]? = some (.int .i32 (blkG ff wd ht x1 y1 b)) := fun b hb => by
        rw [hcd]; unfold lumaB; rw [arr32_blk]; exact arr32_get 64 _ b hb
      have hcz : cd.size = 64 := by rw [hcd, Array.size_map]; exact blkA_size _
      have hc1 : cd.all (·.oneCell') = true := one_map hcd
      have HPART := Lib.hid hpart
      have HCELLS := Lib.hid hcells
      have HXY1 := Lib.hid (And.intro hx1 hy1)
      have HCI := Lib.hid (info79.trans (congrArg some hcz.symm))
      have HCZ := Lib.hid (HZ79.out.trans hcz.symm)
      have HC1 := Lib.hid hc1
      clear hcd hpart hcells hcz hc1 hx1 hy1
      go_wp2_with fail
      refine HPART.out.mono ?_
      rintro e w30 ⟨rfl, hb30⟩
      have HB30 := Lib.hid hb30
      clear hb30
      go_wp2_with ((with_reducible show wpList _ _ _ (⟨none, .store 79 (.tmp 40) (.tmp 234), _, _, _, _⟩ :: _) _ _); refine wpList_store_new rfl 79 (.tmp 40) (.tmp 234) rfl w30.heap.size cd rfl rfl _ _ 79 rfl HCI.out HCZ.out HC1.out ?_)
      obtain ⟨P, hP⟩ : ∃ P, P = w30.heap.size := ⟨_, rfl⟩
      have hb3 : Below W0.heap.size W0 (w30.alloc (.cells cd 79)) := (HB2.out.trans (HB30.out.mono HB2.out.size)).alloc (by have := HB2.out.size; have := HB30.out.size; omega) _
      have ha3 : Arr32 (w30.alloc (.cells cd 79)) NB 79 64 (smF ff wd ht (16 * c) (16 * r) (16 * k + 0)) := (HA2.out.same (HB30.out.block _ HA2.out.lt)).alloc _
      have hp3 : (w30.alloc (.cells cd 79)).heap[P]? = some (.cells cd 79 (0, 0)) := by rw [hP]; exact heap_alloc_new _ _
      have hPN : P ≠ NB := by have := HA2.out.lt; have := HB30.out.size; omega
      rw [← hP]
      have HP := Lib.hid hP
      clear hP
      generalize w30.alloc (.cells cd 79) = W2 at hb3 ha3 hp3 ⊢
      have HB3 := Lib.hid hb3
      have HA3 := Lib.hid ha3
      have HP3 := Lib.hid hp3
      have HPN := Lib.hid hPN
      clear hb3 ha3 hp3 hPN hxi hyi
      go_loopw [41, 42, 235] (fun _ _ iv wr => ∃ i : Nat, i ≤ 16 ∧ iv = .int .i64 (i : Int) ∧ Below W0.heap.size W0 wr ∧ Arr32 wr NB 79 64 (smF ff wd ht (16 * c) (16 * r) (16 * k + i)) ∧ wr.heap[P]? = some (.cells cd 79 (0, 0))) (fun _ _ iv _ => 16 - (intOf iv).toNat)
      case atStart => exact ⟨0, by omega, rfl, HB3.out, HA3.out, HP3.out⟩
      case round =>
        obtain ⟨i, hi, rfl, hb4, ha4, hp4⟩ := hrel
        have HB4 := Lib.hid hb4
        have HA4 := Lib.hid ha4
        have HP4 := Lib.hid hp4
        clear hb4 ha4 hp4
        by_cases hi16 : i < 16
        · have hib : decide ((i : Int) < 16) = true := by simp; omega
          obtain ⟨an, han⟩ : ∃ a, a = i / 4 * 16 + i % 4 * 2 := ⟨_, rfl⟩
          have hai : (i : Int) / 4 * 16 + (i : Int) % 4 * 2 = (an : Int) := by omega
          have ha64 : an + 9 < 64 := by omega
          obtain ⟨un, hun⟩ : ∃ u, u = scaleAt (16 * k + i) := ⟨_, rfl⟩
          have hun2 := hun.trans (scaleAt_of k i hi16)
          have hui : (k : Int) / 2 * 32 + (k : Int) % 2 * 4 + (i : Int) / 4 * 8 + (i : Int) % 4 = (un : Int) := by omega
          have hu64 : un < 64 := by omega
          have hcl : ∀ b, b < 64 → wr.cell? ⟨P, b, none⟩ = some (.int .i32 (blkG ff wd ht x1 y1 b)) := fun b hb => by rw [cell_of_row _ _ _ _ 79 (0, 0) HP4.out]; exact HCELLS.out b hb
          have hbl : ∀ b, 0 ≤ blkG ff wd ht x1 y1 b ∧ blkG ff wd ht x1 y1 b ≤ 255 := fun b => HF8.out _ _
          have hv := smF_val ff wd ht (16 * c) (16 * r) k i an hk4 hi16 han
          rw [← HXY1.out.1, ← HXY1.out.2] at hv
          have l0 := hcl an (by omega)
          have l1 := hcl (an + 1) (by omega)
          have l8 := hcl (an + 8) (by omega)
          have l9 := hcl (an + 9) (by omega)
          obtain ⟨b00, b01⟩ := hbl an
          obtain ⟨b10, b11⟩ := hbl (an + 1)
          obtain ⟨b80, b81⟩ := hbl (an + 8)
          obtain ⟨b90, b91⟩ := hbl (an + 9)
          obtain ⟨p0, hp0⟩ : ∃ p, p = blkG ff wd ht x1 y1 an := ⟨_, rfl⟩
          obtain ⟨p1, hp1⟩ : ∃ p, p = blkG ff wd ht x1 y1 (an + 1) := ⟨_, rfl⟩
          obtain ⟨p8, hp8⟩ : ∃ p, p = blkG ff wd ht x1 y1 (an + 8) := ⟨_, rfl⟩
          obtain ⟨p9, hp9⟩ : ∃ p, p = blkG ff wd ht x1 y1 (an + 9) := ⟨_, rfl⟩
          rw [← hp0] at l0 b00 b01 hv
          rw [← hp1] at l1 b10 b11 hv
          rw [← hp8] at l8 b80 b81 hv
          rw [← hp9] at l9 b90 b91 hv
          have hold := HA4.out.cell un hu64
          have hfree := HA4.out.free un
          obtain ⟨old, hol⟩ : ∃ z, z = smF ff wd ht (16 * c) (16 * r) (16 * k + i) un := ⟨_, rfl⟩
          rw [← hol] at hold
          have HV := Lib.hid hv
          have HUN := Lib.hid hun
          have i1 : (0 : Int) ≤ (an : Int) + 1 ∧ (an : Int) + 1 < 64 := by omega
          have i8 : (0 : Int) ≤ (an : Int) + 8 ∧ (an : Int) + 8 < 64 := by omega
          have i9 : (0 : Int) ≤ (an : Int) + 9 ∧ (an : Int) + 9 < 64 := by omega
          obtain ⟨i10, i11⟩ := i1
          obtain ⟨i80, i81⟩ := i8
          obtain ⟨i90, i91⟩ := i9
          have ia : (an : Int) < 64 := by omega
          have iu : (un : Int) < 64 := by omega
          have t1 : ((an : Int) + 1).toNat = an + 1 := by omega
          have t8 : ((an : Int) + 8).toNat = an + 8 := by omega
          have t9 : ((an : Int) + 9).toNat = an + 9 := by omega
          have hw1 : IntKind.i64.wrap ((an : Int) + 1) = (an : Int) + 1 := IntWalk.i64_in _ (by omega)
          have hw8 : IntKind.i64.wrap ((an : Int) + 8) = (an : Int) + 8 := IntWalk.i64_in _ (by omega)
          have hw9 : IntKind.i64.wrap ((an : Int) + 9) = (an : Int) + 9 := IntWalk.i64_in _ (by omega)
          have hv1 : IntKind.i32.wrap (p0 + p1) = p0 + p1 := IntWalk.i32_in _ (by omega)
          have hv2 : IntKind.i32.wrap (p0 + p1 + p8) = p0 + p1 + p8 := IntWalk.i32_in _ (by omega)
          have hv3 : IntKind.i32.wrap (p0 + p1 + p8 + p9) = p0 + p1 + p8 + p9 := IntWalk.i32_in _ (by omega)
          have hv4 : IntKind.i32.wrap (p0 + p1 + p8 + p9 + 2) = p0 + p1 + p8 + p9 + 2 := IntWalk.i32_in _ (by omega)
          have hm1 : (k : Int).tmod 2 = (k : Int) % 2 := IntWalk.rem_in _ _ (by omega)
          have hm2 : (i : Int).tmod 4 = (i : Int) % 4 := IntWalk.rem_in _ _ (by omega)
          have hu1 : IntKind.i64.wrap ((k : Int) / 2) = (k : Int) / 2 := IntWalk.i64_in _ (by omega)
          have hu2 : IntKind.i64.wrap ((k : Int) / 2 * 32) = (k : Int) / 2 * 32 := IntWalk.i64_in _ (by omega)
          have hu3 : IntKind.i64.wrap ((k : Int) % 2 * 4) = (k : Int) % 2 * 4 := IntWalk.i64_in _ (by omega)
          have hu4 : IntKind.i64.wrap ((k : Int) / 2 * 32 + (k : Int) % 2 * 4) = (k : Int) / 2 * 32 + (k : Int) % 2 * 4 := IntWalk.i64_in _ (by omega)
          have hu5 : IntKind.i64.wrap ((i : Int) / 4) = (i : Int) / 4 := IntWalk.i64_in _ (by omega)
          have hu6 : IntKind.i64.wrap ((i : Int) / 4 * 8) = (i : Int) / 4 * 8 := IntWalk.i64_in _ (by omega)
          have hu7 : IntKind.i64.wrap ((k : Int) / 2 * 32 + (k : Int) % 2 * 4 + (i : Int) / 4 * 8) = (k : Int) / 2 * 32 + (k : Int) % 2 * 4 + (i : Int) / 4 * 8 := IntWalk.i64_in _ (by omega)
          have hu8 : IntKind.i64.wrap (un : Int) = (un : Int) := IntWalk.i64_in _ (by omega)
          clear han hun hun2 hcl hbl hp0 hp1 hp8 hp9 hol hv
          go_wp2_with fail
          refine wp_region_still_tail 35 (by kernel_rfl) (by kernel_rfl) ?_
          simp only [List.take_succ_cons, List.take_zero, List.drop_succ_cons, List.drop_zero]
          repeat still_step
          refine wpStill_nil ?_
          change wpList _ _ _ _ _ wr.drew
          have hset := HA4.out.set un ((p0 + p1 + p8 + p9 + 2) / 4)
          have hbs := HB4.out.setCell (p := ⟨NB, un, none⟩) hNB (.int .i32 ((p0 + p1 + p8 + p9 + 2) / 4))
          have hps := (heap_set_other wr NB un P (.int .i32 ((p0 + p1 + p8 + p9 + 2) / 4)) HPN.out).trans HP4.out
          have HSET := Lib.hid (And.intro hset (And.intro hbs hps))
          clear hset hbs hps hm1 hm2 hu1 hu2 hu3 hu4 hu5 hu6 hu7 hu8 hw1 hw8 hw9 hv1 hv2 hv3 hv4
          go_wp2_with fail
          go_roundw
          case rel =>
            refine ⟨i + 1, by omega, by go_num, HSET.out.2.1.trans ⟨rfl, rfl, rfl, Nat.le_refl _, fun _ _ => rfl⟩, ?_, HSET.out.2.2⟩
            have h : Arr32 (wr.setCell ⟨NB, un, none⟩ (.int .i32 ((p0 + p1 + p8 + p9 + 2) / 4))) NB 79 64 (smF ff wd ht (16 * c) (16 * r) (16 * k + i + 1)) := HSET.out.1.congr fun u _ => by
              rw [HUN.out, ← HV.out]
              exact smF_succ ff wd ht (16 * c) (16 * r) (16 * k + i) (by omega) u
            exact h.same rfl
          case measure => simp [intOf]; omega
        · obtain rfl : i = 16 := by omega
          go_wp2_with fail
          go_roundw
          case rel => exact ⟨k + 1, by omega, by go_num, HB4.out, HA4.out⟩
          case measure => simp [intOf]; omega
    · obtain rfl : k = 4 := by omega
      go_wp2_with fail
      exact HEX.out _ _ _ _ _ _ _ _ _ _ _ _ _ _ _ _ _ _ _ _ _ _ _ _ _ _ _ _ _ _ _ _ _ _ _ _ _ _ _ _ _ _ _ _ _ _ _ _ _ _ _ _ _ _ _ _ _ _ _ _ _ _ _ _ _ _ _ wr HB2.out HA2.out
end Go.Proofs.YtlibflbpajeeeaaDoor
