/- The contract of writeDHT, color. Printed by wip/gen/dht.py. -/
import Derived.Test.YtlibflbpajeeeaaDoorJInit
namespace Go.Proofs.YtlibflbpajeeeaaDoor
open Go.RowKit

set_option maxRecDepth 100000 in
set_option maxHeartbeats 2000000 in
theorem dhtColor_any (w : World) (E Z : Nat) (v : Value) (s : St) (h : EncAt w E Z v s) (hl : s.out.length ≤ 100000) :
    Calls Tryd.prog 45 #[.pointer (some ⟨E, 0, none⟩), .int .i64 3] w (Wrote E Z v w (s.put (segOf 196 (dhtL false)))) := by
  have hz134 := zero134
  have hz134s := zero134_size
  generalize (((Tryd.prog.info? 134).bind (·.zero)).getD undef).cells = z134 at hz134 hz134s
  have hz133 := zero133
  have hz133s := zero133_size
  generalize zero133c = z133 at hz133 hz133s
  have HZ3 := Lib.hid hz133s
  have HZ4 := Lib.hid hz134s
  have H := Lib.hid h
  clear hz133s hz134s h
  go_enter Tryd.func45, Tryd.ntmps45
  go_wp2_with fail
  refine (spec_any w).mono ?_
  rintro e w1 ⟨rfl, hb, hrows⟩
  have HB := Lib.hid hb
  have HR := Lib.hid hrows
  clear hb hrows
  obtain ⟨b, hbb⟩ : ∃ b, b = w.heap.size + 1 := ⟨_, rfl⟩
  rw [← hbb] at HR
  rw [← hbb]
  obtain ⟨sc, hsc⟩ : ∃ sc, sc = specC b := ⟨_, rfl⟩
  have HSC := Lib.hid hsc
  have HI := Lib.hid (show (Tryd.prog.info? 134).map (·.size) = some sc.size by rw [hsc, specC_size]; exact info134)
  have HZ := Lib.hid (show z134.size = sc.size by rw [hsc, specC_size]; exact HZ4.out)
  have HON := Lib.hid (show sc.all (·.oneCell') = true by rw [hsc]; exact specC_one b)
  rw [← hsc]
  have HBB := Lib.hid hbb
  clear hsc hbb
  obtain ⟨S, hS⟩ : ∃ S, S = w1.heap.size := ⟨_, rfl⟩
  go_wp2_with (first
    | ((with_reducible show wpList _ _ _ (⟨none, .store 134 (.tmp 5) (.tmp 11), _, _, _, _⟩ :: _) _ _); refine wpList_store_new rfl 134 (.tmp 5) (.tmp 11) rfl w1.heap.size sc rfl rfl _ _ 134 rfl HI.out HZ.out HON.out ?_))
  rw [← hS]
  have hd := DhRel.start H.out b HB.out (by have := HBB.out; omega) HR.out
  rw [← hS, ← HSC.out] at hd
  have HD0 := Lib.hid hd
  clear hd hS
  generalize w1.alloc _ = W2 at HD0 ⊢
  go_loopw [4, 19] (fun mv kv wr => ∃ k : Nat, k ≤ 4 ∧ kv = .int .i64 k ∧ mv = .int .i64 ((2 + (dhtN k).length : Nat) : Int) ∧ DhRel w E Z v S b v s wr) (fun _ kv _ => 4 - (intOf kv).toNat)
  case atStart => exact ⟨0, by omega, rfl, rfl, HD0.out⟩
  case round =>
    obtain ⟨k, hk, rfl, rfl, hst⟩ := hrel
    by_cases hkn : k < 4
    · have hk4 : k < 4 := by omega
      have hsz := specR_size k b hk4
      have hone := specR_one k b hk4
      have hsl := specR_sl k b hk4
      have hcell : ∀ j u, (specR k b)[j]? = some u → wr.cell? ⟨S, k * 17 + j, none⟩ = some u := fun j u hj => by
        have hj17 : j < 17 := by
          rcases Nat.lt_or_ge j 17 with h | h
          · exact h
          · rw [Array.getElem?_eq_none (by omega)] at hj; cases hj
        rw [cell_of_row _ _ _ _ 134 (0, 0) hst.sp, show k * 17 + j = 17 * k + j by omega, specR_at k hk4 j hj17]
        exact hj
      have hbx : ∀ x : World, (x.alloc (.cells (specR k b) 133)).cell? ⟨x.heap.size, 16, none⟩ = some (.slice (some ⟨b + k, 0, none⟩) (sgL k).length (sgL k).length) := fun x => by
        rw [cell_of_row _ _ _ _ 133 (0, 0) (heap_alloc_new _ _)]; exact hsl
      have hln := dhtN_len_succ k hk4
      have hle := dhtN_len_le k (by omega)
      obtain ⟨cs, hcs⟩ : ∃ cs, cs = specR k b := ⟨_, rfl⟩
      rw [← hcs] at hsz hone hcell hbx
      obtain ⟨ls, hls⟩ : ∃ ls, ls = (sgL k).length := ⟨_, rfl⟩
      rw [← hls] at hbx hln
      obtain ⟨ln, hlnn⟩ : ∃ ln, ln = (dhtN k).length := ⟨_, rfl⟩
      rw [← hlnn] at hln hle
      rw [← hlnn]
      have hlsb : ls ≤ 162 := by rw [hls]; exact (std_total k hk4).2.1
      have HI3 := Lib.hid (info133.trans (congrArg some hsz.symm))
      have HZZ := Lib.hid (HZ3.out.trans hsz.symm)
      have HST := Lib.hid hst
      have HO3 := Lib.hid hone
      have HCL := Lib.hid hcell
      have HLN := Lib.hid hln
      have hbx' := hbx wr
      clear hsz hone hsl hcs hst hcell hln hlnn hls hbx
      have hdk : decide ((k : Int) < 4) = true := by simp; omega
      go_wp2_with (first
        | ((with_reducible show wpList _ _ _ (⟨_, .load 133 (.tmp 21), _, _, _, _⟩ :: _) _ _); refine wpList_load_at rfl 133 (.tmp 21) rfl S (k * 17) rfl cs _ HCL.out Tryd.underlying133 rfl HI3.out ?_)
        | ((with_reducible show wpList _ _ _ (⟨none, .store 133 (.tmp 8) (.tmp 22), _, _, _, _⟩ :: _) _ _); refine wpList_store_new rfl 133 (.tmp 8) (.tmp 22) rfl wr.heap.size cs rfl rfl _ _ 133 rfl HI3.out HZZ.out HO3.out ?_))
      go_roundw
      case rel =>
        refine ⟨k + 1, by omega, by go_num, ?_, HST.out.alloc _⟩
        rw [HLN.out]
        go_num
      case measure => simp [intOf]; omega
    · obtain rfl : k = 4 := by omega
      rw [show ((4 : Nat) : Int) = 4 from rfl]
      obtain ⟨w0, rfl⟩ : ∃ w0 : World, w0 = wr := ⟨_, rfl⟩
      have HST := Lib.hid hst
      clear hst
      have hl4 := dhtN_len_le 4 (by omega)
      obtain ⟨ln, hlnn⟩ : ∃ ln, ln = (dhtN 4).length := ⟨_, rfl⟩
      rw [← hlnn] at hl4
      rw [← hlnn]
      have HLL := Lib.hid hlnn
      clear hlnn
      go_wp2_with fail
      refine (marker_any _ E Z v s 196 (2 + ln) HST.out.e (by omega) (by omega)).mono ?_
      rintro e w4 ⟨rfl, v1, h1, k1⟩
      have hd4 := HST.out.wrote h1 k1
      have HD4 := Lib.hid hd4
      clear h1 k1 hd4
      obtain ⟨hdr, hhdr⟩ : ∃ hdr, hdr = [255, 196, ((2 + ln : Nat) : Int) / 256, ((2 + ln : Nat) : Int) % 256] := ⟨_, rfl⟩
      rw [← hhdr] at HD4
      have HH := Lib.hid hhdr
      have hob : ∀ xs : List Int, xs.length ≤ 1000 → (s.put xs).out.length ≤ 100000000 := fun xs hx => by simp [St.put]; omega
      have HOB := Lib.hid hob
      have hhl : hdr.length = 4 := by rw [hhdr]; rfl
      clear hhdr hob
      go_wp2_with fail
      go_loopw [35] (fun kv wr => ∃ (k : Nat) (v' : Value), k ≤ 4 ∧ kv = .int .i64 k ∧ DhRel w E Z v S b v' (s.put (hdr ++ dhtN k)) wr) (fun kv _ => 4 - (intOf kv).toNat)
      case atStart => exact ⟨0, v1, by omega, rfl, by rw [dhtN, List.append_nil]; exact HD4.out⟩
      case round =>
        obtain ⟨k, v2, hk, rfl, hst⟩ := hrel
        by_cases hkn : k < 4
        · have hk4 : k < 4 := by omega
          have hsz := specR_size k b hk4
          have hone := specR_one k b hk4
          have hsl := specR_sl k b hk4
          have hcell : ∀ j u, (specR k b)[j]? = some u → wr.cell? ⟨S, k * 17 + j, none⟩ = some u := fun j u hj => by
            have hj17 : j < 17 := by
              rcases Nat.lt_or_ge j 17 with h | h
              · exact h
              · rw [Array.getElem?_eq_none (by omega)] at hj; cases hj
            rw [cell_of_row _ _ _ _ 134 (0, 0) hst.sp, show k * 17 + j = 17 * k + j by omega, specR_at k hk4 j hj17]
            exact hj
          have hcn : ∀ (j : Nat) u, ((cntL k).map u8v)[j]? = some u → (specR k b)[j]? = some u := fun j u hj => by
            have hl16 := (std_total k hk4).2.2.2
            have hj16 : j < 16 := by
              rcases Nat.lt_or_ge j 16 with h | h
              · exact h
              · rw [List.getElem?_eq_none (by rw [List.length_map]; omega)] at hj; cases hj
            rw [specR_counts k b j hk4 hj16]; exact hj
          obtain ⟨cs, hcs⟩ : ∃ cs, cs = specR k b := ⟨_, rfl⟩
          rw [← hcs] at hsz hone hcell hcn hsl
          have hl16 := (std_total k hk4).2.2.2
          have hlsb := (std_total k hk4).2.1
          have hls0 := (std_total k hk4).2.2.1
          obtain ⟨ls, hls⟩ : ∃ ls, ls = (sgL k).length := ⟨_, rfl⟩
          rw [← hls] at hsl hlsb hls0
          have hix := tb_idx k hk4
          have hdn := dhtN_len_le k (by omega)
          have hsucc : ∀ st : St, (((st.put (hdr ++ dhtN k)).put [tbB k]).put (cntL k)).put (sgL k) = st.put (hdr ++ dhtN (k + 1)) := fun st => by
            rw [put_put, put_put, put_put]
            simp [dhtN, hufL, List.append_assoc]
          have HSU := Lib.hid hsucc
          have HI3 := Lib.hid (info133.trans (congrArg some hsz.symm))
          have HZZ := Lib.hid (HZ3.out.trans hsz.symm)
          have HST2 := Lib.hid hst
          have HO3 := Lib.hid hone
          have HCL := Lib.hid hcell
          have HCN := Lib.hid hcn
          have HLS := Lib.hid hls
          have HL16 := Lib.hid hl16
          have HSL := Lib.hid hsl
          have hdk : decide ((k : Int) < 4) = true := by simp; omega
          have hbx := heap_alloc_new wr (.cells cs 133)
          have hn3 := HST2.out.alloc (.cells cs 133)
          have hXlo : w.heap.size ≤ wr.heap.size := HST2.out.k.k.size
          have hXnv : v2.ownBlock ≠ some wr.heap.size := fun e => by have := HST2.out.e.z.row.lt e; omega
          have HBX := Lib.hid hbx
          have HN3 := Lib.hid hn3
          have HXV := Lib.hid hXnv
          obtain ⟨tb, htb⟩ : ∃ tb, tb = tbB k := ⟨_, rfl⟩
          rw [← htb] at hix HSU
          clear hsz hone hsl hcs hst hcell hcn hls hl16 hsucc hbx hn3 hXnv htb
          go_wp2_with (first
            | ((with_reducible show wpList _ _ _ (⟨_, .load 133 (.tmp 38), _, _, _, _⟩ :: _) _ _); refine wpList_load_at rfl 133 (.tmp 38) rfl S (k * 17) rfl cs _ HCL.out Tryd.underlying133 rfl HI3.out ?_)
            | ((with_reducible show wpList _ _ _ (⟨none, .store 133 (.tmp 10) (.tmp 39), _, _, _, _⟩ :: _) _ _); refine wpList_store_new rfl 133 (.tmp 10) (.tmp 39) rfl wr.heap.size cs rfl rfl _ _ 133 rfl HI3.out HZZ.out HO3.out ?_))
          refine (writeByte_any _ E Z v2 _ tb HN3.out.e (HOB.out _ (by simp; omega))).mono ?_
          rintro e w5 ⟨rfl, v3, h3, k3⟩
          have hd5 := HN3.out.wrote h3 k3
          have hx5 := HN3.out.box k3 HBX.out hXlo HXV.out
          have HD5 := Lib.hid hd5
          have HX5 := Lib.hid hx5
          clear h3 k3 hd5 hx5
          generalize wr.alloc _ = W3 at HBX HN3
          obtain ⟨X, hX⟩ : ∃ X, X = wr.heap.size := ⟨_, rfl⟩
          rw [← hX] at HX5 hXlo
          rw [← hX]
          clear hX HBX HN3 HXV
          go_wp2_with fail
          refine (write_any w5 E Z v3 _ (cntL k) ⟨X, 0, none⟩ 16 16 HD5.out.e (by rw [put_put]; exact HOB.out _ (by simp; omega)) (by omega) (by omega) HL16.out (fun j u hj => ?_)).mono ?_
          · rw [Addr.add_lit, cell_of_row _ _ _ _ 133 (0, 0) HX5.out.1, Nat.zero_add]
            exact HCN.out j u hj
          rintro e w6 ⟨rfl, v4, h4, k4⟩
          have hd6 := HD5.out.wrote h4 k4
          have hx6 := HD5.out.box k4 HX5.out.1 hXlo HX5.out.2
          have hsl6 : w6.cell? ⟨X, 16, none⟩ = some (.slice (some ⟨b + k, 0, none⟩) ls ls) := by
            rw [cell_of_row _ _ _ _ 133 (0, 0) hx6.1]; exact HSL.out
          have HD6 := Lib.hid hd6
          clear h4 k4 hd6 hx6
          go_wp2_with fail
          refine (write_any w6 E Z v4 _ (sgL k) ⟨b + k, 0, none⟩ ls ls HD6.out.e (by rw [put_put, put_put]; exact HOB.out _ (by have := HL16.out; simp; omega)) hls0 (by omega) HLS.out.symm (fun j u hj => ?_)).mono ?_
          · rw [Addr.add_lit, Nat.zero_add]
            have hjl : j < ((sgL k).map u8v).length := by
              rcases Nat.lt_or_ge j ((sgL k).map u8v).length with h | h
              · exact h
              · rw [List.getElem?_eq_none h] at hj; cases hj
            have := (HD6.out.rows k hk4).cell rfl j hjl
            rw [this, ← hj, List.getElem?_eq_getElem hjl]
          rintro e w7 ⟨rfl, v5, h5, k5⟩
          have hd7 := HD6.out.wrote h5 k5
          rw [HSU.out] at hd7
          have HD7 := Lib.hid hd7
          clear h5 k5 hd7
          go_wp2_with fail
          go_roundw
          case rel => exact ⟨k + 1, v5, by omega, by go_num, HD7.out⟩
          case measure => simp [intOf]; omega
        · obtain rfl : k = 4 := by omega
          rw [show ((4 : Nat) : Int) = 4 from rfl]
          have HST2 := Lib.hid hst
          clear hst
          go_wp2_with fail
          go_end0
          have e : hdr ++ dhtN 4 = segOf 196 (dhtL false) := by
            obtain ⟨a1, a2, a3, a4⟩ := dht_len
            have e1 : dhtL false = dhtN 4 := rfl
            rw [HH.out, HLL.out, segOf, e1, a4]
            rfl
          rw [← e]
          exact ⟨rfl, v2, HST2.out.e, HST2.out.k⟩
end Go.Proofs.YtlibflbpajeeeaaDoor

