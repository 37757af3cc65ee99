/-
  The walk of function 3 from the first 'if' behind the first node on: that 'if', and the loop that builds the chain.
-/
import Derived.Test.YoeaswTail16
import Derived.Deep.RegionWith
import Derived.Deep.CutRange
import Derived.Deep.LoopGhost
import Derived.Deep.DeepCutAuto
import Derived.Deep.Light
namespace Go.Proofs.Yoeasw
open Go.RowKit

set_option maxHeartbeats 1000000 in
set_option maxRecDepth 100000 in
theorem tail15 {a0 : ByteArray} {a1 : Int} {bi oi li ci : Nat} {S : Nat → ByteArray} {br or_ lr cr : Nat} {R : Nat → Int} {n : Nat} {o : Int} {u4 u5 u6 u7 u8 u9 u10 u13 u15 u16 u17 u18 u19 u20 u21 u22 u23 u24 u25 u26 u27 u28 u29 u30 u31 u32 u33 u34 u35 u36 u37 u38 u39 u40 u41 u42 u43 u44 u45 u46 u47 u48 u49 u50 u51 u52 u53 u54 u55 u56 u57 u58 u59 u60 u61 u62 u63 u64 u65 u66 u67 u68 u69 u70 u71 u72 u73 u74 u75 u76 u77 u78 u79 u80 u81 u82 u83 u84 u85 u86 u87 u88 u89 u90 u91 u92 u93 u94 u95 u96 u97 u98 u99 u100 u101 u102 u103 u104 u105 u106 u107 u108 u109 u110 u111 u112 u113 u114 u115 u116 u117 u118 u119 u120 u121 u122 u123 u124 u125 u126 u127 u128 u129 u130 u131 u132 u133 u134 u135 u136 u137 u138 u139 u140 u141 u142 u143 u144 u145 u146 u147 u148 u149 u150 u151 u152 u153 u154 u155 u156 u157 u158 u159 u160 u161 u162 u163 u164 u165 u166 u167 u168 u169 u170 u171 u172 u173 u174 u175 u176 u177 u178 u179 u180 u181 u182 u183 u184 u185 u186 u187 u188 u189 u190 u191 u192 u193 u194 : Value} (hn0 : 0 < n) (hn1 : n ≤ 4096) (hni : n ≤ li) (hnr : n ≤ lr) (hO : a0.size + 2 * n + tot S n ≤ 67108864) (ho : o = ((a0.size + 2 * n + tot S n : Nat) : Int)) {w wc : World} {c : Nat}
    (hc : ∀ j, j < li → w.cell? ⟨bi, oi + j, none⟩ = some (.string (S j))) (hd : ∀ j, j < lr → w.cell? ⟨br, or_ + j, none⟩ = some (.int .i64 (R j))) (hB : Built w wc a0 a1 S R 1 c) :
    Code.wp Easg.prog (codeFrom 15 (Easg.f3.body.getD .skip)) (bodyPost Easg.prog Easg.f3 fun e w' => e = .returned (.bool true) ∧ Below w.heap.size w w')
      ⟨List.toArray (.string a0 :: .int .i64 a1 :: .slice (some ⟨bi, oi, none⟩) li ci :: .slice (some ⟨br, or_, none⟩) lr cr :: u4 :: u5 :: u6 :: u7 :: u8 :: u9 :: u10 :: .int .i64 (n : Int) :: .int .i64 o :: u13 :: .pointer (some ⟨c, 0, none⟩) :: u15 :: u16 :: u17 :: u18 :: u19 :: u20 :: u21 :: u22 :: u23 :: u24 :: u25 :: u26 :: u27 :: u28 :: u29 :: u30 :: u31 :: u32 :: u33 :: u34 :: u35 :: u36 :: u37 :: u38 :: u39 :: u40 :: u41 :: u42 :: u43 :: u44 :: u45 :: u46 :: u47 :: u48 :: u49 :: u50 :: u51 :: u52 :: u53 :: u54 :: u55 :: u56 :: u57 :: u58 :: u59 :: u60 :: u61 :: u62 :: u63 :: u64 :: u65 :: u66 :: u67 :: u68 :: u69 :: u70 :: u71 :: u72 :: u73 :: u74 :: u75 :: u76 :: u77 :: u78 :: u79 :: u80 :: u81 :: u82 :: u83 :: u84 :: u85 :: u86 :: u87 :: u88 :: u89 :: u90 :: u91 :: u92 :: u93 :: u94 :: u95 :: u96 :: u97 :: u98 :: u99 :: u100 :: u101 :: u102 :: u103 :: u104 :: u105 :: u106 :: u107 :: u108 :: u109 :: u110 :: u111 :: u112 :: u113 :: u114 :: u115 :: u116 :: u117 :: u118 :: u119 :: u120 :: u121 :: u122 :: u123 :: u124 :: u125 :: u126 :: u127 :: u128 :: u129 :: u130 :: u131 :: u132 :: u133 :: u134 :: u135 :: u136 :: u137 :: u138 :: u139 :: u140 :: u141 :: u142 :: u143 :: u144 :: u145 :: u146 :: u147 :: u148 :: u149 :: u150 :: u151 :: u152 :: u153 :: u154 :: u155 :: u156 :: u157 :: u158 :: u159 :: u160 :: u161 :: u162 :: u163 :: u164 :: u165 :: u166 :: u167 :: u168 :: u169 :: u170 :: u171 :: u172 :: u173 :: u174 :: u175 :: u176 :: u177 :: u178 :: u179 :: u180 :: u181 :: u182 :: u183 :: u184 :: u185 :: u186 :: u187 :: u188 :: u189 :: u190 :: u191 :: u192 :: u193 :: u194 :: []), []⟩ wc := by
  conv => arg 2; whnf
  have Hc : Hid (∀ j, j < li → w.cell? ⟨bi, oi + j, none⟩ = some (.string (S j))) := hc
  have Hd : Hid (∀ j, j < lr → w.cell? ⟨br, or_ + j, none⟩ = some (.int .i64 (R j))) := hd
  have Ho : Hid (o = ((a0.size + 2 * n + tot S n : Nat) : Int)) := ho
  clear hc hd ho
  go_step
  go_step
  go_cut [14] (fun s wn => ∃ c, s = .pointer (some ⟨c, 0, none⟩) ∧ Built w wn a0 a1 S R n c)
  case first =>
    go_wp2_with fail
    go_loopw [14, 15] (fun s i wr => ∃ k c, 1 ≤ k ∧ k ≤ n ∧ i = .int .i64 ((k : Nat) : Int) ∧ s = .pointer (some ⟨c, 0, none⟩) ∧ Built w wr a0 a1 S R k c) (fun _ i _ => n - (intOf i).toNat)
    case atStart => exact ⟨1, c, Nat.le_refl _, hn0, rfl, rfl, hB⟩
    case round =>
      clear hB
      obtain ⟨k, c', hk1, hkn, rfl, rfl, hB⟩ := hrel
      have hb := hB.2.2
      by_cases hlt : k < n
      · have hck : wr.cell? ⟨bi, oi + k, none⟩ = some (.string (S k)) := cell_keep hb (Hc.out k (by omega))
        have hdk : wr.cell? ⟨br, or_ + k, none⟩ = some (.int .i64 (R k)) := cell_keep hb (Hd.out k (by omega))
        have hbi : bi < wr.heap.size := World.block_lt_of_cell? _ _ hck
        have hbr : br < wr.heap.size := World.block_lt_of_cell? _ _ hdk
        cases he : (S k).toList.isEmpty with
        | true =>
          go_wp2_with fail
          go_roundw
          case rel => exact ⟨k + 1, _, by omega, by omega, by go_num, rfl, built_nil hB he⟩
          case measure => simp [intOf]; omega
        | false =>
          go_wp2_with fail
          refine (ident_calls _ _ _).mono ?_
          rintro e w1 ⟨rfl, rfl⟩
          go_wp2_with fail
          go_roundw
          case rel => exact ⟨k + 1, _, by omega, by omega, by go_num, rfl, built_some hB⟩
          case measure => simp [intOf]; omega
      · obtain rfl : k = n := by omega
        go_wp2_with fail
        go_meet
        case rel => exact ⟨_, rfl, hB⟩
  case rest =>
    obtain ⟨c', rfl, hB'⟩ := hcut
    go_step
    exact tail16 hn0 hn1 hni hnr hO Ho.out Hc.out Hd.out hB'

set_option maxHeartbeats 1000000 in
set_option maxRecDepth 100000 in
theorem tail14 {a0 : ByteArray} {a1 : Int} {bi oi li ci : Nat} {S : Nat → ByteArray} {br or_ lr cr : Nat} {R : Nat → Int} {n : Nat} {o : Int} {u4 u5 u6 u7 u8 u9 u10 u13 u15 u16 u17 u18 u19 u20 u21 u22 u23 u24 u25 u26 u27 u28 u29 u30 u31 u32 u33 u34 u35 u36 u37 u38 u39 u40 u41 u42 u43 u44 u45 u46 u47 u48 u49 u50 u51 u52 u53 u54 u55 u56 u57 u58 u59 u60 u61 u62 u63 u64 u65 u66 u67 u68 u69 u70 u71 u72 u73 u74 u75 u76 u77 u78 u79 u80 u81 u82 u83 u84 u85 u86 u87 u88 u89 u90 u91 u92 u93 u94 u95 u96 u97 u98 u99 u100 u101 u102 u103 u104 u105 u106 u107 u108 u109 u110 u111 u112 u113 u114 u115 u116 u117 u118 u119 u120 u121 u122 u123 u124 u125 u126 u127 u128 u129 u130 u131 u132 u133 u134 u135 u136 u137 u138 u139 u140 u141 u142 u143 u144 u145 u146 u147 u148 u149 u150 u151 u152 u153 u154 u155 u156 u157 u158 u159 u160 u161 u162 u163 u164 u165 u166 u167 u168 u169 u170 u171 u172 u173 u174 u175 u176 u177 u178 u179 u180 u181 u182 u183 u184 u185 u186 u187 u188 u189 u190 u191 u192 u193 u194 : Value} (hn0 : 0 < n) (hn1 : n ≤ 4096) (hni : n ≤ li) (hnr : n ≤ lr) (hO : a0.size + 2 * n + tot S n ≤ 67108864) (ho : o = ((a0.size + 2 * n + tot S n : Nat) : Int)) {w wc : World} {c : Nat}
    (hc : ∀ j, j < li → w.cell? ⟨bi, oi + j, none⟩ = some (.string (S j))) (hd : ∀ j, j < lr → w.cell? ⟨br, or_ + j, none⟩ = some (.int .i64 (R j))) (hF : First w wc a0 a1 (R 0) c) :
    Code.wp Easg.prog (codeFrom 14 (Easg.f3.body.getD .skip)) (bodyPost Easg.prog Easg.f3 fun e w' => e = .returned (.bool true) ∧ Below w.heap.size w w')
      ⟨List.toArray (.string a0 :: .int .i64 a1 :: .slice (some ⟨bi, oi, none⟩) li ci :: .slice (some ⟨br, or_, none⟩) lr cr :: u4 :: u5 :: u6 :: u7 :: u8 :: u9 :: u10 :: .int .i64 (n : Int) :: .int .i64 o :: u13 :: .pointer (some ⟨c, 0, none⟩) :: u15 :: u16 :: u17 :: u18 :: u19 :: u20 :: u21 :: u22 :: u23 :: u24 :: u25 :: u26 :: u27 :: u28 :: u29 :: u30 :: u31 :: u32 :: u33 :: u34 :: u35 :: u36 :: u37 :: u38 :: u39 :: u40 :: u41 :: u42 :: u43 :: u44 :: u45 :: u46 :: u47 :: u48 :: u49 :: u50 :: u51 :: u52 :: u53 :: u54 :: u55 :: u56 :: u57 :: u58 :: u59 :: u60 :: u61 :: u62 :: u63 :: u64 :: u65 :: u66 :: u67 :: u68 :: u69 :: u70 :: u71 :: u72 :: u73 :: u74 :: u75 :: u76 :: u77 :: u78 :: u79 :: u80 :: u81 :: u82 :: u83 :: u84 :: u85 :: u86 :: u87 :: u88 :: u89 :: u90 :: u91 :: u92 :: u93 :: u94 :: u95 :: u96 :: u97 :: u98 :: u99 :: u100 :: u101 :: u102 :: u103 :: u104 :: u105 :: u106 :: u107 :: u108 :: u109 :: u110 :: u111 :: u112 :: u113 :: u114 :: u115 :: u116 :: u117 :: u118 :: u119 :: u120 :: u121 :: u122 :: u123 :: u124 :: u125 :: u126 :: u127 :: u128 :: u129 :: u130 :: u131 :: u132 :: u133 :: u134 :: u135 :: u136 :: u137 :: u138 :: u139 :: u140 :: u141 :: u142 :: u143 :: u144 :: u145 :: u146 :: u147 :: u148 :: u149 :: u150 :: u151 :: u152 :: u153 :: u154 :: u155 :: u156 :: u157 :: u158 :: u159 :: u160 :: u161 :: u162 :: u163 :: u164 :: u165 :: u166 :: u167 :: u168 :: u169 :: u170 :: u171 :: u172 :: u173 :: u174 :: u175 :: u176 :: u177 :: u178 :: u179 :: u180 :: u181 :: u182 :: u183 :: u184 :: u185 :: u186 :: u187 :: u188 :: u189 :: u190 :: u191 :: u192 :: u193 :: u194 :: []), []⟩ wc := by
  conv => arg 2; whnf
  obtain ⟨d, h0, h2, h3, e0, e1, hf, hwc, hb⟩ := hF
  have Ho : Hid (o = ((a0.size + 2 * n + tot S n : Nat) : Int)) := ho
  clear ho
  have hS0 : wc.cell? ⟨bi, oi, none⟩ = some (.string (S 0)) := cell_keep hb (hc 0 (by omega))
  have hcl : c < wc.heap.size := World.block_lt_of_cell? _ _ h2
  go_upto_if 118 with fail
  go_cut [14] (fun s wn => s = .pointer (some ⟨c, 0, none⟩) ∧ Built w wn a0 a1 S R 1 c)
  case first =>
    cases he : (S 0).toList.isEmpty with
    | true =>
      go_wp2_with fail
      go_meet
      case rel => exact ⟨rfl, built_first ⟨d, h0, h2, h3, e0, e1, hf, hwc, hb⟩ he⟩
    | false =>
      go_wp2_with fail
      refine (ident_calls _ _ _).mono ?_
      rintro e w1 ⟨rfl, rfl⟩
      go_wp2_with fail
      go_meet
      case rel => exact ⟨rfl, built_first_some ⟨d, h0, h2, h3, e0, e1, hf, hwc, hb⟩⟩
  case rest =>
    obtain ⟨rfl, hB⟩ := hcut
    go_step
    exact tail15 hn0 hn1 hni hnr hO Ho.out hc hd hB
end Go.Proofs.Yoeasw
