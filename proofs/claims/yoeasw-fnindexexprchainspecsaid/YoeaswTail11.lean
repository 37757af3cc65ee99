/-
  The walk of function 3 from the test on the printed size to the first node.
-/
import Derived.Test.YoeaswTail14
import Derived.Deep.RegionWith
import Derived.Deep.CutRange
import Derived.Deep.LoopGhost
import Derived.Deep.DeepCutAuto
namespace Go.Proofs.Yoeasw
open Go.RowKit

set_option maxHeartbeats 1000000 in
set_option maxRecDepth 100000 in
theorem tail13 {a0 : ByteArray} {a1 : Int} {bi oi li ci : Nat} {S : Nat → ByteArray} {br or_ lr cr : Nat} {R : Nat → Int} {n : Nat} {o : Int} {u4 u5 u6 u7 u8 u9 u10 u13 u14 u15 u16 u17 u18 u19 u20 u21 u22 u23 u24 u25 u26 u27 u28 u29 u30 u31 u32 u33 u34 u35 u36 u37 u38 u39 u40 u41 u42 u43 u44 u45 u46 u47 u48 u49 u50 u51 u52 u53 u54 u55 u56 u57 u58 u59 u60 u61 u62 u63 u64 u65 u66 u67 u68 u69 u70 u71 u72 u73 u74 u75 u76 u77 u78 u79 u80 u81 u82 u83 u84 u85 u86 u87 u88 u89 u90 u91 u92 u93 u94 u95 u96 u97 u98 u99 u100 u101 u102 u103 u104 u105 u106 u107 u108 u109 u110 u111 u112 u113 u114 u115 u116 u117 u118 u119 u120 u121 u122 u123 u124 u125 u126 u127 u128 u129 u130 u131 u132 u133 u134 u135 u136 u137 u138 u139 u140 u141 u142 u143 u144 u145 u146 u147 u148 u149 u150 u151 u152 u153 u154 u155 u156 u157 u158 u159 u160 u161 u162 u163 u164 u165 u166 u167 u168 u169 u170 u171 u172 u173 u174 u175 u176 u177 u178 u179 u180 u181 u182 u183 u184 u185 u186 u187 u188 u189 u190 u191 u192 u193 u194 : Value} (hn0 : 0 < n) (hn1 : n ≤ 4096) (hni : n ≤ li) (hnr : n ≤ lr)
    (hO : a0.size + 2 * n + tot S n ≤ 67108864) (ho : o = ((a0.size + 2 * n + tot S n : Nat) : Int)) {w : World}
    (hc : ∀ j, j < li → w.cell? ⟨bi, oi + j, none⟩ = some (.string (S j))) (hd : ∀ j, j < lr → w.cell? ⟨br, or_ + j, none⟩ = some (.int .i64 (R j))) :
    Code.wp Easg.prog (codeFrom 13 (Easg.f3.body.getD .skip)) (bodyPost Easg.prog Easg.f3 fun e w' => e = .returned (.bool true) ∧ Below w.heap.size w w')
      ⟨List.toArray (.string a0 :: .int .i64 a1 :: .slice (some ⟨bi, oi, none⟩) li ci :: .slice (some ⟨br, or_, none⟩) lr cr :: u4 :: u5 :: u6 :: u7 :: u8 :: u9 :: u10 :: .int .i64 (n : Int) :: .int .i64 o :: u13 :: u14 :: u15 :: u16 :: u17 :: u18 :: u19 :: u20 :: u21 :: u22 :: u23 :: u24 :: u25 :: u26 :: u27 :: u28 :: u29 :: u30 :: u31 :: u32 :: u33 :: u34 :: u35 :: u36 :: u37 :: u38 :: u39 :: u40 :: u41 :: u42 :: u43 :: u44 :: u45 :: u46 :: u47 :: u48 :: u49 :: u50 :: u51 :: u52 :: u53 :: u54 :: u55 :: u56 :: u57 :: u58 :: u59 :: u60 :: u61 :: u62 :: u63 :: u64 :: u65 :: u66 :: u67 :: u68 :: u69 :: u70 :: u71 :: u72 :: u73 :: u74 :: u75 :: u76 :: u77 :: u78 :: u79 :: u80 :: u81 :: u82 :: u83 :: u84 :: u85 :: u86 :: u87 :: u88 :: u89 :: u90 :: u91 :: u92 :: u93 :: u94 :: u95 :: u96 :: u97 :: u98 :: u99 :: u100 :: u101 :: u102 :: u103 :: u104 :: u105 :: u106 :: u107 :: u108 :: u109 :: u110 :: u111 :: u112 :: u113 :: u114 :: u115 :: u116 :: u117 :: u118 :: u119 :: u120 :: u121 :: u122 :: u123 :: u124 :: u125 :: u126 :: u127 :: u128 :: u129 :: u130 :: u131 :: u132 :: u133 :: u134 :: u135 :: u136 :: u137 :: u138 :: u139 :: u140 :: u141 :: u142 :: u143 :: u144 :: u145 :: u146 :: u147 :: u148 :: u149 :: u150 :: u151 :: u152 :: u153 :: u154 :: u155 :: u156 :: u157 :: u158 :: u159 :: u160 :: u161 :: u162 :: u163 :: u164 :: u165 :: u166 :: u167 :: u168 :: u169 :: u170 :: u171 :: u172 :: u173 :: u174 :: u175 :: u176 :: u177 :: u178 :: u179 :: u180 :: u181 :: u182 :: u183 :: u184 :: u185 :: u186 :: u187 :: u188 :: u189 :: u190 :: u191 :: u192 :: u193 :: u194 :: []), []⟩ w := by
  conv => arg 2; whnf
  have Hc : Hid (∀ j, j < li → w.cell? ⟨bi, oi + j, none⟩ = some (.string (S j))) := hc
  have Hd : Hid (∀ j, j < lr → w.cell? ⟨br, or_ + j, none⟩ = some (.int .i64 (R j))) := hd
  have Ho : Hid (o = ((a0.size + 2 * n + tot S n : Nat) : Int)) := ho
  have hd0 : w.cell? ⟨br, or_, none⟩ = some (.int .i64 (R 0)) := hd 0 (by omega)
  have hbr : br < w.heap.size := World.block_lt_of_cell? _ _ hd0
  clear hc hd ho
  go_step
  go_step
  go_cut [14] (fun s wn => ∃ c, s = .pointer (some ⟨c, 0, none⟩) ∧ First w wn a0 a1 (R 0) c)
  case first =>
    go_region_with (go_at_call 6; refine (ident_calls _ _ _).mono ?_; rintro e w' ⟨rfl, rfl⟩)
    all_goals go_wp2_with fail
    all_goals go_meet
    all_goals exact ⟨_, rfl, first_mk _ _ _ _⟩
  case rest =>
    obtain ⟨c, rfl, hF⟩ := hcut
    go_step
    exact tail14 hn0 hn1 hni hnr hO Ho.out Hc.out Hd.out hF

set_option maxHeartbeats 1000000 in
set_option maxRecDepth 100000 in
theorem tail11 {a0 : ByteArray} {a1 : Int} {bi oi li ci : Nat} {S : Nat → ByteArray} {br or_ lr cr : Nat} {R : Nat → Int} {n : Nat} {o : Int} {u4 u5 u6 u7 u8 u9 u10 u13 u14 u15 u16 u17 u18 u19 u20 u21 u22 u23 u24 u25 u26 u27 u28 u29 u30 u31 u32 u33 u34 u35 u36 u37 u38 u39 u40 u41 u42 u43 u44 u45 u46 u47 u48 u49 u50 u51 u52 u53 u54 u55 u56 u57 u58 u59 u60 u61 u62 u63 u64 u65 u66 u67 u68 u69 u70 u71 u72 u73 u74 u75 u76 u77 u78 u79 u80 u81 u82 u83 u84 u85 u86 u87 u88 u89 u90 u91 u92 u93 u94 u95 u96 u97 u98 u99 u100 u101 u102 u103 u104 u105 u106 u107 u108 u109 u110 u111 u112 u113 u114 u115 u116 u117 u118 u119 u120 u121 u122 u123 u124 u125 u126 u127 u128 u129 u130 u131 u132 u133 u134 u135 u136 u137 u138 u139 u140 u141 u142 u143 u144 u145 u146 u147 u148 u149 u150 u151 u152 u153 u154 u155 u156 u157 u158 u159 u160 u161 u162 u163 u164 u165 u166 u167 u168 u169 u170 u171 u172 u173 u174 u175 u176 u177 u178 u179 u180 u181 u182 u183 u184 u185 u186 u187 u188 u189 u190 u191 u192 u193 u194 : Value} (hn0 : 0 < n) (hn1 : n ≤ 4096) (hni : n ≤ li) (hnr : n ≤ lr)
    (ho : o = ((a0.size + 2 * n + tot S n : Nat) : Int)) {w : World}
    (hc : ∀ j, j < li → w.cell? ⟨bi, oi + j, none⟩ = some (.string (S j))) (hd : ∀ j, j < lr → w.cell? ⟨br, or_ + j, none⟩ = some (.int .i64 (R j))) :
    Code.wp Easg.prog (codeFrom 11 (Easg.f3.body.getD .skip)) (bodyPost Easg.prog Easg.f3 fun e w' => e = .returned (.bool true) ∧ Below w.heap.size w w')
      ⟨List.toArray (.string a0 :: .int .i64 a1 :: .slice (some ⟨bi, oi, none⟩) li ci :: .slice (some ⟨br, or_, none⟩) lr cr :: u4 :: u5 :: u6 :: u7 :: u8 :: u9 :: u10 :: .int .i64 (n : Int) :: .int .i64 o :: u13 :: u14 :: u15 :: u16 :: u17 :: u18 :: u19 :: u20 :: u21 :: u22 :: u23 :: u24 :: u25 :: u26 :: u27 :: u28 :: u29 :: u30 :: u31 :: u32 :: u33 :: u34 :: u35 :: u36 :: u37 :: u38 :: u39 :: u40 :: u41 :: u42 :: u43 :: u44 :: u45 :: u46 :: u47 :: u48 :: u49 :: u50 :: u51 :: u52 :: u53 :: u54 :: u55 :: u56 :: u57 :: u58 :: u59 :: u60 :: u61 :: u62 :: u63 :: u64 :: u65 :: u66 :: u67 :: u68 :: u69 :: u70 :: u71 :: u72 :: u73 :: u74 :: u75 :: u76 :: u77 :: u78 :: u79 :: u80 :: u81 :: u82 :: u83 :: u84 :: u85 :: u86 :: u87 :: u88 :: u89 :: u90 :: u91 :: u92 :: u93 :: u94 :: u95 :: u96 :: u97 :: u98 :: u99 :: u100 :: u101 :: u102 :: u103 :: u104 :: u105 :: u106 :: u107 :: u108 :: u109 :: u110 :: u111 :: u112 :: u113 :: u114 :: u115 :: u116 :: u117 :: u118 :: u119 :: u120 :: u121 :: u122 :: u123 :: u124 :: u125 :: u126 :: u127 :: u128 :: u129 :: u130 :: u131 :: u132 :: u133 :: u134 :: u135 :: u136 :: u137 :: u138 :: u139 :: u140 :: u141 :: u142 :: u143 :: u144 :: u145 :: u146 :: u147 :: u148 :: u149 :: u150 :: u151 :: u152 :: u153 :: u154 :: u155 :: u156 :: u157 :: u158 :: u159 :: u160 :: u161 :: u162 :: u163 :: u164 :: u165 :: u166 :: u167 :: u168 :: u169 :: u170 :: u171 :: u172 :: u173 :: u174 :: u175 :: u176 :: u177 :: u178 :: u179 :: u180 :: u181 :: u182 :: u183 :: u184 :: u185 :: u186 :: u187 :: u188 :: u189 :: u190 :: u191 :: u192 :: u193 :: u194 :: []), []⟩ w := by
  conv => arg 2; whnf
  have Hc : Hid (∀ j, j < li → w.cell? ⟨bi, oi + j, none⟩ = some (.string (S j))) := hc
  have Hd : Hid (∀ j, j < lr → w.cell? ⟨br, or_ + j, none⟩ = some (.int .i64 (R j))) := hd
  have Ho : Hid (o = ((a0.size + 2 * n + tot S n : Nat) : Int)) := ho
  have hdl : w.cell? ⟨br, or_ + (n - 1), none⟩ = some (.int .i64 (R (n - 1))) := hd (n - 1) (by omega)
  clear hc hd ho
  by_cases hq : o ≤ 67108864 / (n : Int)
  · have hO : a0.size + 2 * n + tot S n ≤ 67108864 := by
      have h1 : (67108864 : Int) / (n : Int) ≤ 67108864 := Int.ediv_le_self _ (by omega)
      have := Ho.out
      omega
    go_upto_if 105 with fail
    go_cut [12] (fun s wn => s = .int .i64 o ∧ wn = w)
    case first =>
      go_wp2_with fail
      · go_ret
        exact ⟨rfl, Below.refl _ _⟩
      · go_meet
        exact ⟨rfl, rfl⟩
    case rest =>
      obtain ⟨rfl, rfl⟩ := hcut
      go_step
      exact tail13 hn0 hn1 hni hnr hO Ho.out Hc.out Hd.out
  · go_wp2_with fail
    go_ret
    exact ⟨rfl, Below.refl _ _⟩

end Go.Proofs.Yoeasw
