/-
  The walk of function 3 from the first loop to the test on the printed size.
-/
import Derived.Test.YoeaswTail11
import Derived.Deep.CutRange
import Derived.Deep.LoopGhost
import Derived.Deep.DeepCutAuto
namespace Go.Proofs.Yoeasw
open Go.RowKit

set_option maxHeartbeats 1000000 in
set_option maxRecDepth 100000 in
theorem tail10 {a0 : ByteArray} {a1 : Int} {bi oi li ci : Nat} {S : Nat → ByteArray} {br or_ lr cr : Nat} {R : Nat → Int} {n : Nat} {u4 u5 u6 u7 u8 u9 u10 u13 u14 u15 u16 u17 u18 u19 u20 u21 u22 u23 u24 u25 u26 u27 u28 u29 u30 u31 u32 u33 u34 u35 u36 u37 u38 u39 u40 u41 u42 u43 u44 u45 u46 u47 u48 u49 u50 u51 u52 u53 u54 u55 u56 u57 u58 u59 u60 u61 u62 u63 u64 u65 u66 u67 u68 u69 u70 u71 u72 u73 u74 u75 u76 u77 u78 u79 u80 u81 u82 u83 u84 u85 u86 u87 u88 u89 u90 u91 u92 u93 u94 u95 u96 u97 u98 u99 u100 u101 u102 u103 u104 u105 u106 u107 u108 u109 u110 u111 u112 u113 u114 u115 u116 u117 u118 u119 u120 u121 u122 u123 u124 u125 u126 u127 u128 u129 u130 u131 u132 u133 u134 u135 u136 u137 u138 u139 u140 u141 u142 u143 u144 u145 u146 u147 u148 u149 u150 u151 u152 u153 u154 u155 u156 u157 u158 u159 u160 u161 u162 u163 u164 u165 u166 u167 u168 u169 u170 u171 u172 u173 u174 u175 u176 u177 u178 u179 u180 u181 u182 u183 u184 u185 u186 u187 u188 u189 u190 u191 u192 u193 u194 : Value} (hn0 : 0 < n) (hn1 : n ≤ 4096) (hni : n ≤ li) (hnr : n ≤ lr) (hfit : a0.size + li + tot S li + lr ≤ 1048576) {w : World}
    (hc : ∀ j, j < li → w.cell? ⟨bi, oi + j, none⟩ = some (.string (S j))) (hd : ∀ j, j < lr → w.cell? ⟨br, or_ + j, none⟩ = some (.int .i64 (R j))) :
    Code.wp Easg.prog (codeFrom 10 (Easg.f3.body.getD .skip)) (bodyPost Easg.prog Easg.f3 fun e w' => e = .returned (.bool true) ∧ Below w.heap.size w w')
      ⟨List.toArray (.string a0 :: .int .i64 a1 :: .slice (some ⟨bi, oi, none⟩) li ci :: .slice (some ⟨br, or_, none⟩) lr cr :: u4 :: u5 :: u6 :: u7 :: u8 :: u9 :: u10 :: .int .i64 (n : Int) :: .int .i64 ((a0.size : Int) + 2 * (n : Int)) :: u13 :: u14 :: u15 :: u16 :: u17 :: u18 :: u19 :: u20 :: u21 :: u22 :: u23 :: u24 :: u25 :: u26 :: u27 :: u28 :: u29 :: u30 :: u31 :: u32 :: u33 :: u34 :: u35 :: u36 :: u37 :: u38 :: u39 :: u40 :: u41 :: u42 :: u43 :: u44 :: u45 :: u46 :: u47 :: u48 :: u49 :: u50 :: u51 :: u52 :: u53 :: u54 :: u55 :: u56 :: u57 :: u58 :: u59 :: u60 :: u61 :: u62 :: u63 :: u64 :: u65 :: u66 :: u67 :: u68 :: u69 :: u70 :: u71 :: u72 :: u73 :: u74 :: u75 :: u76 :: u77 :: u78 :: u79 :: u80 :: u81 :: u82 :: u83 :: u84 :: u85 :: u86 :: u87 :: u88 :: u89 :: u90 :: u91 :: u92 :: u93 :: u94 :: u95 :: u96 :: u97 :: u98 :: u99 :: u100 :: u101 :: u102 :: u103 :: u104 :: u105 :: u106 :: u107 :: u108 :: u109 :: u110 :: u111 :: u112 :: u113 :: u114 :: u115 :: u116 :: u117 :: u118 :: u119 :: u120 :: u121 :: u122 :: u123 :: u124 :: u125 :: u126 :: u127 :: u128 :: u129 :: u130 :: u131 :: u132 :: u133 :: u134 :: u135 :: u136 :: u137 :: u138 :: u139 :: u140 :: u141 :: u142 :: u143 :: u144 :: u145 :: u146 :: u147 :: u148 :: u149 :: u150 :: u151 :: u152 :: u153 :: u154 :: u155 :: u156 :: u157 :: u158 :: u159 :: u160 :: u161 :: u162 :: u163 :: u164 :: u165 :: u166 :: u167 :: u168 :: u169 :: u170 :: u171 :: u172 :: u173 :: u174 :: u175 :: u176 :: u177 :: u178 :: u179 :: u180 :: u181 :: u182 :: u183 :: u184 :: u185 :: u186 :: u187 :: u188 :: u189 :: u190 :: u191 :: u192 :: u193 :: u194 :: []), []⟩ w := by
  conv => arg 2; whnf
  have Hd : Hid (∀ j, j < lr → w.cell? ⟨br, or_ + j, none⟩ = some (.int .i64 (R j))) := hd
  clear hd
  go_step
  go_step
  go_cut [12] (fun s wn => s = .int .i64 ((a0.size + 2 * n + tot S n : Nat) : Int) ∧ wn = w)
  case first =>
    have htn := tot_mono S n li hni
    go_wp2_with fail
    go_loop [12, 13] (fun s i => ∃ j : Nat, j ≤ n ∧ i = .int .i64 j ∧ s = .int .i64 ((a0.size + 2 * n + tot S j : Nat) : Int)) (fun _ i => n - (intOf i).toNat)
    case atStart => exact ⟨0, Nat.zero_le _, rfl, by simp [tot]⟩
    case round =>
      obtain ⟨j, hj, rfl, rfl⟩ := hrel
      by_cases hlj : j < n
      · have hcj := hc j (by omega)
        have Ht : Hid (tot S (j + 1) = tot S j + (S j).size) := rfl
        have Hm : tot S j + (S j).size ≤ tot S n := tot_mono S (j + 1) n hlj
        go_wp2_with fail
        go_round
        case rel => exact ⟨j + 1, by omega, by go_num, by rw [Ht.out]; go_num⟩
        case measure => simp [intOf]; omega
      · obtain rfl : j = n := by omega
        go_wp2_with fail
        go_meet
        exact ⟨rfl, rfl⟩
  case rest =>
    obtain ⟨rfl, rfl⟩ := hcut
    go_step
    exact tail11 hn0 hn1 hni hnr rfl hc Hd.out

set_option maxHeartbeats 1000000 in
set_option maxRecDepth 100000 in
theorem tail9 {a0 : ByteArray} {a1 : Int} {bi oi li ci : Nat} {S : Nat → ByteArray} {br or_ lr cr : Nat} {R : Nat → Int} {n : Nat} {u4 u5 u6 u7 u8 u9 u10 u12 u13 u14 u15 u16 u17 u18 u19 u20 u21 u22 u23 u24 u25 u26 u27 u28 u29 u30 u31 u32 u33 u34 u35 u36 u37 u38 u39 u40 u41 u42 u43 u44 u45 u46 u47 u48 u49 u50 u51 u52 u53 u54 u55 u56 u57 u58 u59 u60 u61 u62 u63 u64 u65 u66 u67 u68 u69 u70 u71 u72 u73 u74 u75 u76 u77 u78 u79 u80 u81 u82 u83 u84 u85 u86 u87 u88 u89 u90 u91 u92 u93 u94 u95 u96 u97 u98 u99 u100 u101 u102 u103 u104 u105 u106 u107 u108 u109 u110 u111 u112 u113 u114 u115 u116 u117 u118 u119 u120 u121 u122 u123 u124 u125 u126 u127 u128 u129 u130 u131 u132 u133 u134 u135 u136 u137 u138 u139 u140 u141 u142 u143 u144 u145 u146 u147 u148 u149 u150 u151 u152 u153 u154 u155 u156 u157 u158 u159 u160 u161 u162 u163 u164 u165 u166 u167 u168 u169 u170 u171 u172 u173 u174 u175 u176 u177 u178 u179 u180 u181 u182 u183 u184 u185 u186 u187 u188 u189 u190 u191 u192 u193 u194 : Value} (hn0 : 0 < n) (hn1 : n ≤ 4096) (hni : n ≤ li) (hnr : n ≤ lr) (hfit : a0.size + li + tot S li + lr ≤ 1048576) {w : World}
    (hc : ∀ j, j < li → w.cell? ⟨bi, oi + j, none⟩ = some (.string (S j))) (hd : ∀ j, j < lr → w.cell? ⟨br, or_ + j, none⟩ = some (.int .i64 (R j))) :
    Code.wp Easg.prog (codeFrom 9 (Easg.f3.body.getD .skip)) (bodyPost Easg.prog Easg.f3 fun e w' => e = .returned (.bool true) ∧ Below w.heap.size w w')
      ⟨List.toArray (.string a0 :: .int .i64 a1 :: .slice (some ⟨bi, oi, none⟩) li ci :: .slice (some ⟨br, or_, none⟩) lr cr :: u4 :: u5 :: u6 :: u7 :: u8 :: u9 :: u10 :: .int .i64 (n : Int) :: u12 :: u13 :: u14 :: u15 :: u16 :: u17 :: u18 :: u19 :: u20 :: u21 :: u22 :: u23 :: u24 :: u25 :: u26 :: u27 :: u28 :: u29 :: u30 :: u31 :: u32 :: u33 :: u34 :: u35 :: u36 :: u37 :: u38 :: u39 :: u40 :: u41 :: u42 :: u43 :: u44 :: u45 :: u46 :: u47 :: u48 :: u49 :: u50 :: u51 :: u52 :: u53 :: u54 :: u55 :: u56 :: u57 :: u58 :: u59 :: u60 :: u61 :: u62 :: u63 :: u64 :: u65 :: u66 :: u67 :: u68 :: u69 :: u70 :: u71 :: u72 :: u73 :: u74 :: u75 :: u76 :: u77 :: u78 :: u79 :: u80 :: u81 :: u82 :: u83 :: u84 :: u85 :: u86 :: u87 :: u88 :: u89 :: u90 :: u91 :: u92 :: u93 :: u94 :: u95 :: u96 :: u97 :: u98 :: u99 :: u100 :: u101 :: u102 :: u103 :: u104 :: u105 :: u106 :: u107 :: u108 :: u109 :: u110 :: u111 :: u112 :: u113 :: u114 :: u115 :: u116 :: u117 :: u118 :: u119 :: u120 :: u121 :: u122 :: u123 :: u124 :: u125 :: u126 :: u127 :: u128 :: u129 :: u130 :: u131 :: u132 :: u133 :: u134 :: u135 :: u136 :: u137 :: u138 :: u139 :: u140 :: u141 :: u142 :: u143 :: u144 :: u145 :: u146 :: u147 :: u148 :: u149 :: u150 :: u151 :: u152 :: u153 :: u154 :: u155 :: u156 :: u157 :: u158 :: u159 :: u160 :: u161 :: u162 :: u163 :: u164 :: u165 :: u166 :: u167 :: u168 :: u169 :: u170 :: u171 :: u172 :: u173 :: u174 :: u175 :: u176 :: u177 :: u178 :: u179 :: u180 :: u181 :: u182 :: u183 :: u184 :: u185 :: u186 :: u187 :: u188 :: u189 :: u190 :: u191 :: u192 :: u193 :: u194 :: []), []⟩ w := by
  conv => arg 2; whnf
  have Hc : Hid (∀ j, j < li → w.cell? ⟨bi, oi + j, none⟩ = some (.string (S j))) := hc
  have Hd : Hid (∀ j, j < lr → w.cell? ⟨br, or_ + j, none⟩ = some (.int .i64 (R j))) := hd
  clear hc hd
  go_step
  go_step
  go_cut [12] (fun s wn => s = .int .i64 ((a0.size : Int) + 2 * (n : Int)) ∧ wn = w)
  case first =>
    go_wp2_with fail
    go_meet
    exact ⟨rfl, rfl⟩
  case rest =>
    obtain ⟨rfl, rfl⟩ := hcut
    go_step
    exact tail10 hn0 hn1 hni hnr hfit Hc.out Hd.out

set_option maxHeartbeats 1000000 in
set_option maxRecDepth 100000 in
theorem tail8 {a0 : ByteArray} {a1 : Int} {bi oi li ci : Nat} {S : Nat → ByteArray} {ar : Option Addr} {lr cr : Nat} {R : Nat → Int} {n : Nat} {u4 u5 u6 u7 u8 u9 u10 u12 u13 u14 u15 u16 u17 u18 u19 u20 u21 u22 u23 u24 u25 u26 u27 u28 u29 u30 u31 u32 u33 u34 u35 u36 u37 u38 u39 u40 u41 u42 u43 u44 u45 u46 u47 u48 u49 u50 u51 u52 u53 u54 u55 u56 u57 u58 u59 u60 u61 u62 u63 u64 u65 u66 u67 u68 u69 u70 u71 u72 u73 u74 u75 u76 u77 u78 u79 u80 u81 u82 u83 u84 u85 u86 u87 u88 u89 u90 u91 u92 u93 u94 u95 u96 u97 u98 u99 u100 u101 u102 u103 u104 u105 u106 u107 u108 u109 u110 u111 u112 u113 u114 u115 u116 u117 u118 u119 u120 u121 u122 u123 u124 u125 u126 u127 u128 u129 u130 u131 u132 u133 u134 u135 u136 u137 u138 u139 u140 u141 u142 u143 u144 u145 u146 u147 u148 u149 u150 u151 u152 u153 u154 u155 u156 u157 u158 u159 u160 u161 u162 u163 u164 u165 u166 u167 u168 u169 u170 u171 u172 u173 u174 u175 u176 u177 u178 u179 u180 u181 u182 u183 u184 u185 u186 u187 u188 u189 u190 u191 u192 u193 u194 : Value} (hni : n ≤ li) (hnr : n ≤ lr) (hfit : a0.size + li + tot S li + lr ≤ 1048576) {w : World}
    (hc : ∀ j, j < li → w.cell? ⟨bi, oi + j, none⟩ = some (.string (S j))) (ha : 0 < lr → ∃ br or_, ar = some ⟨br, or_, none⟩ ∧ ∀ j, j < lr → w.cell? ⟨br, or_ + j, none⟩ = some (.int .i64 (R j))) :
    Code.wp Easg.prog (codeFrom 8 (Easg.f3.body.getD .skip)) (bodyPost Easg.prog Easg.f3 fun e w' => e = .returned (.bool true) ∧ Below w.heap.size w w')
      ⟨List.toArray (.string a0 :: .int .i64 a1 :: .slice (some ⟨bi, oi, none⟩) li ci :: .slice ar lr cr :: u4 :: u5 :: u6 :: u7 :: u8 :: u9 :: u10 :: .int .i64 (n : Int) :: u12 :: u13 :: u14 :: u15 :: u16 :: u17 :: u18 :: u19 :: u20 :: u21 :: u22 :: u23 :: u24 :: u25 :: u26 :: u27 :: u28 :: u29 :: u30 :: u31 :: u32 :: u33 :: u34 :: u35 :: u36 :: u37 :: u38 :: u39 :: u40 :: u41 :: u42 :: u43 :: u44 :: u45 :: u46 :: u47 :: u48 :: u49 :: u50 :: u51 :: u52 :: u53 :: u54 :: u55 :: u56 :: u57 :: u58 :: u59 :: u60 :: u61 :: u62 :: u63 :: u64 :: u65 :: u66 :: u67 :: u68 :: u69 :: u70 :: u71 :: u72 :: u73 :: u74 :: u75 :: u76 :: u77 :: u78 :: u79 :: u80 :: u81 :: u82 :: u83 :: u84 :: u85 :: u86 :: u87 :: u88 :: u89 :: u90 :: u91 :: u92 :: u93 :: u94 :: u95 :: u96 :: u97 :: u98 :: u99 :: u100 :: u101 :: u102 :: u103 :: u104 :: u105 :: u106 :: u107 :: u108 :: u109 :: u110 :: u111 :: u112 :: u113 :: u114 :: u115 :: u116 :: u117 :: u118 :: u119 :: u120 :: u121 :: u122 :: u123 :: u124 :: u125 :: u126 :: u127 :: u128 :: u129 :: u130 :: u131 :: u132 :: u133 :: u134 :: u135 :: u136 :: u137 :: u138 :: u139 :: u140 :: u141 :: u142 :: u143 :: u144 :: u145 :: u146 :: u147 :: u148 :: u149 :: u150 :: u151 :: u152 :: u153 :: u154 :: u155 :: u156 :: u157 :: u158 :: u159 :: u160 :: u161 :: u162 :: u163 :: u164 :: u165 :: u166 :: u167 :: u168 :: u169 :: u170 :: u171 :: u172 :: u173 :: u174 :: u175 :: u176 :: u177 :: u178 :: u179 :: u180 :: u181 :: u182 :: u183 :: u184 :: u185 :: u186 :: u187 :: u188 :: u189 :: u190 :: u191 :: u192 :: u193 :: u194 :: []), []⟩ w := by
  conv => arg 2; whnf
  have Hc : Hid (∀ j, j < li → w.cell? ⟨bi, oi + j, none⟩ = some (.string (S j))) := hc
  have Ha : Hid (0 < lr → ∃ br or_, ar = some ⟨br, or_, none⟩ ∧ ∀ j, j < lr → w.cell? ⟨br, or_ + j, none⟩ = some (.int .i64 (R j))) := ha
  clear hc ha
  by_cases hn0 : n = 0
  · subst hn0
    go_wp2_with fail
    go_ret
    exact ⟨rfl, Below.refl _ _⟩
  · by_cases hn1 : n ≤ 4096
    · have d5 : ((n : Int) == 0) = false := by rw [beq_eq_false_iff_ne]; omega
      have d6 : decide ((4096 : Int) < (n : Int)) = false := by rw [decide_eq_false_iff_not]; omega
      obtain ⟨br, or_, rfl, hd⟩ := Ha.out (by omega)
      have Hd : Hid (∀ j, j < lr → w.cell? ⟨br, or_ + j, none⟩ = some (.int .i64 (R j))) := hd
      clear hd
      go_upto_if 78 with fail
      go_cut [11] (fun s wn => s = .int .i64 (n : Int) ∧ wn = w)
      case first =>
        go_wp2_with fail
        go_meet
        exact ⟨rfl, rfl⟩
      case rest =>
        obtain ⟨rfl, rfl⟩ := hcut
        go_step
        exact tail9 (by omega) hn1 hni hnr hfit Hc.out Hd.out
    · have d5 : ((n : Int) == 0) = false := by rw [beq_eq_false_iff_ne]; omega
      have d6 : decide ((4096 : Int) < (n : Int)) = true := by rw [decide_eq_true_iff]; omega
      go_wp2_with fail
      go_ret
      exact ⟨rfl, Below.refl _ _⟩

set_option maxHeartbeats 1000000 in
set_option maxRecDepth 100000 in
theorem tail6 {a0 : ByteArray} {a1 : Int} {bi oi li ci : Nat} {S : Nat → ByteArray} {ar : Option Addr} {lr cr : Nat} {R : Nat → Int} {n : Nat} {u4 u5 u6 u7 u8 u9 u10 u12 u13 u14 u15 u16 u17 u18 u19 u20 u21 u22 u23 u24 u25 u26 u27 u28 u29 u30 u31 u32 u33 u34 u35 u36 u37 u38 u39 u40 u41 u42 u43 u44 u45 u46 u47 u48 u49 u50 u51 u52 u53 u54 u55 u56 u57 u58 u59 u60 u61 u62 u63 u64 u65 u66 u67 u68 u69 u70 u71 u72 u73 u74 u75 u76 u77 u78 u79 u80 u81 u82 u83 u84 u85 u86 u87 u88 u89 u90 u91 u92 u93 u94 u95 u96 u97 u98 u99 u100 u101 u102 u103 u104 u105 u106 u107 u108 u109 u110 u111 u112 u113 u114 u115 u116 u117 u118 u119 u120 u121 u122 u123 u124 u125 u126 u127 u128 u129 u130 u131 u132 u133 u134 u135 u136 u137 u138 u139 u140 u141 u142 u143 u144 u145 u146 u147 u148 u149 u150 u151 u152 u153 u154 u155 u156 u157 u158 u159 u160 u161 u162 u163 u164 u165 u166 u167 u168 u169 u170 u171 u172 u173 u174 u175 u176 u177 u178 u179 u180 u181 u182 u183 u184 u185 u186 u187 u188 u189 u190 u191 u192 u193 u194 : Value} {u11 : Value} (hni : n ≤ li) (hnr : n ≤ lr) (hnm : n = li ∨ n = lr) (hfit : a0.size + li + tot S li + lr ≤ 1048576) {w : World}
    (hc : ∀ j, j < li → w.cell? ⟨bi, oi + j, none⟩ = some (.string (S j))) (ha : 0 < lr → ∃ br or_, ar = some ⟨br, or_, none⟩ ∧ ∀ j, j < lr → w.cell? ⟨br, or_ + j, none⟩ = some (.int .i64 (R j))) :
    Code.wp Easg.prog (codeFrom 6 (Easg.f3.body.getD .skip)) (bodyPost Easg.prog Easg.f3 fun e w' => e = .returned (.bool true) ∧ Below w.heap.size w w')
      ⟨List.toArray (.string a0 :: .int .i64 a1 :: .slice (some ⟨bi, oi, none⟩) li ci :: .slice ar lr cr :: u4 :: u5 :: u6 :: u7 :: u8 :: u9 :: u10 :: u11 :: u12 :: u13 :: u14 :: u15 :: u16 :: u17 :: u18 :: u19 :: u20 :: u21 :: u22 :: u23 :: u24 :: u25 :: u26 :: u27 :: u28 :: u29 :: u30 :: u31 :: u32 :: u33 :: u34 :: u35 :: u36 :: u37 :: u38 :: u39 :: u40 :: u41 :: u42 :: u43 :: u44 :: u45 :: u46 :: u47 :: u48 :: u49 :: u50 :: u51 :: u52 :: u53 :: u54 :: u55 :: u56 :: u57 :: u58 :: u59 :: u60 :: u61 :: u62 :: u63 :: u64 :: u65 :: u66 :: u67 :: u68 :: u69 :: u70 :: u71 :: u72 :: u73 :: u74 :: u75 :: u76 :: u77 :: u78 :: u79 :: u80 :: u81 :: u82 :: u83 :: u84 :: u85 :: u86 :: u87 :: u88 :: u89 :: u90 :: u91 :: u92 :: u93 :: u94 :: u95 :: u96 :: u97 :: u98 :: u99 :: u100 :: u101 :: u102 :: u103 :: u104 :: u105 :: u106 :: u107 :: u108 :: u109 :: u110 :: u111 :: u112 :: u113 :: u114 :: u115 :: u116 :: u117 :: u118 :: u119 :: u120 :: u121 :: u122 :: u123 :: u124 :: u125 :: u126 :: u127 :: u128 :: u129 :: u130 :: u131 :: u132 :: u133 :: u134 :: u135 :: u136 :: u137 :: u138 :: u139 :: u140 :: u141 :: u142 :: u143 :: u144 :: u145 :: u146 :: u147 :: u148 :: u149 :: u150 :: u151 :: u152 :: u153 :: u154 :: u155 :: u156 :: u157 :: u158 :: u159 :: u160 :: u161 :: u162 :: u163 :: u164 :: u165 :: u166 :: u167 :: u168 :: u169 :: u170 :: u171 :: u172 :: u173 :: u174 :: u175 :: u176 :: u177 :: u178 :: u179 :: u180 :: u181 :: u182 :: u183 :: u184 :: u185 :: u186 :: u187 :: u188 :: u189 :: u190 :: u191 :: u192 :: u193 :: u194 :: []), []⟩ w := by
  conv => arg 2; whnf
  have Hc : Hid (∀ j, j < li → w.cell? ⟨bi, oi + j, none⟩ = some (.string (S j))) := hc
  have Ha : Hid (0 < lr → ∃ br or_, ar = some ⟨br, or_, none⟩ ∧ ∀ j, j < lr → w.cell? ⟨br, or_ + j, none⟩ = some (.int .i64 (R j))) := ha
  have Hn : Hid (n = li ∨ n = lr) := hnm
  clear hc ha hnm
  go_upto_if 70 with fail
  go_cut [11] (fun s wn => s = .int .i64 (n : Int) ∧ wn = w)
  case first =>
    by_cases hlk : lr < li
    · go_wp2_with fail
      go_meet
      exact ⟨by rw [show n = lr from by have := Hn.out; omega], rfl⟩
    · go_wp2_with fail
      go_meet
      exact ⟨by rw [show n = li from by have := Hn.out; omega], rfl⟩
  case rest =>
    obtain ⟨rfl, rfl⟩ := hcut
    go_step
    exact tail8 hni hnr hfit Hc.out Ha.out

set_option maxHeartbeats 1000000 in
set_option maxRecDepth 100000 in
theorem tail5 {a0 : ByteArray} {a1 : Int} {bi oi li ci : Nat} {S : Nat → ByteArray} {ar : Option Addr} {lr cr : Nat} {R : Nat → Int} {n : Nat} {t : Int} {u4 u5 u6 u7 u8 u10 u12 u13 u14 u15 u16 u17 u18 u19 u20 u21 u22 u23 u24 u25 u26 u27 u28 u29 u30 u31 u32 u33 u34 u35 u36 u37 u38 u39 u40 u41 u42 u43 u44 u45 u46 u47 u48 u49 u50 u51 u52 u53 u54 u55 u56 u57 u58 u59 u60 u61 u62 u63 u64 u65 u66 u67 u68 u69 u70 u71 u72 u73 u74 u75 u76 u77 u78 u79 u80 u81 u82 u83 u84 u85 u86 u87 u88 u89 u90 u91 u92 u93 u94 u95 u96 u97 u98 u99 u100 u101 u102 u103 u104 u105 u106 u107 u108 u109 u110 u111 u112 u113 u114 u115 u116 u117 u118 u119 u120 u121 u122 u123 u124 u125 u126 u127 u128 u129 u130 u131 u132 u133 u134 u135 u136 u137 u138 u139 u140 u141 u142 u143 u144 u145 u146 u147 u148 u149 u150 u151 u152 u153 u154 u155 u156 u157 u158 u159 u160 u161 u162 u163 u164 u165 u166 u167 u168 u169 u170 u171 u172 u173 u174 u175 u176 u177 u178 u179 u180 u181 u182 u183 u184 u185 u186 u187 u188 u189 u190 u191 u192 u193 u194 : Value} {u11 : Value} (hni : n ≤ li) (hnr : n ≤ lr) (hnm : n = li ∨ n = lr) (hfit : a0.size + li + tot S li + lr ≤ 1048576) {w : World}
    (hc : ∀ j, j < li → w.cell? ⟨bi, oi + j, none⟩ = some (.string (S j))) (ha : 0 < lr → ∃ br or_, ar = some ⟨br, or_, none⟩ ∧ ∀ j, j < lr → w.cell? ⟨br, or_ + j, none⟩ = some (.int .i64 (R j))) :
    Code.wp Easg.prog (codeFrom 5 (Easg.f3.body.getD .skip)) (bodyPost Easg.prog Easg.f3 fun e w' => e = .returned (.bool true) ∧ Below w.heap.size w w')
      ⟨List.toArray (.string a0 :: .int .i64 a1 :: .slice (some ⟨bi, oi, none⟩) li ci :: .slice ar lr cr :: u4 :: u5 :: u6 :: u7 :: u8 :: .int .i64 t :: u10 :: u11 :: u12 :: u13 :: u14 :: u15 :: u16 :: u17 :: u18 :: u19 :: u20 :: u21 :: u22 :: u23 :: u24 :: u25 :: u26 :: u27 :: u28 :: u29 :: u30 :: u31 :: u32 :: u33 :: u34 :: u35 :: u36 :: u37 :: u38 :: u39 :: u40 :: u41 :: u42 :: u43 :: u44 :: u45 :: u46 :: u47 :: u48 :: u49 :: u50 :: u51 :: u52 :: u53 :: u54 :: u55 :: u56 :: u57 :: u58 :: u59 :: u60 :: u61 :: u62 :: u63 :: u64 :: u65 :: u66 :: u67 :: u68 :: u69 :: u70 :: u71 :: u72 :: u73 :: u74 :: u75 :: u76 :: u77 :: u78 :: u79 :: u80 :: u81 :: u82 :: u83 :: u84 :: u85 :: u86 :: u87 :: u88 :: u89 :: u90 :: u91 :: u92 :: u93 :: u94 :: u95 :: u96 :: u97 :: u98 :: u99 :: u100 :: u101 :: u102 :: u103 :: u104 :: u105 :: u106 :: u107 :: u108 :: u109 :: u110 :: u111 :: u112 :: u113 :: u114 :: u115 :: u116 :: u117 :: u118 :: u119 :: u120 :: u121 :: u122 :: u123 :: u124 :: u125 :: u126 :: u127 :: u128 :: u129 :: u130 :: u131 :: u132 :: u133 :: u134 :: u135 :: u136 :: u137 :: u138 :: u139 :: u140 :: u141 :: u142 :: u143 :: u144 :: u145 :: u146 :: u147 :: u148 :: u149 :: u150 :: u151 :: u152 :: u153 :: u154 :: u155 :: u156 :: u157 :: u158 :: u159 :: u160 :: u161 :: u162 :: u163 :: u164 :: u165 :: u166 :: u167 :: u168 :: u169 :: u170 :: u171 :: u172 :: u173 :: u174 :: u175 :: u176 :: u177 :: u178 :: u179 :: u180 :: u181 :: u182 :: u183 :: u184 :: u185 :: u186 :: u187 :: u188 :: u189 :: u190 :: u191 :: u192 :: u193 :: u194 :: []), []⟩ w := by
  conv => arg 2; whnf
  have Hc : Hid (∀ j, j < li → w.cell? ⟨bi, oi + j, none⟩ = some (.string (S j))) := hc
  have Ha : Hid (0 < lr → ∃ br or_, ar = some ⟨br, or_, none⟩ ∧ ∀ j, j < lr → w.cell? ⟨br, or_ + j, none⟩ = some (.int .i64 (R j))) := ha
  have Hn : Hid (n = li ∨ n = lr) := hnm
  clear hc ha hnm
  go_upto_if 64 with fail
  go_cut [9] (fun _ wn => wn = w)
  case first =>
    go_wp2_with fail
    · go_ret
      exact ⟨rfl, Below.refl _ _⟩
    · go_meet
      exact rfl
  case rest =>
    obtain rfl := hcut
    go_step
    exact tail6 hni hnr Hn.out hfit Hc.out Ha.out

set_option maxHeartbeats 1000000 in
set_option maxRecDepth 100000 in
theorem tail4 {a0 : ByteArray} {a1 : Int} {bi oi li ci : Nat} {S : Nat → ByteArray} {ar : Option Addr} {lr cr : Nat} {R : Nat → Int} {n : Nat} {u4 u5 u6 u7 u8 u10 u12 u13 u14 u15 u16 u17 u18 u19 u20 u21 u22 u23 u24 u25 u26 u27 u28 u29 u30 u31 u32 u33 u34 u35 u36 u37 u38 u39 u40 u41 u42 u43 u44 u45 u46 u47 u48 u49 u50 u51 u52 u53 u54 u55 u56 u57 u58 u59 u60 u61 u62 u63 u64 u65 u66 u67 u68 u69 u70 u71 u72 u73 u74 u75 u76 u77 u78 u79 u80 u81 u82 u83 u84 u85 u86 u87 u88 u89 u90 u91 u92 u93 u94 u95 u96 u97 u98 u99 u100 u101 u102 u103 u104 u105 u106 u107 u108 u109 u110 u111 u112 u113 u114 u115 u116 u117 u118 u119 u120 u121 u122 u123 u124 u125 u126 u127 u128 u129 u130 u131 u132 u133 u134 u135 u136 u137 u138 u139 u140 u141 u142 u143 u144 u145 u146 u147 u148 u149 u150 u151 u152 u153 u154 u155 u156 u157 u158 u159 u160 u161 u162 u163 u164 u165 u166 u167 u168 u169 u170 u171 u172 u173 u174 u175 u176 u177 u178 u179 u180 u181 u182 u183 u184 u185 u186 u187 u188 u189 u190 u191 u192 u193 u194 : Value} {u11 : Value} (hni : n ≤ li) (hnr : n ≤ lr) (hnm : n = li ∨ n = lr) (hli : li ≤ 65536) (hlr : lr ≤ 65536) (hfit : a0.size + li + tot S li + lr ≤ 1048576) {w : World}
    (hc : ∀ j, j < li → w.cell? ⟨bi, oi + j, none⟩ = some (.string (S j))) (ha : 0 < lr → ∃ br or_, ar = some ⟨br, or_, none⟩ ∧ ∀ j, j < lr → w.cell? ⟨br, or_ + j, none⟩ = some (.int .i64 (R j))) :
    Code.wp Easg.prog (codeFrom 4 (Easg.f3.body.getD .skip)) (bodyPost Easg.prog Easg.f3 fun e w' => e = .returned (.bool true) ∧ Below w.heap.size w w')
      ⟨List.toArray (.string a0 :: .int .i64 a1 :: .slice (some ⟨bi, oi, none⟩) li ci :: .slice ar lr cr :: u4 :: u5 :: u6 :: u7 :: u8 :: .int .i64 ((a0.size : Int) + 8 * (li : Int) + 8 * (lr : Int)) :: u10 :: u11 :: u12 :: u13 :: u14 :: u15 :: u16 :: u17 :: u18 :: u19 :: u20 :: u21 :: u22 :: u23 :: u24 :: u25 :: u26 :: u27 :: u28 :: u29 :: u30 :: u31 :: u32 :: u33 :: u34 :: u35 :: u36 :: u37 :: u38 :: u39 :: u40 :: u41 :: u42 :: u43 :: u44 :: u45 :: u46 :: u47 :: u48 :: u49 :: u50 :: u51 :: u52 :: u53 :: u54 :: u55 :: u56 :: u57 :: u58 :: u59 :: u60 :: u61 :: u62 :: u63 :: u64 :: u65 :: u66 :: u67 :: u68 :: u69 :: u70 :: u71 :: u72 :: u73 :: u74 :: u75 :: u76 :: u77 :: u78 :: u79 :: u80 :: u81 :: u82 :: u83 :: u84 :: u85 :: u86 :: u87 :: u88 :: u89 :: u90 :: u91 :: u92 :: u93 :: u94 :: u95 :: u96 :: u97 :: u98 :: u99 :: u100 :: u101 :: u102 :: u103 :: u104 :: u105 :: u106 :: u107 :: u108 :: u109 :: u110 :: u111 :: u112 :: u113 :: u114 :: u115 :: u116 :: u117 :: u118 :: u119 :: u120 :: u121 :: u122 :: u123 :: u124 :: u125 :: u126 :: u127 :: u128 :: u129 :: u130 :: u131 :: u132 :: u133 :: u134 :: u135 :: u136 :: u137 :: u138 :: u139 :: u140 :: u141 :: u142 :: u143 :: u144 :: u145 :: u146 :: u147 :: u148 :: u149 :: u150 :: u151 :: u152 :: u153 :: u154 :: u155 :: u156 :: u157 :: u158 :: u159 :: u160 :: u161 :: u162 :: u163 :: u164 :: u165 :: u166 :: u167 :: u168 :: u169 :: u170 :: u171 :: u172 :: u173 :: u174 :: u175 :: u176 :: u177 :: u178 :: u179 :: u180 :: u181 :: u182 :: u183 :: u184 :: u185 :: u186 :: u187 :: u188 :: u189 :: u190 :: u191 :: u192 :: u193 :: u194 :: []), []⟩ w := by
  conv => arg 2; whnf
  have Ha : Hid (0 < lr → ∃ br or_, ar = some ⟨br, or_, none⟩ ∧ ∀ j, j < lr → w.cell? ⟨br, or_ + j, none⟩ = some (.int .i64 (R j))) := ha
  have Hn : Hid (n = li ∨ n = lr) := hnm
  clear ha hnm
  go_step
  go_step
  go_cut [9] (fun s wn => (∃ t, s = .int .i64 t) ∧ wn = w)
  case first =>
    go_wp2_with fail
    go_loop [9, 10] (fun s i => ∃ k : Nat, k ≤ li ∧ i = .int .i64 k ∧ s = .int .i64 ((a0.size + 8 * li + 8 * lr + tot S k : Nat) : Int)) (fun _ i => li - (intOf i).toNat)
    case atStart => exact ⟨0, Nat.zero_le _, rfl, by simp [tot]⟩
    case round =>
      obtain ⟨k, hk, rfl, rfl⟩ := hrel
      by_cases hlt : k < li
      · have Ht : Hid (tot S (k + 1) = tot S k + (S k).size) := rfl
        have Hm : tot S k + (S k).size ≤ tot S li := tot_mono S (k + 1) li hlt
        go_wp2_with fail
        · go_ret
          exact ⟨rfl, Below.refl _ _⟩
        · go_round
          case rel => exact ⟨k + 1, by omega, by go_num, by rw [Ht.out]; go_num⟩
          case measure => simp [intOf]; omega
      · obtain rfl : k = li := by omega
        go_wp2_with fail
        go_meet
        exact ⟨⟨_, rfl⟩, rfl⟩
  case rest =>
    obtain ⟨⟨t, rfl⟩, rfl⟩ := hcut
    go_step
    exact tail5 hni hnr Hn.out hfit hc Ha.out

end Go.Proofs.Yoeasw
