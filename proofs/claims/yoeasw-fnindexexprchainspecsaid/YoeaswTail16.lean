/-
  The walk of function 3 from 'make' on: the wanted text is built; then the end.
-/
import Derived.Test.YoeaswTail19
import Derived.Deep.RegionWith
import Derived.Deep.CutRange
import Derived.Deep.LoopGhost
import Derived.Deep.DeepCutAuto
import Derived.Deep.Light
namespace Go.Proofs.Yoeasw
open Go.RowKit

theorem one_byte (c : Int) : ∀ u ∈ [Value.int .u8 c], u.oneCell' = true := by
  intro u hu
  simp at hu
  subst hu
  rfl

set_option maxHeartbeats 1000000 in
set_option maxRecDepth 100000 in
theorem tail18 {a0 : ByteArray} {a1 : Int} {bi oi li ci : Nat} {S : Nat → ByteArray} {br or_ lr cr : Nat} {R : Nat → Int} {n : Nat} {v : Value} {u4 u5 u6 u7 u8 u9 u10 u12 u13 u15 u16 u18 u19 u20 u21 u22 u23 u24 u25 u26 u27 u28 u29 u30 u31 u32 u33 u34 u35 u36 u37 u38 u39 u40 u41 u42 u43 u44 u45 u46 u47 u48 u49 u50 u51 u52 u53 u54 u55 u56 u57 u58 u59 u60 u61 u62 u63 u64 u65 u66 u67 u68 u69 u70 u71 u72 u73 u74 u75 u76 u77 u78 u79 u80 u81 u82 u83 u84 u85 u86 u87 u88 u89 u90 u91 u92 u93 u94 u95 u96 u97 u98 u99 u100 u101 u102 u103 u104 u105 u106 u107 u108 u109 u110 u111 u112 u113 u114 u115 u116 u117 u118 u119 u120 u121 u122 u123 u124 u125 u126 u127 u128 u129 u130 u131 u132 u133 u134 u135 u136 u137 u138 u139 u140 u141 u142 u143 u144 u145 u146 u147 u148 u149 u150 u151 u152 u153 u154 u155 u156 u157 u158 u159 u160 u161 u162 u163 u164 u165 u166 u167 u168 u169 u170 u171 u172 u173 u174 u175 u176 u177 u178 u179 u180 u181 u182 u183 u184 u185 u186 u187 u188 u189 u190 u191 u192 u193 u194 : Value} (hn0 : 0 < n) (hn1 : n ≤ 4096) (hni : n ≤ li) (hnr : n ≤ lr)
    (hO : a0.size + 2 * n + tot S n ≤ 67108864) {w wc wd : World} {c : Nat}
    (hc : ∀ j, j < li → w.cell? ⟨bi, oi + j, none⟩ = some (.string (S j))) (hd : ∀ j, j < lr → w.cell? ⟨br, or_ + j, none⟩ = some (.int .i64 (R j))) (hB : Built w wc a0 a1 S R n c) (hW : Want wc wd v a0) :
    Code.wp Easg.prog (codeFrom 18 (Easg.f3.body.getD .skip)) (bodyPost Easg.prog Easg.f3 fun e w' => e = .returned (.bool true) ∧ Below w.heap.size w w')
      ⟨List.toArray (.string a0 :: .int .i64 a1 :: .slice (some ⟨bi, oi, none⟩) li ci :: .slice (some ⟨br, or_, none⟩) lr cr :: u4 :: u5 :: u6 :: u7 :: u8 :: u9 :: u10 :: .int .i64 (n : Int) :: u12 :: u13 :: .pointer (some ⟨c, 0, none⟩) :: u15 :: u16 :: v :: u18 :: u19 :: u20 :: u21 :: u22 :: u23 :: u24 :: u25 :: u26 :: u27 :: u28 :: u29 :: u30 :: u31 :: u32 :: u33 :: u34 :: u35 :: u36 :: u37 :: u38 :: u39 :: u40 :: u41 :: u42 :: u43 :: u44 :: u45 :: u46 :: u47 :: u48 :: u49 :: u50 :: u51 :: u52 :: u53 :: u54 :: u55 :: u56 :: u57 :: u58 :: u59 :: u60 :: u61 :: u62 :: u63 :: u64 :: u65 :: u66 :: u67 :: u68 :: u69 :: u70 :: u71 :: u72 :: u73 :: u74 :: u75 :: u76 :: u77 :: u78 :: u79 :: u80 :: u81 :: u82 :: u83 :: u84 :: u85 :: u86 :: u87 :: u88 :: u89 :: u90 :: u91 :: u92 :: u93 :: u94 :: u95 :: u96 :: u97 :: u98 :: u99 :: u100 :: u101 :: u102 :: u103 :: u104 :: u105 :: u106 :: u107 :: u108 :: u109 :: u110 :: u111 :: u112 :: u113 :: u114 :: u115 :: u116 :: u117 :: u118 :: u119 :: u120 :: u121 :: u122 :: u123 :: u124 :: u125 :: u126 :: u127 :: u128 :: u129 :: u130 :: u131 :: u132 :: u133 :: u134 :: u135 :: u136 :: u137 :: u138 :: u139 :: u140 :: u141 :: u142 :: u143 :: u144 :: u145 :: u146 :: u147 :: u148 :: u149 :: u150 :: u151 :: u152 :: u153 :: u154 :: u155 :: u156 :: u157 :: u158 :: u159 :: u160 :: u161 :: u162 :: u163 :: u164 :: u165 :: u166 :: u167 :: u168 :: u169 :: u170 :: u171 :: u172 :: u173 :: u174 :: u175 :: u176 :: u177 :: u178 :: u179 :: u180 :: u181 :: u182 :: u183 :: u184 :: u185 :: u186 :: u187 :: u188 :: u189 :: u190 :: u191 :: u192 :: u193 :: u194 :: []), []⟩ wd := by
  conv => arg 2; whnf
  have Hc : Hid (∀ j, j < li → w.cell? ⟨bi, oi + j, none⟩ = some (.string (S j))) := hc
  have Hd : Hid (∀ j, j < lr → w.cell? ⟨br, or_ + j, none⟩ = some (.int .i64 (R j))) := hd
  clear hc hd
  obtain ⟨i0, hi, hz0, hz1, hz2⟩ := info_parts Easg.info5
  go_step
  go_step
  go_cut [17] (fun v wn => Want wc wn v (pr a0 (names S n)))
  case first =>
    go_wp2_with fail
    go_loopw [17, 18] (fun v i wr => ∃ k : Nat, k ≤ n ∧ i = .int .i64 (k : Int) ∧ Want wc wr v (pr a0 (names S k))) (fun _ i _ => n - (intOf i).toNat)
    case atStart => exact ⟨0, Nat.zero_le _, rfl, hW⟩
    case round =>
      clear hW
      obtain ⟨k, hkn, rfl, hW⟩ := hrel
      by_cases hlt : k < n
      · have hck : wr.cell? ⟨bi, oi + k, none⟩ = some (.string (S k)) := cell_keep hW.2 (cell_keep hB.2.2 (Hc.out k (by omega)))
        have hps := pr_names_size a0 S k
        have hp1 := pr_names_size a0 S (k + 1)
        have hm := tot_mono S (k + 1) n hlt
        have Hp : Hid (pr a0 (names S (k + 1)) = pr a0 (names S k) ++ ⟨#[91]⟩ ++ S k ++ ⟨#[93]⟩) := rfl
        have hsz : (pr a0 (names S (k + 1))).size = (pr a0 (names S k)).size + (S k).size + 2 := pr_size_cons a0 (S k) (names S k)
        have hle : (pr a0 (names S k)).size + (S k).size + 2 ≤ 67108864 := by omega
        clear hps hp1 hm hsz
        generalize pr a0 (names S k) = s at *
        have hs1 := hW.2.size
        go_wp2_with (at_builtin; refine wpList_append_own _ rfl (.tmp 165) (.tmp 166) 33 rfl wc.heap.size 5 i0 (.int .u8 0) 1 1 Easg.underlying33 hi hz0 hz1 hz2 rfl (by decide) _ _ _ rfl (hW.1.alloc _) ⟨wr.heap.size, 0, none⟩ 1 1 [.int .u8 91] rfl rfl (cell_one_new _ _ _) (one_byte 91) ?c3 ?c4 ?c5 ?_)
        case c3 => unfold maxLen; omega
        case c4 => omega
        case c5 => simp; omega
        intro v1 w1 ho1 hg1 _
        have W1 : Want wc w1 v1 (s ++ ⟨#[91]⟩) := want_byte (c := 91) hW ho1 hg1
        have hle1 : (s ++ (⟨#[91]⟩ : ByteArray)).size + (S k).size + 1 ≤ 67108864 := by rw [ByteArray.size_append, show (ByteArray.mk #[91]).size = 1 from rfl]; omega
        have hck1 : w1.cell? ⟨bi, oi + k, none⟩ = some (.string (S k)) := cell_keep W1.2 (cell_keep hB.2.2 (Hc.out k (by omega)))
        clear ho1 hg1 hW hck hs1
        generalize s ++ (⟨#[91]⟩ : ByteArray) = s1 at *
        have hs1 := W1.2.size
        go_wp2_with (at_builtin; refine Lib.wpList_append_own_string _ rfl (.tmp 168) (.tmp 172) 33 9 rfl wc.heap.size 5 i0 Easg.underlying33 Easg.underlying9 hi hz0 hz1 hz2 _ _ _ rfl W1.1 (S k) rfl ?d3 ?d4 ?d5 ?_)
        case d3 => unfold maxLen; omega
        case d4 => omega
        case d5 => omega
        intro v2 w2 ho2 hg2 _
        have W2 : Want wc w2 v2 (s1 ++ S k) := want_str W1 ho2 hg2
        have hle2 : (s1 ++ S k).size + 1 ≤ 67108864 := by rw [ByteArray.size_append]; omega
        clear ho2 hg2 W1 hck1 hs1
        generalize s1 ++ S k = s2 at *
        have hs2 := W2.2.size
        go_wp2_with (at_builtin; refine wpList_append_own _ rfl (.tmp 174) (.tmp 175) 33 rfl wc.heap.size 5 i0 (.int .u8 0) 1 1 Easg.underlying33 hi hz0 hz1 hz2 rfl (by decide) _ _ _ rfl (W2.1.alloc _) ⟨w2.heap.size, 0, none⟩ 1 1 [.int .u8 93] rfl rfl (cell_one_new _ _ _) (one_byte 93) ?e3 ?e4 ?e5 ?_)
        case e3 => unfold maxLen; omega
        case e4 => omega
        case e5 => simp; omega
        intro v3 w3 ho3 hg3 _
        have W3 : Want wc w3 v3 (s2 ++ ⟨#[93]⟩) := want_byte (c := 93) W2 ho3 hg3
        clear ho3 hg3 W2 hs2
        go_wp2_with fail
        go_roundw
        case rel => exact ⟨k + 1, by omega, by go_num, by rw [Hp.out]; exact W3⟩
        case measure => simp [intOf]; omega
      · obtain rfl : k = n := by omega
        go_wp2_with fail
        go_meet
        case rel => exact hW
  case rest =>
    go_step
    exact tail19 hn0 hn1 hnr hO Hd.out hB hcut

set_option maxHeartbeats 1000000 in
set_option maxRecDepth 100000 in
theorem tail16 {a0 : ByteArray} {a1 : Int} {bi oi li ci : Nat} {S : Nat → ByteArray} {br or_ lr cr : Nat} {R : Nat → Int} {n : Nat} {o : Int} {u4 u5 u6 u7 u8 u9 u10 u13 u15 u16 u17 u18 u19 u20 u21 u22 u23 u24 u25 u26 u27 u28 u29 u30 u31 u32 u33 u34 u35 u36 u37 u38 u39 u40 u41 u42 u43 u44 u45 u46 u47 u48 u49 u50 u51 u52 u53 u54 u55 u56 u57 u58 u59 u60 u61 u62 u63 u64 u65 u66 u67 u68 u69 u70 u71 u72 u73 u74 u75 u76 u77 u78 u79 u80 u81 u82 u83 u84 u85 u86 u87 u88 u89 u90 u91 u92 u93 u94 u95 u96 u97 u98 u99 u100 u101 u102 u103 u104 u105 u106 u107 u108 u109 u110 u111 u112 u113 u114 u115 u116 u117 u118 u119 u120 u121 u122 u123 u124 u125 u126 u127 u128 u129 u130 u131 u132 u133 u134 u135 u136 u137 u138 u139 u140 u141 u142 u143 u144 u145 u146 u147 u148 u149 u150 u151 u152 u153 u154 u155 u156 u157 u158 u159 u160 u161 u162 u163 u164 u165 u166 u167 u168 u169 u170 u171 u172 u173 u174 u175 u176 u177 u178 u179 u180 u181 u182 u183 u184 u185 u186 u187 u188 u189 u190 u191 u192 u193 u194 : Value} (hn0 : 0 < n) (hn1 : n ≤ 4096) (hni : n ≤ li) (hnr : n ≤ lr)
    (hO : a0.size + 2 * n + tot S n ≤ 67108864) (ho : o = ((a0.size + 2 * n + tot S n : Nat) : Int)) {w wc : World} {c : Nat}
    (hc : ∀ j, j < li → w.cell? ⟨bi, oi + j, none⟩ = some (.string (S j))) (hd : ∀ j, j < lr → w.cell? ⟨br, or_ + j, none⟩ = some (.int .i64 (R j))) (hB : Built w wc a0 a1 S R n c) :
    Code.wp Easg.prog (codeFrom 16 (Easg.f3.body.getD .skip)) (bodyPost Easg.prog Easg.f3 fun e w' => e = .returned (.bool true) ∧ Below w.heap.size w w')
      ⟨List.toArray (.string a0 :: .int .i64 a1 :: .slice (some ⟨bi, oi, none⟩) li ci :: .slice (some ⟨br, or_, none⟩) lr cr :: u4 :: u5 :: u6 :: u7 :: u8 :: u9 :: u10 :: .int .i64 (n : Int) :: .int .i64 o :: u13 :: .pointer (some ⟨c, 0, none⟩) :: u15 :: u16 :: u17 :: u18 :: u19 :: u20 :: u21 :: u22 :: u23 :: u24 :: u25 :: u26 :: u27 :: u28 :: u29 :: u30 :: u31 :: u32 :: u33 :: u34 :: u35 :: u36 :: u37 :: u38 :: u39 :: u40 :: u41 :: u42 :: u43 :: u44 :: u45 :: u46 :: u47 :: u48 :: u49 :: u50 :: u51 :: u52 :: u53 :: u54 :: u55 :: u56 :: u57 :: u58 :: u59 :: u60 :: u61 :: u62 :: u63 :: u64 :: u65 :: u66 :: u67 :: u68 :: u69 :: u70 :: u71 :: u72 :: u73 :: u74 :: u75 :: u76 :: u77 :: u78 :: u79 :: u80 :: u81 :: u82 :: u83 :: u84 :: u85 :: u86 :: u87 :: u88 :: u89 :: u90 :: u91 :: u92 :: u93 :: u94 :: u95 :: u96 :: u97 :: u98 :: u99 :: u100 :: u101 :: u102 :: u103 :: u104 :: u105 :: u106 :: u107 :: u108 :: u109 :: u110 :: u111 :: u112 :: u113 :: u114 :: u115 :: u116 :: u117 :: u118 :: u119 :: u120 :: u121 :: u122 :: u123 :: u124 :: u125 :: u126 :: u127 :: u128 :: u129 :: u130 :: u131 :: u132 :: u133 :: u134 :: u135 :: u136 :: u137 :: u138 :: u139 :: u140 :: u141 :: u142 :: u143 :: u144 :: u145 :: u146 :: u147 :: u148 :: u149 :: u150 :: u151 :: u152 :: u153 :: u154 :: u155 :: u156 :: u157 :: u158 :: u159 :: u160 :: u161 :: u162 :: u163 :: u164 :: u165 :: u166 :: u167 :: u168 :: u169 :: u170 :: u171 :: u172 :: u173 :: u174 :: u175 :: u176 :: u177 :: u178 :: u179 :: u180 :: u181 :: u182 :: u183 :: u184 :: u185 :: u186 :: u187 :: u188 :: u189 :: u190 :: u191 :: u192 :: u193 :: u194 :: []), []⟩ wc := by
  conv => arg 2; whnf
  have Hc : Hid (∀ j, j < li → w.cell? ⟨bi, oi + j, none⟩ = some (.string (S j))) := hc
  have Hd : Hid (∀ j, j < lr → w.cell? ⟨br, or_ + j, none⟩ = some (.int .i64 (R j))) := hd
  have Ho : Hid (o = ((a0.size + 2 * n + tot S n : Nat) : Int)) := ho
  clear hc hd ho
  obtain ⟨i0, hi, hz0, hz1, hz2⟩ := info_parts Easg.info5
  go_upto_region 39 with (at_make; refine wpList_make_own _ rfl _ _ 33 rfl wc.heap.size 5 i0 (.int .u8 0) 1 Easg.underlying33 hi hz0 hz1 _ _ _ (a0.size + 2 * n + tot S n) rfl rfl Ho.out ?b2 ?b3 ?b4 ?_)
  case b2 => rw [hz2]; omega
  case b3 => unfold maxLen; omega
  case b4 => exact Nat.le_refl _
  intro w1 ho1 hg1
  have W1 : Want wc w1 (.slice (some ⟨wc.heap.size, 0, none⟩) 0 (a0.size + 2 * n + tot S n)) ByteArray.empty := want_made ho1 hg1
  clear ho1 hg1
  generalize hv : Value.slice (some ⟨wc.heap.size, 0, none⟩) 0 (a0.size + 2 * n + tot S n) = v at *
  clear hv
  have hs1 := W1.2.size
  go_upto_region 39 with fail
  go_cut [17] (fun v wn => Want wc wn v a0)
  case first =>
    go_wp2_with (at_builtin; refine Lib.wpList_append_own_string _ rfl (.tmp 157) (.tmp 158) 33 9 rfl wc.heap.size 5 i0 Easg.underlying33 Easg.underlying9 hi hz0 hz1 hz2 _ _ _ rfl W1.1 a0 rfl ?d3 ?d4 ?d5 ?_)
    case d3 => unfold maxLen; simp; omega
    case d4 => simp; omega
    case d5 => omega
    intro v2 w2 ho2 hg2 _
    have W2 : Want wc w2 v2 a0 := by
      have := want_str (x := a0) W1 (by rw [show ByteArray.empty.size + a0.size = a0.size from by simp]; exact ho2) hg2
      rwa [ByteArray.empty_append] at this
    clear ho2 hg2 W1 hs1
    go_wp2_with fail
    go_meet
    case rel => exact W2
  case rest =>
    go_step
    exact tail18 hn0 hn1 hni hnr hO Hc.out Hd.out hB hcut

end Go.Proofs.Yoeasw
