/-
  The walk of function 3 from the comparison of the two texts to its end.
-/
import Derived.Test.YoeaswWant
import Derived.Deep.QuietTactic
import Derived.BigQuiet
namespace Go.Proofs.Yoeasw
open Go.RowKit

set_option maxHeartbeats 1000000 in
set_option maxRecDepth 100000 in
theorem tail19 {a0 : ByteArray} {a1 : Int} {bi oi li ci : Nat} {S : Nat → ByteArray} {br or_ lr cr : Nat} {R : Nat → Int} {n : Nat} {v : Value} {u4 u5 u6 u7 u8 u9 u10 u12 u13 u15 u16 u18 u19 u20 u21 u22 u23 u24 u25 u26 u27 u28 u29 u30 u31 u32 u33 u34 u35 u36 u37 u38 u39 u40 u41 u42 u43 u44 u45 u46 u47 u48 u49 u50 u51 u52 u53 u54 u55 u56 u57 u58 u59 u60 u61 u62 u63 u64 u65 u66 u67 u68 u69 u70 u71 u72 u73 u74 u75 u76 u77 u78 u79 u80 u81 u82 u83 u84 u85 u86 u87 u88 u89 u90 u91 u92 u93 u94 u95 u96 u97 u98 u99 u100 u101 u102 u103 u104 u105 u106 u107 u108 u109 u110 u111 u112 u113 u114 u115 u116 u117 u118 u119 u120 u121 u122 u123 u124 u125 u126 u127 u128 u129 u130 u131 u132 u133 u134 u135 u136 u137 u138 u139 u140 u141 u142 u143 u144 u145 u146 u147 u148 u149 u150 u151 u152 u153 u154 u155 u156 u157 u158 u159 u160 u161 u162 u163 u164 u165 u166 u167 u168 u169 u170 u171 u172 u173 u174 u175 u176 u177 u178 u179 u180 u181 u182 u183 u184 u185 u186 u187 u188 u189 u190 u191 u192 u193 u194 : Value} (hn0 : 0 < n) (hn1 : n ≤ 4096) (hnr : n ≤ lr)
    (hO : a0.size + 2 * n + tot S n ≤ 67108864) {w wc wd : World} {c : Nat}
    (hd : ∀ j, j < lr → w.cell? ⟨br, or_ + j, none⟩ = some (.int .i64 (R j))) (hB : Built w wc a0 a1 S R n c) (hW : Want wc wd v (pr a0 (names S n))) :
    Code.wp Easg.prog (codeFrom 19 (Easg.f3.body.getD .skip)) (bodyPost Easg.prog Easg.f3 fun e w' => e = .returned (.bool true) ∧ Below w.heap.size w w')
      ⟨List.toArray (.string a0 :: .int .i64 a1 :: .slice (some ⟨bi, oi, none⟩) li ci :: .slice (some ⟨br, or_, none⟩) lr cr :: u4 :: u5 :: u6 :: u7 :: u8 :: u9 :: u10 :: .int .i64 (n : Int) :: u12 :: u13 :: .pointer (some ⟨c, 0, none⟩) :: u15 :: u16 :: v :: u18 :: u19 :: u20 :: u21 :: u22 :: u23 :: u24 :: u25 :: u26 :: u27 :: u28 :: u29 :: u30 :: u31 :: u32 :: u33 :: u34 :: u35 :: u36 :: u37 :: u38 :: u39 :: u40 :: u41 :: u42 :: u43 :: u44 :: u45 :: u46 :: u47 :: u48 :: u49 :: u50 :: u51 :: u52 :: u53 :: u54 :: u55 :: u56 :: u57 :: u58 :: u59 :: u60 :: u61 :: u62 :: u63 :: u64 :: u65 :: u66 :: u67 :: u68 :: u69 :: u70 :: u71 :: u72 :: u73 :: u74 :: u75 :: u76 :: u77 :: u78 :: u79 :: u80 :: u81 :: u82 :: u83 :: u84 :: u85 :: u86 :: u87 :: u88 :: u89 :: u90 :: u91 :: u92 :: u93 :: u94 :: u95 :: u96 :: u97 :: u98 :: u99 :: u100 :: u101 :: u102 :: u103 :: u104 :: u105 :: u106 :: u107 :: u108 :: u109 :: u110 :: u111 :: u112 :: u113 :: u114 :: u115 :: u116 :: u117 :: u118 :: u119 :: u120 :: u121 :: u122 :: u123 :: u124 :: u125 :: u126 :: u127 :: u128 :: u129 :: u130 :: u131 :: u132 :: u133 :: u134 :: u135 :: u136 :: u137 :: u138 :: u139 :: u140 :: u141 :: u142 :: u143 :: u144 :: u145 :: u146 :: u147 :: u148 :: u149 :: u150 :: u151 :: u152 :: u153 :: u154 :: u155 :: u156 :: u157 :: u158 :: u159 :: u160 :: u161 :: u162 :: u163 :: u164 :: u165 :: u166 :: u167 :: u168 :: u169 :: u170 :: u171 :: u172 :: u173 :: u174 :: u175 :: u176 :: u177 :: u178 :: u179 :: u180 :: u181 :: u182 :: u183 :: u184 :: u185 :: u186 :: u187 :: u188 :: u189 :: u190 :: u191 :: u192 :: u193 :: u194 :: []), []⟩ wd := by
  conv => arg 2; whnf
  have hps := pr_names_size a0 S n
  obtain ⟨g, cap, rfl, hcv0⟩ := want_read hW (by omega)
  have hcv : ∀ nq : Nat, (convert 33 9 (.slice (some ⟨g, 0, none⟩) (pr a0 (names S n)).size cap)).run Easg.prog (wd.drewN nq) = .ok (.string (pr a0 (names S n))) (wd.drewN nq) := fun nq => hcv0 _ (fun _ _ _ => rfl)
  have hch : ∀ nq : Nat, Chain (wd.drewN nq) a0 a1 (names S n) c := fun nq => Chain.keep (below_drewN (Below.refl _ _) nq) (Chain.keep hW.2 hB.1)
  have h3 : wd.cell? ⟨c, 3, none⟩ = some (.int .i64 (R (n - 1))) := cell_keep hW.2 hB.2.1
  have hr : wd.cell? ⟨br, or_ + (n - 1), none⟩ = some (.int .i64 (R (n - 1))) := cell_keep hW.2 (cell_keep hB.2.2 (hd (n - 1) (by omega)))
  have hbel : Below w.heap.size w wd := hB.2.2.trans (hW.2.mono hB.2.2.size)
  have hsz : (pr a0 (names S n)).size ≤ 1000000000 := by omega
  have Hch : Hid (∀ nq : Nat, Chain (wd.drewN nq) a0 a1 (names S n) c) := hch
  clear hch hcv0 hd hB hW hps
  have hst : ∀ nq : Nat, Calls Easg.prog 7 #[.pointer (some ⟨c, 0, none⟩)] (wd.drewN nq) fun e w' => e = .returned (.string (pr a0 (names S n))) ∧ w' = wd.drewN nq := fun nq => indexString_calls a0 a1 (names S n) c _ (Hch.out nq) hsz
  have Hst : Hid (∀ nq : Nat, Calls Easg.prog 7 #[.pointer (some ⟨c, 0, none⟩)] (wd.drewN nq) fun e w' => e = .returned (.string (pr a0 (names S n))) ∧ w' = wd.drewN nq) := hst
  clear hst
  generalize pr a0 (names S n) = s at *
  go_wp2_with fail
  go_quiet ((go_at_call 7; exact Calls.quiet_of_same (Hst.out _)))
  go_wp2_with fail
  refine (indexPos_calls a0 a1 (names S n) c _ (Hch.out _)).mono ?_
  rintro e w1 ⟨rfl, rfl⟩
  have h3' : (wd.drewN nq).cell? ⟨c, 3, none⟩ = some (.int .i64 (R (n - 1))) := h3
  have hr' : (wd.drewN nq).cell? ⟨br, or_ + (n - 1), none⟩ = some (.int .i64 (R (n - 1))) := hr
  have hbel' : Below w.heap.size w (wd.drewN nq) := below_drewN hbel nq
  clear hcv Hch Hst h3 hr hbel
  generalize wd.drewN nq = we at *
  have Hen : Hid (∀ m : Nat, Calls Easg.prog 9 #[.pointer (some ⟨c, 0, none⟩)] (we.drewN m) fun e w' => e = .returned (.int .i64 (wrap64 (R (n - 1) + 1))) ∧ w' = we.drewN m) := fun m => indexEnd_calls c (R (n - 1)) _ h3'
  go_wp2_with fail
  go_quiet ((go_at_call 9; exact Calls.quiet_of_same (Hen.out _)))
  go_wp2_with fail
  go_ret
  exact ⟨rfl, below_drewN hbel' _⟩

end Go.Proofs.Yoeasw
