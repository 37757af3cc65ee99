/-
  The text that is built beside the chain: a row of bytes of the call's own, told as a string.
-/
import Derived.Test.YoeaswChain
import Derived.Lib.AppendStr
import Derived.Laws.BytesArg
namespace Go.Proofs.Yoeasw
open Go.RowKit

theorem Easg.info5 : (Easg.prog.info? 5).map (fun i => (i.zero, i.size, i.bytes)) = some (some (.int .u8 0), 1, 1) := by kernel_rfl

/-- The slice 'v' owns the bytes of 's' in 'wr'; nothing that was there in 'wc' has turned. -/
def Want (wc wr : World) (v : Value) (s : ByteArray) : Prop := wr.ownsRow wc.heap.size 5 1 v s.size (Lib.strCells s) ∧ Below wc.heap.size wc wr

theorem strCells_append (a b : ByteArray) : Lib.strCells (a ++ b) = Lib.strCells a ++ Lib.strCells b := by
  simp [Lib.strCells, ByteArray.data_append]

theorem want_made {wc w1 : World} {v : Value} (h : w1.ownsRow wc.heap.size 5 1 v 0 []) (hg : wc.grownBy w1 none) : Want wc w1 v ByteArray.empty :=
  ⟨h, (Below.refl _ _).grown hg (Nat.le_refl _) (fun k hk => by cases hk)⟩

theorem want_str {wc wr w1 : World} {v v' : Value} {s x : ByteArray} (h : Want wc wr v s) (ho : w1.ownsRow wc.heap.size 5 1 v' (s.size + x.size) (Lib.strCells s ++ Lib.strCells x)) (hg : wr.grownBy w1 v.ownBlock) : Want wc w1 v' (s ++ x) := by
  refine ⟨?_, h.2.grown hg h.2.size (fun k hk => (h.1.lt k hk).1)⟩
  rw [strCells_append, ByteArray.size_append]
  exact ho

theorem want_byte {wc wr w1 : World} {v v' : Value} {s : ByteArray} {c : UInt8} {o : Obj} (h : Want wc wr v s) (ho : w1.ownsRow wc.heap.size 5 1 v' (s.size + 1) (Lib.strCells s ++ [.int .u8 (c.toNat : Int)])) (hg : (wr.alloc o).grownBy w1 v.ownBlock) :
    Want wc w1 v' (s ++ ⟨#[c]⟩) := by
  refine ⟨?_, (h.2.alloc h.2.size o).grown hg (by have := h.2.size; simp; omega) (fun k hk => (h.1.lt k hk).1)⟩
  rw [strCells_append, ByteArray.size_append]
  exact ho

theorem strOfNums_strCells (s : ByteArray) : strOfNums (s.data.toList.map fun b => (b.toNat : Int)) = s := by
  apply ByteArray.ext
  apply Array.toList_inj.1
  rw [strOfNums_data, List.map_map]
  have e : ((fun n : Int => UInt8.ofNat n.toNat) ∘ fun b : UInt8 => (b.toNat : Int)) = id := by
    funext b
    simp
  rw [e, List.map_id]

/-- The bytes, read as a string: wherever the row lies. -/
theorem want_read {wc wr : World} {v : Value} {s : ByteArray} (h : Want wc wr v s) (hs : 0 < s.size) : ∃ g cap, v = .slice (some ⟨g, 0, none⟩) s.size cap ∧
    ∀ w2 : World, (∀ b o, b < wr.heap.size → w2.cell? ⟨b, o, none⟩ = wr.cell? ⟨b, o, none⟩) → (convert 33 9 (.slice (some ⟨g, 0, none⟩) s.size cap)).run Easg.prog w2 = .ok (.string s) w2 := by
  obtain ⟨ho, _⟩ := h
  have ho' := ho
  rcases ho.2 with ⟨_, h0⟩ | ⟨g, cap, cur, rfl, hb, hg, _, _, _, _⟩
  · omega
  · refine ⟨g, cap, rfl, fun w2 hw => ?_⟩
    have hgl : g < wr.heap.size := (Array.getElem?_eq_some_iff.1 hg).1
    have hr := run_convert_bytes_arg (P := Easg.prog) w2 33 5 Easg.underlying33 Easg.underlying5 g 0 s.size cap (s.data.toList.map fun b => (b.toNat : Int)) (by simp) (by
      intro i hi
      have hil : i < s.data.toList.length := by simpa using hi
      have := ho'.cells (g := g) rfl i (.int .u8 ((s.data.toList[i]).toNat : Int)) (by simp [Lib.strCells, List.getElem?_eq_getElem hil])
      rw [hw g (0 + i) hgl]
      have e : (⟨g, 0, none⟩ : Addr).add i = ⟨g, 0 + i, none⟩ := by unfold Addr.add; split <;> simp_all
      rw [← e, this]
      simp [List.getD, List.getElem?_eq_getElem hil]) 9 Easg.underlying9
    rw [strOfNums_strCells] at hr
    exact hr

end Go.Proofs.Yoeasw
