/-
  The chain of nodes in memory: what keeps it, and how it grows by one node.
-/
import Derived.Test.YoeaswNodes
import Derived.Test.YoeaswBytes

namespace Go.Proofs.Yoeasw
open Go.RowKit

/-- The first k index names, the last one first. -/
def names (S : Nat → ByteArray) : Nat → List ByteArray
  | 0 => []
  | k + 1 => S k :: names S k

theorem cell_keep {w w' : World} (hb : Below w.heap.size w w') {a : Addr} {v : Value} (h : w.cell? a = some v) : w'.cell? a = some v :=
  (hb.cell (World.block_lt_of_cell? w a h)).trans h

theorem Idx.keep {w w' : World} (hb : Below w.heap.size w w') {x : ByteArray} {v : Value} (h : Idx w x v) : Idx w' x v := by
  rcases h with h | ⟨d, hv, hd⟩
  · exact Or.inl h
  · exact Or.inr ⟨d, hv, cell_keep hb hd⟩

theorem Chain.keep {w w' : World} (hb : Below w.heap.size w w') {base : ByteArray} {bp : Int} : ∀ {l : List ByteArray} {c : Nat}, Chain w base bp l c → Chain w' base bp l c
  | [], _, h => h.elim
  | [_], _, h => by
    obtain ⟨d, v, h0, h1, h2, h3, h4⟩ := h
    exact ⟨d, v, cell_keep hb h0, cell_keep hb h1, cell_keep hb h2, cell_keep hb h3, Idx.keep hb h4⟩
  | _ :: _ :: _, _, h => by
    obtain ⟨d, v, h0, h1, h2, h3⟩ := h
    exact ⟨d, v, cell_keep hb h0, Chain.keep hb h1, cell_keep hb h2, Idx.keep hb h3⟩

/-- One node more, over a chain that is not empty. -/
theorem Chain.grow {w : World} {base : ByteArray} {bp : Int} {l : List ByteArray} {c d : Nat} {x : ByteArray} {v : Value} (h : Chain w base bp l d)
    (h0 : w.cell? ⟨c, 0, none⟩ = some (.iface 25 (.pointer (some ⟨d, 0, none⟩)))) (h2 : w.cell? ⟨c, 2, none⟩ = some v) (hx : Idx w x v) : Chain w base bp (x :: l) c := by
  match l, h with
  | [], h => exact h.elim
  | _ :: _, h => exact ⟨d, v, h0, h, h2, hx⟩

/-- What the chain prints: its length. -/
theorem pr_names_size (base : ByteArray) (S : Nat → ByteArray) : ∀ k, (pr base (names S k)).size = base.size + 2 * k + tot S k
  | 0 => rfl
  | k + 1 => by
    show (pr base (S k :: names S k)).size = _
    rw [pr_size_cons, pr_names_size base S k]
    simp only [tot]
    omega

/-- The code behind the first k statements of a sequence. -/
def codeFrom : Nat → Code → Code
  | 0, c => c
  | k + 1, .seq _ b => codeFrom k b
  | _ + 1, c => c

/-- The first node, just laid. -/
def First (w wn : World) (base : ByteArray) (bp r : Int) (c : Nat) : Prop :=
  ∃ d, wn.cell? ⟨c, 0, none⟩ = some (.iface 26 (.pointer (some ⟨d, 0, none⟩))) ∧ wn.cell? ⟨c, 2, none⟩ = some .nilIface ∧ wn.cell? ⟨c, 3, none⟩ = some (.int .i64 r)
    ∧ wn.cell? ⟨d, 0, none⟩ = some (.string base) ∧ wn.cell? ⟨d, 1, none⟩ = some (.int .i64 bp) ∧ wn.frozen? ⟨c, 2, none⟩ = false ∧ w.heap.size ≤ c ∧ Below w.heap.size w wn

theorem first_mk (w : World) (base : ByteArray) (bp r : Int) :
    First w ((w.alloc (.cells #[.string base, .int .i64 bp] 41)).alloc (.cells #[.iface 26 (.pointer (some ⟨w.heap.size, 0, none⟩)), .int .i64 0, .nilIface, .int .i64 r] 32)).drew base bp r (w.heap.size + 1) := by
  refine ⟨w.heap.size, ?_, ?_, ?_, ?_, ?_, ?_, by omega, ?_⟩
  · simp [go_sem]
  · simp [go_sem]
  · simp [go_sem]
  · simp [go_sem]
  · simp [go_sem]
  · simp [go_sem]
  · exact (((Below.refl _ _).alloc (Nat.le_refl _) _).alloc (by simp) _).drew

theorem empty_of {s : ByteArray} (h : s.toList.isEmpty = true) : s = ByteArray.empty := by
  have h1 : s.toList = [] := by simpa using h
  apply ByteArray.ext
  apply Array.toList_inj.1
  rw [← ByteArray.toList_eq, h1]
  rfl

/-- The chain of k nodes, its outermost node at block c; nothing that was there in w has turned. -/
def Built (w wr : World) (base : ByteArray) (bp : Int) (S : Nat → ByteArray) (R : Nat → Int) (k c : Nat) : Prop :=
  Chain wr base bp (names S k) c ∧ wr.cell? ⟨c, 3, none⟩ = some (.int .i64 (R (k - 1))) ∧ Below w.heap.size w wr

theorem built_nil {w wr : World} {base : ByteArray} {bp : Int} {S : Nat → ByteArray} {R : Nat → Int} {k c : Nat} (h : Built w wr base bp S R k c) (he : (S k).toList.isEmpty = true) :
    Built w (wr.alloc (.cells #[.iface 25 (.pointer (some ⟨c, 0, none⟩)), .int .i64 0, .nilIface, .int .i64 (R k)] 32)) base bp S R (k + 1) wr.heap.size := by
  obtain ⟨h1, _, h3⟩ := h
  have hb : Below wr.heap.size wr (wr.alloc (.cells #[.iface 25 (.pointer (some ⟨c, 0, none⟩)), .int .i64 0, .nilIface, .int .i64 (R k)] 32)) := (Below.refl _ _).alloc (Nat.le_refl _) _
  refine ⟨Chain.grow (v := .nilIface) (Chain.keep hb h1) (by simp [go_sem]) (by simp [go_sem]) (Or.inl ⟨empty_of he, rfl⟩), by simp [go_sem], h3.alloc h3.size _⟩

theorem built_some {w wr : World} {base : ByteArray} {bp : Int} {S : Nat → ByteArray} {R : Nat → Int} {k c : Nat} (h : Built w wr base bp S R k c) :
    Built w ((wr.alloc (.cells #[.iface 25 (.pointer (some ⟨c, 0, none⟩)), .int .i64 0, .iface 26 (.pointer (some ⟨wr.heap.size + 1, 0, none⟩)), .int .i64 (R k)] 32)).alloc (.cells #[.string (S k), .int .i64 0] 41)) base bp S R (k + 1) wr.heap.size := by
  obtain ⟨h1, _, h3⟩ := h
  have hb : Below wr.heap.size wr ((wr.alloc (.cells #[.iface 25 (.pointer (some ⟨c, 0, none⟩)), .int .i64 0, .iface 26 (.pointer (some ⟨wr.heap.size + 1, 0, none⟩)), .int .i64 (R k)] 32)).alloc (.cells #[.string (S k), .int .i64 0] 41)) :=
    ((Below.refl _ _).alloc (Nat.le_refl _) _).alloc (by simp) _
  refine ⟨Chain.grow (v := .iface 26 (.pointer (some ⟨wr.heap.size + 1, 0, none⟩))) (Chain.keep hb h1) (by simp [go_sem]) (by simp [go_sem]) (Or.inr ⟨_, rfl, by simp [go_sem]⟩), by simp [go_sem], (h3.alloc h3.size _).alloc (by have := h3.size; simp; omega) _⟩

theorem built_first {w wc : World} {base : ByteArray} {bp : Int} {S : Nat → ByteArray} {R : Nat → Int} {c : Nat} (h : First w wc base bp (R 0) c) (he : (S 0).toList.isEmpty = true) : Built w wc base bp S R 1 c := by
  obtain ⟨d, h0, h2, h3, e0, e1, hf, hwc, hb⟩ := h
  exact ⟨⟨d, .nilIface, h0, e0, e1, h2, Or.inl ⟨empty_of he, rfl⟩⟩, h3, hb⟩

theorem built_first_some {w wc : World} {base : ByteArray} {bp : Int} {S : Nat → ByteArray} {R : Nat → Int} {c : Nat} (h : First w wc base bp (R 0) c) :
    Built w ((wc.setCell ⟨c, 2, none⟩ (.iface 26 (.pointer (some ⟨wc.heap.size, 0, none⟩)))).alloc (.cells #[.string (S 0), .int .i64 0] 41)) base bp S R 1 c := by
  obtain ⟨d, h0, h2, h3, e0, e1, hf, hwc, hb⟩ := h
  have hs : (wc.setCell ⟨c, 2, none⟩ (.iface 26 (.pointer (some ⟨wc.heap.size, 0, none⟩)))).heap.size = wc.heap.size := by simp [World.setCell]
  have keep : ∀ (a : Addr) (v : Value), a.off ≠ 2 → wc.cell? a = some v →
      ((wc.setCell ⟨c, 2, none⟩ (.iface 26 (.pointer (some ⟨wc.heap.size, 0, none⟩)))).alloc (.cells #[.string (S 0), .int .i64 0] 41)).cell? a = some v := by
    intro a v ha hv
    rw [World.cell?_alloc_lt _ _ _ (by rw [hs]; exact World.block_lt_of_cell? _ _ hv), World.cell?_setCell_other _ _ _ _ (fun e => ha (by rw [← e]))]
    exact hv
  have hi : ((wc.setCell ⟨c, 2, none⟩ (.iface 26 (.pointer (some ⟨wc.heap.size, 0, none⟩)))).alloc (.cells #[.string (S 0), .int .i64 0] 41)).cell? ⟨c, 2, none⟩ = some (.iface 26 (.pointer (some ⟨wc.heap.size, 0, none⟩))) := by
    rw [World.cell?_alloc_lt _ _ _ (by rw [hs]; exact World.block_lt_of_cell? _ _ h2)]
    exact World.cell?_setCell_same _ _ _ h2
  have hn : ((wc.setCell ⟨c, 2, none⟩ (.iface 26 (.pointer (some ⟨wc.heap.size, 0, none⟩)))).alloc (.cells #[.string (S 0), .int .i64 0] 41)).cell? ⟨wc.heap.size, 0, none⟩ = some (.string (S 0)) := by
    have := World.cell?_alloc_new (wc.setCell ⟨c, 2, none⟩ (.iface 26 (.pointer (some ⟨wc.heap.size, 0, none⟩)))) #[.string (S 0), .int .i64 0] 41 0
    rw [hs] at this
    exact this
  refine ⟨⟨d, _, keep _ _ (by simp) h0, keep _ _ (by simp) e0, keep _ _ (by simp) e1, hi, Or.inr ⟨_, rfl, hn⟩⟩, keep _ _ (by simp) h3, ?_⟩
  exact (hb.setCell hwc _).alloc (by rw [hs]; exact hb.size) _

end Go.Proofs.Yoeasw
