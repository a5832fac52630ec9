/-
  What a call leaves of the world it began in: nothing has turned but the blocks that a set names and new blocks. No condition.
-/
import Derived.WalkKit
import Derived.Deep.Draws
import Derived.Sort.Grow
namespace Go.Proofs.YtpoepgnapneeaaaGreatDoor
open Go.RowKit

/-- From w to w' nothing of what lay in w has turned, but for the blocks in S. -/
structure Keeps (S : Nat → Prop) (w w' : World) : Prop where
  os : w'.os = w.os
  tape : w'.tape = w.tape
  output : w'.output = w.output
  size : w.heap.size ≤ w'.heap.size
  block : ∀ k, k < w.heap.size → ¬ S k → w'.heap[k]? = w.heap[k]?

namespace Keeps
variable {S T : Nat → Prop} {a w w' w1 w2 : World}
theorem refl (S : Nat → Prop) (w : World) : Keeps S w w := ⟨rfl, rfl, rfl, Nat.le_refl _, fun _ _ _ => rfl⟩
theorem mono (h : Keeps S w w') (hs : ∀ k, k < w.heap.size → S k → T k) : Keeps T w w' :=
  ⟨h.os, h.tape, h.output, h.size, fun k hk hT => h.block k hk fun hS => hT (hs k hk hS)⟩
/-- What the second step writes must lie in S, or be new. -/
theorem trans (h : Keeps S w w1) (h' : Keeps T w1 w2) (hs : ∀ k, k < w.heap.size → T k → S k) : Keeps S w w2 :=
  ⟨h'.os.trans h.os, h'.tape.trans h.tape, h'.output.trans h.output, Nat.le_trans h.size h'.size,
    fun k hk hS => (h'.block k (Nat.lt_of_lt_of_le hk h.size) fun hT => hS (hs k hk hT)).trans (h.block k hk hS)⟩
theorem drew (h : Keeps S a w) : Keeps S a w.drew := ⟨h.os, h.tape, h.output, h.size, h.block⟩
theorem drewN (h : Keeps S a w) (n : Nat) : Keeps S a (w.drewN n) := ⟨h.os, h.tape, h.output, h.size, h.block⟩
theorem alloc (h : Keeps S a w) (o : Obj) : Keeps S a (w.alloc o) :=
  ⟨h.os, h.tape, h.output, by simpa using Nat.le_succ_of_le h.size, fun k hk hS =>
    (Below.heap_alloc w o k (Nat.lt_of_lt_of_le hk h.size)).trans (h.block k hk hS)⟩
theorem setCell (h : Keeps S a w) {p : Addr} (hp : p.block < a.heap.size → S p.block) (u : Value) : Keeps S a (w.setCell p u) :=
  ⟨h.os, h.tape, h.output, by simpa using h.size, fun k hk hS =>
    (Below.heap_setCell w p u k fun e => hS (e ▸ hp (e ▸ hk))).trans (h.block k hk hS)⟩
/-- A store into a block of S. -/
theorem setAt (h : Keeps S a w) {b o : Nat} (u : Value) (hp : S b) : Keeps S a (w.setCell ⟨b, o, none⟩ u) := h.setCell (fun _ => hp) u
/-- A store into a new block. -/
theorem setNew (h : Keeps S a w) {b o : Nat} (u : Value) (hp : a.heap.size ≤ b) : Keeps S a (w.setCell ⟨b, o, none⟩ u) := h.setCell (fun e => absurd e (by simp; omega)) u
theorem of_below {B : Nat} (h : Below B w w') : Keeps (fun k => B ≤ k) w w' :=
  ⟨h.os, h.tape, h.output, h.size, fun k _ hS => h.block k (by omega)⟩
theorem below (h : Keeps S w w') {B : Nat} (hB : B ≤ w.heap.size) (hs : ∀ k, k < B → ¬ S k) : Below B w w' :=
  ⟨h.os, h.tape, h.output, h.size, fun k hk => h.block k (Nat.lt_of_lt_of_le hk hB) (hs k hk)⟩
theorem cell (h : Keeps S w w') {p : Addr} {u : Value} (hc : w.cell? p = some u) (hp : ¬ S p.block) : w'.cell? p = some u :=
  (World.cell?_of_block (h.block p.block (World.block_lt_of_cell? w p hc) hp)).trans hc
theorem heap (h : Keeps S w w') {b : Nat} {o : Obj} (hc : w.heap[b]? = some o) (hp : ¬ S b) : w'.heap[b]? = some o :=
  (h.block b (lt_of_block hc) hp).trans hc
end Keeps

/-- Nothing that lay there has turned. -/
abbrev Only (w w' : World) : Prop := Keeps (fun _ => False) w w'

theorem heap_setCell_same {w : World} {b o : Nat} {cs : Array Value} {t : TypeId} {fz : Nat × Nat} (h : w.heap[b]? = some (.cells cs t fz)) (u : Value) :
    (w.setCell ⟨b, o, none⟩ u).heap[b]? = some (.cells (cs.setIfInBounds o u) t fz) := by
  have hlt := lt_of_block h
  have h' : w.heap[b] = .cells cs t fz := by simpa [Array.getElem?_eq_getElem hlt] using h
  show (w.heap.modify b _)[b]? = _
  rw [Array.getElem?_eq_getElem (by simpa using hlt), Array.getElem_modify_self, h']
  rfl
theorem cell_of_heap {w : World} {b : Nat} {cs : Array Value} {t : TypeId} {fz : Nat × Nat} (h : w.heap[b]? = some (.cells cs t fz)) (o : Nat) : w.cell? ⟨b, o, none⟩ = cs[o]? := by
  simp [World.cell?, h]
theorem free_of_heap {w : World} {b : Nat} {cs : Array Value} {t : TypeId} (h : w.heap[b]? = some (.cells cs t (0, 0))) (o : Nat) : w.frozen? ⟨b, o, none⟩ = false := by
  simp [World.frozen?, h]
theorem keeps_grow {S : Nat → Prop} (w : World) (os : Array Obj) : Keeps S w (Sort.grow w os) :=
  ⟨rfl, rfl, rfl, by simp [Sort.grow], fun k hk _ => by simp [Sort.grow, Array.getElem?_append_left hk]⟩
end Go.Proofs.YtpoepgnapneeaaaGreatDoor
