/-
  What a call may have turned: 'Upd S w w'': of the blocks that were there only those of S; bytes in memory. No condition.
-/
import Derived.Test.YtpkipinamlbdoaaGreatDoorA
import Derived.Deep.Draws
namespace Go.Proofs.YtpkipinamlbdoaaGreatDoor
open Go Go.RowKit

structure Upd (S : Nat → Prop) (w w' : World) : Prop where
  os : w'.os = w.os
  tape : w'.tape = w.tape
  output : w'.output = w.output
  size : w.heap.size ≤ w'.heap.size
  block : ∀ k, k < w.heap.size → ¬ S k → w'.heap[k]? = w.heap[k]?

theorem Upd.refl (S : Nat → Prop) (w : World) : Upd S w w := ⟨rfl, rfl, rfl, Nat.le_refl _, fun _ _ _ => rfl⟩
theorem Upd.trans {S : Nat → Prop} {a b c : World} (h : Upd S a b) (k : Upd S b c) : Upd S a c :=
  ⟨k.os.trans h.os, k.tape.trans h.tape, k.output.trans h.output, Nat.le_trans h.size k.size,
    fun i hi hs => (k.block i (Nat.lt_of_lt_of_le hi h.size) hs).trans (h.block i hi hs)⟩
theorem Upd.mono {S T : Nat → Prop} {w w' : World} (h : Upd S w w') (hs : ∀ k, k < w.heap.size → S k → T k) : Upd T w w' :=
  ⟨h.os, h.tape, h.output, h.size, fun k hk ht => h.block k hk (fun s => ht (hs k hk s))⟩
/-- Behind a step that turns T: where T speaks of blocks of S or of new ones alone. -/
theorem Upd.step {S T : Nat → Prop} {a b c : World} (h : Upd S a b) (k : Upd T b c) (hs : ∀ k, k < a.heap.size → T k → S k) : Upd S a c :=
  ⟨k.os.trans h.os, k.tape.trans h.tape, k.output.trans h.output, Nat.le_trans h.size k.size,
    fun i hi hn => (k.block i (Nat.lt_of_lt_of_le hi h.size) (fun t => hn (hs i hi t))).trans (h.block i hi hn)⟩
theorem Upd.alloc {S : Nat → Prop} {a w : World} (h : Upd S a w) (o : Obj) : Upd S a (w.alloc o) :=
  h.trans ⟨rfl, rfl, rfl, by simp, fun k hk _ => Below.heap_alloc _ _ _ hk⟩
theorem Upd.setCell {S : Nat → Prop} {a w : World} (h : Upd S a w) {p : Addr} (hp : p.block < a.heap.size → S p.block) (u : Value) : Upd S a (w.setCell p u) :=
  h.step (T := fun k => k = p.block) ⟨rfl, rfl, rfl, by simp [World.setCell], fun k _ hk => Below.heap_setCell _ _ _ _ hk⟩ (fun k hk e => by subst e; exact hp hk)
theorem Upd.drew {S : Nat → Prop} {a w : World} (h : Upd S a w) : Upd S a w.drew := ⟨h.os, h.tape, h.output, h.size, h.block⟩
theorem Upd.drewN {S : Nat → Prop} {a w : World} (h : Upd S a w) (n : Nat) : Upd S a (w.drewN n) := ⟨h.os, h.tape, h.output, h.size, h.block⟩
theorem Upd.grown {S : Nat → Prop} {a w w' : World} {row : Option Nat} (h : Upd S a w) (hg : w.grownBy w' row) (hr : ∀ k, row = some k → k < a.heap.size → S k) : Upd S a w' :=
  h.step (T := fun k => some k = row) ⟨hg.os, hg.tape, hg.output, hg.size, fun k hk hn => hg.block k hk hn⟩ (fun k hk e => hr k e.symm hk)
theorem Upd.of_below {w w' : World} (h : Below w.heap.size w w') (S : Nat → Prop) : Upd S w w' := ⟨h.os, h.tape, h.output, h.size, fun k hk _ => h.block k hk⟩
theorem Upd.below {w w' : World} (h : Upd (fun _ => False) w w') : Below w.heap.size w w' := ⟨h.os, h.tape, h.output, h.size, fun k hk => h.block k hk (fun f => f)⟩
/-- Only new blocks. -/
abbrev Fresh (w w' : World) : Prop := Upd (fun _ => False) w w'
theorem Upd.fresh {S : Nat → Prop} {a b c : World} (h : Upd S a b) (k : Fresh b c) : Upd S a c := h.step k (fun _ _ f => f.elim)
/-- Turned blocks that are all new to the elder world. -/
theorem Upd.newer {S T : Nat → Prop} {a b c : World} (h : Upd S a b) (k : Upd T b c) (hs : ∀ k, T k → a.heap.size ≤ k) : Upd S a c :=
  h.step k (fun k hk t => absurd (hs k t) (by omega))
theorem Upd.cell {S : Nat → Prop} {w w' : World} (h : Upd S w w') {a : Addr} {v : Value} (hs : ¬ S a.block) (hv : w.cell? a = some v) : w'.cell? a = some v :=
  (World.cell?_of_block (h.block _ (World.block_lt_of_cell? w a hv) hs)).trans hv
theorem Upd.frozen {S : Nat → Prop} {w w' : World} (h : Upd S w w') {a : Addr} (hs : ¬ S a.block) (ha : a.block < w.heap.size) : w'.frozen? a = w.frozen? a :=
  World.frozen?_of_block (h.block _ ha hs)
theorem Upd.heap {S : Nat → Prop} {w w' : World} (h : Upd S w w') {g : Nat} {o : Obj} (hs : ¬ S g) (hg : w.heap[g]? = some o) : w'.heap[g]? = some o :=
  (h.block g (Array.getElem?_eq_some_iff.1 hg).1 hs).trans hg
theorem Upd.lt {S : Nat → Prop} {w w' : World} (h : Upd S w w') {g : Nat} (hg : g < w.heap.size) : g < w'.heap.size := Nat.lt_of_lt_of_le hg h.size

/-- A block of cells that may be written. -/
abbrev Blk (w : World) (g : Nat) (cur : Array Value) (T : TypeId) : Prop := w.heap[g]? = some (.cells cur T (0, 0))
theorem Blk.lt {w : World} {g : Nat} {cur : Array Value} {T : TypeId} (h : Blk w g cur T) : g < w.heap.size := (Array.getElem?_eq_some_iff.1 h).1
theorem Blk.cell {w : World} {g : Nat} {cur : Array Value} {T : TypeId} (h : Blk w g cur T) (j : Nat) : w.cell? ⟨g, j, none⟩ = cur[j]? := cell_of_row w g j cur T _ h
theorem Blk.some {w : World} {g : Nat} {cur : Array Value} {T : TypeId} (h : Blk w g cur T) {j : Nat} (hj : j < cur.size) : ∃ v, w.cell? ⟨g, j, none⟩ = some v := ⟨cur[j], by rw [h.cell]; simp [hj]⟩
theorem Blk.free {w : World} {g : Nat} {cur : Array Value} {T : TypeId} (h : Blk w g cur T) (j : Nat) : w.frozen? ⟨g, j, none⟩ = false := by
  simp [World.frozen?, h]
theorem Blk.set {w : World} {g : Nat} {cur : Array Value} {T : TypeId} (h : Blk w g cur T) (j : Nat) (v : Value) : Blk (w.setCell ⟨g, j, none⟩ v) g (cur.setIfInBounds j v) T := by
  simp [Blk, World.setCell, Array.getElem?_modify, h]
theorem Blk.set_other {w : World} {g : Nat} {cur : Array Value} {T : TypeId} (h : Blk w g cur T) {a : Addr} (ha : a.block ≠ g) (v : Value) : Blk (w.setCell a v) g cur T := by
  show (w.setCell a v).heap[g]? = _; rw [Below.heap_setCell _ _ _ _ (Ne.symm ha)]; exact h
theorem Blk.alloc {w : World} {g : Nat} {cur : Array Value} {T : TypeId} (h : Blk w g cur T) (o : Obj) : Blk (w.alloc o) g cur T := by
  show (w.alloc o).heap[g]? = _; rw [Below.heap_alloc _ _ _ h.lt]; exact h
theorem Blk.new (w : World) (cur : Array Value) (T : TypeId) : Blk (w.alloc (.cells cur T)) w.heap.size cur T := heap_alloc_new w _
theorem Blk.row {w : World} {g : Nat} {cur : Array Value} {T : TypeId} (h : Blk w g cur T) (cs : Array Value) : Blk (w.setRow g cs) g cs T := setRow_heap w g cur cs T _ h
theorem Blk.upd {S : Nat → Prop} {w w' : World} {g : Nat} {cur : Array Value} {T : TypeId} (h : Blk w g cur T) (hu : Upd S w w') (hs : ¬ S g) : Blk w' g cur T := hu.heap hs h

/-- Bytes in memory. -/
def Bytes (w : World) (b o : Nat) (l : List UInt8) : Prop := ∀ i, (h : i < l.length) → w.cell? ⟨b, o + i, none⟩ = some (.int .u8 (I8 l[i]))
theorem Bytes.upd {S : Nat → Prop} {w w' : World} {b o : Nat} {l : List UInt8} (h : Bytes w b o l) (hu : Upd S w w') (hs : ¬ S b) : Bytes w' b o l :=
  fun i hi => hu.cell hs (h i hi)
theorem Bytes.nil (w : World) (b o : Nat) : Bytes w b o [] := fun i hi => by simp at hi
theorem Bytes.drop {w : World} {b o : Nat} {l : List UInt8} (h : Bytes w b o l) (k : Nat) : Bytes w b (o + k) (l.drop k) := fun i hi => by
  have hi' : k + i < l.length := by simp at hi; omega
  have := h (k + i) hi'
  rw [List.getElem_drop]; rw [Nat.add_assoc]; exact this
theorem Bytes.take {w : World} {b o : Nat} {l : List UInt8} (h : Bytes w b o l) (k : Nat) : Bytes w b o (l.take k) := fun i hi => by
  have hi' : i < l.length := by simp at hi; omega
  rw [List.getElem_take]; exact h i hi'
theorem Bytes.of_append {w : World} {b o : Nat} {l m : List UInt8} (h : Bytes w b o (l ++ m)) : Bytes w b o l ∧ Bytes w b (o + l.length) m := by
  constructor
  · simpa using h.take l.length
  · simpa using h.drop l.length
/-- A value of type []byte that reads as a list: nil too. -/
inductive Rd (w : World) : Value → List UInt8 → Prop
  | nil : Rd w (.slice none 0 0) []
  | at_ (b o n c : Nat) (l : List UInt8) (hn : n = l.length) (hc : n ≤ c) (hm : c ≤ maxLen) (hl : Bytes w b o l) (hb : b < w.heap.size) : Rd w (.slice (some ⟨b, o, none⟩) n c) l
/-- The cells of a row of bytes. -/
def bv (l : List UInt8) : List Value := l.map (fun x => Value.int .u8 (I8 x))
@[simp] theorem bv_length (l : List UInt8) : (bv l).length = l.length := by simp [bv]
theorem bv_append (l m : List UInt8) : bv (l ++ m) = bv l ++ bv m := by simp [bv]
theorem bv_nil : bv [] = [] := rfl
theorem bv_cons (x : UInt8) (l : List UInt8) : bv (x :: l) = .int .u8 (I8 x) :: bv l := rfl
theorem bv_get (l : List UInt8) (i : Nat) (h : i < l.length) : (bv l)[i]? = some (.int .u8 (I8 l[i])) := by simp [bv, h]
theorem bv_one (l : List UInt8) : ∀ u ∈ bv l, u.oneCell' = true := by
  intro u hu; obtain ⟨x, _, rfl⟩ := List.mem_map.1 hu; rfl
/-- A byte slice that the call owns, from block 'base' on: what append wants, and reading. -/
abbrev Own (w : World) (base : Nat) (v : Value) (l : List UInt8) : Prop := w.ownsRow base 5 1 v l.length (bv l)
theorem Own.rd {w : World} {base : Nat} {v : Value} {l : List UInt8} (h : Own w base v l) : Rd w v l := by
  obtain ⟨_, h2⟩ := h
  rcases h2 with ⟨rfl, h0⟩ | ⟨g, cap, cur, rfl, hg, hh, hn, hc, hs, ht⟩
  · obtain rfl := List.eq_nil_of_length_eq_zero h0; exact .nil
  · refine .at_ g 0 l.length cap l rfl hn hc ?_ (Array.getElem?_eq_some_iff.1 hh).1
    intro i hi
    rw [Nat.zero_add, cell_of_row w g i cur _ _ hh]
    have h1 : (cur.toList.take (l.length * 1))[i]? = (bv l)[i]? := by rw [ht]
    rw [List.getElem?_take, if_pos (by omega), bv_get l i hi] at h1
    simpa using h1
theorem Rd.upd {S : Nat → Prop} {w w' : World} {v : Value} {l : List UInt8} (h : Rd w v l) (hu : Upd S w w') (hs : ∀ k, v.ownBlock = some k → ¬ S k) : Rd w' v l := by
  cases h with
  | nil => exact .nil
  | at_ b o n c l hn hc hm hl hb => exact .at_ b o n c l hn hc hm (hl.upd hu (hs b rfl)) (hu.lt hb)
theorem Rd.drewN {w : World} {v : Value} {l : List UInt8} (h : Rd w v l) (n : Nat) : Rd (w.drewN n) v l := h.upd ((Upd.refl (fun _ => False) w).drewN n) (fun _ _ f => f)
theorem Own.upd {S : Nat → Prop} {w w' : World} {base : Nat} {v : Value} {l : List UInt8} (h : Own w base v l) (hu : Upd S w w') (hs : ∀ k, v.ownBlock = some k → ¬ S k) : Own w' base v l := by
  obtain ⟨h1, h2⟩ := h
  refine ⟨h1, ?_⟩
  rcases h2 with h2 | ⟨g, cap, cur, rfl, hg, hh, r⟩
  · exact .inl h2
  · exact .inr ⟨g, cap, cur, rfl, hg, hu.heap (hs g rfl) hh, r⟩
theorem Own.base {w : World} {base base' : Nat} {v : Value} {l : List UInt8} (h : Own w base v l) (hb : base' ≤ base) : Own w base' v l := by
  obtain ⟨h1, h2⟩ := h
  refine ⟨h1, ?_⟩
  rcases h2 with h2 | ⟨g, cap, cur, rfl, hg, r⟩
  · exact .inl h2
  · exact .inr ⟨g, cap, cur, rfl, Nat.le_trans hb hg, r⟩
end Go.Proofs.YtpkipinamlbdoaaGreatDoor
