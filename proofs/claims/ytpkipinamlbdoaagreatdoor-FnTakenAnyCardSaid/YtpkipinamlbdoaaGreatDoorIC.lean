/-
  A SHA-1 digest in memory, and laws for copy into a row of any type. No condition.
-/
import Derived.Test.YtpkipinamlbdoaaGreatDoorWL
import Derived.Test.YtpkipinamlbdoaaGreatDoorS
namespace Go.Proofs.YtpkipinamlbdoaaGreatDoor
open Go Go.RowKit

/-- copy(dst, src): dst in a row that is known, src whatever reads. -/
theorem wp_copyT {w : World} {o : Oper} {a : Act} {K : Act → World → Prop} {Q : Exit → Act → World → Prop} (d s : Operand)
    (ho : o.op = .call { callee := .builtin .copy, args := #[d, s], argTypes := #[22, 22] }) (g off n c : Nat) (y : Value) (cur : Array Value) (T : TypeId) (l : List UInt8)
    (hd : a.eval d = .slice (some ⟨g, off, none⟩) n c) (hs : a.eval s = y) (hrd : Rd w y l) (hg : Blk w g cur T) (hn : off + n ≤ cur.size) (m : Nat) (hm : m = min l.length n)
    (h : ∀ w', Blk w' g (splice cur.toList off (bv (l.take n))).toArray T → Upd (fun k => k = g) w w' → K (a.put o.dst (.int .i64 m)) w') :
    o.wp Tryz.prog a w K Q := by
  subst hm
  cases hrd with
  | nil =>
    have hrun := run_copy_none (P := Tryz.prog) w 22 22 o.type 5 (some ⟨g, off, none⟩) none n c 0 0 Tryz.underlying22 info5s (by simp)
    unfold Oper.wp
    simp [execOp, ho, resolve, invoke, builtin, hd, hs, hrun, Result.andThen]
    have := h w (by simpa [splice, bv] using hg) (Upd.refl _ _)
    simpa [goInt, Oper.upon] using this
  | at_ b p q k l hq hc hmx hb hlt =>
    subst hq
    have hlen : (bv (l.take n)).length = min l.length n := by rw [bv_length, List.length_take, Nat.min_comm]
    have hrun := run_copy_row (P := Tryz.prog) w 22 22 o.type 5 g off n c ⟨b, p, none⟩ l.length k cur T (bv (l.take n)) Tryz.underlying22 info5s hg hlen (hb.take n).news (by have := Nat.min_le_right l.length n; omega) (bv_one _)
    unfold Oper.wp
    simp [execOp, ho, resolve, invoke, builtin, hd, hs, hrun, Result.andThen]
    have := h (w.setRow g (splice cur.toList off (bv (l.take n))).toArray) (hg.row _) ⟨rfl, rfl, rfl, by simp [World.setRow], fun k _ hk => setRow_other _ _ _ _ hk⟩
    simp only [splice, bv_length, List.length_take] at this ⊢
    rw [Nat.min_comm l.length n] at this
    simpa [goInt, Oper.upon] using this
theorem wpList_copyT {w : World} {ops : Array Oper} {rest : List Oper} {o : Oper} {a : Act} {Q : Exit → Act → World → Prop} (hgd : o.guard = none) (d s : Operand)
    (ho : o.op = .call { callee := .builtin .copy, args := #[d, s], argTypes := #[22, 22] }) (g off n c : Nat) (y : Value) (cur : Array Value) (T : TypeId) (l : List UInt8)
    (hd : a.eval d = .slice (some ⟨g, off, none⟩) n c) (hs : a.eval s = y) (hrd : Rd w y l) (hg : Blk w g cur T) (hn : off + n ≤ cur.size) (m : Nat) (hm : m = min l.length n)
    (h : ∀ w', Blk w' g (splice cur.toList off (bv (l.take n))).toArray T → Upd (fun k => k = g) w w' → wpList Tryz.prog ops Q rest (a.put o.dst (.int .i64 m)) w') :
    wpList Tryz.prog ops Q (o :: rest) a w :=
  wpList_plain hgd fun _ hK => wp_copyT d s ho g off n c y cur T l hd hs hrd hg hn m hm fun w' h1 h2 => hK _ _ (h w' h1 h2)
theorem step_copyT {w : World} {ops : Array Oper} {o : Oper} {a : Act} {K : Act → World → Prop} {Q : Exit → Act → World → Prop} {E : Prop} (hgd : o.guard = none) (d s : Operand)
    (ho : o.op = .call { callee := .builtin .copy, args := #[d, s], argTypes := #[22, 22] }) (g off n c : Nat) (y : Value) (cur : Array Value) (T : TypeId) (l : List UInt8)
    (hd : a.eval d = .slice (some ⟨g, off, none⟩) n c) (hs : a.eval s = y) (hrd : Rd w y l) (hg : Blk w g cur T) (hn : off + n ≤ cur.size) (m : Nat) (hm : m = min l.length n)
    (h : ∀ w', Blk w' g (splice cur.toList off (bv (l.take n))).toArray T → Upd (fun k => k = g) w w' → K (a.put o.dst (.int .i64 m)) w') :
    if Region.wanted o (yielded ops a.tmps) = true then Oper.wp Tryz.prog o a w K Q else E := by
  have hw : Region.wanted o (yielded ops a.tmps) = true := by simp [Region.wanted, hgd]
  rw [if_pos hw]
  exact wp_copyT d s ho g off n c y cur T l hd hs hrd hg hn m hm h

/-- The cells of a digest: the state, the bytes that wait, their number, the number of all. -/
def digL (s : S5) (x : List UInt8) (nx len : Nat) : List Value := [vw s.a, vw s.b, vw s.c, vw s.d, vw s.e] ++ (bv x ++ [.int .i64 nx, .int .u64 len])
def digv (s : S5) (x : List UInt8) (nx len : Nat) : Array Value := (digL s x nx len).toArray
theorem digv_size (s : S5) (x : List UInt8) (nx len : Nat) (hx : x.length = 64) : (digv s x nx len).size = 71 := by simp [digv, digL, hx]
theorem digv_x (s : S5) (x : List UInt8) (nx len : Nat) (i : Nat) (hi : i < x.length) : (digv s x nx len)[5 + i]? = some (vb x[i]) := by
  simp only [digv, digL, List.getElem?_toArray]
  rw [List.getElem?_append_right (by simp)]
  simp only [List.length_cons, List.length_nil, Nat.zero_add, Nat.reduceAdd, Nat.add_sub_cancel_left]
  rw [List.getElem?_append_left (by simpa using hi)]; exact bv_get x i hi
theorem digv_nx (s : S5) (x : List UInt8) (nx len : Nat) (hx : x.length = 64) : (digv s x nx len)[69]? = some (.int .i64 nx) := by
  simp only [digv, digL, List.getElem?_toArray]
  rw [List.getElem?_append_right (by simp), List.getElem?_append_right (by simp [hx])]; simp [hx]
theorem digv_len (s : S5) (x : List UInt8) (nx len : Nat) (hx : x.length = 64) : (digv s x nx len)[70]? = some (.int .u64 len) := by
  simp only [digv, digL, List.getElem?_toArray]
  rw [List.getElem?_append_right (by simp), List.getElem?_append_right (by simp [hx])]; simp [hx]
theorem digv_set_len (s : S5) (x : List UInt8) (nx len len' : Nat) (hx : x.length = 64) : (digv s x nx len).setIfInBounds 70 (.int .u64 len') = digv s x nx len' := by
  simp only [digv, digL, List.setIfInBounds_toArray]
  rw [List.set_append_right _ _ (by simp), List.set_append_right _ _ (by simp [hx])]; simp [hx]
theorem digv_set_nx (s : S5) (x : List UInt8) (nx nx' len : Nat) (hx : x.length = 64) : (digv s x nx len).setIfInBounds 69 (.int .i64 nx') = digv s x nx' len := by
  simp only [digv, digL, List.setIfInBounds_toArray]
  rw [List.set_append_right _ _ (by simp), List.set_append_right _ _ (by simp [hx])]; simp [hx]
theorem digv_set_h (s s' : S5) (x : List UInt8) (nx len : Nat) : (((((digv s x nx len).setIfInBounds 0 (vw s'.a)).setIfInBounds 1 (vw s'.b)).setIfInBounds 2 (vw s'.c)).setIfInBounds 3 (vw s'.d)).setIfInBounds 4 (vw s'.e) = digv s' x nx len := by
  simp [digv, digL, List.setIfInBounds_toArray]
theorem digv_splice (s : S5) (x : List UInt8) (nx len off : Nat) (p : List UInt8) (hx : x.length = 64) (ho : off + p.length ≤ 64) : (splice (digv s x nx len).toList (5 + off) (bv p)).toArray = digv s (x.take off ++ p ++ x.drop (off + p.length)) nx len := by
  simp only [digv, digL, splice]
  congr 1
  have hb : (bv x).length = 64 := by simp [hx]
  rw [show ([vw s.a, vw s.b, vw s.c, vw s.d, vw s.e] ++ (bv x ++ [Value.int .i64 nx, .int .u64 len])).take (5 + off) = [vw s.a, vw s.b, vw s.c, vw s.d, vw s.e] ++ (bv x).take off by
    rw [show 5 + off = [vw s.a, vw s.b, vw s.c, vw s.d, vw s.e].length + off by simp, List.take_length_add_append, List.take_append_of_le_length (by omega)]]
  rw [show ([vw s.a, vw s.b, vw s.c, vw s.d, vw s.e] ++ (bv x ++ [Value.int .i64 nx, .int .u64 len])).drop (5 + off + (bv p).length) = (bv x).drop (off + p.length) ++ [Value.int .i64 nx, .int .u64 len] by
    rw [show 5 + off + (bv p).length = [vw s.a, vw s.b, vw s.c, vw s.d, vw s.e].length + (off + p.length) by simp; omega, List.drop_length_add_append, List.drop_append_of_le_length (by omega)]]
  simp [bv, List.map_take, List.map_drop]
theorem spliced_length (x p : List UInt8) (off : Nat) (hx : x.length = 64) (ho : off + p.length ≤ 64) : (x.take off ++ p ++ x.drop (off + p.length)).length = 64 := by simp; omega
/-- A digest of so many bytes; its count says len. -/
def DigC (w : World) (g : Nat) (data : List UInt8) (len : Nat) : Prop :=
  ∃ x : List UInt8, x.length = 64 ∧ x.take (data.length % 64) = waits data ∧ Blk w g (digv (stOf data) x (data.length % 64) len) 115
def Dig (w : World) (g : Nat) (data : List UInt8) : Prop := DigC w g data data.length
theorem DigC.upd {w w' : World} {g : Nat} {data : List UInt8} {len : Nat} {S : Nat → Prop} (h : DigC w g data len) (hu : Upd S w w') (hs : ¬ S g) : DigC w' g data len := by
  obtain ⟨x, h1, h2, h3⟩ := h; exact ⟨x, h1, h2, h3.upd hu hs⟩
theorem Dig.upd {w w' : World} {g : Nat} {data : List UInt8} {S : Nat → Prop} (h : Dig w g data) (hu : Upd S w w') (hs : ¬ S g) : Dig w' g data := DigC.upd h hu hs
theorem DigC.lt {w : World} {g : Nat} {data : List UInt8} {len : Nat} (h : DigC w g data len) : g < w.heap.size := by obtain ⟨x, _, _, h3⟩ := h; exact h3.lt
/-- Few bytes more. -/
theorem DigC.few {w : World} {g : Nat} {data p x x' : List UInt8} {len : Nat} (hx : x.length = 64) (hw : x.take (data.length % 64) = waits data) (hp : data.length % 64 + p.length < 64)
    (hx' : x' = x.take (data.length % 64) ++ p ++ x.drop (data.length % 64 + p.length)) (hb : Blk w g (digv (stOf data) x' (data.length % 64 + p.length) len) 115) : DigC w g (data ++ p) len := by
  have e : (data ++ p).length % 64 = data.length % 64 + p.length := by rw [List.length_append]; omega
  refine ⟨x', by rw [hx']; exact spliced_length _ _ _ hx (by omega), ?_, ?_⟩
  · rw [e, hx', waits_few _ _ hp, hw, List.append_assoc, List.take_append]
    rw [List.take_of_length_le (by rw [waits_length]; omega), waits_length]
    congr 1
    rw [Nat.add_sub_cancel_left, List.take_append_of_le_length (Nat.le_refl _), List.take_length]
  · rw [e, stOf_few _ _ hp]; exact hb
/-- A block is full. -/
theorem DigC.full {w : World} {g : Nat} {data p x' : List UInt8} {len : Nat} {s' : S5} (hx' : x'.length = 64) (hw : x' = waits data ++ p) (hp : data.length % 64 + p.length = 64)
    (hs : s' = blocks (x'.length / 64) (stOf data) x') (hb : Blk w g (digv s' x' 0 len) 115) : DigC w g (data ++ p) len := by
  have e : (data ++ p).length % 64 = 0 := by rw [List.length_append]; omega
  refine ⟨x', hx', ?_, ?_⟩
  · rw [e, waits_whole _ e]; rfl
  · rw [e, stOf_full _ _ hp, ← hw]
    rw [hx'] at hs
    rw [show blk (stOf data) (words x') = s' from hs.symm]; exact hb
/-- Whole blocks more. -/
theorem DigC.whole {w : World} {g : Nat} {data p x : List UInt8} {len : Nat} {s' : S5} (hx : x.length = 64) (hd : data.length % 64 = 0) (hp : p.length % 64 = 0)
    (hs : s' = blocks (p.length / 64) (stOf data) p) (hb : Blk w g (digv s' x 0 len) 115) : DigC w g (data ++ p) len := by
  have e : (data ++ p).length % 64 = 0 := by rw [List.length_append]; omega
  refine ⟨x, hx, ?_, ?_⟩
  · rw [e, waits_whole _ e]; rfl
  · rw [e, stOf_blocks _ _ hd, ← hs]; exact hb
theorem Blk.dig_bytes {w : World} {g : Nat} {s : S5} {x : List UInt8} {nx len : Nat} (hb : Blk w g (digv s x nx len) 115) : Bytes w g 5 x := by
  intro i hi; rw [hb.cell]; exact digv_x s x nx len i hi
end Go.Proofs.YtpkipinamlbdoaaGreatDoor
