/-
  Laws for slices and arrays in memory: append, copy, whole rows. Conditions: as each part says.
  Laws for byte slices over this program: append onto a slice of one's own, whatever reads as bytes. Condition: at most 2^47 bytes.
  Laws for arrays of words: made, stored and read whole. No condition.
  Laws for rows of bytes: copy into a row that is known, and a row that is filled as a slice of one's own. No condition.
  append onto a slice of one's own, and the old slice still reads as it did. Condition: at most 2^47 bytes.
-/
import Derived.Test.YtpkipinamlbdoaaGreatDoorWN
import Derived.Laws.AppendOwnNone
import Derived.Laws.CopyOwn
namespace Go.Proofs.YtpkipinamlbdoaaGreatDoor
open Go Go.RowKit

theorem Bytes.news {w : World} {b o : Nat} {l : List UInt8} (h : Bytes w b o l) : ∀ j u, (bv l)[j]? = some u → w.cell? ((⟨b, o, none⟩ : Addr).add j) = some u := by
  intro j u hj
  have hlt : j < l.length := by
    rcases Nat.lt_or_ge j l.length with h' | h'
    · exact h'
    · rw [List.getElem?_eq_none (by simpa using h')] at hj; cases hj
  rw [bv_get l j hlt] at hj
  rw [Addr.add_lit]
  rw [← hj]; exact h j hlt
theorem Own.snoc {w : World} {base : Nat} {v : Value} {l m : List UInt8} (h : w.ownsRow base 5 1 v (l.length + m.length) (bv l ++ bv m)) : Own w base v (l ++ m) := by
  show w.ownsRow _ _ _ _ _ _
  rw [bv_append, List.length_append]; exact h
/-- What is built of a literal reads as its bytes. -/
theorem Rd.built (w : World) (l : List UInt8) (hl : l.length ≤ 1000) : Rd (w.alloc (.cells (bv l).toArray 5)) (.slice (some ⟨w.heap.size, 0, none⟩) l.length l.length) l := by
  refine .at_ _ _ _ _ l rfl (Nat.le_refl _) (by unfold maxLen; omega) (fun i hi => ?_) (by simp)
  rw [Nat.zero_add, World.cell?_alloc_new]
  simp [bv, hi]
theorem Own.empty' (w : World) (base g : Nat) (hb : base ≤ g) (hg : g = w.heap.size) : Own (w.alloc (.cells #[] 5)) base (.slice (some ⟨g, 0, none⟩) 0 0) [] := by
  subst hg; exact Own.empty w base hb
theorem Rd.built' (w : World) (l : List UInt8) (g n : Nat) (cs : Array Value) (hg : g = w.heap.size) (hn : n = l.length) (hc : cs = (bv l).toArray) (hl : l.length ≤ 1000) : Rd (w.alloc (.cells cs 5)) (.slice (some ⟨g, 0, none⟩) n n) l := by
  subst hg; subst hn; subst hc; exact Rd.built w l hl
theorem Rd.len {w : World} {A : Option Addr} {n c : Nat} {l : List UInt8} (h : Rd w (.slice A n c) l) : n = l.length := by
  cases h with
  | nil => rfl
  | at_ b o n c l hn => exact hn
theorem Own.form {w : World} {base : Nat} {v : Value} {l : List UInt8} (h : Own w base v l) (hl : 0 < l.length) : ∃ g cap, v = .slice (some ⟨g, 0, none⟩) l.length cap ∧ base ≤ g ∧ Bytes w g 0 l ∧ l.length ≤ cap ∧ cap ≤ 9223372036854775807 ∧ g < w.heap.size := by
  have hr := h.rd
  rcases h.2 with ⟨_, h0⟩ | ⟨g, cap, cur, rfl, hg, hh, hn, hc, _⟩
  · omega
  · refine ⟨g, cap, rfl, hg, ?_, hn, by unfold maxLen at hc; omega, (Array.getElem?_eq_some_iff.1 hh).1⟩
    cases hr with
    | at_ b o n c l hn hc hm hl hb => exact hl
/-- append(s, x...): s one's own, x whatever reads. -/
theorem wpList_app {w : World} {ops : Array Oper} {rest : List Oper} {o : Oper} {a : Act} {Q : Exit → Act → World → Prop} (hgd : o.guard = none) (s x : Operand)
    (ho : o.op = .call { callee := .builtin .append, args := #[s, x], argTypes := #[22, 22] })
    (base : Nat) (v y : Value) (L l : List UInt8) (hs : a.eval s = v) (hown : Own w base v L) (hx : a.eval x = y) (hrd : Rd w y l)
    (hbytes : L.length + l.length ≤ 140737488355328) (hbase : base ≤ w.heap.size)
    (h : ∀ v' w', Own w' base v' (L ++ l) → w.grownBy w' v.ownBlock → wpList Tryz.prog ops Q rest (a.put o.dst v') w') : wpList Tryz.prog ops Q (o :: rest) a w := by
  obtain ⟨i0, hi, hz0, hz1, hz2⟩ := info_parts info5
  cases hrd with
  | nil =>
    refine wpList_append_own_none hgd s x 22 ho base 5 i0 1 Tryz.underlying22 hi v L.length (bv L) hs hown hx ?_
    exact h v w (by simpa using hown) ⟨rfl, rfl, rfl, Nat.le_refl _, fun _ _ _ => rfl⟩
  | at_ b off n c l hn hc hm hl hb =>
    subst hn
    refine wpList_append_own w hgd s x 22 ho base 5 i0 (.int .u8 0) 1 1 Tryz.underlying22 hi hz0 hz1 hz2 rfl (by decide) v L.length (bv L) hs hown ⟨b, off, none⟩ l.length c (bv l) hx (by simp) hl.news (bv_one l) (by unfold maxLen; omega) (by omega) hbase ?_
    intro v' w' h1 h2 _
    exact h v' w' (Own.snoc h1) h2
end Go.Proofs.YtpkipinamlbdoaaGreatDoor
namespace Go.Proofs.YtpkipinamlbdoaaGreatDoor
open Go Go.RowKit

theorem wpList_alloc_of {T : TypeId} {Z : Array Value} (hrun : ∀ w : World, (Instr.alloc T true (.tuple #[])).run Tryz.prog w = .ok (.pointer (some ⟨w.heap.size, 0, none⟩)) (w.alloc (.cells Z T)))
    {ops : Array Oper} {rest : List Oper} {o : Oper} {a : Act} {w : World} {Q : Exit → Act → World → Prop} (hg : o.guard = none) (hop : o.op = .alloc T)
    (h : wpList Tryz.prog ops Q rest (a.put o.dst (.pointer (some ⟨w.heap.size, 0, none⟩))) (w.alloc (.cells Z T))) : wpList Tryz.prog ops Q (o :: rest) a w := by
  refine wpList_plain hg fun K hK => ?_
  unfold Oper.wp execOp
  simp only [hop, Sem.run_bind, hrun, Result.andThen_ok, Sem.run_pure, Oper.upon]
  exact hK _ _ h
/-- Zeros of one kind, not laid open. -/
def Zw (n : Nat) : Array Value := Array.replicate n (.int .u32 0)
def Zb (n : Nat) : Array Value := Array.replicate n (.int .u8 0)
theorem Zw_size (n : Nat) : (Zw n).size = n := by simp [Zw]
theorem Zb_size (n : Nat) : (Zb n).size = n := by simp [Zb]
theorem Zw_one (n : Nat) : (Zw n).all (·.oneCell') = true := Array.all_eq_true_iff_forall_mem.2 fun x hx => by simp [Zw] at hx; rw [hx.2]; rfl
theorem Zb_one (n : Nat) : (Zb n).all (·.oneCell') = true := Array.all_eq_true_iff_forall_mem.2 fun x hx => by simp [Zb] at hx; rw [hx.2]; rfl
theorem run_alloc94 (w : World) : (Instr.alloc 94 true (.tuple #[])).run Tryz.prog w = .ok (.pointer (some ⟨w.heap.size, 0, none⟩)) (w.alloc (.cells (Zw 80) 94)) := by kernel_rfl
theorem run_alloc182 (w : World) : (Instr.alloc 182 true (.tuple #[])).run Tryz.prog w = .ok (.pointer (some ⟨w.heap.size, 0, none⟩)) (w.alloc (.cells (Zw 16) 182)) := by kernel_rfl
theorem run_build94 (w : World) : (Instr.build 94 #[]).run Tryz.prog w = .ok (.agg (Zw 80)) w := by kernel_rfl
theorem wpList_build94 {ops : Array Oper} {rest : List Oper} {o : Oper} {a : Act} {w : World} {Q : Exit → Act → World → Prop} (hg : o.guard = none) (hop : o.op = .build 94 #[])
    (h : wpList Tryz.prog ops Q rest (a.put o.dst (.agg (Zw 80))) w) : wpList Tryz.prog ops Q (o :: rest) a w := by
  refine wpList_plain hg fun K hK => ?_
  unfold Oper.wp execOp
  simp only [hop, List.map_toArray, List.map_nil, Sem.run_bind, run_build94, Result.andThen_ok, Sem.run_pure, Oper.upon]
  exact hK _ _ h
theorem info94 : (Tryz.prog.info? 94).map (·.size) = some 80 := by kernel_rfl
theorem info93 : (Tryz.prog.info? 93).map (·.size) = some 5 := by kernel_rfl
theorem wpList_store94 {ops : Array Oper} {rest : List Oper} {o : Oper} {a : Act} {w : World} {Q : Exit → Act → World → Prop} (hgd : o.guard = none) (x y : Operand) (ho : o.op = .store 94 x y)
    (g : Nat) (cells old : Array Value) (hx : a.eval x = .pointer (some ⟨g, 0, none⟩)) (hy : a.eval y = .agg cells) (hg : Blk w g old 94) (hs : cells.size = 80) (hold : old.size = 80) (h1 : cells.all (·.oneCell') = true)
    (h : wpList Tryz.prog ops Q rest (a.put o.dst undef) (w.setRow g cells)) : wpList Tryz.prog ops Q (o :: rest) a w :=
  wpList_store_row hgd 94 x y ho g cells hx hy 94 old hg (by rw [hs]; exact info94) (by rw [hs, hold]) h1 h
theorem wpList_store93 {ops : Array Oper} {rest : List Oper} {o : Oper} {a : Act} {w : World} {Q : Exit → Act → World → Prop} (hgd : o.guard = none) (x y : Operand) (ho : o.op = .store 93 x y)
    (g : Nat) (cells old : Array Value) (hx : a.eval x = .pointer (some ⟨g, 0, none⟩)) (hy : a.eval y = .agg cells) (hg : Blk w g old 93) (hs : cells.size = 5) (hold : old.size = 5) (h1 : cells.all (·.oneCell') = true)
    (h : wpList Tryz.prog ops Q rest (a.put o.dst undef) (w.setRow g cells)) : wpList Tryz.prog ops Q (o :: rest) a w :=
  wpList_store_row hgd 93 x y ho g cells hx hy 93 old hg (by rw [hs]; exact info93) (by rw [hs, hold]) h1 h
theorem wpList_load94 {ops : Array Oper} {rest : List Oper} {o : Oper} {a : Act} {w : World} {Q : Exit → Act → World → Prop} (hgd : o.guard = none) (x : Operand) (ho : o.op = .load 94 x)
    (g : Nat) (cells : Array Value) (hx : a.eval x = .pointer (some ⟨g, 0, none⟩)) (hg : Blk w g cells 94) (hs : cells.size = 80)
    (h : wpList Tryz.prog ops Q rest (a.put o.dst (.agg cells)) w) : wpList Tryz.prog ops Q (o :: rest) a w :=
  wpList_load_row hgd 94 x ho g hx 94 cells (0, 0) _ hg Tryz.underlying94 rfl (by rw [hs]; exact info94) h
theorem wpList_load93 {ops : Array Oper} {rest : List Oper} {o : Oper} {a : Act} {w : World} {Q : Exit → Act → World → Prop} (hgd : o.guard = none) (x : Operand) (ho : o.op = .load 93 x)
    (g : Nat) (cells : Array Value) (hx : a.eval x = .pointer (some ⟨g, 0, none⟩)) (hg : Blk w g cells 93) (hs : cells.size = 5)
    (h : wpList Tryz.prog ops Q rest (a.put o.dst (.agg cells)) w) : wpList Tryz.prog ops Q (o :: rest) a w :=
  wpList_load_row hgd 93 x ho g hx 93 cells (0, 0) _ hg Tryz.underlying93 rfl (by rw [hs]; exact info93) h
/-- x[i], x an array's value of words. -/
theorem run_index_words {T : TypeId} {n : Nat} (hT : Tryz.prog.underlying T = some (.array n 54)) (h54 : (Tryz.prog.info? 54).map (·.size) = some 1) (cells : Array Value) (i : Nat) (v : Value) (hi : i < n) (hv : cells[i]? = some v) (w : World) :
    (Instr.index T (.agg cells) (.int .i64 i)).run Tryz.prog w = .ok v w := by
  obtain ⟨q, hq, hq1⟩ := Option.map_eq_some_iff.1 h54
  simp [go_sem, Instr.index, asIntOf, run_underlying hT, sizeOf, typeInfo, hq, hq1, hi, part, isAgg, hv, run_underlying Tryz.underlying54]
end Go.Proofs.YtpkipinamlbdoaaGreatDoor
namespace Go.Proofs.YtpkipinamlbdoaaGreatDoor
open Go Go.RowKit

theorem info5s : (Tryz.prog.info? 5).map (·.size) = some 1 := by kernel_rfl
/-- copy(dst, src): dst in a row that is known, src whatever reads and fits. -/
theorem wpList_copyB {w : World} {ops : Array Oper} {rest : List Oper} {o : Oper} {a : Act} {Q : Exit → Act → World → Prop} (hgd : o.guard = none) (d s : Operand)
    (ho : o.op = .call { callee := .builtin .copy, args := #[d, s], argTypes := #[22, 22] }) (g off n c : Nat) (y : Value) (cur : Array Value) (l : List UInt8)
    (hd : a.eval d = .slice (some ⟨g, off, none⟩) n c) (hs : a.eval s = y) (hrd : Rd w y l) (hg : Blk w g cur 5) (hn : off + n ≤ cur.size) (hl : l.length ≤ n)
    (h : ∀ w', Blk w' g (splice cur.toList off (bv l)).toArray 5 → Upd (fun k => k = g) w w' → wpList Tryz.prog ops Q rest (a.put o.dst (goInt l.length)) w') :
    wpList Tryz.prog ops Q (o :: rest) a w := by
  cases hrd with
  | nil =>
    refine wpList_copy_nothing hgd d s 22 22 ho 5 Tryz.underlying22 info5s _ none n c 0 0 hd hs (by simp) ?_
    exact h w (by simpa [splice, bv] using hg) (Upd.refl _ _)
  | at_ b p m k l hm hc hmx hb hlt =>
    subst hm
    refine wpList_copy_own hgd d s 22 22 ho 5 Tryz.underlying22 info5s g off n c ⟨b, p, none⟩ l.length k hd hs cur 5 hg (bv l) (by rw [bv_length]; exact (Nat.min_eq_left hl).symm) hb.news (by rw [bv_length]; omega) (bv_one l) ?_
    rw [bv_length]
    have := h (w.setRow g (splice cur.toList off (bv l)).toArray) (hg.row _) ⟨rfl, rfl, rfl, by simp [World.setRow], fun k _ hk => setRow_other _ _ _ _ hk⟩
    simpa [splice] using this
theorem Own.of_blk {w : World} {g base cap : Nat} {cur : Array Value} (hb : Blk w g cur 5) (hg : base ≤ g) (l : List UInt8) (hl : l.length ≤ cap) (hc : cap ≤ maxLen) (hs : cur.size = cap) (ht : cur.toList.take l.length = bv l) :
    Own w base (.slice (some ⟨g, 0, none⟩) l.length cap) l := by
  refine ⟨by simp, .inr ⟨g, cap, cur, rfl, hg, hb, hl, hc, by omega, by simpa using ht⟩⟩
/-- A row that is owned, opened. -/
theorem Own.blk {w : World} {base : Nat} {v : Value} {l : List UInt8} (h : Own w base v l) (hl : 0 < l.length) :
    ∃ g cap cur, v = .slice (some ⟨g, 0, none⟩) l.length cap ∧ base ≤ g ∧ Blk w g cur 5 ∧ l.length ≤ cap ∧ cap ≤ maxLen ∧ cur.size = cap ∧ cur.toList.take l.length = bv l := by
  rcases h.2 with ⟨_, h0⟩ | ⟨g, cap, cur, rfl, hg, hh, hn, hc, hs, ht⟩
  · omega
  · exact ⟨g, cap, cur, rfl, hg, hh, hn, hc, by omega, by simpa using ht⟩
theorem Blk.bytes {w : World} {g : Nat} {l : List UInt8} (h : Blk w g (bv l).toArray 5) : Bytes w g 0 l := by
  intro i hi
  rw [Nat.zero_add, h.cell]; simp [bv, hi]
theorem bv_set (l : List UInt8) (i : Nat) (x : UInt8) : (bv l).toArray.setIfInBounds i (.int .u8 (I8 x)) = (bv (l.set i x)).toArray := by
  simp [bv, List.map_set]
theorem bv_inj {l m : List UInt8} (h : bv l = bv m) : l = m := by
  apply List.ext_getElem?
  intro i
  have h1 := congrArg (·[i]?) h
  simp only [bv, List.getElem?_map] at h1
  cases hl : l[i]? <;> cases hm : m[i]? <;> simp [hl, hm] at h1 ⊢
  rw [I8_def, I8_def] at h1
  apply UInt8.toNat_inj.1; omega
theorem splice_zb (n : Nat) (k : List UInt8) (_h : k.length ≤ n) : (splice (Zb n).toList 0 (bv k)).toArray = (bv (k ++ List.replicate (n - k.length) 0)).toArray := by
  have hz : (Value.int .u8 0) = .int .u8 (I8 0) := by simp [I8_def]
  have e : (Zb n).toList = List.replicate n (Value.int .u8 (I8 0)) := by rw [← hz]; simp [Zb]
  rw [e, splice, List.drop_replicate]
  simp [bv, List.map_replicate]
theorem splice_pad (k : List UInt8) (h : k.length ≤ 64) : (splice (Zb 64).toList 0 (bv k)).toArray = (bv (k ++ List.replicate (64 - k.length) 0)).toArray := splice_zb 64 k h
/-- So many of the bytes turned. -/
def xorTo (c : UInt8) (k : Nat) (l : List UInt8) : List UInt8 := (l.take k).map (· ^^^ c) ++ l.drop k
theorem xorTo_zero (c : UInt8) (l : List UInt8) : xorTo c 0 l = l := by simp [xorTo]
theorem xorTo_length (c : UInt8) (k : Nat) (l : List UInt8) : (xorTo c k l).length = l.length := by simp [xorTo]; omega
theorem xorTo_all (c : UInt8) (k : Nat) (l : List UInt8) (h : l.length ≤ k) : xorTo c k l = l.map (· ^^^ c) := by
  simp [xorTo, List.take_of_length_le h, List.drop_of_length_le h]
theorem xorTo_get (c : UInt8) (k : Nat) (l : List UInt8) (h : k < l.length) : (xorTo c k l)[k]'(by rw [xorTo_length]; exact h) = l[k] := by
  simp [xorTo, Nat.min_eq_left (Nat.le_of_lt h)]
theorem xorTo_set (c : UInt8) (k : Nat) (l : List UInt8) (h : k < l.length) : (xorTo c k l).set k (l[k] ^^^ c) = xorTo c (k + 1) l := by
  apply List.ext_getElem
  · simp [xorTo_length]
  · intro i h1 h2
    rw [List.getElem_set]
    simp only [xorTo]
    rw [List.length_set, xorTo_length] at h1
    split
    · rename_i e; subst e
      rw [List.getElem_append_left (by simp; omega)]; simp
    · rename_i e
      by_cases hlt : i < k
      · rw [List.getElem_append_left (by simp; omega), List.getElem_append_left (by simp; omega)]; simp
      · rw [List.getElem_append_right (by simp; omega), List.getElem_append_right (by simp; omega)]
        simp only [List.getElem_drop, List.length_map, List.length_take]
        congr 1; omega
end Go.Proofs.YtpkipinamlbdoaaGreatDoor
namespace Go.Proofs.YtpkipinamlbdoaaGreatDoor
open Go Go.RowKit

/-- append(s, x...), s one's own, and s itself is read again behind it. -/
theorem wpList_app_keeps {w : World} {ops : Array Oper} {rest : List Oper} {o : Oper} {a : Act} {Q : Exit → Act → World → Prop} (hgd : o.guard = none) (s x : Operand)
    (ho : o.op = .call { callee := .builtin .append, args := #[s, x], argTypes := #[22, 22] })
    (base : Nat) (v y : Value) (L l : List UInt8) (hs : a.eval s = v) (hown : Own w base v L) (hx : a.eval x = y) (hrd : Rd w y l) (hl0 : 0 < L.length) (hl1 : 0 < l.length)
    (hbytes : L.length + l.length ≤ 140737488355328) (hbase : base ≤ w.heap.size)
    (h : ∀ v' w', Own w' base v' (L ++ l) → w.grownBy w' v.ownBlock → Rd w' v L → wpList Tryz.prog ops Q rest (a.put o.dst v') w') : wpList Tryz.prog ops Q (o :: rest) a w := by
  obtain ⟨i0, hi, hz0, hz1, hz2⟩ := info_parts info5
  cases hrd with
  | nil => simp at hl1
  | at_ b off n c l hn hc hm hl hb =>
    subst hn
    refine wpList_plain hgd fun K hK => ?_
    obtain ⟨v', w', hr, h2, h3, _⟩ := run_append_own (P := Tryz.prog) w base 22 o.type 5 i0 (.int .u8 0) 1 1 Tryz.underlying22 hi hz0 hz1 hz2 rfl (by decide) v L.length (bv L) hown ⟨b, off, none⟩ l.length c (bv l) (by simp) hl.news (bv_one l) (by unfold maxLen; omega) (by omega) hbase
    have hrd : Rd w' v L := by
      obtain ⟨g, cap, cur, rfl, hg, hb2, hlc, hcm, hcs, hct⟩ := hown.blk hl0
      by_cases hroom : L.length + l.length ≤ cap
      · have hr2 := run_append_room (P := Tryz.prog) w 22 o.type 5 i0 Tryz.underlying22 hi g L.length cap cur hb2 ⟨b, off, none⟩ l.length c (bv l) (by rw [hz1]; simp) hl.news (bv_one l) hroom (by rw [hz1, bv_length]; omega)
        rw [hr] at hr2
        injection hr2 with _ e2
        have hB : Blk w' g (cur.toList.take (L.length * i0.size) ++ bv l ++ cur.toList.drop (L.length * i0.size + (bv l).length)).toArray 5 := by
          rw [e2]; exact hb2.row _
        refine .at_ g 0 L.length cap L rfl hlc hcm (fun i hi' => ?_) hB.lt
        rw [Nat.zero_add, hB.cell, hz1, Nat.mul_one, hct]
        rw [List.getElem?_toArray, List.append_assoc, List.getElem?_append_left (by simpa using hi')]
        exact bv_get L i hi'
      · have hr2 := run_append_grow (P := Tryz.prog) w 22 o.type 5 i0 (.int .u8 0) Tryz.underlying22 hi hz0 ⟨g, 0, none⟩ L.length cap (bv L) (by rw [hz1]; simp) (hown.cells (g := g) rfl) ⟨b, off, none⟩ l.length c (bv l) (by rw [hz1]; simp) hl.news (by omega) (by omega) (growslice_fits (by omega) (by rw [hz2]; omega))
        rw [hr] at hr2
        injection hr2 with _ e2
        have hu : Fresh w w' := by
          rw [e2]; exact ((Upd.refl (fun _ => False) w).drew).alloc _
        exact hown.rd.upd hu (fun _ _ f => f)
    unfold Oper.wp execOp
    simp only [ho, resolve, invoke, builtin, Sem.run_bind, Sem.run_pure, Result.andThen_ok, List.map_toArray, List.map_cons, List.map_nil, hs, hx, hr]
    exact hK _ _ (h v' w' (Own.snoc h2) h3 hrd)
end Go.Proofs.YtpkipinamlbdoaaGreatDoor
