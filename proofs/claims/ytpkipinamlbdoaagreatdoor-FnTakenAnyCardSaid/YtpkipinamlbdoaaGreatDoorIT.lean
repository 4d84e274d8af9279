/-
  append onto an empty slice that may have room: what becomes of the room, and what the result reads. No condition.
-/
import Derived.Test.YtpkipinamlbdoaaGreatDoorIC
namespace Go.Proofs.YtpkipinamlbdoaaGreatDoor
open Go Go.RowKit

/-- An empty slice: nil, or with its room in a row that is known. -/
def Emp (w : World) (v : Value) : Prop := v = .slice none 0 0 ∨ ∃ g off cap cur T, v = .slice (some ⟨g, off, none⟩) 0 cap ∧ Blk w g cur T ∧ off + cap ≤ cur.size ∧ cap ≤ maxLen
/-- Of the old blocks only that of v has turned, and of it only what lies behind v's place. -/
def Spill (v : Value) (w w' : World) : Prop :=
  Upd (fun k => v.ownBlock = some k) w w' ∧ (∀ g off n c cur T, v = .slice (some ⟨g, off, none⟩) n c → Blk w g cur T → (∃ cur' : Array Value, Blk w' g cur' T ∧ cur'.size = cur.size ∧ ∀ j, j < off → cur'[j]? = cur[j]?)) ∧ ∀ A n c, v = .slice A n c → c < 20 → Fresh w w'
/-- A result: bytes in v's room or in a new row. -/
def Res (w w' : World) (v r : Value) (l : List UInt8) : Prop :=
  ∃ g off cap cur T, r = .slice (some ⟨g, off, none⟩) l.length cap ∧ Blk w' g cur T ∧ off + cap ≤ cur.size ∧ l.length ≤ cap ∧ cap ≤ maxLen ∧ Bytes w' g off l ∧ (w.heap.size ≤ g ∨ ∃ n, v = .slice (some ⟨g, off, none⟩) n cap)
theorem Spill.of_fresh {v : Value} {w w' : World} (h : Fresh w w') : Spill v w w' :=
  ⟨h.mono (fun _ _ f => f.elim), fun _ _ _ _ cur _ _ hb => ⟨cur, hb.upd h (fun f => f), rfl, fun _ _ => rfl⟩, fun _ _ _ _ _ => h⟩
theorem Spill.trans {v : Value} {a b c : World} (h : Spill v a b) (k : Spill v b c) : Spill v a c := by
  refine ⟨h.1.trans k.1, fun g off n cc cur T hv hb => ?_, fun A n cc hv hc => (h.2.2 A n cc hv hc).fresh (k.2.2 A n cc hv hc)⟩
  obtain ⟨c1, h1, h2, h3⟩ := h.2.1 g off n cc cur T hv hb
  obtain ⟨c2, k1, k2, k3⟩ := k.2.1 g off n cc c1 T hv h1
  exact ⟨c2, k1, k2.trans h2, fun j hj => (k3 j hj).trans (h3 j hj)⟩
theorem Spill.fresh {v : Value} {a b c : World} (h : Spill v a b) (k : Fresh b c) : Spill v a c := h.trans (.of_fresh k)
theorem Emp.upd {S : Nat → Prop} {w w' : World} {v : Value} (h : Emp w v) (hu : Upd S w w') (hs : ∀ k, v.ownBlock = some k → ¬ S k) : Emp w' v := by
  rcases h with h | ⟨g, off, cap, cur, T, rfl, hb, h1, h2⟩
  · exact .inl h
  · exact .inr ⟨g, off, cap, cur, T, rfl, hb.upd hu (hs g rfl), h1, h2⟩
theorem Emp.rd {w : World} {v : Value} (h : Emp w v) : Rd w v [] := by
  rcases h with rfl | ⟨g, off, cap, cur, T, rfl, hb, h1, h2⟩
  · exact .nil
  · exact .at_ g off 0 cap [] rfl (Nat.zero_le _) h2 (Bytes.nil _ _ _) hb.lt
theorem Res.rd {w w' : World} {v r : Value} {l : List UInt8} (h : Res w w' v r l) : Rd w' r l := by
  obtain ⟨g, off, cap, cur, T, rfl, hb, h1, h2, h3, h4, _⟩ := h
  exact .at_ g off l.length cap l rfl h2 h3 h4 hb.lt
theorem splice_get_low {L cs : List Value} {off j : Nat} (h : off + cs.length ≤ L.length) (hj : j < off) : (splice L off cs)[j]? = L[j]? := by
  unfold splice
  rw [List.getElem?_append_left (by simp; omega), List.getElem?_take, if_pos hj]
theorem splice_get_mid {L cs : List Value} {off j : Nat} (h : off + cs.length ≤ L.length) (hj : j < cs.length) : (splice L off cs)[off + j]? = cs[j]? := by
  unfold splice
  have e : (L.take off).length = off := by simp; omega
  rw [List.getElem?_append_right (by omega), e, Nat.add_sub_cancel_left, List.getElem?_append_left hj]
theorem run_storeRow (g off : Nat) (T : TypeId) (news : List Value) (cur : Array Value) (w : World) (hg : Blk w g cur T) (hfit : off + news.length ≤ cur.size) (h1 : ∀ u ∈ news, u.oneCell' = true)
    (sCap : Nat) (a : Addr) (m c : Nat) (ty : TypeId) (hl : news.length = m) (hnews : ∀ j u, news[j]? = some u → w.cell? (a.add j) = some u) (hroom : m ≤ sCap) :
    (Builtin.append_ #[22, 22] ty #[.slice (some ⟨g, off, none⟩) 0 sCap, .slice (some a) m c]).run Tryz.prog w =
      .ok (.slice (some ⟨g, off, none⟩) m sCap) (w.setRow g (splice cur.toList off news).toArray) := by
  obtain ⟨i0, hi, hz0, hz1, hz2⟩ := info_parts info5
  have hf := run_firstCells_some (P := Tryz.prog) w i0.size m a m c news (by rw [hz1]; omega) hnews
  have hst := run_storeCells_at Tryz.prog g off T news 0 cur w hg (by simpa using hfit) h1
  simp only [Nat.add_zero] at hst
  simp [Builtin.append_, run_underlying Tryz.underlying22, sizeOf, typeInfo, hi, Builtin.lenOf, hroom, hf, Addr.add_lit, hst, splice]
theorem run_app0 (w : World) (v : Value) (hv : Emp w v) (b off n c : Nat) (l : List UInt8) (hn : n = l.length) (hl : Bytes w b off l) (h0 : 20 ≤ l.length) (hm : l.length ≤ 100000) (ty : TypeId) :
    ∃ v' w', (Builtin.append_ #[22, 22] ty #[v, .slice (some ⟨b, off, none⟩) n c]).run Tryz.prog w = .ok v' w' ∧ Res w w' v v' l ∧ Spill v w w' := by
  subst hn
  obtain ⟨i0, hi, hz0, hz1, hz2⟩ := info_parts info5
  have hnew : ∀ (w2 : World) (v' : Value) (g cap : Nat) (cs : Array Value), v' = .slice (some ⟨g, 0, none⟩) l.length cap → g = w.heap.size → w2 = w.drew.alloc (.cells cs 5) → l.length ≤ cap → cap ≤ maxLen → cs.size = cap → (∀ j, j < l.length → cs[j]? = (bv l)[j]?) →
      Res w w2 v v' l ∧ Spill v w w2 := by
    intro w2 v' g cap cs hv' hg hw2 hlc hcm hcs hget
    subst hg; subst hw2
    have hb : Blk (w.drew.alloc (.cells cs 5)) w.heap.size cs 5 := heap_alloc_new w.drew _
    refine ⟨⟨w.heap.size, 0, cap, cs, 5, hv', hb, by omega, hlc, hcm, fun i hi' => ?_, .inl (Nat.le_refl _)⟩, .of_fresh (((Upd.refl _ w).drew).alloc _)⟩
    rw [Nat.zero_add, hb.cell, hget i hi']; exact bv_get l i hi'
  rcases hv with rfl | ⟨g, o, cap, cur, T, rfl, hb, hfit, hcm⟩
  · have hr := run_append_nil (P := Tryz.prog) w 22 ty 5 i0 (.int .u8 0) Tryz.underlying22 hi hz0 ⟨b, off, none⟩ l.length c (bv l) (by rw [hz1]; simp) hl.news (by omega) (by omega) (by rw [hz2]; omega)
    refine ⟨_, _, hr, ?_⟩
    have hge := grownCap_ge w l.length 0 5
    have hle := grownCap_le_maxLen w l.length 0 5 (by unfold maxLen; omega)
    refine hnew _ _ _ _ _ rfl rfl rfl hge hle ?_ ?_
    · simp [size_zeroCells, Value.cells]; omega
    · intro j hj; rw [Array.getElem?_append_left (by simpa using hj)]; simp
  · by_cases hroom : l.length ≤ cap
    · have hr := run_storeRow g o T (bv l) cur w hb (by rw [bv_length]; omega) (bv_one l) cap ⟨b, off, none⟩ l.length c ty (bv_length l) hl.news hroom
      have hsz : o + (bv l).length ≤ cur.toList.length := by have := Array.length_toList (xs := cur); rw [bv_length]; omega
      have hlen : (splice cur.toList o (bv l)).toArray.size = cur.size := by rw [List.size_toArray, length_splice _ _ _ hsz, Array.length_toList]
      have hb' : Blk (w.setRow g (splice cur.toList o (bv l)).toArray) g (splice cur.toList o (bv l)).toArray T := hb.row _
      refine ⟨_, _, hr, ⟨g, o, cap, _, T, rfl, hb', by rw [hlen]; exact hfit, hroom, hcm, fun i hi' => ?_, .inr ⟨0, rfl⟩⟩, ⟨rfl, rfl, rfl, by simp [World.setRow], fun k _ hk => setRow_other _ _ _ _ (fun e => hk (by simp [Value.ownBlock, e]))⟩, ?_, fun A n cc hv hc => by simp at hv; omega⟩
      · rw [hb'.cell, List.getElem?_toArray, splice_get_mid hsz (by simpa using hi')]; exact bv_get l i hi'
      · intro g2 off2 n2 c2 cur2 T2 hv hb2
        simp only [Value.slice.injEq, Option.some.injEq, Addr.mk.injEq] at hv
        obtain ⟨⟨rfl, rfl, _⟩, _, _⟩ := hv
        have e : cur2 = cur ∧ T2 = T := by
          have h2 : w.heap[g]? = some (.cells cur2 T2 (0, 0)) := hb2
          rw [show w.heap[g]? = some (.cells cur T (0, 0)) from hb] at h2
          simp at h2; exact ⟨h2.1.symm, h2.2.symm⟩
        obtain ⟨rfl, rfl⟩ := e
        refine ⟨_, hb', hlen, fun j hj => ?_⟩
        rw [List.getElem?_toArray, splice_get_low hsz hj, Array.getElem?_toList]
    · have hr := run_append_grow (P := Tryz.prog) w 22 ty 5 i0 (.int .u8 0) Tryz.underlying22 hi hz0 ⟨g, o, none⟩ 0 cap [] (by simp) (by simp) ⟨b, off, none⟩ l.length c (bv l) (by rw [hz1]; simp) hl.news (by omega) (by omega) (growslice_fits (by omega) (by rw [hz2]; omega))
      simp only [Nat.zero_add] at hr
      refine ⟨_, _, hr, ?_⟩
      have hge := grownCap_ge w l.length cap 5
      have hle := grownCap_le_maxLen w l.length cap 5 (by unfold maxLen; omega)
      refine hnew _ _ _ _ _ rfl rfl rfl hge hle ?_ ?_
      · simp [size_zeroCells, Value.cells]; omega
      · intro j hj; rw [Array.getElem?_append_left (by simpa using hj)]; simp
theorem wpList_app0 {w : World} {ops : Array Oper} {rest : List Oper} {o : Oper} {a : Act} {Q : Exit → Act → World → Prop} (hgd : o.guard = none) (s x : Operand)
    (ho : o.op = .call { callee := .builtin .append, args := #[s, x], argTypes := #[22, 22] })
    (v : Value) (b off n c : Nat) (l : List UInt8) (hs : a.eval s = v) (hv : Emp w v) (hx : a.eval x = .slice (some ⟨b, off, none⟩) n c) (hn : n = l.length) (hl : Bytes w b off l) (h0 : 20 ≤ l.length) (hm : l.length ≤ 100000)
    (h : ∀ v' w', Res w w' v v' l → Spill v w w' → wpList Tryz.prog ops Q rest (a.put o.dst v') w') : wpList Tryz.prog ops Q (o :: rest) a w := by
  refine wpList_plain hgd fun K hK => ?_
  obtain ⟨v', w', hr, h1, h2⟩ := run_app0 w v hv b off n c l hn hl h0 hm o.type
  unfold Oper.wp execOp
  simp only [ho, resolve, invoke, builtin, Sem.run_bind, Sem.run_pure, Result.andThen_ok, List.map_toArray, List.map_cons, List.map_nil, hs, hx, hr]
  exact hK _ _ (h v' w' h1 h2)
end Go.Proofs.YtpkipinamlbdoaaGreatDoor
