/-
  The law in plain words: bytes are taken just if they are what is made of what stands ahead. Conditions: as each part says.
  What the two checks say of bytes that end with an integrity and a fingerprint, in plain Lean: they are taken just if they are what is made of what stands ahead. No condition.
  Bytes that end with an integrity of twenty bytes and a fingerprint of four, in plain Lean: they are what is made of what stands ahead just if both are right. No condition.
  Bytes that end with an integrity and a fingerprint: what their two checks say together, in plain Lean. No condition.
-/
import Derived.Test.YtpkipinamlbdoaaGreatDoorMG
import Derived.Test.YtpkipinamlbdoaaGreatDoorWG
namespace Go.Proofs.YtpkipinamlbdoaaGreatDoor

theorem num_prefix (p q : List UInt8) (i s : Nat) (h : i + s ≤ p.length) : num (p ++ q) i s = num p i s := by
  unfold num
  rw [List.drop_append_of_le_length (by omega), List.take_append_of_le_length (by simp; omega)]
/-- What a list of attributes says of its bytes: the first one. -/
theorem attrsL_inv {p : List UInt8} {a : List (Nat × List UInt8)} (h : attrsL p = some a) (h0 : p ≠ []) :
    4 ≤ p.length ∧ allOf (num p 2 2) ≤ p.length ∧ ∃ r, a = (num p 0 2, (p.drop 4).take (num p 2 2)) :: r ∧ attrsL (p.drop (allOf (num p 2 2))) = some r := by
  have hp : 0 < p.length := List.length_pos_iff.2 h0
  have h4 : 4 ≤ p.length := by
    rcases Nat.lt_or_ge p.length 4 with h' | h'
    · rw [attrsL_short p hp h'] at h; cases h
    · exact h'
  have hw : allOf (num p 2 2) ≤ p.length := by
    rcases Nat.lt_or_ge p.length (allOf (num p 2 2)) with h' | h'
    · rw [attrsL_wide p hp h'] at h; cases h
    · exact h'
  refine ⟨h4, hw, ?_⟩
  rw [attrsL_cons p h4 hw] at h
  obtain ⟨r, hr, e⟩ := Option.map_eq_some_iff.1 h
  exact ⟨r, e.symm, hr⟩
theorem attrsL_append : ∀ (n : Nat) (p q : List UInt8) (a : List (Nat × List UInt8)), p.length ≤ n → attrsL p = some a → attrsL (p ++ q) = (attrsL q).map (a ++ ·) := by
  intro n
  induction n with
  | zero =>
    intro p q a hn h
    obtain rfl := List.eq_nil_of_length_eq_zero (Nat.le_zero.1 hn)
    rw [attrsL_nil] at h
    obtain rfl := Option.some.inj h
    simp
  | succ n ih =>
    intro p q a hn h
    by_cases h0 : p = []
    · subst h0
      rw [attrsL_nil] at h
      obtain rfl := Option.some.inj h
      simp
    · obtain ⟨h4, hw, r, rfl, hr⟩ := attrsL_inv h h0
      have hg := allOf_ge (num p 2 2)
      have e2 : num (p ++ q) 2 2 = num p 2 2 := num_prefix p q 2 2 (by omega)
      have e0 : num (p ++ q) 0 2 = num p 0 2 := num_prefix p q 0 2 (by omega)
      rw [attrsL_cons (p ++ q) (by simp; omega) (by rw [e2]; simp; omega), e2, e0, List.drop_append_of_le_length hw, ih _ q r (by simp; omega) hr, List.drop_append_of_le_length h4, List.take_append_of_le_length (by simp; omega), Option.map_map]
      rfl
theorem attrsL_reach : ∀ (n : Nat) (p : List UInt8) (a : List (Nat × List UInt8)), p.length ≤ n → attrsL p = some a → reach a = p.length := by
  intro n
  induction n with
  | zero =>
    intro p a hn h
    obtain rfl := List.eq_nil_of_length_eq_zero (Nat.le_zero.1 hn)
    rw [attrsL_nil] at h
    obtain rfl := Option.some.inj h
    rfl
  | succ n ih =>
    intro p a hn h
    by_cases h0 : p = []
    · subst h0
      rw [attrsL_nil] at h
      obtain rfl := Option.some.inj h
      rfl
    · obtain ⟨h4, hw, r, rfl, hr⟩ := attrsL_inv h h0
      have hg := allOf_ge (num p 2 2)
      have hx : ((p.drop 4).take (num p 2 2)).length = num p 2 2 := by simp; omega
      rw [reach, hx, ih _ r (by simp; omega) hr]
      simp; omega
/-- Bytes that are a message. -/
theorem decodeL_inv {l : List UInt8} {a : List (Nat × List UInt8)} (h : decodeL l = some a) : 20 ≤ l.length ∧ num l 4 4 = 554869826 ∧ 20 + num l 2 2 ≤ l.length ∧ attrsL ((l.drop 20).take (num l 2 2)) = some a := by
  unfold decodeL at h
  by_cases hc : l.length < 20 ∨ num l 4 4 ≠ 554869826 ∨ l.length < 20 + num l 2 2
  · rw [if_pos hc] at h; cases h
  · rw [if_neg hc] at h
    refine ⟨?_, ?_, ?_, h⟩
    · omega
    · exact Decidable.not_not.1 (fun e => hc (.inr (.inl e)))
    · omega
theorem decodeL_mk {l : List UInt8} {a : List (Nat × List UInt8)} (h20 : 20 ≤ l.length) (hc : num l 4 4 = 554869826) (hn : 20 + num l 2 2 ≤ l.length) (h : attrsL ((l.drop 20).take (num l 2 2)) = some a) : decodeL l = some a := by
  unfold decodeL
  rw [if_neg (by rintro (h' | h' | h') <;> omega)]
  exact h
theorem decodeL_reach {l : List UInt8} {a : List (Nat × List UInt8)} (h : decodeL l = some a) : reach a = num l 2 2 := by
  obtain ⟨h20, _, hn, h⟩ := decodeL_inv h
  rw [attrsL_reach _ _ a (Nat.le_refl _) h]
  simp; omega
end Go.Proofs.YtpkipinamlbdoaaGreatDoor
namespace Go.Proofs.YtpkipinamlbdoaaGreatDoor

theorem beN_beB : ∀ (s N : Nat), N < 256 ^ s → beN (beB N s) = N := by
  have key : ∀ (s N a : Nat), N < 256 ^ s → (beB N s).foldl (fun a x => a * 256 + x.toNat) a = a * 256 ^ s + N := by
    intro s
    induction s with
    | zero => intro N a h; simp [beB] at h ⊢; omega
    | succ s ih =>
      intro N a h
      have hp : 0 < 256 ^ s := Nat.pow_pos (by decide)
      have hq : N / 256 ^ s < 256 := by
        rw [Nat.div_lt_iff_lt_mul hp, Nat.mul_comm, ← Nat.pow_succ]; exact h
      have hm : beB N s = beB (N % 256 ^ s) s := by
        have : ∀ k, k ≤ s → beB N k = beB (N % 256 ^ s) k := by
          intro k
          induction k with
          | zero => intro _; rfl
          | succ k ihk =>
            intro hk
            have e : N % 256 ^ s / 256 ^ k = N / 256 ^ k % 256 ^ (s - k) := by
              have : 256 ^ s = 256 ^ k * 256 ^ (s - k) := by rw [← Nat.pow_add]; congr 1; omega
              rw [this, Nat.mod_mul_right_div_self]
            simp only [beB]
            rw [ihk (by omega), e]
            congr 1
            apply UInt8.toNat.inj
            simp only [UInt8.toNat_ofNat']
            have : (256 : Nat) ^ (s - k) = 256 * 256 ^ (s - k - 1) := by rw [← Nat.pow_succ']; congr 1; omega
            rw [this, Nat.mod_mul_right_mod]
        exact this s (Nat.le_refl _)
      simp only [beB, List.foldl_cons]
      rw [hm, ih _ _ (Nat.mod_lt _ hp)]
      have e1 : (UInt8.ofNat (N / 256 ^ s)).toNat = N / 256 ^ s := by
        rw [UInt8.toNat_ofNat']
        exact Nat.mod_eq_of_lt hq
      rw [e1, Nat.add_mul, Nat.mul_assoc, ← Nat.pow_succ', Nat.add_assoc, Nat.mul_comm (N / 256 ^ s), Nat.div_add_mod]
  intro s N h
  have := key s N 0 h
  simpa [beN] using this
theorem beB_inj {N M s : Nat} (hN : N < 256 ^ s) (hM : M < 256 ^ s) (h : beB N s = beB M s) : N = M := by
  rw [← beN_beB s N hN, ← beN_beB s M hM, h]
theorem pair_of (x : List UInt8) (h : x.length = 2) : x = beB (beN x) 2 := by
  match x, h with
  | [a, b], _ =>
    have ha := a.toNat_lt
    have hb := b.toNat_lt
    have e : beN [a, b] = a.toNat * 256 + b.toNat := by simp [beN]
    rw [e]
    simp only [beB, Nat.pow_one, Nat.pow_zero, Nat.div_one]
    have e1 : (a.toNat * 256 + b.toNat) / 256 = a.toNat := by omega
    rw [e1]
    congr 1
    · simp
    · congr 1
      apply UInt8.toNat.inj
      simp only [UInt8.toNat_ofNat']; omega
theorem quad_of (a b c d : UInt8) : [a, b, c, d] = beB (be32 a b c d).toNat 4 := by
  have e1 := pair_of [a, b] rfl
  have e2 := pair_of [c, d] rfl
  have ha := a.toNat_lt
  have hb := b.toNat_lt
  have hc := c.toNat_lt
  have hd := d.toNat_lt
  rw [← beN_4]
  have e : beN [a, b, c, d] = ((a.toNat * 256 + b.toNat) * 256 + c.toNat) * 256 + d.toNat := by simp [beN]
  rw [e]
  simp only [beB]
  refine List.cons_eq_cons.2 ⟨?_, List.cons_eq_cons.2 ⟨?_, List.cons_eq_cons.2 ⟨?_, List.cons_eq_cons.2 ⟨?_, rfl⟩⟩⟩⟩ <;>
    (apply UInt8.toNat.inj; simp only [UInt8.toNat_ofNat']; omega)
theorem num_pair (l : List UInt8) (i : Nat) (h : i + 2 ≤ l.length) : (l.drop i).take 2 = beB (num l i 2) 2 := pair_of _ (by simp; omega)

/-! ## The length of a message -/
theorem lenSet_eq (N : Nat) (l : List UInt8) (h : 4 ≤ l.length) : lenSet N l = l.take 2 ++ beB N 2 ++ l.drop 4 := by
  match l, h with
  | a :: b :: c :: d :: t, _ => simp [lenSet, beB]
theorem lenUp_eq (k : Nat) (l : List UInt8) (h : 4 ≤ l.length) : lenUp k l = lenSet (num l 2 2 + k) l := by
  rw [lenSet_eq _ _ h]; rfl
theorem lenSet_lenSet (N M : Nat) (l : List UInt8) (h : 4 ≤ l.length) : lenSet N (lenSet M l) = lenSet N l := by
  match l, h with
  | a :: b :: c :: d :: t, _ => simp [lenSet]
theorem num_lenSet (N : Nat) (l : List UInt8) (h : 4 ≤ l.length) (hN : N < 65536) : num (lenSet N l) 2 2 = N := by
  match l, h with
  | a :: b :: c :: d :: t, _ =>
    have : ((lenSet N (a :: b :: c :: d :: t)).drop 2).take 2 = beB N 2 := by simp [lenSet, beB]
    unfold num
    rw [this, beN_beB 2 N (by omega)]
theorem num_lenSet_far (N i s : Nat) (l : List UInt8) (h : 4 ≤ i) : num (lenSet N l) i s = num l i s := by
  unfold num; rw [lenSet_drop N i l h]
theorem lenSet_take (N n : Nat) (l : List UInt8) : (lenSet N l).take n = lenSet N (l.take n) := by
  unfold lenSet; rw [List.take_set, List.take_set]
theorem lenSet_append (N : Nat) (p q : List UInt8) (h : 4 ≤ p.length) : lenSet N (p ++ q) = lenSet N p ++ q := by
  match p, h with
  | a :: b :: c :: d :: t, _ => simp [lenSet]
theorem lenSet_self (l : List UInt8) (h : 4 ≤ l.length) : lenSet (num l 2 2) l = l := by
  rw [lenSet_eq _ _ h, ← num_pair l 2 (by omega)]
  match l, h with
  | a :: b :: c :: d :: t, _ => simp
end Go.Proofs.YtpkipinamlbdoaaGreatDoor
namespace Go.Proofs.YtpkipinamlbdoaaGreatDoor

/-- What stands ahead of the last 32 bytes, with a length as if nothing stood behind it. -/
def aheadOf (l : List UInt8) : List UInt8 := lenSet (l.length - 52) (l.take (l.length - 32))
theorem num_lt (l : List UInt8) (i : Nat) : num l i 2 < 65536 := by
  have h := beN_lt ((l.drop i).take 2)
  have h2 : ((l.drop i).take 2).length ≤ 2 := by simp; omega
  exact Nat.lt_of_lt_of_le h (Nat.le_trans (Nat.pow_le_pow_right (by decide) h2) (by decide))
theorem allOf_20 : allOf 20 = 24 := rfl
theorem four_of (l : List UInt8) (h : l.length = 4) : ∃ x0 x1 x2 x3, l = [x0, x1, x2, x3] := by
  match l, h with
  | [a, b, c, d], _ => exact ⟨a, b, c, d, rfl⟩
theorem head_of {q : List UInt8} {ty n : Nat} (h4 : 4 ≤ q.length) (ht : num q 0 2 = ty) (hn : num q 2 2 = n) : q = beB ty 2 ++ beB n 2 ++ q.drop 4 := by
  have e0 := num_pair q 0 (by omega)
  have e2 := num_pair q 2 (by omega)
  rw [ht] at e0
  rw [hn] at e2
  rw [← e0, ← e2]
  match q, h4 with
  | a :: b :: c :: d :: t, _ => simp
theorem ends {l : List UInt8} {ats rest : List (Nat × List UInt8)} (h52 : 52 ≤ l.length) (hN : l.length = 20 + num l 2 2) (hd : decodeL l = some ats) (hr : decodeL (aheadOf l) = some rest)
    (hk : rest.length + 2 = ats.length) (ht : (ats[rest.length]).1 = 8) (hv : (ats[rest.length]).2.length = 20) (ht2 : (ats[rest.length + 1]).1 = 32808) (hv2 : (ats[rest.length + 1]).2.length = 4) :
    ∃ m x0 x1 x2 x3, m.length = 20 ∧ ats = rest ++ [(8, m), (32808, [x0, x1, x2, x3])] ∧ l = l.take (l.length - 32) ++ [0, 8, 0, 20] ++ m ++ [128, 40, 0, 4] ++ [x0, x1, x2, x3] ∧ reach rest = l.length - 52 := by
  have hlt := num_lt l 2
  obtain ⟨-, -, -, hp⟩ := decodeL_inv hd
  obtain ⟨-, -, -, hpr⟩ := decodeL_inv hr
  have hal : (l.take (l.length - 32)).length = l.length - 32 := by simp
  have hnum : num (aheadOf l) 2 2 = l.length - 52 := num_lenSet _ _ (by rw [hal]; omega) (by omega)
  rw [hnum] at hpr
  have e1 : ((aheadOf l).drop 20).take (l.length - 52) = (l.drop 20).take (l.length - 52) := by
    unfold aheadOf
    rw [lenSet_drop _ _ _ (by omega), List.drop_take, List.take_take]
    congr 1; omega
  rw [e1] at hpr
  have e2 : (l.drop 20).take (num l 2 2) = (l.drop 20).take (l.length - 52) ++ l.drop (l.length - 32) := by
    rw [List.take_of_length_le (by simp; omega)]
    have := List.take_append_drop (l.length - 52) (l.drop 20)
    rw [List.drop_drop, show 20 + (l.length - 52) = l.length - 32 by omega] at this
    exact this.symm
  rw [e2, attrsL_append _ _ _ _ (Nat.le_refl _) hpr] at hp
  have hreach := attrsL_reach _ _ _ (Nat.le_refl _) hpr
  have hql : (l.drop (l.length - 32)).length = 32 := by simp; omega
  have hspl : l = l.take (l.length - 32) ++ l.drop (l.length - 32) := (List.take_append_drop _ _).symm
  generalize l.drop (l.length - 32) = q at *
  obtain ⟨r2, hr2, rfl⟩ := Option.map_eq_some_iff.1 hp
  have hq0 : q ≠ [] := by intro h; rw [h] at hql; simp at hql
  obtain ⟨-, hw, r3, rfl, hr3⟩ := attrsL_inv hr2 hq0
  have g0 : (rest ++ (num q 0 2, (q.drop 4).take (num q 2 2)) :: r3)[rest.length] = (num q 0 2, (q.drop 4).take (num q 2 2)) := by simp
  rw [g0] at ht hv
  have hge := allOf_ge (num q 2 2)
  have hn20 : num q 2 2 = 20 := by
    have : ((q.drop 4).take (num q 2 2)).length = num q 2 2 := by simp; omega
    rw [← this]; exact hv
  simp only at ht
  rw [hn20, allOf_20] at hr3
  have hq2l : (q.drop 24).length = 8 := by simp; omega
  have hqs : q.drop 4 = (q.drop 4).take 20 ++ q.drop 24 := by
    have := List.take_append_drop 20 (q.drop 4)
    rw [List.drop_drop] at this
    exact this.symm
  have hqh := head_of (by omega) ht hn20
  generalize hq2 : q.drop 24 = q2 at *
  have hq20 : q2 ≠ [] := by intro h; rw [h] at hq2l; simp at hq2l
  obtain ⟨-, hw2, r4, rfl, hr4⟩ := attrsL_inv hr3 hq20
  have g1 : (rest ++ (num q 0 2, (q.drop 4).take (num q 2 2)) :: (num q2 0 2, (q2.drop 4).take (num q2 2 2)) :: r4)[rest.length + 1] = (num q2 0 2, (q2.drop 4).take (num q2 2 2)) := by
    rw [List.getElem_append_right (by omega)]
    simp
  rw [g1] at ht2 hv2
  have hge2 := allOf_ge (num q2 2 2)
  have hn4 : num q2 2 2 = 4 := by
    have : ((q2.drop 4).take (num q2 2 2)).length = num q2 2 2 := by simp; omega
    rw [← this]; exact hv2
  simp only at ht2
  have hr40 : r4 = [] := by
    simp only [List.length_append, List.length_cons] at hk
    exact List.eq_nil_of_length_eq_zero (by omega)
  subst hr40
  obtain ⟨x0, x1, x2, x3, hx⟩ := four_of (q2.drop 4) (by simp; omega)
  have hqh2 := head_of (by omega) ht2 hn4
  have hml : ((q.drop 4).take 20).length = 20 := by simp; omega
  refine ⟨(q.drop 4).take 20, x0, x1, x2, x3, hml, ?_, ?_, ?_⟩
  · rw [hn20, ht, ht2, hn4, hx]; rfl
  · have b8 : beB 8 2 = [0, 8] := by decide
    have b20 : beB 20 2 = [0, 20] := by decide
    have bf : beB 32808 2 = [128, 40] := by decide
    have b4 : beB 4 2 = [0, 4] := by decide
    rw [b8, b20, hqs] at hqh
    rw [bf, b4, hx] at hqh2
    generalize (q.drop 4).take 20 = m at *
    rw [hqh2] at hqh
    rw [hqh] at hspl
    simpa using hspl
  · rw [hreach]; simp; omega
theorem lenSet_length' (N : Nat) (l : List UInt8) : (lenSet N l).length = l.length := lenSet_length N l
/-- THE LAW IN PLAIN WORDS: both checks say yes just if the bytes are what is made of what stands ahead. -/
theorem taken_iff {l key m : List UInt8} {x0 x1 x2 x3 : UInt8} (h52 : 52 ≤ l.length) (hN : l.length = 20 + num l 2 2) (hm : m.length = 20)
    (hl : l = l.take (l.length - 32) ++ [0, 8, 0, 20] ++ m ++ [128, 40, 0, 4] ++ [x0, x1, x2, x3]) :
    (m = macOf key (lenSet (l.length - 28) (l.take (l.length - 32))) ∧ be32 x0 x1 x2 x3 = fpOf (l.take (l.length - 8))) ↔ l = markOf (signOf (aheadOf l) key) := by
  have hlt := num_lt l 2
  have hal : (l.take (l.length - 32)).length = l.length - 32 := by simp
  have hn : num (l.take (l.length - 32)) 2 2 = l.length - 20 := by
    have := num_prefix (l.take (l.length - 32)) (l.drop (l.length - 32)) 2 2 (by rw [hal]; omega)
    rw [List.take_append_drop] at this
    omega
  have e8 : l.take (l.length - 8) = l.take (l.length - 32) ++ [0, 8, 0, 20] ++ m := by
    have h2 : (l.take (l.length - 32) ++ [0, 8, 0, 20] ++ m).length = l.length - 8 := by simp [hm]; omega
    have h1 := congrArg (List.take (l.length - 8)) hl
    rw [List.append_assoc _ [128, 40, 0, 4], List.take_append_of_le_length (by rw [h2]; exact Nat.le_refl _), ← h2, List.take_length, h2] at h1
    exact h1
  rw [e8]
  generalize hH : l.length - 32 = n at *
  have hL : l.length = n + 32 := by omega
  rw [hL] at hn ⊢
  have eA : aheadOf l = lenSet (n - 20) (l.take n) := by unfold aheadOf; rw [hL]; congr 1
  rw [eA]
  generalize l.take n = p at *
  have hp4 : 4 ≤ p.length := by omega
  have e24 : lenUp 24 (lenSet (n - 20) p) = lenSet (n + 4) p := by
    rw [lenUp_eq _ _ (by rw [lenSet_length]; exact hp4), num_lenSet _ _ hp4 (by omega), lenSet_lenSet _ _ _ hp4]
    congr 1; omega
  rw [show n + 32 - 28 = n + 4 by omega]
  unfold markOf signOf
  rw [e24]
  have hml := macOf_length key (lenSet (n + 4) p)
  generalize macOf key (lenSet (n + 4) p) = m' at *
  have e32 : lenUp 8 (lenSet (n + 4) p ++ [0, 8, 0, 20] ++ m') = p ++ [0, 8, 0, 20] ++ m' := by
    have hs : 4 ≤ (lenSet (n + 4) p).length := by rw [lenSet_length]; exact hp4
    rw [lenUp_eq _ _ (by simp; omega), List.append_assoc, num_prefix _ _ 2 2 hs, num_lenSet _ _ hp4 (by omega), lenSet_append _ _ _ hs, lenSet_lenSet _ _ _ hp4]
    have := lenSet_self p hp4
    rw [hn] at this
    rw [show n + 4 + 8 = n + 32 - 20 by omega, this, List.append_assoc]
  rw [e32]
  have hq := quad_of x0 x1 x2 x3
  have hfl : (beB (be32 x0 x1 x2 x3).toNat 4).length = 4 := beB_length _ _
  constructor
  · rintro ⟨rfl, h⟩
    rw [← h, ← hq]; exact hl
  · intro h
    rw [hl] at h
    have hmm : m = m' := by
      have h1 := congrArg (fun x => (x.drop (p.length + 4)).take 20) h
      simp only [List.append_assoc] at h1
      simpa [List.drop_append, List.take_append, hm, hml] using h1
    subst hmm
    refine ⟨rfl, ?_⟩
    have h2 := List.append_cancel_left h
    rw [hq] at h2
    exact UInt32.toNat.inj (beB_inj (UInt32.toNat_lt _) (UInt32.toNat_lt _) h2)
end Go.Proofs.YtpkipinamlbdoaaGreatDoor
