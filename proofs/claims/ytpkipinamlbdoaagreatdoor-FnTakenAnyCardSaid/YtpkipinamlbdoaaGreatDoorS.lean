/-
  SHA-1, HMAC, CRC-32 and the attributes of a message in plain words. Conditions: as each part says.
  SHA-1 and HMAC in plain words, over lists of bytes. No condition.
  CRC-32 in plain words: bit by bit, by a table, eight bytes at a time: they are one. No condition.
  What bytes say of a message's attributes, in plain Lean. No condition.
  SHA-1 by pieces, in plain Lean: what blocks make of bytes that come one behind the other. No condition.
-/
namespace Go.Proofs.YtpkipinamlbdoaaGreatDoor

def rot1 (x : UInt32) : UInt32 := x <<< 1 ||| x >>> 31
def rot5 (x : UInt32) : UInt32 := x <<< 5 ||| x >>> 27
def rot30 (x : UInt32) : UInt32 := x <<< 30 ||| x >>> 2
structure S5 where
  a : UInt32
  b : UInt32
  c : UInt32
  d : UInt32
  e : UInt32
def ff (t : Nat) (b c d : UInt32) : UInt32 :=
  if t < 20 then b &&& c ||| ~~~b &&& d else if t < 40 then b ^^^ c ^^^ d else if t < 60 then b &&& c ||| b &&& d ||| c &&& d else b ^^^ c ^^^ d
def kk (t : Nat) : UInt32 := if t < 20 then 0x5a827999 else if t < 40 then 0x6ed9eba1 else if t < 60 then 0x8f1bbcdc else 0xca62c1d6
def rnd (t : Nat) (x : UInt32) (s : S5) : S5 := ⟨rot5 s.a + ff t s.b s.c s.d + s.e + kk t + x, s.a, rot30 s.b, s.c, s.d⟩
/-- The window of sixteen words, one word on. -/
def nextW (m : List UInt32) : List UInt32 := m.tail ++ [rot1 (m.getD 13 0 ^^^ m.getD 8 0 ^^^ m.getD 2 0 ^^^ m.getD 0 0)]
def WW (m : List UInt32) : Nat → List UInt32
  | 0 => m
  | t + 1 => nextW (WW m t)
def Wt (m : List UInt32) (t : Nat) : UInt32 := (WW m t).getD 0 0
def rounds (m : List UInt32) : Nat → S5 → S5
  | 0, s => s
  | t + 1, s => rnd t (Wt m t) (rounds m t s)
def S5.add (h s : S5) : S5 := ⟨h.a + s.a, h.b + s.b, h.c + s.c, h.d + s.d, h.e + s.e⟩
def blk (h : S5) (m : List UInt32) : S5 := h.add (rounds m 80 h)
def be32 (a b c d : UInt8) : UInt32 := a.toUInt32 <<< 24 ||| b.toUInt32 <<< 16 ||| c.toUInt32 <<< 8 ||| d.toUInt32
def word (l : List UInt8) (i : Nat) : UInt32 := be32 (l.getD (4 * i) 0) (l.getD (4 * i + 1) 0) (l.getD (4 * i + 2) 0) (l.getD (4 * i + 3) 0)
def words (l : List UInt8) : List UInt32 := (List.range 16).map (word l)
def blocks : Nat → S5 → List UInt8 → S5
  | 0, h, _ => h
  | n + 1, h, l => blocks n (blk h (words l)) (l.drop 64)
def H0 : S5 := ⟨0x67452301, 0xefcdab89, 0x98badcfe, 0x10325476, 0xc3d2e1f0⟩
/-- A number of so many bytes, the highest first. -/
def beB (n : Nat) : Nat → List UInt8
  | 0 => []
  | k + 1 => UInt8.ofNat (n / 256 ^ k) :: beB n k
def beN (l : List UInt8) : Nat := l.foldl (fun a x => a * 256 + x.toNat) 0
def zeros (n : Nat) : Nat := (119 - n % 64) % 64
def pad (l : List UInt8) : List UInt8 := l ++ [0x80] ++ List.replicate (zeros l.length) 0 ++ beB (8 * l.length) 8
def S5.out (h : S5) : List UInt8 := beB h.a.toNat 4 ++ beB h.b.toNat 4 ++ beB h.c.toNat 4 ++ beB h.d.toNat 4 ++ beB h.e.toNat 4
def sha1Of (l : List UInt8) : List UInt8 := (blocks ((pad l).length / 64) H0 (pad l)).out
/-- HMAC-SHA1. -/
def macKey (key : List UInt8) : List UInt8 := (if key.length > 64 then sha1Of key else key)
def padKey (key : List UInt8) : List UInt8 := macKey key ++ List.replicate (64 - (macKey key).length) 0
def macOf (key data : List UInt8) : List UInt8 :=
  sha1Of ((padKey key).map (· ^^^ 0x5c) ++ sha1Of ((padKey key).map (· ^^^ 0x36) ++ data))

theorem WW_length {m : List UInt32} (hm : m.length = 16) : ∀ t, (WW m t).length = 16
  | 0 => hm
  | t + 1 => by simp [WW, nextW, WW_length hm t]
theorem WW_shift {m : List UInt32} (hm : m.length = 16) (t j : Nat) (hj : j < 15) : (WW m (t + 1)).getD j 0 = (WW m t).getD (j + 1) 0 := by
  have h := WW_length hm t
  simp only [WW, nextW]
  generalize WW m t = l at *
  cases l with
  | nil => simp at h
  | cons x xs =>
    simp only [List.length_cons] at h
    simp only [List.tail_cons, List.getD_eq_getElem?_getD, List.getElem?_cons_succ]
    rw [List.getElem?_append_left (by omega)]
theorem WW_last {m : List UInt32} (hm : m.length = 16) (t : Nat) : (WW m (t + 1)).getD 15 0 = rot1 ((WW m t).getD 13 0 ^^^ (WW m t).getD 8 0 ^^^ (WW m t).getD 2 0 ^^^ (WW m t).getD 0 0) := by
  have h := WW_length hm t
  simp only [WW, nextW]
  generalize WW m t = l at *
  cases l with
  | nil => simp at h
  | cons x xs =>
    simp only [List.length_cons] at h
    have h15 : xs.length = 15 := by omega
    simp only [List.tail_cons]
    rw [List.getD_eq_getElem?_getD (l := xs ++ _), List.getElem?_append_right (by omega), h15]
    simp
theorem WW_get {m : List UInt32} (hm : m.length = 16) : ∀ (j t : Nat), j < 16 → (WW m t).getD j 0 = Wt m (t + j)
  | 0, t, _ => rfl
  | j + 1, t, hj => by
    rw [← WW_shift hm t j (by omega), WW_get hm j (t + 1) (by omega)]
    congr 1; omega
theorem Wt_low {m : List UInt32} (hm : m.length = 16) (t : Nat) (ht : t < 16) : Wt m t = m.getD t 0 := by
  have := WW_get hm t 0 ht
  rw [Nat.zero_add] at this; exact this.symm
theorem Wt_high {m : List UInt32} (hm : m.length = 16) (t : Nat) : Wt m (t + 16) = rot1 (Wt m (t + 13) ^^^ Wt m (t + 8) ^^^ Wt m (t + 2) ^^^ Wt m t) := by
  have h := WW_last hm t
  rw [WW_get hm 15 (t + 1) (by omega), WW_get hm 13 t (by omega), WW_get hm 8 t (by omega), WW_get hm 2 t (by omega), WW_get hm 0 t (by omega)] at h
  rw [show t + 16 = t + 1 + 15 by omega]; exact h
theorem words_length (l : List UInt8) : (words l).length = 16 := by simp [words]
theorem words_get (l : List UInt8) (i : Nat) (h : i < 16) : (words l).getD i 0 = word l i := by
  simp [words, List.getD_eq_getElem?_getD, h]
theorem beB_length (n : Nat) : ∀ k, (beB n k).length = k
  | 0 => rfl
  | k + 1 => by simp [beB, beB_length n k]
theorem out_length (h : S5) : h.out.length = 20 := by simp [S5.out, beB_length]
theorem sha1Of_length (l : List UInt8) : (sha1Of l).length = 20 := out_length _
theorem macKey_length (key : List UInt8) : (macKey key).length ≤ 64 := by
  unfold macKey; split
  · rw [sha1Of_length]; omega
  · omega
theorem padKey_length (key : List UInt8) : (padKey key).length = 64 := by
  have := macKey_length key
  simp [padKey]; omega
theorem macOf_length (key data : List UInt8) : (macOf key data).length = 20 := sha1Of_length _
theorem pad_length (l : List UInt8) : (pad l).length = l.length + 9 + zeros l.length := by
  simp [pad, beB_length]; omega
theorem pad_whole (l : List UInt8) : (pad l).length % 64 = 0 := by
  rw [pad_length]; unfold zeros; omega
/-- The choice: the library's way of saying it. -/
theorem maj_eq (b c d : UInt32) : ((b ||| c) &&& d) ||| (b &&& c) = b &&& c ||| b &&& d ||| c &&& d := by
  apply UInt32.toBitVec_inj.1
  apply BitVec.eq_of_getLsbD_eq
  intro i _
  simp only [UInt32.toBitVec_or, UInt32.toBitVec_and, BitVec.getLsbD_or, BitVec.getLsbD_and]
  cases b.toBitVec.getLsbD i <;> cases c.toBitVec.getLsbD i <;> cases d.toBitVec.getLsbD i <;> rfl
theorem rnd_sum (a b c d e : UInt32) : a + b + c + d + e = a + b + c + e + d := by
  rw [UInt32.add_assoc (a + b + c), UInt32.add_comm d e, ← UInt32.add_assoc]
end Go.Proofs.YtpkipinamlbdoaaGreatDoor
namespace Go.Proofs.YtpkipinamlbdoaaGreatDoor

theorem bit_ext {x y : UInt32} (h : ∀ i, i < 32 → x.toBitVec.getLsbD i = y.toBitVec.getLsbD i) : x = y :=
  UInt32.toBitVec_inj.1 (BitVec.eq_of_getLsbD_eq h)
theorem b_xor (x y : UInt32) (i : Nat) : (x ^^^ y).toBitVec.getLsbD i = (x.toBitVec.getLsbD i ^^ y.toBitVec.getLsbD i) := by simp
theorem b_and (x y : UInt32) (i : Nat) : (x &&& y).toBitVec.getLsbD i = (x.toBitVec.getLsbD i && y.toBitVec.getLsbD i) := by simp
theorem b_or (x y : UInt32) (i : Nat) : (x ||| y).toBitVec.getLsbD i = (x.toBitVec.getLsbD i || y.toBitVec.getLsbD i) := by simp
theorem b_shr8 (x : UInt32) (i : Nat) : (x >>> 8).toBitVec.getLsbD i = x.toBitVec.getLsbD (8 + i) := by simp
theorem b_shr16 (x : UInt32) (i : Nat) : (x >>> 16).toBitVec.getLsbD i = x.toBitVec.getLsbD (16 + i) := by simp
theorem b_shr24 (x : UInt32) (i : Nat) : (x >>> 24).toBitVec.getLsbD i = x.toBitVec.getLsbD (24 + i) := by simp
theorem b_shr1 (x : UInt32) (i : Nat) : (x >>> 1).toBitVec.getLsbD i = x.toBitVec.getLsbD (1 + i) := by simp
theorem b_shl8 (x : UInt32) (i : Nat) (hi : i < 32) : (x <<< 8).toBitVec.getLsbD i = (!decide (i < 8) && x.toBitVec.getLsbD (i - 8)) := by simp [hi, - BitVec.getLsbD_eq_getElem]
theorem b_shl16 (x : UInt32) (i : Nat) (hi : i < 32) : (x <<< 16).toBitVec.getLsbD i = (!decide (i < 16) && x.toBitVec.getLsbD (i - 16)) := by simp [hi, - BitVec.getLsbD_eq_getElem]
theorem b_shl24 (x : UInt32) (i : Nat) (hi : i < 32) : (x <<< 24).toBitVec.getLsbD i = (!decide (i < 24) && x.toBitVec.getLsbD (i - 24)) := by simp [hi, - BitVec.getLsbD_eq_getElem]
theorem b_ff (i : Nat) (hi : i < 32) : (255 : UInt32).toBitVec.getLsbD i = decide (i < 8) := by
  have : ∀ j : Fin 32, (255 : UInt32).toBitVec.getLsbD j.val = decide (j.val < 8) := by decide
  exact this ⟨i, hi⟩
theorem b_one (i : Nat) (hi : i < 32) : (1 : UInt32).toBitVec.getLsbD i = decide (i = 0) := by
  have : ∀ j : Fin 32, (1 : UInt32).toBitVec.getLsbD j.val = decide (j.val = 0) := by decide
  exact this ⟨i, hi⟩
theorem b_zero (i : Nat) : (0 : UInt32).toBitVec.getLsbD i = false := by simp
theorem b_of8 (x : UInt8) (i : Nat) (hi : i < 32) : (x.toUInt32).toBitVec.getLsbD i = x.toBitVec.getLsbD i := by simp [hi]
theorem b_8 (x : UInt8) (i : Nat) (hi : 8 ≤ i) : x.toBitVec.getLsbD i = false := BitVec.getLsbD_of_ge _ _ hi
theorem b_32 (x : UInt32) (i : Nat) (hi : 32 ≤ i) : x.toBitVec.getLsbD i = false := BitVec.getLsbD_of_ge _ _ hi
theorem split4 (x : UInt32) : x = (x &&& (255 : UInt32)) ^^^ (((x >>> 8) &&& (255 : UInt32)) <<< 8) ^^^ (((x >>> 16) &&& (255 : UInt32)) <<< 16) ^^^ ((x >>> 24) <<< 24) := by
  apply bit_ext; intro i hi
  rw [b_xor, b_xor, b_xor, b_and, b_shl8 _ _ hi, b_shl16 _ _ hi, b_shl24 _ _ hi, b_ff i hi]
  rw [b_and, b_and, b_shr8, b_shr16, b_shr24, b_ff (i - 8) (by omega), b_ff (i - 16) (by omega)]
  by_cases h1 : i < 8
  · simp [h1, show i < 16 by omega, show i < 24 by omega]
  · by_cases h2 : i < 16
    · simp [h1, h2, show i < 24 by omega, show i - 8 < 8 by omega, show 8 + (i - 8) = i by omega]
    · by_cases h3 : i < 24
      · simp [h1, h2, h3, show ¬ (i - 8 < 8) by omega, show i - 16 < 8 by omega, show 16 + (i - 16) = i by omega]
      · simp [h1, h2, h3, show ¬ (i - 8 < 8) by omega, show ¬ (i - 16 < 8) by omega, show 24 + (i - 24) = i by omega]
theorem le4 (a b c d : UInt8) : a.toUInt32 ||| b.toUInt32 <<< 8 ||| c.toUInt32 <<< 16 ||| d.toUInt32 <<< 24 = a.toUInt32 ^^^ b.toUInt32 <<< 8 ^^^ c.toUInt32 <<< 16 ^^^ d.toUInt32 <<< 24 := by
  apply bit_ext; intro i hi
  rw [b_xor, b_xor, b_xor, b_or, b_or, b_or, b_shl8 _ _ hi, b_shl16 _ _ hi, b_shl24 _ _ hi, b_of8 _ i hi, b_of8 _ (i-8) (by omega), b_of8 _ (i-16) (by omega), b_of8 _ (i-24) (by omega)]
  by_cases h1 : i < 8
  · simp [h1, show i < 16 by omega, show i < 24 by omega]
  · by_cases h2 : i < 16
    · simp [h1, h2, show i < 24 by omega, b_8 a i (by omega)]
    · by_cases h3 : i < 24
      · simp [h1, h2, h3, b_8 a i (by omega), b_8 b (i - 8) (by omega)]
      · simp [h1, h2, h3, b_8 a i (by omega), b_8 b (i - 8) (by omega), b_8 c (i - 16) (by omega)]
theorem shl_shr8 (b : UInt8) : (b.toUInt32 <<< 8) >>> 8 = b.toUInt32 := by
  apply bit_ext; intro i hi
  rw [b_shr8, b_of8 _ i hi]
  by_cases h : 8 + i < 32
  · rw [b_shl8 _ _ h, show 8 + i - 8 = i by omega, b_of8 _ i hi]; simp
  · rw [b_32 _ _ (by omega), b_8 b i (by omega)]
theorem ff_of8 (b : UInt8) : b.toUInt32 &&& (255 : UInt32) = b.toUInt32 := by
  apply bit_ext; intro i hi
  rw [b_and, b_ff i hi, b_of8 _ i hi]
  by_cases h : i < 8
  · simp [h]
  · simp [h, b_8 b i (by omega)]
theorem split1 (x : UInt32) : x = (x &&& (255 : UInt32)) ^^^ ((x >>> 8) <<< 8) := by
  apply bit_ext; intro i hi
  rw [b_xor, b_and, b_shl8 _ _ hi, b_shr8, b_ff i hi]
  by_cases h1 : i < 8
  · simp [h1]
  · simp [h1, show 8 + (i - 8) = i by omega]
theorem to8_to32 (x : UInt32) : x.toUInt8.toUInt32 = x &&& (255 : UInt32) := by
  apply bit_ext; intro i hi
  rw [b_and, b_ff i hi, b_of8 _ i hi]
  by_cases h1 : i < 8
  · simp [h1]
  · simp [h1]

def crcStep (c : UInt32) : UInt32 := if c &&& 1 == 1 then (c >>> 1) ^^^ 0xedb88320 else c >>> 1
def crcN : Nat → UInt32 → UInt32
  | 0, c => c
  | n + 1, c => crcStep (crcN n c)
def crcByte (c : UInt32) (x : UInt8) : UInt32 := crcN 8 (c ^^^ x.toUInt32)
def crcOf (l : List UInt8) : UInt32 := ~~~ (l.foldl crcByte 0xffffffff)

theorem and1 (x : UInt32) : (x &&& 1 == 1) = x.toBitVec.getLsbD 0 := by
  rw [Bool.eq_iff_iff]
  constructor
  · intro h
    have h' : x &&& 1 = 1 := by simpa using h
    have := b_and x 1 0
    rw [h'] at this
    simpa using this.symm
  · intro h
    have : x &&& 1 = 1 := by
      apply bit_ext; intro i hi
      rw [b_and, b_one i hi]
      by_cases h0 : i = 0
      · subst h0; simp [h]
      · simp [h0]
    simp [this]
def sel (b : Bool) : UInt32 := if b then 0xedb88320 else 0
theorem crcStep_sel (c : UInt32) : crcStep c = (c >>> 1) ^^^ sel (c.toBitVec.getLsbD 0) := by
  unfold crcStep sel
  rw [and1]
  split <;> simp
theorem sel_xor (a b : Bool) : sel (a ^^ b) = sel a ^^^ sel b := by cases a <;> cases b <;> simp [sel]
theorem xor4 (a b c d : UInt32) : (a ^^^ b) ^^^ (c ^^^ d) = (a ^^^ c) ^^^ (b ^^^ d) := by ac_rfl
theorem crcStep_xor (a b : UInt32) : crcStep (a ^^^ b) = crcStep a ^^^ crcStep b := by
  rw [crcStep_sel, crcStep_sel, crcStep_sel, UInt32.shiftRight_xor, b_xor, sel_xor, xor4]
theorem crcN_xor (n : Nat) (a b : UInt32) : crcN n (a ^^^ b) = crcN n a ^^^ crcN n b := by
  induction n with
  | zero => rfl
  | succ n ih => simp only [crcN, ih, crcStep_xor]
theorem crcN_add (n m : Nat) (a : UInt32) : crcN (n + m) a = crcN n (crcN m a) := by
  induction n with
  | zero => simp [crcN]
  | succ n ih => rw [Nat.add_right_comm]; simp only [crcN, ih]
/-- A word whose low byte is zero goes on by a shift. -/
theorem crcN_shift (k : Nat) (hk : k ≤ 8) (y : UInt32) (hy : ∀ i, i < 8 → y.toBitVec.getLsbD i = false) : ∀ i, (crcN k y).toBitVec.getLsbD i = y.toBitVec.getLsbD (i + k) := by
  induction k with
  | zero => intro i; rfl
  | succ k ih =>
    intro i
    have ih' := ih (by omega)
    simp only [crcN]
    rw [crcStep_sel, ih' 0, show 0 + k = k by omega, hy k (by omega)]
    simp only [sel, Bool.false_eq_true, if_false, UInt32.xor_zero]
    rw [b_shr1, ih']
    congr 1; omega
theorem crcN8_shift (y : UInt32) : crcN 8 (y <<< 8) = (y <<< 8) >>> 8 := by
  apply bit_ext; intro i _
  rw [crcN_shift 8 (by omega) _ (fun j hj => by rw [b_shl8 _ _ (by omega)]; simp [hj]), b_shr8, Nat.add_comm]
theorem shl_shr (x : UInt32) : ((x >>> 8) <<< 8) >>> 8 = x >>> 8 := by
  apply bit_ext; intro i hi
  rw [b_shr8]
  by_cases h : 8 + i < 32
  · rw [b_shl8 _ _ h, show 8 + i - 8 = i by omega]; simp
  · rw [b_32 _ _ (by omega), b_shr8, b_32 _ _ (by omega)]
/-- A byte by the table: what the library's simple way does. -/
theorem crcN8_table (x : UInt32) : crcN 8 x = crcN 8 (x &&& (255 : UInt32)) ^^^ (x >>> 8) := by
  conv => lhs; rw [split1 x]
  rw [crcN_xor, crcN8_shift, shl_shr]
theorem byte_table (c : UInt32) (x : UInt8) : crcByte c x = crcN 8 ((c.toUInt8 ^^^ x).toUInt32) ^^^ (c >>> 8) := by
  unfold crcByte
  rw [crcN8_table]
  congr 1
  · congr 1
    apply bit_ext; intro i hi
    rw [b_and, b_xor, b_ff i hi, b_of8 _ i hi, b_of8 _ i hi]
    by_cases h : i < 8
    · simp [h]
    · simp [h, b_8 x i (by omega)]
  · rw [UInt32.shiftRight_xor]
    have : x.toUInt32 >>> 8 = 0 := by
      apply bit_ext; intro i hi
      rw [b_shr8, b_zero]
      by_cases h : 8 + i < 32
      · rw [b_of8 _ _ h, b_8 _ _ (by omega)]
      · exact b_32 _ _ (by omega)
    rw [this, UInt32.xor_zero]
/-- The tables of slicing by 8. -/
def tabW (j : Nat) (i : Nat) : UInt32 := crcN (8 * (j + 1)) (UInt32.ofNat i)
theorem tabW_zero (i : Nat) : tabW 0 i = crcN 8 (UInt32.ofNat i) := rfl
theorem ofNat_toNat8 (x : UInt8) : UInt32.ofNat x.toNat = x.toUInt32 := by
  apply UInt32.toNat_inj.1; rw [UInt32.toNat_ofNat']; simp
theorem ofNat_toNat (x : UInt32) : UInt32.ofNat x.toNat = x := by simp
theorem tabW_succ (j : Nat) (i : Nat) : tabW (j + 1) i = tabW 0 (tabW j i &&& (255 : UInt32)).toNat ^^^ (tabW j i >>> 8) := by
  rw [tabW_zero, ofNat_toNat]
  rw [← crcN8_table]
  unfold tabW
  rw [← crcN_add]
  congr 1; omega
theorem crc8 (c : UInt32) (p0 p1 p2 p3 p4 p5 p6 p7 : UInt8) :
    [p0, p1, p2, p3, p4, p5, p6, p7].foldl crcByte c =
      crcN 64 c ^^^ crcN 64 p0.toUInt32 ^^^ crcN 56 p1.toUInt32 ^^^ crcN 48 p2.toUInt32 ^^^ crcN 40 p3.toUInt32 ^^^ crcN 32 p4.toUInt32 ^^^ crcN 24 p5.toUInt32 ^^^ crcN 16 p6.toUInt32 ^^^ crcN 8 p7.toUInt32 := by
  simp only [List.foldl_cons, List.foldl_nil, crcByte, crcN_xor, ← crcN_add]
theorem crcN_b1 (k : Nat) (y : UInt32) (hy : y &&& (255 : UInt32) = y) : crcN (k + 8) (y <<< 8) = crcN k y := by
  rw [crcN_add, crcN8_shift]
  congr 1
  apply bit_ext; intro i hi
  have hb : ∀ j, j < 32 → 8 ≤ j → y.toBitVec.getLsbD j = false := fun j hj h8 => by
    rw [← hy, b_and, b_ff j hj]; simp; omega
  rw [b_shr8]
  by_cases h : 8 + i < 32
  · rw [b_shl8 _ _ h, show 8 + i - 8 = i by omega]; simp
  · rw [b_32 _ _ (by omega), hb i hi (by omega)]
theorem shl_shl8 (y : UInt32) : (y <<< 8) <<< 8 = y <<< 16 := by
  apply bit_ext; intro i hi
  rw [b_shl8 _ _ hi, b_shl16 _ _ hi, b_shl8 _ _ (by omega)]
  by_cases h : i < 8
  · simp [h, show i < 16 by omega]
  · by_cases h2 : i < 16
    · simp [h, h2, show i - 8 < 8 by omega]
    · simp [h, h2, show ¬ (i - 8 < 8) by omega, show i - 8 - 8 = i - 16 by omega]
theorem shl_shl16 (y : UInt32) : (y <<< 16) <<< 8 = y <<< 24 := by
  apply bit_ext; intro i hi
  rw [b_shl8 _ _ hi, b_shl24 _ _ hi, b_shl16 _ _ (by omega)]
  by_cases h : i < 8
  · simp [h, show i < 24 by omega]
  · by_cases h2 : i < 24
    · simp [h, h2, show i - 8 < 16 by omega]
    · simp [h, h2, show ¬ (i - 8 < 16) by omega, show i - 8 - 16 = i - 24 by omega]
/-- low byte zero, shifted on: a step of eight takes a shift of eight away. -/
theorem crcN8_shl16 (y : UInt32) (hy : y &&& (255 : UInt32) = y) : crcN 8 (y <<< 16) = y <<< 8 := by
  rw [← shl_shl8, crcN8_shift]
  apply bit_ext; intro i hi
  have hb : ∀ j, j < 32 → 8 ≤ j → y.toBitVec.getLsbD j = false := fun j hj h8 => by
    rw [← hy, b_and, b_ff j hj]; simp; omega
  rw [b_shr8]
  by_cases h : 8 + i < 32
  · rw [b_shl8 _ _ h, show 8 + i - 8 = i by omega]; simp
  · rw [b_32 _ _ (by omega), b_shl8 _ _ hi, hb (i - 8) (by omega) (by omega)]; simp
theorem crcN8_shl24 (y : UInt32) (hy : y &&& (255 : UInt32) = y) : crcN 8 (y <<< 24) = y <<< 16 := by
  rw [← shl_shl16, crcN8_shift]
  apply bit_ext; intro i hi
  have hb : ∀ j, j < 32 → 8 ≤ j → y.toBitVec.getLsbD j = false := fun j hj h8 => by
    rw [← hy, b_and, b_ff j hj]; simp; omega
  rw [b_shr8]
  by_cases h : 8 + i < 32
  · rw [b_shl8 _ _ h, show 8 + i - 8 = i by omega]; simp
  · rw [b_32 _ _ (by omega), b_shl16 _ _ hi, hb (i - 16) (by omega) (by omega)]; simp
theorem crcN_b2 (k : Nat) (y : UInt32) (hy : y &&& (255 : UInt32) = y) : crcN (k + 16) (y <<< 16) = crcN k y := by
  rw [show k + 16 = (k + 8) + 8 by omega, crcN_add, crcN8_shl16 y hy, crcN_b1 k y hy]
theorem crcN_b3 (k : Nat) (y : UInt32) (hy : y &&& (255 : UInt32) = y) : crcN (k + 24) (y <<< 24) = crcN k y := by
  rw [show k + 24 = (k + 16) + 8 by omega, crcN_add, crcN8_shl24 y hy, crcN_b2 k y hy]
theorem ff_ff (y : UInt32) : (y &&& (255 : UInt32)) &&& (255 : UInt32) = y &&& (255 : UInt32) := by
  apply bit_ext; intro i hi; rw [b_and, b_and, b_ff i hi]; cases y.toBitVec.getLsbD i <;> simp
theorem shr24_ff (y : UInt32) : (y >>> 24) &&& (255 : UInt32) = y >>> 24 := by
  apply bit_ext; intro i hi; rw [b_and, b_shr24, b_ff i hi]
  by_cases h : i < 8
  · simp [h]
  · simp [h, b_32 y (24 + i) (by omega)]
/-- Eight bytes at a time. -/
theorem slice8 (c : UInt32) (p0 p1 p2 p3 p4 p5 p6 p7 : UInt8) (d : UInt32)
    (hd : d = c ^^^ (p0.toUInt32 ||| p1.toUInt32 <<< 8 ||| p2.toUInt32 <<< 16 ||| p3.toUInt32 <<< 24)) :
    [p0, p1, p2, p3, p4, p5, p6, p7].foldl crcByte c =
      tabW 0 p7.toNat ^^^ tabW 1 p6.toNat ^^^ tabW 2 p5.toNat ^^^ tabW 3 p4.toNat ^^^ tabW 4 (d >>> 24).toNat ^^^ tabW 5 ((d >>> 16) &&& (255 : UInt32)).toNat ^^^ tabW 6 ((d >>> 8) &&& (255 : UInt32)).toNat ^^^ tabW 7 (d &&& (255 : UInt32)).toNat := by
  rw [crc8]
  simp only [tabW, ofNat_toNat8, ofNat_toNat, Nat.reduceAdd, Nat.reduceMul]
  have e1 : crcN 64 d = crcN 64 c ^^^ crcN 64 p0.toUInt32 ^^^ crcN 56 p1.toUInt32 ^^^ crcN 48 p2.toUInt32 ^^^ crcN 40 p3.toUInt32 := by
    rw [hd, le4, crcN_xor, crcN_xor, crcN_xor, crcN_xor]
    rw [crcN_b1 56 _ (ff_of8 p1), crcN_b2 48 _ (ff_of8 p2), crcN_b3 40 _ (ff_of8 p3)]
    ac_rfl
  have e2 : crcN 64 d = crcN 64 (d &&& (255 : UInt32)) ^^^ crcN 56 ((d >>> 8) &&& (255 : UInt32)) ^^^ crcN 48 ((d >>> 16) &&& (255 : UInt32)) ^^^ crcN 40 (d >>> 24) := by
    conv => lhs; rw [split4 d]
    rw [crcN_xor, crcN_xor, crcN_xor]
    rw [crcN_b1 56 _ (ff_ff _), crcN_b2 48 _ (ff_ff _), crcN_b3 40 _ (shr24_ff _)]
  rw [← e1, e2]
  ac_rfl
end Go.Proofs.YtpkipinamlbdoaaGreatDoor
namespace Go.Proofs.YtpkipinamlbdoaaGreatDoor

def num (l : List UInt8) (p s : Nat) : Nat := beN ((l.drop p).take s)
def allOf (n : Nat) : Nat := 4 + (n + 3) / 4 * 4
theorem allOf_ge (n : Nat) : 4 + n ≤ allOf n := by unfold allOf; omega
def attrsF : Nat → List UInt8 → Option (List (Nat × List UInt8))
  | 0, _ => some []
  | f + 1, l => if l.length = 0 then some [] else if l.length < 4 then none else if l.length < allOf (num l 2 2) then none else
      (attrsF f (l.drop (allOf (num l 2 2)))).map ((num l 0 2, (l.drop 4).take (num l 2 2)) :: ·)
theorem attrsF_enough : ∀ (f g : Nat) (l : List UInt8), l.length ≤ f → l.length ≤ g → attrsF f l = attrsF g l
  | 0, 0, _, _, _ => rfl
  | 0, g + 1, l, h, _ => by simp [attrsF, show l.length = 0 by omega]
  | f + 1, 0, l, _, h => by simp [attrsF, show l.length = 0 by omega]
  | f + 1, g + 1, l, hf, hg => by
    have ha := allOf_ge (num l 2 2)
    simp only [attrsF]
    rw [attrsF_enough f g (l.drop (allOf (num l 2 2))) (by simp; omega) (by simp; omega)]
/-- The attributes that fill the bytes, if they do. -/
def attrsL (l : List UInt8) : Option (List (Nat × List UInt8)) := attrsF l.length l
theorem attrsL_nil : attrsL [] = some [] := rfl
theorem attrsL_short (l : List UInt8) (h0 : 0 < l.length) (h4 : l.length < 4) : attrsL l = none := by
  unfold attrsL
  obtain ⟨f, hf⟩ : ∃ f, l.length = f + 1 := ⟨l.length - 1, by omega⟩
  rw [hf, attrsF, if_neg (by omega), if_pos (by omega)]
theorem attrsL_wide (l : List UInt8) (h0 : 0 < l.length) (hw : l.length < allOf (num l 2 2)) : attrsL l = none := by
  unfold attrsL
  obtain ⟨f, hf⟩ : ∃ f, l.length = f + 1 := ⟨l.length - 1, by omega⟩
  rw [hf, attrsF, if_neg (by omega)]
  by_cases h4 : l.length < 4
  · rw [if_pos h4]
  · rw [if_neg h4, if_pos hw]
theorem attrsL_cons (l : List UInt8) (h4 : 4 ≤ l.length) (hw : allOf (num l 2 2) ≤ l.length) :
    attrsL l = (attrsL (l.drop (allOf (num l 2 2)))).map ((num l 0 2, (l.drop 4).take (num l 2 2)) :: ·) := by
  have ha := allOf_ge (num l 2 2)
  unfold attrsL
  obtain ⟨f, hf⟩ : ∃ f, l.length = f + 1 := ⟨l.length - 1, by omega⟩
  rw [hf, attrsF, if_neg (by omega), if_neg (by omega), if_neg (by omega), attrsF_enough f _ _ (by simp; omega) (Nat.le_refl _)]
/-- A message's attributes, if the bytes are one. -/
def decodeL (l : List UInt8) : Option (List (Nat × List UInt8)) :=
  if l.length < 20 ∨ num l 4 4 ≠ 554869826 ∨ l.length < 20 + num l 2 2 then none else attrsL ((l.drop 20).take (num l 2 2))
/-- So many attributes have been read, and what is left. -/
def Left (p : List UInt8) (done : List (Nat × List UInt8)) (q : List UInt8) : Prop := attrsL p = (attrsL q).map (done ++ ·)
theorem Left.start (p : List UInt8) : Left p [] p := by
  unfold Left; cases attrsL p <;> rfl
theorem Left.stop {p : List UInt8} {done : List (Nat × List UInt8)} (h : Left p done []) : attrsL p = some done := by
  unfold Left at h; rw [h, attrsL_nil]; simp
theorem Left.short {p q : List UInt8} {done : List (Nat × List UInt8)} (h : Left p done q) (h0 : 0 < q.length) (h4 : q.length < 4) : attrsL p = none := by
  unfold Left at h; rw [h, attrsL_short q h0 h4]; rfl
theorem Left.wide {p q : List UInt8} {done : List (Nat × List UInt8)} (h : Left p done q) (h0 : 0 < q.length) (hw : q.length < allOf (num q 2 2)) : attrsL p = none := by
  unfold Left at h; rw [h, attrsL_wide q h0 hw]; rfl
theorem Left.step {p q : List UInt8} {done : List (Nat × List UInt8)} (h : Left p done q) (h4 : 4 ≤ q.length) (hw : allOf (num q 2 2) ≤ q.length) :
    Left p (done ++ [(num q 0 2, (q.drop 4).take (num q 2 2))]) (q.drop (allOf (num q 2 2))) := by
  unfold Left at h ⊢; rw [h, attrsL_cons q h4 hw]
  cases attrsL (q.drop (allOf (num q 2 2))) <;> simp
end Go.Proofs.YtpkipinamlbdoaaGreatDoor
namespace Go.Proofs.YtpkipinamlbdoaaGreatDoor

theorem word_take (l m : List UInt8) (i : Nat) (hi : i < 16) (hl : 64 ≤ l.length) : word (l ++ m) i = word l i := by
  unfold word
  have e : ∀ j, j < 64 → (l ++ m).getD j 0 = l.getD j 0 := fun j hj => by
    simp only [List.getD_eq_getElem?_getD]; rw [List.getElem?_append_left (by omega)]
  rw [e _ (by omega), e _ (by omega), e _ (by omega), e _ (by omega)]
theorem words_take (l m : List UInt8) (hl : 64 ≤ l.length) : words (l ++ m) = words l := by
  unfold words
  apply List.map_congr_left
  intro i hi
  exact word_take l m i (by simpa using hi) hl
theorem blocks_more : ∀ (k : Nat) (h : S5) (l m : List UInt8), 64 * k ≤ l.length → blocks k h (l ++ m) = blocks k h l
  | 0, h, l, m, _ => rfl
  | k + 1, h, l, m, hl => by
    rw [blocks, blocks, words_take l m (by omega), List.drop_append_of_le_length (by omega)]
    exact blocks_more k _ _ m (by simp; omega)
theorem blocks_add : ∀ (k j : Nat) (h : S5) (l : List UInt8), blocks (k + j) h l = blocks j (blocks k h l) (l.drop (64 * k))
  | 0, j, h, l => by simp [blocks]
  | k + 1, j, h, l => by
    rw [show k + 1 + j = (k + j) + 1 by omega, blocks, blocks, blocks_add k j, List.drop_drop]
    congr 2; omega
/-- The state behind so many bytes, and the bytes that wait. -/
def stOf (l : List UInt8) : S5 := blocks (l.length / 64) H0 l
def waits (l : List UInt8) : List UInt8 := l.drop (64 * (l.length / 64))
theorem waits_length (l : List UInt8) : (waits l).length = l.length % 64 := by unfold waits; rw [List.length_drop]; omega
theorem stOf_few (l p : List UInt8) (h : l.length % 64 + p.length < 64) : stOf (l ++ p) = stOf l := by
  unfold stOf
  rw [List.length_append, show (l.length + p.length) / 64 = l.length / 64 by omega]
  exact blocks_more _ _ _ _ (by omega)
theorem waits_few (l p : List UInt8) (h : l.length % 64 + p.length < 64) : waits (l ++ p) = waits l ++ p := by
  unfold waits
  rw [List.length_append, show (l.length + p.length) / 64 = l.length / 64 by omega]
  exact List.drop_append_of_le_length (by omega)
theorem stOf_full (l p : List UInt8) (h : l.length % 64 + p.length = 64) : stOf (l ++ p) = blk (stOf l) (words (waits l ++ p)) := by
  unfold stOf waits
  rw [List.length_append, show (l.length + p.length) / 64 = l.length / 64 + 1 by omega, blocks_add, blocks_more _ _ _ _ (by omega)]
  show blk _ (words _) = _
  rw [List.drop_append_of_le_length (by omega)]
theorem stOf_blocks (l p : List UInt8) (h : l.length % 64 = 0) : stOf (l ++ p) = blocks (p.length / 64) (stOf l) p := by
  unfold stOf
  rw [List.length_append, show (l.length + p.length) / 64 = l.length / 64 + p.length / 64 by omega, blocks_add, blocks_more _ _ _ _ (by omega), List.drop_append_of_le_length (by omega)]
  rw [show 64 * (l.length / 64) = l.length by omega, List.drop_length, List.nil_append]
theorem waits_whole (l : List UInt8) (h : l.length % 64 = 0) : waits l = [] := by
  unfold waits; rw [show 64 * (l.length / 64) = l.length by omega, List.drop_length]
theorem stOf_nil : stOf [] = H0 := rfl
theorem waits_nil : waits [] = [] := rfl
/-- The sum. -/
theorem sha1Of_st (l : List UInt8) : sha1Of l = (stOf (pad l)).out := rfl
theorem pad_eq (l : List UInt8) : pad l = l ++ ([0x80] ++ List.replicate (zeros l.length) 0 ++ beB (8 * l.length) 8) := by simp [pad]
end Go.Proofs.YtpkipinamlbdoaaGreatDoor
