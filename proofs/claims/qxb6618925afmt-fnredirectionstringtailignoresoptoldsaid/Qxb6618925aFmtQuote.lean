/-
  Plain law: the text that '%q' writes determines the string ('quote_inj'), and plain printable text stands in it as it is ('quote_plain'). No Go in sight: lists of bytes alone.
-/
import GoSem.Extern.FmtText
import Derived.Stop.FmtQuoteTie
import Derived.Lib.MapLaws
namespace Go.Proofs.Qxb6618925aFmt.Quote
open Go Go.Extern.FmtText

/-! ### Hex digits, read back -/
def hexVal (c : UInt8) : Nat := if c.toNat < 58 then c.toNat - 48 else c.toNat - 87
def num (t : List UInt8) : Nat := t.foldl (fun a c => a * 16 + hexVal c) 0

theorem hexVal_digit (d : Nat) (h : d < 16) : hexVal (digit false d) = d := by
  have : ∀ d : Fin 16, hexVal (digit false d.val) = d.val := by decide
  exact this ⟨d, h⟩

theorem fold_hex (r : Nat) : ∀ (n a : Nat), (hexDigits r n).foldl (fun a c => a * 16 + hexVal c) a = a * 16 ^ n + r % 16 ^ n
  | 0, a => by simp [hexDigits, Nat.mod_one]
  | n + 1, a => by
    rw [hexDigits, List.foldl_cons, fold_hex r n, hexVal_digit _ (Nat.mod_lt _ (by omega)), Nat.mod_pow_succ, Nat.pow_succ, Nat.add_mul]
    have e1 : a * 16 * 16 ^ n = a * (16 ^ n * 16) := by rw [Nat.mul_assoc, Nat.mul_comm 16]
    have e2 : r / 16 ^ n % 16 * 16 ^ n = 16 ^ n * (r / 16 ^ n % 16) := Nat.mul_comm _ _
    omega

theorem num_hex (r n : Nat) (h : r < 16 ^ n) : num (hexDigits r n) = r := by
  rw [num, fold_hex, Nat.zero_mul, Nat.zero_add, Nat.mod_eq_of_lt h]

theorem hex_length (r : Nat) : ∀ n, (hexDigits r n).length = n
  | 0 => rfl
  | n + 1 => by rw [hexDigits, List.length_cons, hex_length r n]

/-! ### One token, read back: its raw bytes and what follows it -/
def width (c : UInt8) : Nat := if c.toNat < 128 then 1 else if c.toNat < 224 then 2 else if c.toNat < 240 then 3 else 4

def uqEsc : List UInt8 → Option (List UInt8 × List UInt8)
  | [] => none
  | e :: X =>
    if e = 120 then some ([UInt8.ofNat (num (X.take 2))], X.drop 2)
    else if e = 117 then some ((Utf8.encode (num (X.take 4))).data.toList, X.drop 4)
    else if e = 85 then some ((Utf8.encode (num (X.take 8))).data.toList, X.drop 8)
    else if e = 97 then some ([7], X)
    else if e = 98 then some ([8], X)
    else if e = 102 then some ([12], X)
    else if e = 110 then some ([10], X)
    else if e = 114 then some ([13], X)
    else if e = 116 then some ([9], X)
    else if e = 118 then some ([11], X)
    else some ([e], X)

def uq : List UInt8 → Option (List UInt8 × List UInt8)
  | [] => none
  | c :: X => if c = 34 then none else if c = 92 then uqEsc X else some ((c :: X).take (width c), (c :: X).drop (width c))

theorem uq_slash (X : List UInt8) : uq (92 :: X) = uqEsc X := by
  rw [uq, if_neg (by decide), if_pos rfl]

theorem uq_hex (e : UInt8) (n r : Nat) (X : List UInt8) (f : Nat → List UInt8) (h : r < 16 ^ n)
    (he : ∀ Y : List UInt8, uqEsc (e :: Y) = some (f (num (Y.take n)), Y.drop n)) : uq (92 :: e :: hexDigits r n ++ X) = some (f r, X) := by
  have hl := hex_length r n
  rw [List.cons_append, List.cons_append, uq_slash, he, List.take_left' hl, List.drop_left' hl, num_hex r n h]

theorem uq_two (e : UInt8) (X : List UInt8) (v : List UInt8) (he : ∀ Y : List UInt8, uqEsc (e :: Y) = some (v, Y)) : uq ([92, e] ++ X) = some (v, X) := by
  rw [List.cons_append, List.cons_append, List.nil_append, uq_slash, he]

/-! ### The runes -/
theorem uq_encode (r : Nat) (X : List UInt8) (hq : r ≠ 34) (hs : r ≠ 92) (hv : r < 55296 ∨ (57343 < r ∧ r ≤ 1114111)) :
    uq ((Utf8.encode (r : Int)).data.toList ++ X) = some ((Utf8.encode (r : Int)).data.toList, X) := by
  have key : ∀ (c : UInt8) (T : List UInt8), c ≠ 34 → c ≠ 92 → width c = T.length + 1 → uq ((c :: T) ++ X) = some (c :: T, X) := by
    intro c T h1 h2 h3
    show (if c = 34 then none else if c = 92 then uqEsc (T ++ X) else some ((c :: (T ++ X)).take (width c), (c :: (T ++ X)).drop (width c))) = _
    rw [if_neg h1, if_neg h2, h3, List.take_succ_cons, List.drop_succ_cons, List.take_left, List.drop_left]
  have ne : ∀ (n : Nat) (v : UInt8), n < 256 → n ≠ v.toNat → UInt8.ofNat n ≠ v := by
    intro n v hn hne e
    have := congrArg UInt8.toNat e
    rw [UInt8.toNat_ofNat_of_lt' (by simpa using hn)] at this
    exact hne this
  have wd : ∀ n : Nat, n < 256 → (UInt8.ofNat n).toNat = n := fun n hn => UInt8.toNat_ofNat_of_lt' (by simpa using hn)
  by_cases c1 : r < 128
  · rw [enc1 r c1]
    exact key _ [] (ne r 34 (by omega) hq) (ne r 92 (by omega) hs) (by unfold width; rw [wd r (by omega), if_pos c1]; rfl)
  by_cases c2 : r < 2048
  · rw [enc2 r c1 c2]
    refine key _ _ (ne _ 34 (by omega) (by show 192 + r / 64 ≠ 34; omega)) (ne _ 92 (by omega) (by show 192 + r / 64 ≠ 92; omega)) ?_
    unfold width; rw [wd _ (by omega), if_neg (by omega), if_pos (by omega)]; rfl
  by_cases c3 : r < 65536
  · rw [enc3 r c2 c3 (by omega)]
    refine key _ _ (ne _ 34 (by omega) (by show 224 + r / 4096 ≠ 34; omega)) (ne _ 92 (by omega) (by show 224 + r / 4096 ≠ 92; omega)) ?_
    unfold width; rw [wd _ (by omega), if_neg (by omega), if_neg (by omega), if_pos (by omega)]; rfl
  · rw [enc4 r c3 (by omega)]
    refine key _ _ (ne _ 34 (by omega) (by show 240 + r / 262144 ≠ 34; omega)) (ne _ 92 (by omega) (by show 240 + r / 262144 ≠ 92; omega)) ?_
    unfold width; rw [wd _ (by omega), if_neg (by omega), if_neg (by omega), if_neg (by omega)]; rfl

theorem uq_rune (r : Nat) (X : List UInt8) (hv : r < 55296 ∨ (57343 < r ∧ r ≤ 1114111)) :
    uq (escRune 34 false r ++ X) = some ((Utf8.encode (r : Int)).data.toList, X) := by
  unfold escRune
  by_cases h1 : (r == 34 || r == 92) = true
  · rw [if_pos h1]
    have h : r = 34 ∨ r = 92 := by simpa using h1
    rcases h with rfl | rfl
    · exact uq_two _ X _ fun Y => rfl
    · exact uq_two _ X _ fun Y => rfl
  rw [if_neg h1]
  have h1' : r ≠ 34 ∧ r ≠ 92 := by simpa using h1
  simp only [Bool.false_eq_true, if_false]
  by_cases h2 : isPrint r = true
  · rw [if_pos h2]; exact uq_encode r X h1'.1 h1'.2 hv
  rw [if_neg h2]
  by_cases h3 : (r == 7) = true
  · rw [if_pos h3]; obtain rfl : r = 7 := by simpa using h3
    exact uq_two _ X _ fun Y => rfl
  rw [if_neg h3]
  by_cases h4 : (r == 8) = true
  · rw [if_pos h4]; obtain rfl : r = 8 := by simpa using h4
    exact uq_two _ X _ fun Y => rfl
  rw [if_neg h4]
  by_cases h5 : (r == 12) = true
  · rw [if_pos h5]; obtain rfl : r = 12 := by simpa using h5
    exact uq_two _ X _ fun Y => rfl
  rw [if_neg h5]
  by_cases h6 : (r == 10) = true
  · rw [if_pos h6]; obtain rfl : r = 10 := by simpa using h6
    exact uq_two _ X _ fun Y => rfl
  rw [if_neg h6]
  by_cases h7 : (r == 13) = true
  · rw [if_pos h7]; obtain rfl : r = 13 := by simpa using h7
    exact uq_two _ X _ fun Y => rfl
  rw [if_neg h7]
  by_cases h8 : (r == 9) = true
  · rw [if_pos h8]; obtain rfl : r = 9 := by simpa using h8
    exact uq_two _ X _ fun Y => rfl
  rw [if_neg h8]
  by_cases h9 : (r == 11) = true
  · rw [if_pos h9]; obtain rfl : r = 11 := by simpa using h9
    exact uq_two _ X _ fun Y => rfl
  rw [if_neg h9]
  by_cases h10 : (decide (r < 32) || r == 127) = true
  · rw [if_pos h10]
    have hr : r < 128 := by
      have : r < 32 ∨ r = 127 := by simpa using h10
      omega
    rw [enc1 r hr]
    exact uq_hex 120 2 r X (fun v => [UInt8.ofNat v]) (by omega) fun Y => rfl
  rw [if_neg h10]
  have hva : Utf8.valid (r : Int) = true := by
    rw [valid_eq]; simp only [Lib.validRune, decide_eq_true_eq]; omega
  rw [hva, if_neg (by decide)]
  by_cases h11 : r < 65536
  · rw [if_pos h11]
    exact uq_hex 117 4 r X (fun v => (Utf8.encode (v : Int)).data.toList) (by omega) fun Y => rfl
  · rw [if_neg h11]
    exact uq_hex 85 8 r X (fun v => (Utf8.encode (v : Int)).data.toList) (by omega) fun Y => rfl

/-! ### The whole text, over lists -/
def step (l : List UInt8) : List UInt8 :=
  if (Lib.decodeL l).2 == 1 && (Lib.decodeL l).1 == 0xFFFD then 92 :: 120 :: hexDigits (l.getD 0 0).toNat 2 else escRune 34 false (Lib.decodeL l).1

def qf : Nat → List UInt8 → List UInt8
  | 0, _ => []
  | f + 1, l => if 0 < l.length then step l ++ qf f (l.drop (Lib.decodeL l).2) else []

theorem arr_drop (b : List UInt8) (pos : Nat) : (arr b).extract pos (arr b).size = ⟨(b.drop pos).toArray⟩ := by
  rw [Lib.extract_eq]
  congr 2
  exact List.take_of_length_le (by simp [arr, ByteArray.size])

theorem decode_drop (b : List UInt8) (pos : Nat) : Utf8.decode (arr b) pos = Lib.decodeL (b.drop pos) := by
  rw [← decode_extract, arr_drop]; rfl

theorem quoteFrom_qf (b : List UInt8) : ∀ fuel pos, quoteFrom 34 false (arr b) fuel pos = qf fuel (b.drop pos)
  | 0, _ => rfl
  | fuel + 1, pos => by
    rw [quoteFrom, qf, quoteFrom_qf b fuel, decode_drop, List.drop_drop]
    have hs : (arr b).size = b.length := by simp [arr, ByteArray.size]
    by_cases h : pos < b.length
    · have hg : (arr b).get! pos = (b.drop pos).getD 0 0 := by
        rw [← Lib.getD_get!' (arr b) pos]
        simp [arr, List.getD]
      rw [if_pos (show pos < (arr b).size by omega), if_pos (show 0 < (b.drop pos).length by rw [List.length_drop]; omega), step, hg]
    · rw [if_neg (show ¬ pos < (arr b).size by omega), if_neg (show ¬ 0 < (b.drop pos).length by rw [List.length_drop]; omega)]

theorem decode_ok (l : List UInt8) (_hl : 0 < l.length) : 1 ≤ (Lib.decodeL l).2 ∧ ((Lib.decodeL l).1 < 55296 ∨ (57343 < (Lib.decodeL l).1 ∧ (Lib.decodeL l).1 ≤ 1114111)) := by
  rw [Lib.decodeL_N]
  refine ⟨?_, Lib.decodeN_valid _ _ _ _ _ (UInt8.toNat_lt _)⟩
  rcases Lib.decodeN_shape l.length (l.getD 0 0).toNat (l.getD 1 0).toNat (l.getD 2 0).toNat (l.getD 3 0).toNat with ⟨_, e⟩ | ⟨_, _, _, _, e⟩ | ⟨_, _, _, _, _, _, e⟩ | ⟨_, _, _, _, _, _, _, e⟩ | e <;> rw [e] <;> simp

theorem of_nums (b : List UInt8) : (nums b).map (fun x => x.toNat.toUInt8) = b := by
  induction b with
  | nil => rfl
  | cons c b ih =>
    simp only [nums, List.map_cons, List.map_map] at ih ⊢
    rw [ih]
    simp

theorem encode_list (r : Nat) : (Utf8.encode (r : Int)).data.toList = Lib.encodeRune (r : Int) := by
  rw [Lib.encodeRune, ← encode_eq, of_nums]

theorem uq_step (l : List UInt8) (hl : 0 < l.length) (X : List UInt8) : uq (step l ++ X) = some (l.take (Lib.decodeL l).2, X) := by
  have hne : l ≠ [] := fun e => by rw [e] at hl; simp at hl
  obtain ⟨_, hv⟩ := decode_ok l hl
  unfold step
  by_cases h : ((Lib.decodeL l).2 == 1 && (Lib.decodeL l).1 == 0xFFFD) = true
  · rw [if_pos h]
    have h' : (Lib.decodeL l).2 = 1 ∧ (Lib.decodeL l).1 = 65533 := by simpa using h
    rw [h'.1, Lib.takeA l hl]
    have := uq_hex 120 2 (l.getD 0 0).toNat X (fun v => [UInt8.ofNat v]) (by have := UInt8.toNat_lt (l.getD 0 0); omega) fun Y => rfl
    rw [this]
    simp
  · rw [if_neg h, uq_rune _ X hv, encode_list, Lib.encode_decode l hne (by
      intro e; apply h; rw [e.1, e.2]; rfl)]

theorem qf_inj : ∀ (f1 f2 : Nat) (l1 l2 : List UInt8), l1.length ≤ f1 → l2.length ≤ f2 → qf f1 l1 ++ [34] = qf f2 l2 ++ [34] → l1 = l2 := by
  have ends : ∀ (f : Nat) (l : List UInt8), l.length ≤ f → [34] = qf f l ++ [34] → l = [] := by
    intro f l hf e
    match f, l with
    | _, [] => rfl
    | 0, c :: l => simp at hf
    | f + 1, c :: l =>
      rw [qf, if_pos (by simp), List.append_assoc] at e
      have := congrArg uq e
      rw [uq_step _ (by simp)] at this
      simp [uq] at this
  intro f1
  induction f1 with
  | zero =>
    intro f2 l1 l2 h1 h2 e
    obtain rfl : l1 = [] := List.eq_nil_of_length_eq_zero (by omega)
    exact (ends f2 l2 h2 e).symm
  | succ f1 ih =>
    intro f2 l1 l2 h1 h2 e
    by_cases c1 : 0 < l1.length
    · rw [qf, if_pos c1, List.append_assoc] at e
      match f2, h2 with
      | 0, h2 =>
        obtain rfl : l2 = [] := List.eq_nil_of_length_eq_zero (by omega)
        have := congrArg uq e
        rw [uq_step _ c1] at this
        simp [uq, qf] at this
      | f2 + 1, h2 =>
        by_cases c2 : 0 < l2.length
        · rw [qf, if_pos c2, List.append_assoc] at e
          have := congrArg uq e
          rw [uq_step _ c1, uq_step _ c2] at this
          simp only [Option.some.injEq, Prod.mk.injEq] at this
          obtain ⟨e1, e2⟩ := this
          have w1 := (decode_ok l1 c1).1
          have w2 := (decode_ok l2 c2).1
          have := ih f2 (l1.drop (Lib.decodeL l1).2) (l2.drop (Lib.decodeL l2).2) (by rw [List.length_drop]; omega) (by rw [List.length_drop]; omega) e2
          rw [← List.take_append_drop (Lib.decodeL l1).2 l1, ← List.take_append_drop (Lib.decodeL l2).2 l2, e1, this]
        · obtain rfl : l2 = [] := List.eq_nil_of_length_eq_zero (by omega)
          have := congrArg uq e
          rw [uq_step _ c1] at this
          simp [uq, qf] at this
    · obtain rfl : l1 = [] := List.eq_nil_of_length_eq_zero (by omega)
      exact (ends f2 l2 h2 (by simpa [qf] using e)).symm

theorem quote_qf (b : List UInt8) : quote false b = 34 :: (qf b.length b ++ [34]) := by
  rw [quote, quoteFrom_qf, List.drop_zero]

/-- Two strings that '%q' writes alike are one. -/
theorem quote_inj (a b : List UInt8) (h : quote false a = quote false b) : a = b := by
  rw [quote_qf, quote_qf] at h
  exact qf_inj _ _ a b (Nat.le_refl _) (Nat.le_refl _) (List.cons.inj h).2

/-! ### Plain printable text -/
def plainByte (c : UInt8) : Bool := decide (32 ≤ c.toNat) && decide (c.toNat ≤ 126) && decide (c.toNat ≠ 34) && decide (c.toNat ≠ 92)

theorem step_plain (c : UInt8) (l : List UInt8) (h : plainByte c = true) : Lib.decodeL (c :: l) = (c.toNat, 1) ∧ step (c :: l) = [c] := by
  simp only [plainByte, Bool.and_eq_true, decide_eq_true_eq] at h
  obtain ⟨⟨⟨h1, h2⟩, h3⟩, h4⟩ := h
  have hd : Lib.decodeL (c :: l) = (c.toNat, 1) := by
    rw [Lib.decodeL_N]
    unfold Lib.decodeN
    rw [if_pos (by simp; omega)]
    simp
  refine ⟨hd, ?_⟩
  rw [step, hd, if_neg (by simp; omega), escRune, if_neg (by simp; omega)]
  have hp : isPrint c.toNat = true := by
    rw [isPrint, if_pos (by omega)]; simp; omega
  simp only [Bool.false_eq_true, if_false]
  rw [if_pos hp, enc1 _ (by omega)]
  simp

theorem qf_plain : ∀ (l : List UInt8) (f : Nat), l.length ≤ f → (∀ c ∈ l, plainByte c = true) → qf f l = l
  | [], f, _, _ => by cases f <;> simp [qf]
  | c :: l, 0, h, _ => by simp at h
  | c :: l, f + 1, h, hp => by
    obtain ⟨hd, hs⟩ := step_plain c l (hp c (by simp))
    rw [qf, if_pos (by simp), hs, hd]
    rw [show (c :: l).drop 1 = l from rfl, qf_plain l f (by simpa using h) (fun x hx => hp x (by simp [hx]))]
    rfl

theorem quote_plain (l : List UInt8) (h : ∀ c ∈ l, plainByte c = true) : quote false l = 34 :: (l ++ [34]) := by
  rw [quote_qf, qf_plain l _ (Nat.le_refl _) h]

end Go.Proofs.Qxb6618925aFmt.Quote
