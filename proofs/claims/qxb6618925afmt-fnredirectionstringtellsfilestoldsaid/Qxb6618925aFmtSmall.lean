/-
  The walks of 'zzHasPrefix' (where it says yes), of 'zzPlainQuoted' and of the two 'zzBytes'.
-/
import Derived.Test.Qxb6618925aFmtRows
import Derived.Test.Qxb6618925aFmtQuote
import Derived.WalkKit
import Derived.WalkSpells
import Derived.WalkLawsBesides
import Derived.Deep.QuietTactic
import Derived.BigQuiet
import Derived.WalkSmall
namespace Go.Proofs.Qxb6618925aFmt
open Go.RowKit

theorem num_at (s : ByteArray) (i : Nat) (h : i < s.size) (v : UInt8) (e : s.data.toList[i]? = some v) : s[i] = v := by
  obtain ⟨⟨l⟩⟩ := s
  have : l[i]? = some v := e
  rw [List.getElem?_eq_some_iff] at this
  obtain ⟨_, h2⟩ := this
  exact h2

theorem pre_num (s p : ByteArray) (T : List UInt8) (hT : s.data.toList = p.data.toList ++ T) (k : Nat) (hp : k < p.size) (hs : k < s.size) :
    ((s[k]'hs).toNat : Int) = ((p[k]'hp).toNat : Int) := by
  have hl : k < p.data.toList.length := by rw [← Lib.size_eq]; exact hp
  have : s.data.toList[k]? = some p[k] := by
    rw [hT, List.getElem?_append_left hl, List.getElem?_eq_getElem hl]
    rfl
  rw [num_at s k hs _ this]

set_option maxHeartbeats 400000 in
theorem pre7 (s p : ByteArray) (T : List UInt8) (hT0 : s.data.toList = p.data.toList ++ T) (w : World) (hs : s.size ≤ 268435456) :
    Calls Tryf.prog 7 #[.string s, .string p] w fun e w' => e = .returned (.bool true) ∧ Below w.heap.size w w' := by
  have hsz : p.size ≤ s.size := by rw [Lib.size_eq, Lib.size_eq, hT0, List.length_append]; omega
  have hT : Hid (_ = _) := hT0
  clear hT0
  have hps : ¬ s.size < p.size := by omega
  go_enter Tryf.func7, Tryf.ntmps7
  go_wp2_with fail
  go_loopw [4, 5] (fun r i wr => ∃ k : Nat, k ≤ p.size ∧ i = .int .i64 k ∧ r = .bool false ∧ Below w.heap.size w wr) (fun _ i _ => p.size - (intOf i).toNat)
  case atStart => exact ⟨0, Nat.zero_le _, rfl, rfl, Below.refl _ _⟩
  case round =>
    obtain ⟨k, hk, rfl, rfl, hb⟩ := hrel
    by_cases hlt : k < p.size
    · have hlt1 : (k : Int) < (p.size : Int) := by omega
      have hlt2 : (k : Int) < (s.size : Int) := by omega
      have hlt3 : k < s.size := by omega
      have v0 := pre_num s p T hT.out k hlt hlt3
      go_wp2_with fail
      go_quiet (fail)
      go_wp2_with fail
      go_roundw
      case rel => exact ⟨k + 1, by omega, by go_num, rfl, below_drewN hb _⟩
      case measure => simp [intOf]; omega
    · go_wp2_with fail
      go_ret
      exact ⟨rfl, hb⟩

theorem take_snoc (s : ByteArray) (k : Nat) (h : k < s.size) : s.data.toList.take (k + 1) = s.data.toList.take k ++ [s[k]] := by
  rw [List.take_succ_eq_append_getElem (by simpa using h)]; rfl

theorem plain_step (s : ByteArray) (k : Nat) (h : k < s.size) (h0 : ∀ c ∈ s.data.toList.take k, Quote.plainByte c = true)
    (h1 : ¬ (s[k].toNat : Int) < 32) (h2 : ¬ 126 < (s[k].toNat : Int)) (h3 : ¬ (s[k].toNat : Int) = 34) (h4 : ¬ (s[k].toNat : Int) = 92) :
    ∀ c ∈ s.data.toList.take (k + 1), Quote.plainByte c = true := by
  intro c hc
  rw [take_snoc s k h, List.mem_append, List.mem_singleton] at hc
  rcases hc with hc | rfl
  · exact h0 c hc
  · simp only [Quote.plainByte, Bool.and_eq_true, decide_eq_true_eq]
    omega

/-- What 'zzPlainQuoted' answers: a bool; where it is true every byte is plain. -/
def PlainAns (s : ByteArray) (e : Ending) : Prop := ∃ b, e = .returned (.bool b) ∧ (b = true → ∀ c ∈ s.data.toList, Quote.plainByte c = true)
theorem plain_no (s : ByteArray) : PlainAns s (.returned (.bool false)) := ⟨false, rfl, fun h => by cases h⟩

set_option maxHeartbeats 400000 in
theorem plain8 (s : ByteArray) (w : World) (hs : s.size ≤ 268435456) :
    Calls Tryf.prog 8 #[.string s] w fun e w' => PlainAns s e ∧ w = w' := by
  go_enter Tryf.func8, Tryf.ntmps8
  go_wp2_with fail
  go_loop [2, 3] (fun r i => ∃ k : Nat, k ≤ s.size ∧ i = .int .i64 k ∧ r = .bool false ∧ Hid (∀ c ∈ s.data.toList.take k, Quote.plainByte c = true)) (fun _ i => s.size - (intOf i).toNat)
  case atStart => exact ⟨0, Nat.zero_le _, rfl, rfl, fun c hc => by simp at hc⟩
  case round =>
    obtain ⟨k, hk, rfl, rfl, hp⟩ := hrel
    by_cases hlt : k < s.size
    · by_cases h1 : (s[k].toNat : Int) < 32
      · go_wp2_with fail
        go_ret
        exact ⟨plain_no s, rfl⟩
      by_cases h2 : 126 < (s[k].toNat : Int)
      · go_wp2_with fail
        go_ret
        exact ⟨plain_no s, rfl⟩
      by_cases h3 : (s[k].toNat : Int) = 34
      · have h3' : ((s[k].toNat : Int) == 34) = true := beq_iff_eq.2 h3
        clear h3
        go_wp2_with fail
        go_ret
        exact ⟨plain_no s, rfl⟩
      have h3' : ((s[k].toNat : Int) == 34) = false := beq_eq_false_iff_ne.2 h3
      by_cases h4 : (s[k].toNat : Int) = 92
      · have h4' : ((s[k].toNat : Int) == 92) = true := beq_iff_eq.2 h4
        clear h4 h3
        go_wp2_with fail
        go_ret
        exact ⟨plain_no s, rfl⟩
      have h4' : ((s[k].toNat : Int) == 92) = false := beq_eq_false_iff_ne.2 h4
      have HS : Hid (∀ c ∈ s.data.toList.take (k + 1), Quote.plainByte c = true) := plain_step s k hlt hp.out h1 h2 h3 h4
      clear h3 h4
      go_wp2_with fail
      go_round
      case rel => exact ⟨k + 1, by omega, by go_num, rfl, HS⟩
      case measure => simp [intOf]; omega
    · have hall : Hid (s.data.toList.take k = s.data.toList) := List.take_of_length_le (by rw [← Lib.size_eq]; omega)
      rw [hall.out] at hp
      go_wp2_with fail
      go_ret
      exact ⟨⟨true, rfl, fun _ => hp.out⟩, rfl⟩

/-- What a 'zzBytes' answers: a bool; where it is true the lengths sum to at most 2^20. -/
def SumAns (n : Nat) (e : Ending) : Prop := ∃ b, e = .returned (.bool b) ∧ (b = true → n ≤ 1048576)
theorem sum_no (n : Nat) : SumAns n (.returned (.bool false)) := ⟨false, rfl, fun h => by cases h⟩

set_option maxHeartbeats 1000000 in
theorem sum5_no (a b t : ByteArray) (b1 b2 b3 b4 : Bool) (n : Int) (sa : Option Addr) (sn sc : Nat) (w : World) (h : ¬ a.size + b.size + t.size + sn ≤ 1048576) :
    Calls Tryf.prog 5 #[.string a, .string b, .string t, .bool b1, .bool b2, .bool b3, .bool b4, .int .i64 n, .slice sa sn sc] w fun e w' => e = .returned (.bool false) ∧ w = w' := by
  by_cases h1 : (1048576 : Int) < (a.size : Int)
  · go_enter Tryf.func5, Tryf.ntmps5
    go_wp2_with fail
    go_ret
    exact ⟨rfl, rfl⟩
  by_cases h2 : (1048576 : Int) < (b.size : Int)
  · go_enter Tryf.func5, Tryf.ntmps5
    go_wp2_with fail
    go_ret
    exact ⟨rfl, rfl⟩
  by_cases h3 : (1048576 : Int) < (a.size : Int) + (b.size : Int)
  · go_enter Tryf.func5, Tryf.ntmps5
    go_wp2_with fail
    go_ret
    exact ⟨rfl, rfl⟩
  by_cases h4 : (1048576 : Int) < (t.size : Int)
  · go_enter Tryf.func5, Tryf.ntmps5
    go_wp2_with fail
    go_ret
    exact ⟨rfl, rfl⟩
  by_cases h5 : (1048576 : Int) < (a.size : Int) + (b.size : Int) + (t.size : Int)
  · go_enter Tryf.func5, Tryf.ntmps5
    go_wp2_with fail
    go_ret
    exact ⟨rfl, rfl⟩
  by_cases h6 : (1048576 : Int) < (sn : Int)
  · go_enter Tryf.func5, Tryf.ntmps5
    go_wp2_with fail
    go_ret
    exact ⟨rfl, rfl⟩
  have h7 : (1048576 : Int) < (a.size : Int) + (b.size : Int) + (t.size : Int) + (sn : Int) := by omega
  go_enter Tryf.func5, Tryf.ntmps5
  go_wp2_with fail
  go_ret
  exact ⟨rfl, rfl⟩

set_option maxHeartbeats 1000000 in
theorem sum5_none (a b t : ByteArray) (b1 b2 b3 b4 : Bool) (n : Int) (sa : Option Addr) (sc : Nat) (w : World) (h : a.size + b.size + t.size ≤ 1048576) :
    Calls Tryf.prog 5 #[.string a, .string b, .string t, .bool b1, .bool b2, .bool b3, .bool b4, .int .i64 n, .slice sa 0 sc] w fun e w' => SumAns (a.size + b.size + t.size + 0) e ∧ w = w' := by
  have f1 : ¬ (1048576 : Int) < (a.size : Int) := by omega
  have f2 : ¬ (1048576 : Int) < (b.size : Int) := by omega
  have f3 : ¬ (1048576 : Int) < (a.size : Int) + (b.size : Int) := by omega
  have f4 : ¬ (1048576 : Int) < (t.size : Int) := by omega
  have f5 : ¬ (1048576 : Int) < (a.size : Int) + (b.size : Int) + (t.size : Int) := by omega
  go_enter Tryf.func5, Tryf.ntmps5
  go_wp2_with fail
  go_loop [18, 19, 20] (fun r z i => i = .int .i64 0 ∧ r = .bool false ∧ z = .int .i64 ((a.size : Int) + (b.size : Int) + (t.size : Int))) (fun _ _ _ => 0)
  case atStart => exact ⟨rfl, rfl, rfl⟩
  case round =>
    obtain ⟨rfl, rfl, rfl⟩ := hrel
    go_wp2_with fail
    go_ret
    exact ⟨⟨true, rfl, fun _ => by omega⟩, rfl⟩

set_option maxHeartbeats 1000000 in
theorem sum5_some (a b t : ByteArray) (b1 b2 b3 b4 : Bool) (n : Int) (g off : Nat) (sn sc : Nat) (f : Nat → ByteArray) (w : World) (h : a.size + b.size + t.size + sn ≤ 1048576)
    (hc : ∀ j, j < sn → w.cell? ⟨g, off + j, none⟩ = some (.string (f j))) :
    Calls Tryf.prog 5 #[.string a, .string b, .string t, .bool b1, .bool b2, .bool b3, .bool b4, .int .i64 n, .slice (some ⟨g, off, none⟩) sn sc] w fun e w' => SumAns (a.size + b.size + t.size + sn) e ∧ w = w' := by
  have f1 : ¬ (1048576 : Int) < (a.size : Int) := by omega
  have f2 : ¬ (1048576 : Int) < (b.size : Int) := by omega
  have f3 : ¬ (1048576 : Int) < (a.size : Int) + (b.size : Int) := by omega
  have f4 : ¬ (1048576 : Int) < (t.size : Int) := by omega
  have f5 : ¬ (1048576 : Int) < (a.size : Int) + (b.size : Int) + (t.size : Int) := by omega
  have f6 : ¬ (1048576 : Int) < (sn : Int) := by omega
  have f7 : ¬ (1048576 : Int) < (a.size : Int) + (b.size : Int) + (t.size : Int) + (sn : Int) := by omega
  have HC : Hid (∀ j, j < sn → w.cell? ⟨g, off + j, none⟩ = some (.string (f j))) := hc
  clear hc
  go_enter Tryf.func5, Tryf.ntmps5
  go_wp2_with fail
  go_loop [18, 19, 20] (fun r z i => ∃ k m : Nat, k ≤ sn ∧ m ≤ 1048576 ∧ i = .int .i64 k ∧ r = .bool false ∧ z = .int .i64 m) (fun _ _ i => sn - (intOf i).toNat)
  case atStart => exact ⟨0, a.size + b.size + t.size + sn, Nat.zero_le _, h, rfl, rfl, by go_num⟩
  case round =>
    obtain ⟨k, m, hk, hm, rfl, rfl, rfl⟩ := hrel
    by_cases hlt : k < sn
    · have hck := HC.out k hlt
      generalize f k = x at hck
      by_cases g1 : (1048576 : Int) < (x.size : Int)
      · go_wp2_with fail
        go_ret
        exact ⟨sum_no _, rfl⟩
      by_cases g2 : (1048576 : Int) < (m : Int) + (x.size : Int)
      · go_wp2_with fail
        go_ret
        exact ⟨sum_no _, rfl⟩
      go_wp2_with fail
      go_round
      case rel => exact ⟨k + 1, m + x.size, by omega, by omega, by go_num, rfl, by go_num⟩
      case measure => simp [intOf]; omega
    · go_wp2_with fail
      go_ret
      exact ⟨⟨true, rfl, fun _ => h⟩, rfl⟩

set_option maxHeartbeats 1000000 in
theorem sum9_no (a b t : ByteArray) (b1 b2 b3 b4 : Bool) (n : Int) (sa : Option Addr) (sn sc : Nat) (w : World) (h : ¬ a.size + b.size + t.size + sn ≤ 1048576) :
    Calls Tryf.prog 9 #[.string a, .string b, .string t, .bool b1, .bool b2, .bool b3, .bool b4, .int .i64 n, .slice sa sn sc] w fun e w' => e = .returned (.bool false) ∧ w = w' := by
  by_cases h1 : (1048576 : Int) < (a.size : Int)
  · go_enter Tryf.func9, Tryf.ntmps9
    go_wp2_with fail
    go_ret
    exact ⟨rfl, rfl⟩
  by_cases h2 : (1048576 : Int) < (b.size : Int)
  · go_enter Tryf.func9, Tryf.ntmps9
    go_wp2_with fail
    go_ret
    exact ⟨rfl, rfl⟩
  by_cases h3 : (1048576 : Int) < (a.size : Int) + (b.size : Int)
  · go_enter Tryf.func9, Tryf.ntmps9
    go_wp2_with fail
    go_ret
    exact ⟨rfl, rfl⟩
  by_cases h4 : (1048576 : Int) < (t.size : Int)
  · go_enter Tryf.func9, Tryf.ntmps9
    go_wp2_with fail
    go_ret
    exact ⟨rfl, rfl⟩
  by_cases h5 : (1048576 : Int) < (a.size : Int) + (b.size : Int) + (t.size : Int)
  · go_enter Tryf.func9, Tryf.ntmps9
    go_wp2_with fail
    go_ret
    exact ⟨rfl, rfl⟩
  by_cases h6 : (1048576 : Int) < (sn : Int)
  · go_enter Tryf.func9, Tryf.ntmps9
    go_wp2_with fail
    go_ret
    exact ⟨rfl, rfl⟩
  have h7 : (1048576 : Int) < (a.size : Int) + (b.size : Int) + (t.size : Int) + (sn : Int) := by omega
  go_enter Tryf.func9, Tryf.ntmps9
  go_wp2_with fail
  go_ret
  exact ⟨rfl, rfl⟩

set_option maxHeartbeats 1000000 in
theorem sum9_none (a b t : ByteArray) (b1 b2 b3 b4 : Bool) (n : Int) (sa : Option Addr) (sc : Nat) (w : World) (h : a.size + b.size + t.size ≤ 1048576) :
    Calls Tryf.prog 9 #[.string a, .string b, .string t, .bool b1, .bool b2, .bool b3, .bool b4, .int .i64 n, .slice sa 0 sc] w fun e w' => SumAns (a.size + b.size + t.size + 0) e ∧ w = w' := by
  have f1 : ¬ (1048576 : Int) < (a.size : Int) := by omega
  have f2 : ¬ (1048576 : Int) < (b.size : Int) := by omega
  have f3 : ¬ (1048576 : Int) < (a.size : Int) + (b.size : Int) := by omega
  have f4 : ¬ (1048576 : Int) < (t.size : Int) := by omega
  have f5 : ¬ (1048576 : Int) < (a.size : Int) + (b.size : Int) + (t.size : Int) := by omega
  go_enter Tryf.func9, Tryf.ntmps9
  go_wp2_with fail
  go_loop [18, 19, 20] (fun r z i => i = .int .i64 0 ∧ r = .bool false ∧ z = .int .i64 ((a.size : Int) + (b.size : Int) + (t.size : Int))) (fun _ _ _ => 0)
  case atStart => exact ⟨rfl, rfl, rfl⟩
  case round =>
    obtain ⟨rfl, rfl, rfl⟩ := hrel
    go_wp2_with fail
    go_ret
    exact ⟨⟨true, rfl, fun _ => by omega⟩, rfl⟩

set_option maxHeartbeats 1000000 in
theorem sum9_some (a b t : ByteArray) (b1 b2 b3 b4 : Bool) (n : Int) (g off : Nat) (sn sc : Nat) (f : Nat → ByteArray) (w : World) (h : a.size + b.size + t.size + sn ≤ 1048576)
    (hc : ∀ j, j < sn → w.cell? ⟨g, off + j, none⟩ = some (.string (f j))) :
    Calls Tryf.prog 9 #[.string a, .string b, .string t, .bool b1, .bool b2, .bool b3, .bool b4, .int .i64 n, .slice (some ⟨g, off, none⟩) sn sc] w fun e w' => SumAns (a.size + b.size + t.size + sn) e ∧ w = w' := by
  have f1 : ¬ (1048576 : Int) < (a.size : Int) := by omega
  have f2 : ¬ (1048576 : Int) < (b.size : Int) := by omega
  have f3 : ¬ (1048576 : Int) < (a.size : Int) + (b.size : Int) := by omega
  have f4 : ¬ (1048576 : Int) < (t.size : Int) := by omega
  have f5 : ¬ (1048576 : Int) < (a.size : Int) + (b.size : Int) + (t.size : Int) := by omega
  have f6 : ¬ (1048576 : Int) < (sn : Int) := by omega
  have f7 : ¬ (1048576 : Int) < (a.size : Int) + (b.size : Int) + (t.size : Int) + (sn : Int) := by omega
  have HC : Hid (∀ j, j < sn → w.cell? ⟨g, off + j, none⟩ = some (.string (f j))) := hc
  clear hc
  go_enter Tryf.func9, Tryf.ntmps9
  go_wp2_with fail
  go_loop [18, 19, 20] (fun r z i => ∃ k m : Nat, k ≤ sn ∧ m ≤ 1048576 ∧ i = .int .i64 k ∧ r = .bool false ∧ z = .int .i64 m) (fun _ _ i => sn - (intOf i).toNat)
  case atStart => exact ⟨0, a.size + b.size + t.size + sn, Nat.zero_le _, h, rfl, rfl, by go_num⟩
  case round =>
    obtain ⟨k, m, hk, hm, rfl, rfl, rfl⟩ := hrel
    by_cases hlt : k < sn
    · have hck := HC.out k hlt
      generalize f k = x at hck
      by_cases g1 : (1048576 : Int) < (x.size : Int)
      · go_wp2_with fail
        go_ret
        exact ⟨sum_no _, rfl⟩
      by_cases g2 : (1048576 : Int) < (m : Int) + (x.size : Int)
      · go_wp2_with fail
        go_ret
        exact ⟨sum_no _, rfl⟩
      go_wp2_with fail
      go_round
      case rel => exact ⟨k + 1, m + x.size, by omega, by omega, by go_num, rfl, by go_num⟩
      case measure => simp [intOf]; omega
    · go_wp2_with fail
      go_ret
      exact ⟨⟨true, rfl, fun _ => h⟩, rfl⟩
end Go.Proofs.Qxb6618925aFmt
