/-
  The walk of 'FnSwapScriptPermutesAndKeepsIndex' (function 6).
-/
import Derived.Test.Qxb6618956aInv
import Derived.Laws.CopyOwn
import Derived.Deep.RegionWith
namespace Go.Proofs.Qxb6618956a
open Go.RowKit

theorem info3 : (Try.prog.info? 3).map (fun i => (i.zero, i.size, i.bytes)) = some (some (.int .i64 0), 1, 8) := by kernel_rfl
theorem info29 : (Try.prog.info? 29).map (fun i => (i.zero, i.size, i.bytes)) = some (some (.int .u64 0), 1, 8) := by kernel_rfl
theorem copy3 : (Try.prog.info? 3).map (·.size) = some 1 := by kernel_rfl
theorem copy29 : (Try.prog.info? 29).map (·.size) = some 1 := by kernel_rfl

theorem own_block {w : World} {base g n : Nat} {e : TypeId} {xs : List Value} (h : w.ownsRow base e 1 (.slice (some ⟨g, 0, none⟩) n n) n xs) :
    ∃ cur : List Value, w.heap[g]? = some (.cells cur.toArray e (0, 0)) ∧ cur.length = n := by
  obtain ⟨_, ⟨h, _⟩ | ⟨g', cap, cur, hv, _, hc, _, _, hs, _⟩⟩ := h
  · cases h
  · cases hv
    exact ⟨cur.toList, by simpa using hc, by simpa using hs⟩

/-- The cells of a row of integers. -/
def ints (k : IntKind) (n : Nat) (f : Nat → Int) : List Value := (List.range n).map fun j => Value.int k (f j)
theorem ints_length (k : IntKind) (n : Nat) (f : Nat → Int) : (ints k n f).length = n := by simp [ints]
theorem ints_one (k : IntKind) (n : Nat) (f : Nat → Int) : ∀ v ∈ ints k n f, v.oneCell' = true := by
  intro v hv
  simp only [ints, List.mem_map] at hv
  obtain ⟨j, _, rfl⟩ := hv
  rfl
theorem copied {w : World} {g n : Nat} {k : IntKind} {e : TypeId} {cur : List Value} {f : Nat → Int} (hg : w.heap[g]? = some (.cells (splice cur 0 (ints k n f)).toArray e (0, 0))) :
    ∀ j, j < n → w.cell? ⟨g, j, none⟩ = some (.int k (f j)) := by
  intro j hj
  refine cell_of hg ?_
  rw [splice, List.take_zero, List.nil_append, List.getElem?_toArray, List.getElem?_append_left (by rw [ints_length]; exact hj)]
  simp [ints, hj]
theorem src_cells {w w0 : World} {x : Addr} {sn : Nat} {k : IntKind} {f : Nat → Int} (hc : ∀ j, j < sn → w.cell? (x.add j) = some (.int k (f j))) (hb : Below w.heap.size w w0) :
    ∀ j v, (ints k sn f)[j]? = some v → w0.cell? (x.add j) = some v := by
  intro j v hv
  have hj : j < sn := by
    have := (List.getElem?_eq_some_iff.1 hv).1
    rwa [ints_length] at this
  have e : v = .int k (f j) := by simpa [ints, hj] using hv.symm
  rw [e]
  exact cell_later hb (hc j hj)
theorem lt_of_heap {w : World} {g : Nat} {o : Obj} (h : w.heap[g]? = some o) : g < w.heap.size := by
  have := (Array.getElem?_eq_some_iff.1 h).1
  exact this

/-- While the permutation is laid. -/
def PInv (w8 : World) (n : Nat) (ps rs : Nat → Int) (k : Nat) (wr : World) : Prop :=
  ∃ w9, NewInv w8 n ps rs n w9 ∧ Below w9.heap.size w9 wr ∧ ∃ pc : Array Value, wr.heap[w8.heap.size + 1 + 2 * n]? = some (.cells pc 3 (0, 0)) ∧ pc.size = n ∧ ∀ j, j < k → pc[j]? = some (.int .i64 (j : Nat))

theorem PInv.start {w8 w9 : World} {n : Nat} {ps rs : Nat → Int} (h : NewInv w8 n ps rs n w9) : PInv w8 n ps rs 0 (w9.alloc (.cells (madeCells #[.int .i64 0] n) 3)) := by
  refine ⟨w9, h, (Below.refl _ _).alloc (Nat.le_refl _) _, madeCells #[.int .i64 0] n, ?_, size_madeCells _ _, fun j hj => by omega⟩
  rw [← h.2.1]
  show (w9.heap.push _)[w9.heap.size]? = _
  simp
theorem PInv.slot {w8 wr : World} {n k : Nat} {ps rs : Nat → Int} (h : PInv w8 n ps rs k wr) {j : Nat} (hj : j < n) : (∃ v, wr.cell? ⟨w8.heap.size + 1 + 2 * n, j, none⟩ = some v) ∧ wr.frozen? ⟨w8.heap.size + 1 + 2 * n, j, none⟩ = false := by
  obtain ⟨_, _, _, pc, hp, hs, _⟩ := h
  exact ⟨⟨pc[j]'(by omega), cell_of hp (by simp)⟩, frozen_of hp⟩
theorem PInv.step {w8 wr : World} {n k : Nat} {ps rs : Nat → Int} (h : PInv w8 n ps rs k wr) (hk : k < n) : PInv w8 n ps rs (k + 1) (wr.setCell ⟨w8.heap.size + 1 + 2 * n, k, none⟩ (.int .i64 (k : Nat))) := by
  obtain ⟨w9, h9, hb, pc, hp, hs, hc⟩ := h
  refine ⟨w9, h9, hb.setCell (by show w9.heap.size ≤ w8.heap.size + 1 + 2 * n; rw [h9.2.1]; omega) _, pc.setIfInBounds k (.int .i64 (k : Nat)), heap_set hp, by simp [hs], ?_⟩
  intro j hj
  by_cases e : j = k
  · subst e; simp [hs, hk]
  · rw [Array.getElem?_setIfInBounds_ne (Ne.symm e)]; exact hc j (by omega)
theorem PInv.done {w8 wr : World} {n : Nat} {ps rs : Nat → Int} (h : PInv w8 n ps rs n wr) : SInv w8 n ps rs (fun k => k) (fun k => k) wr := by
  obtain ⟨w9, ⟨hb8, hs8, ⟨qc, hq, hqs, hqk⟩, hx⟩, hb, pc, hp, hps, hc⟩ := h
  refine ⟨hb8.trans (hb.mono hb8.size), fun k hk => hk, fun k l _ _ e => e, fun k hk => hk, ⟨qc, ?_, hqs, hqk⟩, ⟨pc, hp, hps, hc⟩, fun k hk => ⟨.chan (some (w8.heap.size + 1 + 2 * k)), ?_⟩⟩
  · rw [hb.block _ (by omega)]; exact hq
  · rw [hb.block _ (by omega)]; exact hx k hk

theorem upd_step {w8 w : World} {n : Nat} {ps rs : Nat → Int} {π : Nat → Nat} {a b : Nat} (h : SInv w8 n ps rs (fun k => π (sw a b k)) π w) (ha : a < n) (hb : b < n) :
    SInv w8 n ps rs (fun k => π (sw a b k)) (fun k => π (sw a b k)) ((w.setCell ⟨w8.heap.size + 1 + 2 * n, a, none⟩ (.int .i64 (π b : Nat))).setCell ⟨w8.heap.size + 1 + 2 * n, b, none⟩ (.int .i64 (π a : Nat))) := by
  have := (h.set (a := a) (h.ltm b hb)).set (a := b) (h.ltm a ha)
  rwa [upd_sw] at this
theorem SInv.drew {w8 w : World} {n : Nat} {ps rs : Nat → Int} {πq πm : Nat → Nat} (h : SInv w8 n ps rs πq πm w) : SInv w8 n ps rs πq πm w.drew :=
  ⟨h.below.drew, h.ltq, h.inj, h.ltm, h.queue, h.perm, h.waiter⟩
theorem cell_lt {w : World} {b o : Nat} {v : Value} (h : w.cell? ⟨b, o, none⟩ = some v) : b < w.heap.size := by
  by_cases hb : b < w.heap.size
  · exact hb
  · simp [World.cell?, Array.getElem?_eq_none (by omega : w.heap.size ≤ b)] at h
theorem set_some {w : World} {p q : Addr} {x v : Value} (h : w.cell? q = some v) : ∃ v', (w.setCell p x).cell? q = some v' := by
  by_cases e : p = q
  · subst e; exact ⟨x, World.cell?_setCell_same w p x h⟩
  · exact ⟨v, (World.cell?_setCell_other w p q x e).trans h⟩

/-- Some bool. -/
def BoolAns (e : Ending) : Prop := ∃ b, e = .returned (.bool b)

set_option maxHeartbeats 1000000 in
theorem bytes16 (s0 s1 s2 s3 : Option Addr) (n0 n1 n2 n3 c0 c1 c2 c3 : Nat) (w : World) :
    Calls Try.prog 16 #[.slice s0 n0 c0, .slice s1 n1 c1, .slice s2 n2 c2, .slice s3 n3 c3] w fun e w' => BoolAns e ∧ w = w' := by
  go_enter Try.func16, Try.ntmps16
  go_wp2_with fail
  all_goals
    go_ret
    exact ⟨⟨_, rfl⟩, rfl⟩

set_option maxHeartbeats 4000000 in
set_option maxRecDepth 100000 in
theorem main6 (x0 x1 : Addr) (n c0 c1 b2 o2 b3 o3 m c2 c3 : Nat) (ps rs iz jz : Nat → Int) (w : World) (hn : n ≤ 65536) (hm : m ≤ 65536) (hsum : n + n + m + m ≤ 131072)
    (H0 : Hid (∀ j, j < n → w.cell? (x0.add j) = some (.int .i64 (ps j)))) (H1 : Hid (∀ j, j < n → w.cell? (x1.add j) = some (.int .u64 (rs j))))
    (H2 : Hid (∀ j, j < m → w.cell? ⟨b2, o2 + j, none⟩ = some (.int .i64 (iz j)))) (H3 : Hid (∀ j, j < m → w.cell? ⟨b3, o3 + j, none⟩ = some (.int .i64 (jz j)))) :
    Calls Try.prog 6 #[.slice (some x0) n c0, .slice (some x1) n c1, .slice (some ⟨b2, o2, none⟩) m c2, .slice (some ⟨b3, o3, none⟩) m c3] w fun e w' => e = .returned (.bool true) ∧ Below w.heap.size w w' := by
  have f1 : ¬ (65536 : Int) < (n : Int) := by omega
  have f2 : ¬ (65536 : Int) < (m : Int) := by omega
  have f3 : ¬ (131072 : Int) < (n : Int) + (n : Int) + (m : Int) + (m : Int) := by omega
  have d1 : decide ((65536 : Int) < (n : Int)) = false := decide_eq_false f1
  have d2 : decide ((65536 : Int) < (m : Int)) = false := decide_eq_false f2
  have d3 : decide ((131072 : Int) < (n : Int) + (n : Int) + (m : Int) + (m : Int)) = false := decide_eq_false f3
  obtain ⟨i3, hi3, hy0, hy1, hy2⟩ := info_parts info3
  obtain ⟨i29, hi29, hz0, hz1, hz2⟩ := info_parts info29
  go_enter Try.func6, Try.ntmps6
  go_wp2_with fail
  refine (bytes16 _ _ _ _ _ _ _ _ _ _ _ _ _).mono ?_
  rintro e w' ⟨⟨b, rfl⟩, rfl⟩
  cases b
  · go_wp2_with fail
    go_ret
    exact ⟨rfl, Below.refl _ _⟩
  go_wp2_with (first | (at_make; refine wpList_make_full _ rfl (.tmp 74) (.tmp 74) 22 rfl w.heap.size 3 i3 (.int .i64 0) 1 Try.underlying22 hi3 hy0 hy1 _ _ _ _ n rfl rfl (by omega) (by omega) (by rw [hy2]; omega) (by unfold maxLen; omega) (Nat.le_refl _) ?_; intro w1 hown1 hgrow1; obtain ⟨cur1, hg1, hcl1⟩ := own_block hown1; have HG1 : Hid (_ = _) := hg1; clear hg1; have hb1 : Below w.heap.size w w1 := (Below.refl _ _).grown hgrow1 (Nat.le_refl _) (by simp); clear hown1 hgrow1) | (at_make; refine wpList_make_full _ rfl (.tmp 83) (.tmp 83) 23 rfl w2.heap.size 29 i29 (.int .u64 0) 1 Try.underlying23 hi29 hz0 hz1 _ _ _ _ n rfl rfl (by omega) (by omega) (by rw [hz2]; omega) (by unfold maxLen; omega) (Nat.le_refl _) ?_; intro w3 hown3 hgrow3; obtain ⟨cur3, hg3, hcl3⟩ := own_block hown3; have HG3 : Hid (_ = _) := hg3; clear hg3; have hb3 : Below w2.heap.size w2 w3 := (Below.refl _ _).grown hgrow3 (Nat.le_refl _) (by simp); clear hown3 hgrow3) | (refine wpList_copy_splice rfl (.tmp 76) (.tmp 77) 22 22 rfl 3 Try.underlying22 copy3 _ _ _ _ _ _ rfl rfl w.heap.size 0 cur1 3 HG1.out (ints .i64 n ps) (by rw [ints_length]; simp) (fun _ => ⟨rfl, x0, rfl, src_cells H0.out hb1⟩) (by rw [ints_length]; omega) (ints_one _ _ _) w.heap.size w hb1 (Nat.le_refl _) ?_; intro w2 hg2 hb2; rw [ints_length]) | (refine wpList_copy_splice rfl (.tmp 85) (.tmp 86) 23 23 rfl 29 Try.underlying23 copy29 _ _ _ _ _ _ rfl rfl w2.heap.size 0 cur3 29 HG3.out (ints .u64 n rs) (by rw [ints_length]; simp) (fun _ => ⟨rfl, x1, rfl, src_cells H1.out (hb2.trans (hb3.mono hb2.size))⟩) (by rw [ints_length]; omega) (ints_one _ _ _) w2.heap.size w2 hb3 (Nat.le_refl _) ?_; intro w8 hg8 hb8; rw [ints_length]))
  have hbw8 : Below w.heap.size w w8 := hb2.trans (hb8.mono hb2.size)
  have y1 : w.heap.size < w2.heap.size := lt_of_heap hg2.out
  have y2 : w2.heap.size < w8.heap.size := lt_of_heap hg8.out
  have CP : Hid (∀ j, j < n → w8.cell? ⟨w.heap.size, j, none⟩ = some (.int .i64 (ps j))) := fun j hj => (hb8.cell (p := ⟨w.heap.size, j, none⟩) y1).trans (copied hg2.out j hj)
  have CA : Hid (∀ j, j < n → w8.cell? ⟨w2.heap.size, j, none⟩ = some (.int .u64 (rs j))) := copied hg8.out
  have C2 : Hid (∀ j, j < m → w8.cell? ⟨b2, o2 + j, none⟩ = some (.int .i64 (iz j))) := fun j hj => cell_later hbw8 (H2.out j hj)
  have C3 : Hid (∀ j, j < m → w8.cell? ⟨b3, o3 + j, none⟩ = some (.int .i64 (jz j))) := fun j hj => cell_later hbw8 (H3.out j hj)
  clear hg2 hg8 HG1 HG3 hb1 hb3 hb8
  go_loop [8, 12] (fun r i => ∃ t : Nat, t ≤ m ∧ i = .int .i64 t ∧ r = .bool false ∧ Hid (∀ s, s < t → (0 ≤ iz s ∧ iz s < n) ∧ 0 ≤ jz s ∧ jz s < n)) (fun _ i => m - (intOf i).toNat)
  case atStart => exact ⟨0, Nat.zero_le _, rfl, rfl, fun s hs => by omega⟩
  case round =>
    obtain ⟨t, ht, rfl, rfl, HR⟩ := hrel
    by_cases hlt : t < m
    · have hc2 := C2.out t hlt
      have hc3 := C3.out t hlt
      have htm : (t : Int) < (m : Int) := by omega
      have HN : Hid (0 ≤ iz t → iz t < n → 0 ≤ jz t → jz t < n → ∀ s, s < t + 1 → (0 ≤ iz s ∧ iz s < n) ∧ 0 ≤ jz s ∧ jz s < n) := by
        intro h1 h2 h3 h4 s hs
        by_cases e : s = t
        · subst e; exact ⟨⟨h1, h2⟩, h3, h4⟩
        · exact HR.out s (by omega)
      generalize iz t = u at *
      generalize jz t = v at *
      by_cases g1 : u < 0
      · go_wp2_with fail
        go_ret
        exact ⟨rfl, hbw8⟩
      by_cases g2 : (n : Int) ≤ u
      · go_wp2_with fail
        go_ret
        exact ⟨rfl, hbw8⟩
      by_cases g3 : v < 0
      · go_wp2_with fail
        go_ret
        exact ⟨rfl, hbw8⟩
      by_cases g4 : (n : Int) ≤ v
      · go_wp2_with fail
        go_ret
        exact ⟨rfl, hbw8⟩
      have HN2 : Hid (∀ s, s < t + 1 → (0 ≤ iz s ∧ iz s < n) ∧ 0 ≤ jz s ∧ jz s < n) := HN.out (by omega) (by omega) (by omega) (by omega)
      clear HN
      go_wp2_with fail
      go_round
      case rel => exact ⟨t + 1, by omega, by go_num, rfl, HN2⟩
      case measure => simp [intOf]; omega
    · have HRm : Hid (∀ s, s < m → (0 ≤ iz s ∧ iz s < n) ∧ 0 ≤ jz s ∧ jz s < n) := fun s hs => HR.out s (by omega)
      clear HR
      go_wp2_with fail
      refine (new10 w.heap.size w2.heap.size n n n ps rs w8 hn CP CA (by omega) y2).mono ?_
      rintro e w9 ⟨rfl, hnew⟩
      have hz9 := hnew.2.1
      have hmk9 : (Instr.makeSlice 22 (.int .i64 (n : Int)) (.int .i64 (n : Int))).run Try.prog w9 = .ok (.slice (some ⟨w8.heap.size + 1 + 2 * n, 0, none⟩) n n) (w9.alloc (.cells (madeCells #[.int .i64 0] n) 3)) := by
        have h := run_make (P := Try.prog) w9 22 3 i3 (.int .i64 0) Try.underlying22 hi3 hy0 .i64 .i64 n n (by omega) (by omega) (by rw [hy2]; omega) (by omega)
        rw [hz9] at h
        simpa [hy1, Value.cells] using h
      have hP0 := PInv.start hnew
      clear hz9 hnew
      go_wp2_with fail
      go_loopw [15] (fun i wr => ∃ k : Nat, k ≤ n ∧ i = .int .i64 k ∧ PInv w8 n ps rs k wr) (fun i _ => n - (intOf i).toNat)
      case atStart => exact ⟨0, Nat.zero_le _, rfl, hP0⟩
      case round =>
        obtain ⟨k, hk, rfl, hP⟩ := hrel
        by_cases hkn : k < n
        · have hkn2 : (k : Int) < (n : Int) := by omega
          obtain ⟨⟨v0, s1⟩, s2⟩ := hP.slot hkn
          have hst := hP.step hkn
          go_wp2_with fail
          go_roundw
          case rel => exact ⟨k + 1, by omega, by go_num, hst⟩
          case measure => simp [intOf]; omega
        · have hS0 : SInv w8 n ps rs (fun k => k) (fun k => k) wr := by
            obtain rfl : k = n := by omega
            exact hP.done
          clear hP
          go_wp2_with fail
          go_loopw [16] (fun i wr => ∃ t : Nat, t ≤ m ∧ i = .int .i64 t ∧ ∃ π : Nat → Nat, SInv w8 n ps rs π π wr) (fun i _ => m - (intOf i).toNat)
          case atStart => exact ⟨0, Nat.zero_le _, rfl, _, hS0⟩
          case round =>
            clear hS0
            obtain ⟨t, ht, rfl, π, hS⟩ := hrel
            by_cases hlt : t < m
            · have htm : (t : Int) < (m : Int) := by omega
              obtain ⟨⟨r1, r2⟩, r3, r4⟩ := HRm.out t hlt
              have k2 := C2.out t hlt
              have k3 := C3.out t hlt
              obtain ⟨a, ha⟩ := Int.eq_ofNat_of_zero_le r1
              obtain ⟨b, hb⟩ := Int.eq_ofNat_of_zero_le r3
              rw [ha] at k2 r2
              rw [hb] at k3 r4
              clear ha hb r1 r3
              have la : a < n := by omega
              have lb : b < n := by omega
              have nb3 : ¬ w8.heap.size + 1 + 2 * n = b3 := by have := cell_lt k3; omega
              have nb3' : ¬ b3 = w8.heap.size + 1 + 2 * n := by omega
              have e2 := cell_later hS.below k2
              have e3 := cell_later hS.below k3
              go_wp2_with fail
              go_region_with (go_at_call 14; refine (swap14 hS.drew la lb).mono ?_; rintro e w11 ⟨rfl, hS1⟩)
              all_goals
                have q2 := cell_later hS1.below k2
                have q3 := cell_later hS1.below k3
                obtain ⟨p1, p2⟩ := hS1.mcell la
                obtain ⟨p3, p4⟩ := hS1.mcell lb
                obtain ⟨v', p5⟩ := set_some (p := ⟨w8.heap.size + 1 + 2 * n, a, none⟩) (x := .int .i64 (π b : Nat)) p3
                have hst := upd_step hS1 la lb
                go_wp2_with fail
                go_roundw
                case rel => exact ⟨t + 1, by omega, by go_num, _, hst⟩
                case measure => simp [intOf]; omega
            · go_wp2_with fail
              go_loopw [8, 19] (fun r i wr => ∃ k : Nat, k ≤ n ∧ i = .int .i64 k ∧ r = .bool false ∧ SInv w8 n ps rs π π wr) (fun _ i _ => n - (intOf i).toNat)
              case atStart => exact ⟨0, Nat.zero_le _, rfl, rfl, hS⟩
              case round =>
                clear hS
                obtain ⟨l, hl, rfl, rfl, hS⟩ := hrel
                by_cases hln : l < n
                · have hln2 : (l : Int) < (n : Int) := by omega
                  have lp := hS.ltq l hln
                  have lp2 : ((π l : Nat) : Int) < (n : Int) := by omega
                  have m1 := (hS.mcell hln).1
                  have m2 := cell_later hS.below (CP.out (π l) lp)
                  have m3 := cell_later hS.below (CA.out (π l) lp)
                  go_wp2_with fail
                  refine (at15_inv hS hln).mono ?_
                  rintro e w12 ⟨rfl, q, rfl⟩
                  have hS2 := hS.drewN q
                  go_wp2_with fail
                  go_roundw
                  case rel => exact ⟨l + 1, by omega, by go_num, rfl, hS2⟩
                  case measure => simp [intOf]; omega
                · go_wp2_with fail
                  go_ret
                  exact ⟨rfl, hbw8.trans (hS.below.mono hbw8.size)⟩
end Go.Proofs.Qxb6618956a
