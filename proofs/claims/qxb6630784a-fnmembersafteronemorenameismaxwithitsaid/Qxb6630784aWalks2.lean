import Derived.Test.Qxb6630784aWalks
namespace Go.Proofs.Qxb6630784a
open Go.RowKit

set_option maxHeartbeats 800000 in
/-- bytesJ: it answers, and touches nothing. -/
theorem bytesJ (sa : Option Addr) (n cs : Nat) (ao : Option Addr) (m c : Nat) (x2 x3 : Int) (zss : List (List Int)) (w : World) (h : Items w ao m c zss) (hn : n ≤ maxLen) (hm : m ≤ maxLen) :
    Calls Try.prog 5 #[.slice sa n cs, .slice ao m c, .int .i64 x2, .int .i64 x3] w fun e w' => Answers false True e ∧ w' = w := by
  unfold maxLen at hn hm
  by_cases h1 : 1048576 < n
  · have h1' : (1048576 : Int) < (n : Int) := by omega
    go_enter Try.func5, Try.ntmps5
    go_wp2
    go_ret
    exact ⟨answers_it trivial, rfl⟩
  have hd1 : decide ((1048576 : Int) < (n : Int)) = false := decide_eq_false (by omega)
  have hn2 : n ≤ 1048576 := by omega
  by_cases h2 : 1048576 < m
  · have h2' : (1048576 : Int) < (m : Int) := by omega
    go_enter Try.func5, Try.ntmps5
    go_wp2
    go_ret
    exact ⟨answers_it trivial, rfl⟩
  have hd2 : decide ((1048576 : Int) < (m : Int)) = false := decide_eq_false (by omega)
  have hm2 : m ≤ 1048576 := by omega
  by_cases h3 : (1048576 : Int) < (n : Int) + (m : Int)
  · go_enter Try.func5, Try.ntmps5
    go_wp2
    go_ret
    exact ⟨answers_it trivial, rfl⟩
  have hd3 : decide ((1048576 : Int) < (n : Int) + (m : Int)) = false := decide_eq_false (by omega)
  clear h1 h2 hn hm
  go_enter Try.func5, Try.ntmps5
  go_wp2
  go_loop [9, 10] (fun z i => ∃ (k : Nat) (s : Int), k ≤ m ∧ i = .int .i64 k ∧ z = .int .i64 s ∧ 0 ≤ s ∧ s ≤ 1048576) (fun _ i => m - (intOf i).toNat)
  case atStart => exact ⟨0, _, Nat.zero_le _, rfl, rfl, by omega, by omega⟩
  case round =>
    obtain ⟨k, s, hk, rfl, rfl, hs0, hs1⟩ := hrel
    by_cases hlt : k < m
    · obtain ⟨b, off, a, l, c', rfl, hb, hc, hr, hl, hlm⟩ := h.at hlt
      unfold maxLen at hlm
      clear hr hl h
      have hlt' : (k : Int) < (m : Int) := by omega
      by_cases hl1 : 1048576 < l
      · have hl1' : (1048576 : Int) < (l : Int) := by omega
        go_wp2
        go_ret
        exact ⟨answers_it trivial, rfl⟩
      · have hl1' : ¬ (1048576 : Int) < (l : Int) := by omega
        have hl2 : (l : Int) ≤ 1048576 := by omega
        clear hl1 hlm
        by_cases hs2 : (1048576 : Int) < s + (l : Int)
        · go_wp2
          go_ret
          exact ⟨answers_it trivial, rfl⟩
        · go_wp2
          go_round
          case rel => exact ⟨k + 1, s + l, by omega, by go_num, rfl, by omega, by omega⟩
          case measure => simp [intOf]; omega
    · go_wp2
      go_ret
      exact ⟨answers_other _ (by decide), rfl⟩

set_option maxHeartbeats 800000 in
/-- bytesA: it answers, and touches nothing. -/
theorem bytesA (sa : Option Addr) (n cs : Nat) (ao : Option Addr) (m c : Nat) (x2 x3 x4 x5 x6 : Int) (zss : List (List Int)) (w : World) (h : Items w ao m c zss) (hn : n ≤ maxLen) (hm : m ≤ maxLen) :
    Calls Try.prog 10 #[.slice sa n cs, .slice ao m c, .int .i64 x2, .int .i64 x3, .int .i64 x4, .int .i64 x5, .int .i64 x6] w fun e w' => Answers false True e ∧ w' = w := by
  unfold maxLen at hn hm
  by_cases h1 : 1048576 < n
  · have h1' : (1048576 : Int) < (n : Int) := by omega
    go_enter Try.func10, Try.ntmps10
    go_wp2
    go_ret
    exact ⟨answers_it trivial, rfl⟩
  have hd1 : decide ((1048576 : Int) < (n : Int)) = false := decide_eq_false (by omega)
  have hn2 : n ≤ 1048576 := by omega
  by_cases h2 : 1048576 < m
  · have h2' : (1048576 : Int) < (m : Int) := by omega
    go_enter Try.func10, Try.ntmps10
    go_wp2
    go_ret
    exact ⟨answers_it trivial, rfl⟩
  have hd2 : decide ((1048576 : Int) < (m : Int)) = false := decide_eq_false (by omega)
  have hm2 : m ≤ 1048576 := by omega
  by_cases h3 : (1048576 : Int) < (n : Int) + (m : Int)
  · go_enter Try.func10, Try.ntmps10
    go_wp2
    go_ret
    exact ⟨answers_it trivial, rfl⟩
  have hd3 : decide ((1048576 : Int) < (n : Int) + (m : Int)) = false := decide_eq_false (by omega)
  clear h1 h2 hn hm
  go_enter Try.func10, Try.ntmps10
  go_wp2
  go_loop [15, 16] (fun z i => ∃ (k : Nat) (s : Int), k ≤ m ∧ i = .int .i64 k ∧ z = .int .i64 s ∧ 0 ≤ s ∧ s ≤ 1048576) (fun _ i => m - (intOf i).toNat)
  case atStart => exact ⟨0, _, Nat.zero_le _, rfl, rfl, by omega, by omega⟩
  case round =>
    obtain ⟨k, s, hk, rfl, rfl, hs0, hs1⟩ := hrel
    by_cases hlt : k < m
    · obtain ⟨b, off, a, l, c', rfl, hb, hc, hr, hl, hlm⟩ := h.at hlt
      unfold maxLen at hlm
      clear hr hl h
      have hlt' : (k : Int) < (m : Int) := by omega
      by_cases hl1 : 1048576 < l
      · have hl1' : (1048576 : Int) < (l : Int) := by omega
        go_wp2
        go_ret
        exact ⟨answers_it trivial, rfl⟩
      · have hl1' : ¬ (1048576 : Int) < (l : Int) := by omega
        have hl2 : (l : Int) ≤ 1048576 := by omega
        clear hl1 hlm
        by_cases hs2 : (1048576 : Int) < s + (l : Int)
        · go_wp2
          go_ret
          exact ⟨answers_it trivial, rfl⟩
        · go_wp2
          go_round
          case rel => exact ⟨k + 1, s + l, by omega, by go_num, rfl, by omega, by omega⟩
          case measure => simp [intOf]; omega
    · go_wp2
      go_ret
      exact ⟨answers_other _ (by decide), rfl⟩

/-- The cells of zzItoa's buffer: bytes, all of them. -/
def Buf (c : Array Value) : Prop := c.size = 24 ∧ ∀ j, j < 24 → ∃ z : Int, c[j]? = some (.int .u8 z)
theorem buf_zero : Buf (Array.replicate 24 (Value.int .u8 0)) := ⟨by simp, fun j hj => ⟨0, by simp [hj]⟩⟩
theorem buf_set {c : Array Value} (h : Buf c) (k : Nat) (z : Int) : Buf (c.setIfInBounds k (.int .u8 z)) := by
  refine ⟨by simp [h.1], fun j hj => ?_⟩
  rw [Array.getElem?_setIfInBounds]
  split
  · exact ⟨z, by rw [if_pos (by rw [h.1]; omega)]⟩
  · exact h.2 j hj

theorem push_size (ns : List Int) (s : ByteArray) : (ns.foldl (fun r n => r.push (UInt8.ofNat n.toNat)) s).size = s.size + ns.length := by
  induction ns generalizing s with
  | nil => rfl
  | cons n r ih => rw [List.foldl_cons, ih, ByteArray.size_push, List.length_cons]; omega

/-- 'string(buf[i:])'. -/
theorem buf_string {c : Array Value} (h : Buf c) (I : Nat) (hI : I ≤ 24) (w : World) :
    ∃ s : ByteArray, s.size ≤ 24 ∧ (convert 41 9 (.slice (some ⟨w.heap.size, I, none⟩) (24 - I) (24 - I))).run Try.prog (w.alloc (.cells c 40)) = .ok (.string s) (w.alloc (.cells c 40)) := by
  have hz : ∃ ns : List Int, ns.length = 24 - I ∧ ∀ j, j < 24 - I → c[I + j]? = some (.int .u8 (ns.getD j 0)) := by
    refine ⟨(List.range (24 - I)).map fun j => match c[I + j]? with | some (.int .u8 z) => z | _ => 0, by simp, fun j hj => ?_⟩
    obtain ⟨z, hz⟩ := h.2 (I + j) (by omega)
    simp [hj, hz]
  obtain ⟨ns, hl, hc⟩ := hz
  refine ⟨ns.foldl (fun r n => r.push (UInt8.ofNat n.toNat)) ByteArray.empty, by rw [push_size]; simp; omega, ?_⟩
  rw [run_convert_bytes_string _ 41 9 5 _ _ _ Try.underlying41 Try.underlying5 Try.underlying9]
  refine run_bytesToString _ _ _ _ ns ?_
  have := run_loadCells_list (P := Try.prog) (w.alloc (.cells c 40)) ⟨w.heap.size, I, none⟩ (ns.map (Value.int .u8)) (fun j v hv => ?_)
  · rwa [List.length_map, hl] at this
  · have hj : j < 24 - I := by have := (List.getElem?_eq_some_iff.1 hv).1; rw [List.length_map, hl] at this; exact this
    rw [Addr.add_lit]
    have e := hc j hj
    simp [hl, hj] at hv
    have e2 : ns.getD j 0 = ns[j]'(by rw [hl]; exact hj) := by simp [hl, hj]
    rw [e2, hv] at e
    simp [e]

theorem Try.info5 : (Try.prog.info? 5).map (fun i => (i.zero, i.size, i.bytes)) = some (some (.int .u8 0), 1, 1) := by kernel_rfl
/-- 'buf[i:]', buf an array of 24 bytes. -/
theorem buf_slice (w : World) (b I : Nat) (hI : I < 24) :
    (Instr.sliceAt 40 (.pointer (some ⟨b, 0, none⟩)) (some (.int .i64 (I : Int))) none none).run Try.prog w = .ok (.slice (some ⟨b, I, none⟩) (24 - I) (24 - I)) w := by
  obtain ⟨i, hi, hz, hsize, hby⟩ := info_parts Try.info5
  have he : Try.prog.elem 40 = 5 := by simp [Program.elem, Try.underlying40]
  have hl : Try.prog.arrayLen 40 = 24 := by simp [Program.arrayLen, Try.underlying40]
  rw [run_sliceAt_array_l w 40 ⟨b, 0, none⟩ (by rw [he, hl]; exact Try.underlying40) .i64 I (by omega) (by rw [hl]; omega)]
  rw [he, hl]
  have hne : ¬ 24 = I := by omega
  simp [sizeOf, typeInfo, hi, hsize, slicedAt, Result.andThen, hne, Addr.add_lit]

theorem pow_step {N j : Nat} (h : N < 10 ^ j) (h0 : 0 < N) : ∃ i, j = i + 1 ∧ N / 10 < 10 ^ i := by
  cases j with
  | zero => simp at h; omega
  | succ i => exact ⟨i, rfl, by rw [Nat.pow_succ] at h; omega⟩

set_option maxHeartbeats 800000 in
/-- zzItoa: some string of at most 24 bytes; new blocks alone. -/
theorem itoa_any (x : Int) (w : World) (h0 : 0 ≤ x) (h1 : x ≤ 1048576) :
    Calls Try.prog 11 #[.int .i64 x] w fun e w' => ∃ s : ByteArray, e = .returned (.string s) ∧ s.size ≤ 24 ∧ w.grownBy w' none := by
  by_cases hx : x ≤ 0
  · have hx0 : x = 0 := by omega
    subst hx0
    clear hx
    go_enter Try.func11, Try.ntmps11
    go_wp2
    go_ret
    exact ⟨_, rfl, by decide, World.grownBy.refl _ _⟩
  · have hd : decide (x ≤ 0) = false := decide_eq_false hx
    obtain ⟨X, rfl⟩ := Int.eq_ofNat_of_zero_le h0
    go_enter Try.func11, Try.ntmps11
    go_wp2_with fail
    go_loopg [0, 4] X (fun gg x i wr => ∃ (N I : Nat) (c : Array Value), gg = N ∧ x = .int .i64 N ∧ i = .int .i64 I ∧ Hid (∃ j, I = 17 + j ∧ N < 10 ^ j) ∧ I ≤ 24 ∧ (I = 24 → 0 < N) ∧ N ≤ 1048576 ∧ wr = w.alloc (.cells c 40) ∧ Hid (Buf c))
    case atStart =>
      refine ⟨X, 24, _, rfl, rfl, rfl, ⟨7, rfl, by omega⟩, Nat.le_refl _, fun _ => by omega, by omega, rfl, ?_⟩
      exact buf_zero
    case round =>
      obtain ⟨N, I, c, hgg, rfl, rfl, HJ, hI, hI2, hN, rfl, HB⟩ := hrel
      have HGG : Hid _ := hgg
      clear hgg
      by_cases hpos : 0 < N
      · obtain ⟨j, hj, hlt⟩ := HJ.out
        obtain ⟨i, rfl, hstep⟩ := pow_step hlt hpos
        have HST : Hid (∃ j, I - 1 = 17 + j ∧ N / 10 < 10 ^ j) := ⟨i, by omega, hstep⟩
        have hI1 : 1 ≤ I := by omega
        obtain ⟨z, hz⟩ := HB.out.2 (I - 1) (by omega)
        have hsz : c.size = 24 := HB.out.1
        have hpos' : (0 : Int) < (N : Int) := by omega
        clear HJ hj hlt hstep hI2
        go_wp2_with fail
        go_roundg (N / 10)
        case measure => rw [HGG.out]; omega
        case rel => exact ⟨N / 10, I - 1, _, rfl, by go_num, by go_num, HST, by omega, fun _ => by omega, by omega, rfl, buf_set HB.out _ _⟩
      · have hN0 : N = 0 := by omega
        subst hN0
        obtain ⟨s, hs, hconv⟩ := buf_string HB.out I hI w
        have hI3 : I < 24 := by omega
        clear HJ hI2
        have hsl := fun wx => buf_slice wx w.heap.size I hI3
        go_wp2
        go_ret
        exact ⟨s, rfl, hs, World.grownBy_alloc w _ none⟩

end Go.Proofs.Qxb6630784a
