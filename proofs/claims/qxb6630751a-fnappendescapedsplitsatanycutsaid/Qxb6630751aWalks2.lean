import Derived.Test.Qxb6630751aWalks
namespace Go.Proofs.Qxb6630751a
open Go.RowKit

theorem oct_no (c : Int) (w : World) (h : Pl.oct c = false) :
    Calls Try.prog 12 #[.int .u8 c] w fun e w' => e = .returned (.bool false) ∧ w' = w := by
  rw [Pl.oct_false] at h
  rcases h with h1 | rfl | rfl | rfl | rfl | h1
  · have g0 : (c == 33) = false := beq_eq_false_iff_ne.2 (by omega)
    go_enter Try.func12, Try.ntmps12
    go_wp2
    go_ret
    exact ⟨rfl, rfl⟩
  · go_enter Try.func12, Try.ntmps12
    go_wp2
    go_ret
    exact ⟨rfl, rfl⟩
  · go_enter Try.func12, Try.ntmps12
    go_wp2
    go_ret
    exact ⟨rfl, rfl⟩
  · go_enter Try.func12, Try.ntmps12
    go_wp2
    go_ret
    exact ⟨rfl, rfl⟩
  · go_enter Try.func12, Try.ntmps12
    go_wp2
    go_ret
    exact ⟨rfl, rfl⟩
  · have g0 : (c == 33) = false := beq_eq_false_iff_ne.2 (by omega)
    have g1 : decide (c ≤ 43) = false := decide_eq_false (by omega)
    have g2 : decide (c ≤ 58) = false := decide_eq_false (by omega)
    have g3 : decide (c ≤ 91) = false := decide_eq_false (by omega)
    have g4 : decide (c ≤ 126) = false := decide_eq_false (by omega)
    go_enter Try.func12, Try.ntmps12
    go_wp2
    go_ret
    exact ⟨rfl, rfl⟩

/-- zzB1HexVal reads what hexd writes. -/
theorem hex_any (h : Int) (w : World) (h0 : 0 ≤ h) (h1 : h < 16) :
    Calls Try.prog 8 #[.int .u8 (Pl.hexd h)] w fun e w' => e = .returned (.int .i64 h) ∧ w' = w := by
  by_cases hl : h < 10
  · have e : Pl.hexd h = 48 + h := by simp [Pl.hexd, hl]
    rw [e]
    clear e
    obtain ⟨c, hc⟩ : ∃ c, c = 48 + h := ⟨_, rfl⟩
    have e2 : h = c - 48 := by omega
    have l1 : 48 ≤ c := by omega
    have l2 : c ≤ 57 := by omega
    rw [← hc, e2]
    clear hc e2 h0 h1 hl
    go_enter Try.func8, Try.ntmps8
    go_wp2
    go_ret
    exact ⟨rfl, rfl⟩
  · have e : Pl.hexd h = 55 + h := by simp [Pl.hexd, hl]
    rw [e]
    clear e
    obtain ⟨c, hc⟩ : ∃ c, c = 55 + h := ⟨_, rfl⟩
    have e2 : h = c - 65 + 10 := by omega
    have l1 : 65 ≤ c := by omega
    have l2 : c ≤ 70 := by omega
    rw [← hc, e2]
    clear hc e2 h0 h1 hl
    go_enter Try.func8, Try.ntmps8
    go_wp2
    go_ret
    exact ⟨rfl, rfl⟩

theorem bytes3 (a0 : Option Addr) (n c : Nat) (t : ByteArray) (w : World) (hn : n ≤ maxLen) (ht : t.size ≤ maxLen) :
    Calls Try.prog 5 #[.slice a0 n c, .string t] w fun e w' => e = .returned (.bool (decide (n + t.size ≤ 1048576))) ∧ w' = w := by
  unfold maxLen at hn ht
  by_cases h : n + t.size ≤ 1048576
  · have h1 : (n : Int) + t.size ≤ 1048576 := by omega
    have h2 : decide (n + t.size ≤ 1048576) = true := decide_eq_true h
    rw [h2]
    clear h2
    go_enter Try.func5, Try.ntmps5
    go_wp2
    go_ret
    exact ⟨rfl, rfl⟩
  · have h2 : decide (n + t.size ≤ 1048576) = false := decide_eq_false h
    rw [h2]
    clear h2
    by_cases h3 : (1048576 : Int) < n
    · go_enter Try.func5, Try.ntmps5
      go_wp2
      go_ret
      exact ⟨rfl, rfl⟩
    · by_cases h4 : (1048576 : Int) < t.size
      · go_enter Try.func5, Try.ntmps5
        go_wp2
        go_ret
        exact ⟨rfl, rfl⟩
      · have h5 : (1048576 : Int) < (n : Int) + t.size := by omega
        go_enter Try.func5, Try.ntmps5
        go_wp2
        go_ret
        exact ⟨rfl, rfl⟩

theorem bytes4 (a0 : Option Addr) (n c : Nat) (t : ByteArray) (k : Int) (w : World) (hn : n ≤ maxLen) (ht : t.size ≤ maxLen) :
    Calls Try.prog 10 #[.slice a0 n c, .string t, .int .i64 k] w fun e w' => e = .returned (.bool (decide (n + t.size ≤ 1048576))) ∧ w' = w := by
  unfold maxLen at hn ht
  by_cases h : n + t.size ≤ 1048576
  · have h1 : (n : Int) + t.size ≤ 1048576 := by omega
    have h2 : decide (n + t.size ≤ 1048576) = true := decide_eq_true h
    rw [h2]
    clear h2
    go_enter Try.func10, Try.ntmps10
    go_wp2
    go_ret
    exact ⟨rfl, rfl⟩
  · have h2 : decide (n + t.size ≤ 1048576) = false := decide_eq_false h
    rw [h2]
    clear h2
    by_cases h3 : (1048576 : Int) < n
    · go_enter Try.func10, Try.ntmps10
      go_wp2
      go_ret
      exact ⟨rfl, rfl⟩
    · by_cases h4 : (1048576 : Int) < t.size
      · go_enter Try.func10, Try.ntmps10
        go_wp2
        go_ret
        exact ⟨rfl, rfl⟩
      · have h5 : (1048576 : Int) < (n : Int) + t.size := by omega
        go_enter Try.func10, Try.ntmps10
        go_wp2
        go_ret
        exact ⟨rfl, rfl⟩

/-- The numbers of a byte slice, as cells. -/
def bytes (zs : List Int) : List Value := zs.map (Value.int .u8)
theorem bytes_len (zs : List Int) : (bytes zs).length = zs.length := by simp [bytes]
theorem bytes_at {zs : List Int} {i : Nat} (h : i < zs.length) : (bytes zs)[i]? = some (.int .u8 (zs[i]?.getD 0)) := by simp [bytes, h]
theorem bytes_one (zs : List Int) : ∀ u ∈ bytes zs, u.oneCell' = true := ints_oneCell _ _

/-- The first k of vs, the rest zero. -/
def fill (vs : List Value) (n k : Nat) : List Value := vs.take k ++ List.replicate (n - k) (.int .u8 0)
theorem fill_zero (vs : List Value) (n : Nat) : fill vs n 0 = List.replicate n (.int .u8 0) := by simp [fill]
theorem fill_done (vs : List Value) (n : Nat) (h : vs.length = n) : fill vs n n = vs := by subst h; simp [fill]
theorem fill_set (vs : List Value) (n k : Nat) (h : vs.length = n) (hk : k < n) {u : Value} (hu : vs[k]? = some u) : (fill vs n k).set k u = fill vs n (k + 1) := by
  subst h
  have hu' : vs[k] = u := by rw [List.getElem?_eq_getElem hk] at hu; exact Option.some.inj hu
  unfold fill
  rw [List.set_append_right _ _ (by simp; omega)]
  have e : k - (List.take k vs).length = 0 := by simp; omega
  rw [e, show vs.length - k = (vs.length - (k + 1)) + 1 by omega, List.replicate_succ, List.set_cons_zero, List.take_succ_eq_append_getElem hk, hu']
  simp
theorem fill_at (vs : List Value) (n k : Nat) (h : vs.length = n) (hk : k < n) : (fill vs n k)[k]? = some (.int .u8 0) := by
  subst h
  unfold fill
  rw [List.getElem?_append_right (by simp; omega)]
  have e : k - (List.take k vs).length = 0 := by simp; omega
  rw [e, List.getElem?_replicate, if_pos (by omega)]

/-- A copy in a new block (or nil). -/
structure Copied (w w' : World) (v : Value) (n : Nat) (zs : List Int) : Prop where
  own : w'.ownsRow 0 5 1 v n (bytes zs)
  new : ∀ g, v.ownBlock = some g → w.heap.size ≤ g
  below : Below w.heap.size w w'

set_option maxHeartbeats 800000 in
/-- zzB1Copy. -/
theorem copy_any (ao : Option Addr) (n c : Nat) (zs : List Int) (w : World) (hrd : Rd w ao n c (bytes zs)) (hn : n ≤ 1048576) :
    Calls Try.prog 6 #[.slice ao n c] w fun e w' => ∃ v, e = .returned v ∧ Copied w w' v n zs := by
  have hlv := hrd.len
  obtain ⟨vs, hvs⟩ : ∃ vs, vs = bytes zs := ⟨_, rfl⟩
  rw [← hvs] at hlv hrd
  have HVS : Hid (vs = bytes zs) := hvs
  have hint : ∀ (i : Nat) (u : Value), vs[i]? = some u → ∃ z, u = Value.int .u8 z := by
    intro i u hu
    rw [hvs] at hu
    have hi : i < zs.length := by have := (List.getElem?_eq_some_iff.1 hu).1; rwa [bytes_len] at this
    rw [bytes_at hi] at hu
    exact ⟨_, (Option.some.inj hu).symm⟩
  clear hvs
  have HL : Hid (vs.length = n) := hlv
  clear hlv
  have heq := fun wx => Lib.run_eql_slice_nil (P := Try.prog) wx 22 5 ao n c 0 0 Try.underlying22
  cases ao with
  | none =>
    obtain ⟨rfl, rfl⟩ := hrd.nil rfl
    have hz : zs = [] := by
      have h1 := HL.out
      rw [HVS.out, bytes_len] at h1
      exact List.eq_nil_of_length_eq_zero h1
    subst hz
    simp only [Option.isNone_none] at heq
    clear hrd hint
    go_enter Try.func6, Try.ntmps6
    go_wp2
    go_ret
    exact ⟨_, rfl, World.ownsRow_nil _ _ _ _, (fun g h => by cases h), Below.refl _ _⟩
  | some ad =>
    simp only [Option.isNone_some] at heq
    obtain ⟨i0, hi0, hz0, hz1, hz2⟩ := info_parts Try.info5
    have q1 : i0.bytes * n ≤ 281474976710656 := by rw [hz2]; omega
    have q2 : n ≤ maxLen := by unfold maxLen; omega
    clear hz2
    go_enter Try.func6, Try.ntmps6
    go_wp2_with (at_make; refine wpList_make_full _ rfl (.tmp 8) (.tmp 8) 22 rfl w.heap.size 5 i0 (.int .u8 0) 1 Try.underlying22 hi0 hz0 hz1 .i64 .i64 _ _ n rfl rfl rfl rfl q1 q2 (Nat.le_refl _) ?_)
    intro w1 hown1 hgr1
    have hbel1 : Below w.heap.size w w1 := (Below.refl _ _).grown hgr1 (Nat.le_refl _) (fun k hk => by cases hk)
    have hfz : (madeCells #[Value.int .u8 0] n).toList = fill vs n 0 := by
      rw [fill_zero, toList_madeCells_one]
    rw [hfz] at hown1
    clear hfz hgr1 q1
    go_wp2_with fail
    go_loopw [4] (fun i wr => ∃ (k : Nat), k ≤ n ∧ i = .int .i64 k ∧ wr.ownsRow w.heap.size 5 1 (.slice (some ⟨w.heap.size, 0, none⟩) n n) n (fill vs n k) ∧ Below w.heap.size w wr) (fun i _ => n - (intOf i).toNat)
    case atStart => exact ⟨0, Nat.zero_le _, rfl, hown1, hbel1⟩
    case round =>
      obtain ⟨k, hk, rfl, hown, hbel⟩ := hrel
      clear hown1 hbel1
      by_cases hlt : k < n
      · obtain ⟨b, off, rfl', hbb, hc⟩ := hrd.at (by omega)
        cases rfl'
        obtain ⟨u, hu⟩ : ∃ u, vs[k]? = some u := ⟨_, List.getElem?_eq_getElem (by rw [HL.out]; exact hlt)⟩
        obtain ⟨z, rfl⟩ := hint k u hu
        have hcell : wr.cell? ⟨b, off + k, none⟩ = some (.int .u8 z) := (hbel.cell (p := ⟨b, off + k, none⟩) hbb).trans (hc k _ hu)
        have hlt' : (k : Int) < (n : Int) := by omega
        have hst := hown.stored k (.int .u8 z)
        have hown2 := hst.1
        rw [fill_set vs n k HL.out hlt hu] at hown2
        have hcd : wr.cell? ⟨w.heap.size, k, none⟩ = some (.int .u8 0) := by rw [hown.cellAt k (by omega)]; exact fill_at vs n k HL.out hlt
        have hfd : wr.frozen? ⟨w.heap.size, k, none⟩ = false := hown.frozenAt k
        clear hc hst hown hu hrd hint
        go_wp2
        go_roundw
        case rel => exact ⟨k + 1, by omega, by go_num, hown2, hbel.setCell (by exact Nat.le_refl _) _⟩
        case measure => simp [intOf]; omega
      · have hkn : k = n := by omega
        subst hkn
        rw [fill_done vs k HL.out, HVS.out] at hown
        clear hrd hint
        go_wp2
        go_ret
        refine ⟨_, rfl, ?_, fun g hg => ?_, hbel⟩
        · rcases hown with ⟨h1, h2 | ⟨g, cap, cur, hv, hg, r⟩⟩
          · exact ⟨h1, .inl h2⟩
          · exact ⟨h1, .inr ⟨g, cap, cur, hv, Nat.zero_le _, r⟩⟩
        · cases hg; exact Nat.le_refl _

end Go.Proofs.Qxb6630751a
