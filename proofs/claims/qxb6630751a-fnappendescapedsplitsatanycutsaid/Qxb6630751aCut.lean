/-
  FnAppendEscapedSplitsAtAnyCut, walked.
-/
import Derived.Test.Qxb6630751aDec
namespace Go.Proofs.Qxb6630751a
open Go.RowKit

theorem own_below {w w' : World} {v : Value} {n : Nat} {cs : List Value} (h : w.ownsRow 0 5 1 v n cs) (hb : Below w.heap.size w w') : w'.ownsRow 0 5 1 v n cs := by
  have hlt := own_lt h
  rcases h with ⟨h1, h2 | ⟨g, cap, cur, hv, hg, hh, r⟩⟩
  · exact ⟨h1, .inl h2⟩
  · exact ⟨h1, .inr ⟨g, cap, cur, hv, hg, by rw [hb.block g (hlt g (by rw [hv]; rfl))]; exact hh, r⟩⟩
theorem own_grew {w w' : World} {v v' u : Value} {n : Nat} {cs : List Value} (h : w.ownsRow 0 5 1 u n cs) (hg : Grew w w' v v') (hne : ∀ g, u.ownBlock = some g → ∀ b, v.ownBlock = some b → g ≠ b) : w'.ownsRow 0 5 1 u n cs := by
  refine h.kept hg.grown ?_
  cases hu : u.ownBlock with
  | none => exact .inl rfl
  | some g => exact .inr (fun e => hne g hu g e.symm rfl)

theorem nums_take (t : ByteArray) (k : Nat) (_ : k ≤ t.size) : nums (t.extract 0 k) = (nums t).take k := by
  unfold nums
  rw [← List.map_take, ByteArray.data_extract]
  simp
theorem nums_drop (t : ByteArray) (k : Nat) : nums (t.extract k t.size) = (nums t).drop k := by
  unfold nums
  rw [← List.map_drop, ByteArray.data_extract]
  have e : t.size = t.data.toList.length := by rw [Array.length_toList]; rfl
  rw [Array.toList_extract]
  unfold List.extract
  rw [List.take_of_length_le (by rw [List.length_drop, e]; exact Nat.le_refl _)]

theorem whole_join (zs : List Int) (t : ByteArray) (k : Nat) (hk : k ≤ t.size) : whole (zs ++ Pl.esc (nums (t.extract 0 k))) (t.extract k t.size) = whole zs t := by
  unfold whole
  rw [nums_take t k hk, nums_drop, List.append_assoc, ← Pl.esc_append, List.take_append_drop]
theorem reach_join (n : Nat) (t : ByteArray) (k : Nat) (hk : k ≤ t.size) : reach (reach n (t.extract 0 k) (t.extract 0 k).size) (t.extract k t.size) (t.extract k t.size).size = reach n t t.size := by
  rw [reach_all, reach_all, reach_all, nums_take t k hk, nums_drop]
  have e := congrArg List.length (Pl.esc_append ((nums t).take k) ((nums t).drop k))
  rw [List.take_append_drop, List.length_append] at e
  omega
theorem reach_bad (n : Nat) (t : ByteArray) : reach n t t.size = n + t.size + 2 * Pl.bad (nums t) := by
  rw [reach_all, Pl.esc_len, nums_len]
  omega
/-- What stands behind b is a safe octet or '%'. -/
theorem whole_tail (zs : List Int) (t : ByteArray) {i : Nat} (h0 : zs.length ≤ i) (h1 : i < (whole zs t).length) : ∃ d : Int, (whole zs t)[i]? = some (.int .u8 d) ∧ (d = 37 ∨ Pl.safe d = true) := by
  unfold whole at *
  rw [bytes_len] at h1
  rw [bytes_at h1]
  refine ⟨_, rfl, ?_⟩
  rw [List.getElem?_append_right h0]
  have h2 : i - zs.length < (Pl.esc (nums t)).length := by rw [List.length_append] at h1; omega
  rw [List.getElem?_eq_getElem h2]
  exact Pl.esc_all (nums t) (nums_bounds t) _ (List.getElem_mem h2)

set_option maxHeartbeats 4000000 in
set_option maxRecDepth 100000 in
theorem cut_walk (a0 : Option Addr) (n c0 : Nat) (zs : List Int) (t : ByteArray) (k0 : Int) (w : World) (h0 : Rd w a0 n c0 (bytes zs)) (ht : t.size ≤ maxLen) :
    Calls Try.prog 4 #[.slice a0 n c0, .string t, .int .i64 k0] w fun e w' => e = .returned (.bool true) ∧ Below w.heap.size w w' := by
  have HZL : Hid (zs.length = n) := by have := h0.len; rw [bytes_len] at this; exact this
  go_enter Try.func4, Try.ntmps4
  go_wp2_with fail
  refine (bytes4 a0 n c0 t k0 w (Nat.le_trans h0.le h0.max) ht).mono ?_
  rintro e w0 ⟨rfl, rfl⟩
  by_cases hsz : n + t.size ≤ 1048576
  case neg =>
    have hd : decide (n + t.size ≤ 1048576) = false := decide_eq_false hsz
    rw [hd]
    go_wp2
    go_ret
    exact ⟨rfl, Below.refl _ _⟩
  have hd : decide (n + t.size ≤ 1048576) = true := decide_eq_true hsz
  rw [hd]
  clear hd ht
  have hd1 : decide ((1048576 : Int) < (n : Int)) = false := decide_eq_false (by omega)
  have hd2 : decide ((1048576 : Int) < (t.size : Int)) = false := decide_eq_false (by omega)
  have hd3 : decide ((1048576 : Int) < (n : Int) + (t.size : Int)) = false := decide_eq_false (by omega)
  by_cases hk0 : k0 < 0
  · go_wp2
    go_ret
    exact ⟨rfl, Below.refl _ _⟩
  by_cases hk1 : (t.size : Int) < k0
  · go_wp2
    go_ret
    exact ⟨rfl, Below.refl _ _⟩
  obtain ⟨k, rfl⟩ := Int.eq_ofNat_of_zero_le (Int.not_lt.1 hk0)
  have hk : k ≤ t.size := by omega
  have hd5 : decide ((k : Int) < 0) = false := decide_eq_false (by omega)
  have hd6 : decide ((t.size : Int) < (k : Int)) = false := decide_eq_false (by omega)
  clear hk0 hk1
  go_wp2_with fail
  refine (copy_any a0 n c0 zs _ h0 (by omega)).mono ?_
  rintro e w1 ⟨v1, rfl, k1⟩
  go_wp2_with fail
  refine (copy_any a0 n c0 zs _ (h0.carry k1.below) (by omega)).mono ?_
  rintro e w2 ⟨v2, rfl, k2⟩
  have hs1 := k1.below.size
  have hs2 := k2.below.size
  have hB2 := k1.below.trans (k2.below.mono hs1)
  go_wp2_with fail
  refine (copy_any a0 n c0 zs _ (h0.carry hB2) (by omega)).mono ?_
  rintro e w3 ⟨v3, rfl, k3⟩
  have hs3 := k3.below.size
  have hB3 := hB2.trans (k3.below.mono (by omega))
  go_wp2_with fail
  refine (zz_any v3 n zs t _ k3.own (by omega) (by omega)).mono ?_
  rintro e w4 ⟨vW, rfl, oW, gW⟩
  have hs4 := gW.grown.size
  have hB4 : Below w0.heap.size w0 w4 := hB3.trans (gW.below (by omega) (fun g hg => by have := k3.new g hg; omega))
  go_wp2_with fail
  have z1 : (t.extract 0 k).size ≤ 1048576 := by rw [ByteArray.size_extract]; omega
  have z2 : (t.extract k t.size).size ≤ 1048576 := by rw [ByteArray.size_extract]; omega
  have l1 := own_lt k1.own
  have l2 := own_lt k2.own
  have l3 := own_lt k3.own
  have o2 : w4.ownsRow 0 5 1 v2 n (bytes zs) := own_grew (own_below k2.own k3.below) gW (fun g hg b hb => by have h1 := l2 g hg; have h2 := k3.new b hb; omega)
  refine (zz_any v2 n zs (t.extract 0 k) _ o2 z1 (by omega)).mono ?_
  rintro e w5 ⟨vF, rfl, oF, gF⟩
  have hs5 := gF.grown.size
  have hB5 : Below w0.heap.size w0 w5 := hB4.trans (gF.below (by omega) (fun g hg => by have := k2.new g hg; omega))
  have hrF := reach_le n (t.extract 0 k) (t.extract 0 k).size
  go_wp2_with fail
  refine (zz_any vF _ _ (t.extract k t.size) _ oF z2 (by omega)).mono ?_
  rintro e w6 ⟨vJ, rfl, oJ, gJ⟩
  have hs6 := gJ.grown.size
  have hB6 : Below w0.heap.size w0 w6 := hB5.trans (gJ.below (by omega) (fun g hg => by rcases gF.from' g hg with h | h; have := k2.new g h; omega; omega))
  rw [whole_join zs t k hk, reach_join n t k hk] at oJ
  have lW : ∀ g, vW.ownBlock = some g → w2.heap.size ≤ g ∧ g < w4.heap.size := fun g hg => ⟨by rcases gW.from' g hg with h | h; exact k3.new g h; omega, own_lt oW g hg⟩
  obtain ⟨a1, c1, rfl, r1, b1⟩ := own_rd k1.own
  obtain ⟨aW, cW, rfl, rW, bW⟩ := own_rd oW
  obtain ⟨aJ, cJ, rfl, rJ, bJ⟩ := own_rd oJ
  replace r1 := (((r1.carry k2.below).carry k3.below).grew gW (fun b hb ad had => by have h1 := k3.new b hb; have h2 := l1 _ (b1 ad had); omega)).grew gF (fun b hb ad had => by have h1 := k2.new b hb; have h2 := l1 _ (b1 ad had); omega)
  replace r1 := r1.grew gJ (fun b hb ad had => by have h2 := l1 _ (b1 ad had); rcases gF.from' b hb with h | h; have h3 := k2.new b h; omega; omega)
  replace rW := rW.grew gF (fun b hb ad had => by have h1 := l2 b hb; have h2 := lW _ (bW ad had); omega)
  replace rW := rW.grew gJ (fun b hb ad had => by have h2 := lW _ (bW ad had); rcases gF.from' b hb with h | h; have h3 := l2 b h; omega; omega)
  have hN := reach_bad n t
  have hr3 := reach_le n t t.size
  obtain ⟨N, hNN⟩ : ∃ N, N = reach n t t.size := ⟨_, rfl⟩
  rw [← hNN] at rJ rW hr3 hN ⊢
  have HN : Hid (N = n + t.size + 2 * Pl.bad (nums t)) := hN
  have hnN : n ≤ N := by omega
  have hne : ((N : Int) != (N : Int)) = false := by simp
  have hWl := rW.len
  have HWL : Hid ((whole zs t).length = N) := hWl
  clear hWl hNN hN k1 k2 k3 oW oF oJ gW gF gJ b1 bW bJ l1 l2 l3 lW o2 hs1 hs2 hs3 hs4 hs5 hs6 hB2 hB3 hB4 hB5 hrF z1 z2
  go_wp2_with fail
  go_loopw [12] (fun i wr => ∃ m q : Nat, i = .int .i64 m ∧ m ≤ N ∧ wr = w6.drewN q) (fun i _ => N - (intOf i).toNat)
  case atStart => exact ⟨0, 0, rfl, Nat.zero_le _, rfl⟩
  case round =>
    obtain ⟨m, q, rfl, hm, rfl⟩ := hrel
    by_cases hlt : m < N
    · obtain ⟨gw, ow, rfl, hgw, hcw⟩ := rW.at (by omega)
      obtain ⟨gj, oj, rfl, hgj, hcj⟩ := rJ.at (by omega)
      obtain ⟨d, hd⟩ : ∃ d, (whole zs t)[m]? = some (.int .u8 d) := ⟨_, bytes_at (by have := HWL.out; unfold whole at this; rw [bytes_len] at this; omega)⟩
      have e1 := hcw m _ hd
      have e3 := hcj m _ hd
      clear hcw hcj rW rJ r1 hd
      have hlt' : (m : Int) < (N : Int) := by omega
      have hdd : (d != d) = false := by simp
      go_wp2
      go_quiet (fail)
      go_wp2
      go_roundw
      case rel => exact ⟨m + 1, q + nq, by go_num, by omega, by simp⟩
      case measure => simp [intOf]; omega
    · replace r1 := r1.drewN q
      replace rW := rW.drewN q
      replace hB6 := below_drewN hB6 q
      obtain ⟨w7, hw7⟩ : ∃ w7, w7 = w6.drewN q := ⟨_, rfl⟩
      rw [← hw7] at r1 rW hB6 ⊢
      clear hw7 hm rJ
      go_wp2_with fail
      go_loopg [13, 14] t.size (fun gg x y wr => ∃ m : Nat, gg = t.size - m ∧ m ≤ t.size ∧ y = .int .i64 m ∧ x = .int .i64 (Pl.bad ((nums t).take m) : Nat) ∧ wr = w7)
      case atStart => exact ⟨0, rfl, Nat.zero_le _, rfl, rfl, rfl⟩
      case round =>
        obtain ⟨m2, hgg, hm2, rfl, rfl, rfl⟩ := hrel
        have HGG : Hid _ := hgg
        clear hgg
        have hbl := Pl.bad_le ((nums t).take m2)
        have hbl2 : ((nums t).take m2).length ≤ m2 := List.length_take_le _ _
        by_cases hmt : m2 < t.size
        · have hmt' : (m2 : Int) < (t.size : Int) := by omega
          have hcb := (t[m2]'hmt).toNat_lt
          obtain ⟨c, hc⟩ : ∃ c : Int, ((t[m2]'hmt).toNat : Int) = c := ⟨_, rfl⟩
          have hidx : ∀ wx, (Instr.index 9 (.string t) (.int .i64 (m2 : Int))).run Try.prog wx = .ok (.int .u8 c) wx := by
            intro wx
            rw [run_index_string wx 9 t .i64 m2 Try.underlying9, dif_pos ⟨by omega, hmt'⟩]
            simp [hc]
          have hk' : m2 < (nums t).length := by rw [nums_len]; exact hmt
          have hst := Pl.bad_take_succ (nums t) hk'
          rw [nums_at t hmt hk', hc] at hst
          clear hk' hc rW r1
          cases hs : Pl.safe c with
          | true =>
            rw [hs] at hst
            have ST : Hid (Pl.bad ((nums t).take (m2 + 1)) = Pl.bad ((nums t).take m2) + 0) := hst
            clear hst
            go_wp2_with fail
            refine (safe_yes c _ hs).mono ?_
            rintro e w8 ⟨rfl, rfl⟩
            go_wp2
            go_roundg (t.size - (m2 + 1))
            case measure => have := HGG.out; omega
            case rel => exact ⟨m2 + 1, rfl, by omega, by go_num, by rw [ST.out]; go_num, rfl⟩
          | false =>
            rw [hs] at hst
            have ST : Hid (Pl.bad ((nums t).take (m2 + 1)) = Pl.bad ((nums t).take m2) + 1) := hst
            clear hst
            go_wp2_with fail
            refine (safe_no c _ hs).mono ?_
            rintro e w8 ⟨rfl, rfl⟩
            go_wp2
            go_roundg (t.size - (m2 + 1))
            case measure => have := HGG.out; omega
            case rel => exact ⟨m2 + 1, rfl, by omega, by go_num, by rw [ST.out]; go_num, rfl⟩
        · have hmn : m2 = t.size := by omega
          subst hmn
          have htk : (nums t).take t.size = nums t := List.take_of_length_le (by rw [nums_len]; exact Nat.le_refl _)
          rw [htk] at hbl hbl2 ⊢
          obtain ⟨E, hE⟩ : ∃ E, E = Pl.bad (nums t) := ⟨_, rfl⟩
          have hN1 := HN.out
          rw [← hE] at hbl hN1 ⊢
          have hNa : (N : Int) ≤ (n : Int) + (t.size : Int) + 2 * (E : Int) := by omega
          have hNb : (n : Int) + (t.size : Int) + 2 * (E : Int) ≤ (N : Int) := by omega
          have hE2 : E ≤ 1048576 := by omega
          have hlen0 : ((N : Int) != (n : Int) + (t.size : Int) + 2 * (E : Int)) = false := by rw [bne_eq_false_iff_eq]; omega
          clear htk hbl hbl2 hE hN1 hm2 hmt HGG
          go_wp2_with fail
          go_loopw [15] (fun i wx => ∃ m q : Nat, i = .int .i64 m ∧ m ≤ n ∧ wx = wr.drewN q) (fun i _ => n - (intOf i).toNat)
          case atStart => exact ⟨0, 0, rfl, Nat.zero_le _, rfl⟩
          case round =>
            obtain ⟨m3, q3, rfl, hm3, hwx⟩ := hrel
            subst hwx
            by_cases hlt3 : m3 < n
            · obtain ⟨gw, ow, rfl, hgw, hcw⟩ := rW.at (by omega)
              obtain ⟨gj, oj, rfl, hgj, hcj⟩ := r1.at (by omega)
              have e1 := hcw m3 _ ((whole_head zs t (by rw [HZL.out]; exact hlt3)).trans (bytes_at (by rw [HZL.out]; exact hlt3)))
              have e3 := hcj m3 _ (bytes_at (by rw [HZL.out]; exact hlt3))
              clear hcw hcj rW r1
              have hlt' : (m3 : Int) < (N : Int) := by omega
              have hlt2 : (m3 : Int) < (n : Int) := by omega
              go_wp2
              go_quiet (fail)
              go_wp2
              go_roundw
              case rel => exact ⟨m3 + 1, q3 + nq, by go_num, by omega, by simp⟩
              case measure => simp [intOf]; omega
            · replace rW := rW.drewN q3
              replace hB6 := below_drewN hB6 q3
              obtain ⟨w9, hw9⟩ : ∃ w9, w9 = wr.drewN q3 := ⟨_, rfl⟩
              rw [← hw9] at rW hB6 ⊢
              clear hw9 hm3 r1
              go_wp2_with fail
              go_loopg [16] (N - n) (fun gg x wx => ∃ m : Nat, gg = N - m ∧ n ≤ m ∧ m ≤ N ∧ x = .int .i64 m ∧ wx = w9)
              case atStart => exact ⟨n, rfl, Nat.le_refl _, hnN, rfl, rfl⟩
              case round =>
                obtain ⟨m4, hgg, hm4, hm5, rfl, rfl⟩ := hrel
                have HGG : Hid _ := hgg
                clear hgg
                by_cases hlt4 : m4 < N
                · obtain ⟨gw, ow, rfl, hgw, hcw⟩ := rW.at (by omega)
                  obtain ⟨d, hd, hdd⟩ := whole_tail zs t (i := m4) (by rw [HZL.out]; exact hm4) (by rw [HWL.out]; exact hlt4)
                  have e1 := hcw m4 _ hd
                  have hlt' : (m4 : Int) < (N : Int) := by omega
                  clear hcw rW hd
                  by_cases h37 : d = 37
                  · have hb : (d != 37) = false := by rw [h37]; rfl
                    clear h37 hdd
                    go_wp2
                    go_roundg (N - (m4 + 1))
                    case measure => have := HGG.out; omega
                    case rel => exact ⟨m4 + 1, rfl, by omega, by omega, by go_num, rfl⟩
                  · have hb : (d != 37) = true := by rw [bne_iff_ne]; exact h37
                    have hs : Pl.safe d = true := by rcases hdd with h | h; exact absurd h h37; exact h
                    clear h37 hdd
                    go_wp2_with fail
                    refine (safe_yes d _ hs).mono ?_
                    rintro e wz ⟨rfl, rfl⟩
                    go_wp2
                    go_roundg (N - (m4 + 1))
                    case measure => have := HGG.out; omega
                    case rel => exact ⟨m4 + 1, rfl, by omega, by omega, by go_num, rfl⟩
                · go_wp2
                  go_ret
                  exact ⟨rfl, hB6⟩

end Go.Proofs.Qxb6630751a
