import Derived.Test.Qxb6630670aWalks
import Derived.Test.Qxb6630670aPlain
namespace Go.Proofs.Qxb6630670a
open Go.RowKit

theorem Try.info5 : (Try.prog.info? 5).map (fun i => (i.zero, i.size, i.bytes)) = some (some (.int .u8 0), 1, 1) := by kernel_rfl

/-- A slice of one cell in a new block. -/
theorem Rd.one (w : World) (v : Value) (e : TypeId) : Rd (w.alloc (.cells #[v] e)) (some ⟨w.heap.size, 0, none⟩) 1 1 [v] :=
  ⟨rfl, Nat.le_refl _, by unfold maxLen; omega, (fun e => by cases e), fun ad had i u hu => by
    cases had
    match i, hu with
    | 0, hu => simp at hu; subst hu; simp [Addr.add]⟩

theorem one_one (z : Int) : ∀ u ∈ [Value.int .u8 z], u.oneCell' = true := by intro u hu; simp at hu; subst hu; rfl

/-- What Array has gathered behind j items. -/
def soFar (Z : Nat → List Int) (j : Nat) : List Value := bytes (91 :: Pl.pre Z j)
def soLen (Z : Nat → List Int) (j : Nat) : Nat := 1 + (Pl.pre Z j).length
theorem soFar_first (Z : Nat → List Int) {j : Nat} (h : j = 0) : soFar Z j ++ bytes (Z j) = soFar Z (j + 1) := by subst h; simp [soFar, bytes, Pl.pre]
theorem soLen_first (Z : Nat → List Int) {j : Nat} (h : j = 0) : soLen Z j + (Z j).length = soLen Z (j + 1) := by subst h; simp [soLen, Pl.pre]
theorem soFar_next (Z : Nat → List Int) {j : Nat} (h : 0 < j) : soFar Z j ++ .int .u8 44 :: bytes (Z j) = soFar Z (j + 1) := by simp [soFar, bytes, Pl.pre_next Z h]
theorem soLen_next (Z : Nat → List Int) {j : Nat} (h : 0 < j) : soLen Z j + 1 + (Z j).length = soLen Z (j + 1) := by simp [soLen, Pl.pre_next Z h]; omega
theorem soLen_mono (Z : Nat → List Int) {a b : Nat} (h : a ≤ b) : soLen Z a ≤ soLen Z b := by have := Pl.pre_mono Z h; unfold soLen; omega

set_option maxHeartbeats 800000 in
/-- rawjson.Array. -/
theorem array_any (ao : Option Addr) (n c : Nat) (zss : List (List Int)) (Z : Nat → List Int) (hZ : Hid (∀ i, i < n → zss[i]?.getD [] = Z i)) (w : World) (h : Items w ao n c zss) (hn : n ≤ 1048576) (hb : soLen Z n ≤ 8388608) :
    Calls Try.prog 9 #[.slice ao n c] w fun e w' => ∃ g m cap, e = .returned (.slice (some ⟨g, 0, none⟩) m cap) ∧ Rd w' (some ⟨g, 0, none⟩) m cap (bytes (Pl.arr Z n)) ∧ Below w.heap.size w w' := by
  go_enter Try.func9, Try.ntmps9
  go_wp2
  go_loopw [3, 9] (fun v i wr => ∃ (k g cap : Nat), k ≤ n ∧ i = .int .i64 k ∧ v = .slice (some ⟨g, 0, none⟩) (soLen Z k) cap ∧ wr.ownsRow w.heap.size 5 1 (.slice (some ⟨g, 0, none⟩) (soLen Z k) cap) (soLen Z k) (soFar Z k) ∧ Below w.heap.size w wr) (fun _ i _ => n - (intOf i).toNat)
  case atStart =>
    refine ⟨0, w.heap.size, 1, Nat.zero_le _, rfl, rfl, ?_, (Below.refl _ _).alloc (Nat.le_refl _) _⟩
    exact World.ownsRow_lit w #[.int .u8 91] 1 (Nat.le_refl _) (by unfold maxLen; omega) rfl
  case round =>
    obtain ⟨k, g, cap, hk, rfl, rfl, hown, hbel⟩ := hrel
    have hsz := hbel.size
    by_cases hlt : k < n
    · obtain ⟨b, off, a, l, c', rfl, hbb, hcell0, hr0, hl, hlm⟩ := h.at hlt
      have hcell : wr.cell? ⟨b, off + k, none⟩ = some (.slice a l c') := (hbel.cell (p := ⟨b, off + k, none⟩) hbb).trans hcell0
      have hlt' : (k : Int) < (n : Int) := by omega
      have hbk := soLen_mono Z (show k + 1 ≤ n by omega)
      rw [hZ.out k hlt] at hr0 hl
      clear hcell0
      by_cases hk0 : k = 0
      · have H0 : Hid (k = 0) := hk0
        have hk1 : ¬ (0 : Int) < (k : Int) := by omega
        clear hk0
        have hs1 := soLen_first Z H0.out
        rw [hl] at hs1
        have q1 : soLen Z k + l ≤ maxLen := by unfold maxLen; omega
        have q2 : (soLen Z k + l) * 1 ≤ 140737488355328 := by omega
        have HS : Hid (soLen Z k + l = soLen Z (k + 1)) := hs1
        clear hs1
        go_wp2_with (at_builtin; refine wpList_append_rd _ rfl (.tmp 19) (.tmp 20) 24 29 rfl w.heap.size 5 5 (.int .u8 0) 1 Try.underlying24 Try.underlying29 Try.info5 rfl g _ cap _ rfl hown a l c' (bytes (Z k)) rfl (hr0.carry hbel) (bytes_one _) q1 q2 hsz ?_)
        intro g' cap' w' hown' hbel'
        rw [HS.out] at hown'
        rw [soFar_first Z H0.out] at hown'
        clear hown hr0 hcell
        go_wp2
        go_roundw
        case rel => exact ⟨k + 1, g', cap', by omega, by go_num, by rw [HS.out], hown', hbel.trans hbel'⟩
        case measure => simp [intOf]; omega
      · have hk1 : (0 : Int) < (k : Int) := by omega
        have hk2 : 0 < k := by omega
        clear hk0
        have hs1 := soLen_next Z hk2
        rw [hl] at hs1
        have q1 : soLen Z k + 1 ≤ maxLen := by unfold maxLen; omega
        have q2 : (soLen Z k + 1) * 1 ≤ 140737488355328 := by omega
        have q3 : soLen Z k + 1 + l ≤ maxLen := by unfold maxLen; omega
        have q4 : (soLen Z k + 1 + l) * 1 ≤ 140737488355328 := by omega
        have HS : Hid (soLen Z k + 1 + l = soLen Z (k + 1)) := hs1
        clear hs1
        go_wp2_with (at_builtin; refine wpList_append_rd _ rfl (.tmp 16) (.tmp 17) 24 24 rfl w.heap.size 5 5 (.int .u8 0) 1 Try.underlying24 Try.underlying24 Try.info5 rfl g _ cap _ rfl (hown.alloc _) (some ⟨wr.heap.size, 0, none⟩) 1 1 [.int .u8 44] rfl (Rd.one _ _ _) (one_one _) q1 q2 (by simp; omega) ?_)
        intro g1 cap1 w1 hown1 hbel1
        have hbw : Below w.heap.size w w1 := (hbel.alloc hsz _).trans hbel1
        have hsz1 := hbw.size
        clear hbel1 hown hcell
        go_wp2_with (at_builtin; refine wpList_append_rd _ rfl (.tmp 19) (.tmp 20) 24 29 rfl w.heap.size 5 5 (.int .u8 0) 1 Try.underlying24 Try.underlying29 Try.info5 rfl g1 _ cap1 _ rfl hown1 a l c' (bytes (Z k)) rfl (hr0.carry hbw) (bytes_one _) q3 q4 hsz1 ?_)
        intro g' cap' w' hown' hbel'
        rw [HS.out] at hown'
        rw [soFar_next Z hk2] at hown'
        clear hown1 hr0
        go_wp2
        go_roundw
        case rel => exact ⟨k + 1, g', cap', by omega, by go_num, by rw [HS.out], hown', hbw.trans hbel'⟩
        case measure => simp [intOf]; omega
    · have hkn : k = n := by omega
      subst hkn
      have q1 : soLen Z k + 1 ≤ maxLen := by unfold maxLen; omega
      have q2 : (soLen Z k + 1) * 1 ≤ 140737488355328 := by omega
      go_wp2_with (at_builtin; refine wpList_append_rd _ rfl (.tmp 23) (.tmp 24) 24 24 rfl w.heap.size 5 5 (.int .u8 0) 1 Try.underlying24 Try.underlying24 Try.info5 rfl g _ cap _ rfl (hown.alloc _) (some ⟨wr.heap.size, 0, none⟩) 1 1 [.int .u8 93] rfl (Rd.one _ _ _) (one_one _) q1 q2 (by simp; omega) ?_)
      intro g1 cap1 w1 hown1 hbel1
      have hbw : Below w.heap.size w w1 := (hbel.alloc hsz _).trans hbel1
      clear hbel1 hown
      go_wp2
      go_ret
      refine ⟨g1, _, cap1, rfl, ?_, hbw⟩
      have := Rd.ofOwn hown1
      rwa [show soFar Z k ++ [Value.int .u8 93] = bytes (Pl.arr Z k) by simp [soFar, Pl.arr, bytes]] at this

end Go.Proofs.Qxb6630670a
