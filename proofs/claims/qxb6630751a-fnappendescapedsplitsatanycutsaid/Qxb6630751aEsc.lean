import Derived.Test.Qxb6630751aWalks2
import Derived.Deep.RegionLaw
import Derived.Deep.LoopGhost
namespace Go.Proofs.Qxb6630751a
open Go.RowKit

/-- The octets of a string, as numbers. -/
def nums (t : ByteArray) : List Int := t.data.toList.map fun b => (b.toNat : Int)
theorem nums_len (t : ByteArray) : (nums t).length = t.size := by unfold nums; rw [List.length_map, Array.length_toList]; rfl
theorem nums_at (t : ByteArray) {k : Nat} (h : k < t.size) (h' : k < (nums t).length) : (nums t)[k]'h' = ((t[k]'h).toNat : Int) := by simp [nums]; rfl
theorem nums_bounds (t : ByteArray) : ∀ c ∈ nums t, 0 ≤ c ∧ c ≤ 255 := by
  intro c hc
  obtain ⟨b, _, rfl⟩ := List.mem_map.1 hc
  have := b.toNat_lt
  omega

theorem Rd.one (w : World) (v : Value) (e : TypeId) : Rd (w.alloc (.cells #[v] e)) (some ⟨w.heap.size, 0, none⟩) 1 1 [v] :=
  ⟨rfl, Nat.le_refl _, by unfold maxLen; omega, (fun e => by cases e), fun ad had i u hu => by
    cases had
    match i, hu with
    | 0, hu => simp at hu; subst hu; simp [Addr.add]⟩
theorem Rd.three (w : World) (a b c : Value) (e : TypeId) : Rd (w.alloc (.cells #[a, b, c] e)) (some ⟨w.heap.size, 0, none⟩) 3 3 [a, b, c] :=
  ⟨rfl, Nat.le_refl _, by unfold maxLen; omega, (fun e => by cases e), fun ad had i u hu => by
    cases had
    match i, hu with
    | 0, hu => simp at hu; subst hu; simp [Addr.add]
    | 1, hu => simp at hu; subst hu; simp [Addr.add]
    | 2, hu => simp at hu; subst hu; simp [Addr.add]⟩

theorem one_one (z : Int) : ∀ u ∈ [Value.int .u8 z], u.oneCell' = true := by intro u hu; simp at hu; subst hu; rfl
theorem three_one (x y z : Int) : ∀ u ∈ [Value.int .u8 x, Value.int .u8 y, Value.int .u8 z], u.oneCell' = true := by
  intro u hu; simp at hu; rcases hu with rfl | rfl | rfl <;> rfl

/-- How far the escapes reach behind the first k octets. -/
def reach (n : Nat) (t : ByteArray) (k : Nat) : Nat := n + (Pl.esc ((nums t).take k)).length
def soFar (zs : List Int) (t : ByteArray) (k : Nat) : List Value := bytes (zs ++ Pl.esc ((nums t).take k))
theorem reach_zero (n : Nat) (t : ByteArray) : reach n t 0 = n := by simp [reach, Pl.esc]
theorem soFar_zero (zs : List Int) (t : ByteArray) : soFar zs t 0 = bytes zs := by simp [soFar, Pl.esc]
theorem reach_le (n : Nat) (t : ByteArray) (k : Nat) : reach n t k ≤ n + 3 * k := by
  unfold reach
  rw [Pl.esc_len]
  have h1 := Pl.bad_le ((nums t).take k)
  have h2 : ((nums t).take k).length ≤ k := List.length_take_le _ _
  omega
theorem step_safe (n : Nat) (zs : List Int) (t : ByteArray) {k : Nat} (hk : k < t.size) {c : Int} (hc : ((t[k]'hk).toNat : Int) = c) (hs : Pl.safe c = true) :
    reach n t k + 1 = reach n t (k + 1) ∧ soFar zs t k ++ [.int .u8 c] = soFar zs t (k + 1) := by
  have hk' : k < (nums t).length := by rw [nums_len]; exact hk
  have e := Pl.esc_take_succ (nums t) hk'
  rw [nums_at t hk hk', hc, Pl.escB_safe hs] at e
  unfold reach soFar
  rw [e]
  simp [bytes]
  omega
theorem step_not (n : Nat) (zs : List Int) (t : ByteArray) {k : Nat} (hk : k < t.size) {c : Int} (hc : ((t[k]'hk).toNat : Int) = c) (hs : Pl.safe c = false) :
    reach n t k + 3 = reach n t (k + 1) ∧ soFar zs t k ++ [.int .u8 37, .int .u8 (Pl.hexd (c / 16)), .int .u8 (Pl.hexd (c % 16))] = soFar zs t (k + 1) := by
  have hk' : k < (nums t).length := by rw [nums_len]; exact hk
  have e := Pl.esc_take_succ (nums t) hk'
  rw [nums_at t hk hk', hc, Pl.escB_not hs] at e
  unfold reach soFar
  rw [e]
  simp [bytes]
  omega

/-- The table of hex digits. -/
theorem hex_idx (i : Int) (w : World) (h0 : 0 ≤ i) (h1 : i < 16) :
    (Instr.index 9 (.string ⟨#[48, 49, 50, 51, 52, 53, 54, 55, 56, 57, 65, 66, 67, 68, 69, 70]⟩) (.int .u8 i)).run Try.prog w = .ok (.int .u8 (Pl.hexd i)) w := by
  have h : i = 0 ∨ i = 1 ∨ i = 2 ∨ i = 3 ∨ i = 4 ∨ i = 5 ∨ i = 6 ∨ i = 7 ∨ i = 8 ∨ i = 9 ∨ i = 10 ∨ i = 11 ∨ i = 12 ∨ i = 13 ∨ i = 14 ∨ i = 15 := by omega
  rcases h with rfl | rfl | rfl | rfl | rfl | rfl | rfl | rfl | rfl | rfl | rfl | rfl | rfl | rfl | rfl | rfl <;> (rw [run_index_string w 9 _ .u8 _ Try.underlying9]; rfl)
theorem shr4 (c : Int) (w : World) : (binOp .shr 5 (.int .u8 c) (.int .u64 4)).run Try.prog w = .ok (.int .u8 (c / 16)) w := by
  simp [binOp, shift_shr_any, IntKind.bits]
theorem and15 (c : Int) (h0 : 0 ≤ c) (h1 : c ≤ 255) : bits .and .u8 c 15 = c % 16 := by
  rw [u8_and c 15 h0 (by omega) (by omega) (by omega)]
  have e2 : c.toNat &&& (15 : Int).toNat = c.toNat % 16 := Nat.and_two_pow_sub_one_eq_mod c.toNat 4
  rw [e2]
  omega

set_option maxHeartbeats 1600000 in
/-- appendEscaped. -/
theorem esc_any (v : Value) (n : Nat) (zs : List Int) (t : ByteArray) (w : World) (hown : w.ownsRow 0 5 1 v n (bytes zs)) (ht : t.size ≤ 1048576) (hn : n ≤ 8388608) :
    Calls Try.prog 11 #[v, .string t] w fun e w' => ∃ v', e = .returned v' ∧ w'.ownsRow 0 5 1 v' (reach n t t.size) (soFar zs t t.size) ∧ Grew w w' v v' := by
  have hown0 : w.ownsRow 0 5 1 v (reach n t 0) (soFar zs t 0) := by rw [reach_zero, soFar_zero]; exact hown
  clear hown
  go_enter Try.func11, Try.ntmps11
  go_wp2_with fail
  go_loopw [0, 5] (fun x i wr => ∃ (k : Nat), k ≤ t.size ∧ i = .int .i64 k ∧ wr.ownsRow 0 5 1 x (reach n t k) (soFar zs t k) ∧ Grew w wr v x) (fun _ i _ => t.size - (intOf i).toNat)
  case atStart => exact ⟨0, Nat.zero_le _, rfl, hown0, Grew.refl _ _⟩
  case round =>
    obtain ⟨k, hk, rfl, hown, hgr⟩ := hrel
    clear hown0
    by_cases hlt : k < t.size
    · have hlt' : (k : Int) < (t.size : Int) := by omega
      have hcb := (t[k]'hlt).toNat_lt
      have hr1 := reach_le n t (k + 1)
      obtain ⟨c, hc⟩ : ∃ c : Int, ((t[k]'hlt).toNat : Int) = c := ⟨_, rfl⟩
      have hidx : ∀ wx, (Instr.index 9 (.string t) (.int .i64 (k : Int))).run Try.prog wx = .ok (.int .u8 c) wx := by
        intro wx
        rw [run_index_string wx 9 t .i64 k Try.underlying9, dif_pos ⟨by omega, hlt'⟩]
        simp [hc]
      have hc0 : 0 ≤ c := by omega
      have hc1 : c ≤ 255 := by omega
      cases hs : Pl.safe c with
      | true =>
        have hoct := Pl.safe_oct c
        rw [hs] at hoct
        have ho1 : Pl.oct c = true := by revert hoct; cases Pl.oct c <;> simp
        have h37 : (c != 37) = true := by rw [bne_iff_ne]; rw [Pl.safe_true] at hs; omega
        obtain ⟨s1, s2⟩ := step_safe n zs t hlt hc hs
        have HS1 : Hid (reach n t k + 1 = reach n t (k + 1)) := s1
        have HS2 : Hid (soFar zs t k ++ [.int .u8 c] = soFar zs t (k + 1)) := s2
        have q1 : reach n t (k + 1) * 1 ≤ 140737488355328 ∧ reach n t (k + 1) ≤ maxLen := by unfold maxLen; omega
        clear hoct s1 s2 hs hc
        go_wp2_with fail
        refine (oct_yes c _ ho1).mono ?_
        rintro e w1 ⟨rfl, rfl⟩
        go_wp2_with (at_builtin; refine wpList_append_grew _ rfl (.tmp 22) (.tmp 24) 22 rfl 5 (.int .u8 0) 1 Try.underlying22 Try.info5 rfl _ _ _ rfl (hown.alloc _) ⟨w1.heap.size, 0, none⟩ 1 1 [.int .u8 c] rfl (Rd.one _ _ _) (one_one _) (reach n t (k + 1)) HS1 (soFar zs t (k + 1)) HS2 q1 ?_)
        intro v' w2 hown2 hgr2
        have hgr3 := hgr.trans ((Grew.alloc w1 _ _).trans hgr2)
        clear hown hgr hgr2 q1
        go_wp2
        go_roundw
        case rel => exact ⟨k + 1, by omega, by go_num, hown2, hgr3⟩
        case measure => simp [intOf]; omega
      | false =>
        obtain ⟨s1, s2⟩ := step_not n zs t hlt hc hs
        have HS1 : Hid (reach n t k + 3 = reach n t (k + 1)) := s1
        have HS2 : Hid (soFar zs t k ++ [.int .u8 37, .int .u8 (Pl.hexd (c / 16)), .int .u8 (Pl.hexd (c % 16))] = soFar zs t (k + 1)) := s2
        have q1 : reach n t (k + 1) * 1 ≤ 140737488355328 ∧ reach n t (k + 1) ≤ maxLen := by unfold maxLen; omega
        have i1 := fun wx => hex_idx (c / 16) wx (by omega) (by omega)
        have i2 := fun wx => hex_idx (c % 16) wx (by omega) (by omega)
        have o1 := shr4 c
        have o2 := and15 c hc0 hc1
        clear s1 s2 hc
        cases ho : Pl.oct c with
        | true =>
          have h37 : c = 37 := by rw [Pl.safe_false] at hs; rw [Pl.oct_true] at ho; omega
          have hne : (c != 37) = false := by rw [h37]; rfl
          clear h37 hs
          go_wp2_with fail
          refine (oct_yes c _ ho).mono ?_
          rintro e w1 ⟨rfl, rfl⟩
          go_wp2_with fail
          go_region_law (refine step_append_grew rfl (.tmp 26) (.tmp 33) 22 rfl 5 (.int .u8 0) 1 Try.underlying22 Try.info5 rfl _ _ _ rfl ((hown.alloc _).drew) ⟨w1.heap.size, 0, none⟩ 3 3 [.int .u8 37, .int .u8 (Pl.hexd (c / 16)), .int .u8 (Pl.hexd (c % 16))] rfl ((Rd.three _ _ _ _ _).drew) (three_one _ _ _) (reach n t (k + 1)) HS1 (soFar zs t (k + 1)) HS2 q1 ?_; intro v' w2 hown2 hgr2; have hgr3 := hgr.trans ((Grew.alloc w1 _ _).trans ((Grew.drew _ _).trans hgr2)); clear hown hgr hgr2 q1)
          all_goals
            go_wp2
            go_roundw
            case rel => exact ⟨k + 1, by omega, by go_num, hown2, hgr3⟩
            case measure => simp [intOf]; omega
        | false =>
          clear hs
          go_wp2_with fail
          refine (oct_no c _ ho).mono ?_
          rintro e w1 ⟨rfl, rfl⟩
          go_wp2_with fail
          go_region_law (refine step_append_grew rfl (.tmp 26) (.tmp 33) 22 rfl 5 (.int .u8 0) 1 Try.underlying22 Try.info5 rfl _ _ _ rfl ((hown.alloc _).drew) ⟨w1.heap.size, 0, none⟩ 3 3 [.int .u8 37, .int .u8 (Pl.hexd (c / 16)), .int .u8 (Pl.hexd (c % 16))] rfl ((Rd.three _ _ _ _ _).drew) (three_one _ _ _) (reach n t (k + 1)) HS1 (soFar zs t (k + 1)) HS2 q1 ?_; intro v' w2 hown2 hgr2; have hgr3 := hgr.trans ((Grew.alloc w1 _ _).trans ((Grew.drew _ _).trans hgr2)); clear hown hgr hgr2 q1)
          all_goals
            go_wp2
            go_roundw
            case rel => exact ⟨k + 1, by omega, by go_num, hown2, hgr3⟩
            case measure => simp [intOf]; omega
    · have hkn : k = t.size := by omega
      subst hkn
      go_wp2
      go_ret
      exact ⟨_, rfl, hown, hgr⟩

end Go.Proofs.Qxb6630751a
