import Derived.Test.Qxb6630670aArr
import Derived.WalkSpells
namespace Go.Proofs.Qxb6630670a
open Go.RowKit

theorem Try.info29 : (Try.prog.info? 29).map (fun i => (i.zero, i.size, i.bytes)) = some (some (.slice none 0 0), 1, 24) := by kernel_rfl

/-- The first k of vs, the rest zero. -/
def fill (vs : List Value) (n k : Nat) : List Value := vs.take k ++ List.replicate (n - k) (.slice none 0 0)
theorem fill_zero (vs : List Value) (n : Nat) : fill vs n 0 = List.replicate n (.slice none 0 0) := by simp [fill]
theorem fill_done (vs : List Value) (n : Nat) (h : vs.length = n) : fill vs n n = vs := by subst h; simp [fill]
theorem fill_set (vs : List Value) (n k : Nat) (h : vs.length = n) (hk : k < n) {u : Value} (hu : vs[k]? = some u) : (fill vs n k).set k u = fill vs n (k + 1) := by
  subst h
  have hu' : vs[k] = u := by rw [List.getElem?_eq_getElem hk] at hu; exact Option.some.inj hu
  unfold fill
  rw [List.set_append_right _ _ (by simp; omega)]
  have e : k - (List.take k vs).length = 0 := by simp; omega
  rw [e, show vs.length - k = (vs.length - (k + 1)) + 1 by omega, List.replicate_succ, List.set_cons_zero, List.take_succ_eq_append_getElem hk, hu']
  simp
theorem fill_at (vs : List Value) (n k : Nat) (h : vs.length = n) (hk : k < n) : (fill vs n k)[k]? = some (.slice none 0 0) := by
  subst h
  unfold fill
  rw [List.getElem?_append_right (by simp; omega)]
  have e : k - (List.take k vs).length = 0 := by simp; omega
  rw [e, List.getElem?_replicate, if_pos (by omega)]

set_option maxHeartbeats 800000 in
/-- rawjson.ZZArray. -/
theorem zz_any (ao : Option Addr) (n c : Nat) (zss : List (List Int)) (Z : Nat → List Int) (hZ : Hid (∀ i, i < n → zss[i]?.getD [] = Z i)) (w : World) (h : Items w ao n c zss) (hn : n ≤ 1048576) (hb : soLen Z n ≤ 8388608) :
    Calls Try.prog 6 #[.slice ao n c] w fun e w' => ∃ g m cap, e = .returned (.slice (some ⟨g, 0, none⟩) m cap) ∧ Rd w' (some ⟨g, 0, none⟩) m cap (bytes (Pl.arr Z n)) ∧ Below w.heap.size w w' := by
  obtain ⟨vs, hrd, hl, hi⟩ := h
  have hlv : vs.length = n := hrd.len
  cases ao with
  | none =>
    obtain ⟨rfl, rfl⟩ := hrd.nil rfl
    go_enter Try.func6, Try.ntmps6
    go_wp2_with fail
    refine wp_loop_rounds 1 ?_
    rw [rounds_succ]
    go_wp2_with fail
    refine (array_any none 0 0 zss Z hZ _ ⟨vs, hrd, hl, hi⟩ hn hb).mono ?_
    rintro e w1 ⟨g, m, cap, rfl, hr, hbel⟩
    go_wp2
    go_ret
    exact ⟨g, m, cap, rfl, hr, hbel⟩
  | some ad =>
    have HL : Hid (vs.length = n) := hlv
    have hneq := fun wx => run_neq_slice_nil_any (P := Try.prog) wx 22 24 (some ad) n c 0 0 Try.underlying22
    simp only [Option.isNone_some, Bool.not_false] at hneq
    obtain ⟨i0, hi0, hz0, hz1, hz2⟩ := info_parts Try.info29
    have q1 : i0.bytes * n ≤ 281474976710656 := by rw [hz2]; omega
    have q2 : n ≤ maxLen := by unfold maxLen; omega
    clear hlv hz2
    go_enter Try.func6, Try.ntmps6
    go_wp2_with (at_make; refine wpList_make_full _ rfl (.tmp 8) (.tmp 8) 28 rfl w.heap.size 29 i0 (.slice none 0 0) 1 Try.underlying28 hi0 hz0 hz1 .i64 .i64 _ _ n rfl rfl rfl rfl q1 q2 (Nat.le_refl _) ?_)
    intro w1 hown1 hgr1
    have hbel1 : Below w.heap.size w w1 := (Below.refl _ _).grown hgr1 (Nat.le_refl _) (fun k hk => by cases hk)
    have hfz : (madeCells #[Value.slice none 0 0] n).toList = fill vs n 0 := by
      rw [fill_zero, toList_madeCells_one]
    rw [hfz] at hown1
    clear hfz hgr1 q1
    go_wp2_with fail
    go_loopw [12] (fun i wr => ∃ (k : Nat), k ≤ n ∧ i = .int .i64 k ∧ wr.ownsRow w.heap.size 29 1 (.slice (some ⟨w.heap.size, 0, none⟩) n n) n (fill vs n k) ∧ Below w.heap.size w wr) (fun i _ => n - (intOf i).toNat)
    case atStart => exact ⟨0, Nat.zero_le _, rfl, hown1, hbel1⟩
    case round =>
      obtain ⟨k, hk, rfl, hown, hbel⟩ := hrel
      clear hown1 hbel1
      by_cases hlt : k < n
      · obtain ⟨b, off, rfl', hbb, hc⟩ := hrd.at (by omega)
        cases rfl'
        obtain ⟨u, hu⟩ : ∃ u, vs[k]? = some u := ⟨_, List.getElem?_eq_getElem (by rw [HL.out]; exact hlt)⟩
        obtain ⟨a, l, c', rfl, hr'⟩ := hi k u hu
        have hcell : wr.cell? ⟨b, off + k, none⟩ = some (.slice a l c') := (hbel.cell (p := ⟨b, off + k, none⟩) hbb).trans (hc k _ hu)
        have hlt' : (k : Int) < (n : Int) := by omega
        have hst := hown.stored k (.slice a l c')
        have hown2 := hst.1
        rw [fill_set vs n k HL.out hlt hu] at hown2
        have hcd : wr.cell? ⟨w.heap.size, k, none⟩ = some (.slice none 0 0) := by rw [hown.cellAt k (by omega)]; exact fill_at vs n k HL.out hlt
        have hfd : wr.frozen? ⟨w.heap.size, k, none⟩ = false := hown.frozenAt k
        clear hc hr' hst hown hu hrd hi
        go_wp2
        go_roundw
        case rel => exact ⟨k + 1, by omega, by go_num, hown2, hbel.setCell (by exact Nat.le_refl _) _⟩
        case measure => simp [intOf]; omega
      · have hkn : k = n := by omega
        subst hkn
        rw [fill_done vs k HL.out] at hown
        have hrd' := Rd.ofOwn hown
        have hit : Items wr (some ⟨w.heap.size, 0, none⟩) k k zss := ⟨vs, hrd', hl, fun i u hu => by
          obtain ⟨a, l, c', rfl, hr'⟩ := hi i u hu
          exact ⟨a, l, c', rfl, hr'.carry hbel⟩⟩
        have hsz := hbel.size
        clear hrd hown hrd'
        go_wp2_with fail
        refine (array_any _ k k zss Z hZ _ hit hn hb).mono ?_
        rintro e w1 ⟨g, m, cap, rfl, hr, hbel'⟩
        go_wp2
        go_ret
        exact ⟨g, m, cap, rfl, hr, hbel.trans (hbel'.mono hsz)⟩

end Go.Proofs.Qxb6630670a
