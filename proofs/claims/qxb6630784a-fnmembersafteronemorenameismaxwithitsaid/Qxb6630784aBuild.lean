/-
  zzBuild, walked.
-/
import Derived.Test.Qxb6630784aHeap
import Derived.Deep.RegionWith
namespace Go.Proofs.Qxb6630784a
open Go.RowKit

theorem Try.info36 : (Try.prog.info? 36).map (fun i => (i.zero, i.size, i.bytes)) = some (some (.agg #[.int .i64 0, .int .i64 0, .int .i64 0, .string ⟨#[]⟩, .slice none 0 0, .string ⟨#[]⟩]), 6, 80) := by kernel_rfl
theorem Try.info39 : (Try.prog.info? 39).map (fun i => (i.zero, i.size, i.bytes)) = some (some (.agg #[.string ⟨#[]⟩, .slice none 0 0]), 2, 40) := by kernel_rfl
theorem msg_one (i : Nat) (x : Int) : (msg i x).toArray.all (·.oneCell') = true := by simp [msg, Value.oneCell']
theorem set6 (w : World) (b o : Nat) (a0 a1 a2 a3 a4 a5 : Value) :
    w.setCells b o [a0, a1, a2, a3, a4, a5] = (((((w.setCell ⟨b, o, none⟩ a0).setCell ⟨b, o + 1, none⟩ a1).setCell ⟨b, o + 2, none⟩ a2).setCell ⟨b, o + 3, none⟩ a3).setCell ⟨b, o + 4, none⟩ a4).setCell ⟨b, o + 5, none⟩ a5 := rfl
theorem set2 (w : World) (b o : Nat) (a0 a1 : Value) : w.setCells b o [a0, a1] = (w.setCell ⟨b, o, none⟩ a0).setCell ⟨b, o + 1, none⟩ a1 := rfl
/-- A struct stored into the middle of a block: the world behind it under a name. -/
theorem wpList_store_to {P : Program} {ops : Array Oper} {rest : List Oper} {op : Oper} {a : Act} {w : World} {Q : Exit → Act → World → Prop} (hgd : op.guard = none) (ty : TypeId) (x y : Operand) (ho : op.op = .store ty x y)
    (b o : Nat) (cells : Array Value) (hx : a.eval x = .pointer (some ⟨b, o, none⟩)) (hy : a.eval y = .agg cells)
    (ht : w.there b o cells.size) (hi : (P.info? ty).map (·.size) = some cells.size) (h1 : cells.all (·.oneCell') = true)
    (h : ∀ w', Hid (w' = w.setCells b o cells.toList) → wpList P ops Q rest (a.put op.dst undef) w') : wpList P ops Q (op :: rest) a w :=
  wpList_store_mid hgd ty x y ho b o cells hx hy ht hi h1 (h _ rfl)
/-- A cell that is there: its value and that it may be written. -/
theorem there_at {w : World} {b o n : Nat} (h : w.there b o n) {j : Nat} (hj : j < n) : ∃ u, w.cell? ⟨b, o + j, none⟩ = some u ∧ w.frozen? ⟨b, o + j, none⟩ = false := by
  obtain ⟨h1, h2⟩ := h j hj
  obtain ⟨u, hu⟩ := Option.isSome_iff_exists.1 h1
  exact ⟨u, hu, h2⟩
theorem box_new (w : World) (x y : Value) (e : TypeId) : Box (w.alloc (.cells #[x, y] e)) w.heap.size x y := ⟨by simp, by simp, fun j => by simp⟩

set_option maxHeartbeats 1600000 in
set_option maxRecDepth 100000 in
theorem build_any (sa : Option Addr) (n cs : Nat) (ss : List Int) (ao : Option Addr) (m c : Nat) (css : List (List Int)) (x : Int) (w : World) (hs : Rd w sa n cs (ints ss)) (hi : Items w ao m c css)
    (hn : n ≤ 131073) (hm : m ≤ 43691) (hx0 : 0 ≤ x) (hx1 : x ≤ 43691) :
    Calls Try.prog 7 #[.slice sa n cs, .slice ao m c, .int .i64 x] w fun e w' => e = .returned (.pointer (some ⟨w.heap.size, 0, none⟩)) ∧ Wl w' w.heap.size ss css ∧ Below w.heap.size w w' := by
  have HSL : Hid (ss.length = n) := by have := hs.len; rw [ints_len] at this; exact this
  have HCL : Hid (css.length = m) := hi.len
  obtain ⟨i6, hi6, hz0, hz1, hz2⟩ := info_parts Try.info36
  obtain ⟨i2, hi2, hw0, hw1, hw2⟩ := info_parts Try.info39
  have q1 : i6.bytes * n ≤ 281474976710656 := by rw [hz2]; omega
  have q2 : n ≤ maxLen := by unfold maxLen; omega
  have q3 : i2.bytes * m ≤ 281474976710656 := by rw [hw2]; omega
  have q4 : m ≤ maxLen := by unfold maxLen; omega
  clear hz2 hw2
  by_cases hn0 : 0 < n
  · have t0 : (0 : Int) < (n : Int) := by omega
    go_enter Try.func7, Try.ntmps7
    go_wp2_with (at_make; refine wpList_make_full _ rfl (.tmp 18) (.tmp 18) 32 rfl w.heap.size 36 i6 _ 6 Try.underlying32 hi6 hz0 hz1 .i64 .i64 _ _ n rfl rfl rfl rfl q1 q2 (by simp) ?_)
    intro w1 hown1 hgr1
    have ht1 := there_own hown1
    have hb1 : Below w.heap.size w w1 := ((Below.refl _ _).alloc (Nat.le_refl _) _).grown hgr1 (by simp) (fun k hk => by cases hk)
    have hs1 := hgr1.size
    have hx1' : Box w1 w.heap.size (.slice none 0 0) (.slice none 0 0) := (box_new w _ _ 34).carry (hgr1.block _ (by simp) (by simp))
    clear hown1 hgr1 q1 q2
    have hs1' : w.heap.size + 1 < w1.heap.size := by
      have h0 := ht1 0 (by omega)
      obtain ⟨u, hu⟩ := Option.isSome_iff_exists.1 h0.1
      exact World.block_lt_of_cell? _ _ hu
    clear hs1
    go_wp2_with fail
    go_loopg [9] n (fun gg i wr => ∃ k : Nat, gg = n - k ∧ k ≤ n ∧ i = .int .i64 k ∧ Below w.heap.size w wr ∧ Box wr w.heap.size (.slice none 0 0) (.slice none 0 0) ∧ wr.there (w.heap.size + 1) 0 (n * 6) ∧ MsgsTo wr (w.heap.size + 1) ss k ∧ w.heap.size + 1 < wr.heap.size)
    case atStart => exact ⟨0, rfl, Nat.zero_le _, rfl, hb1, hx1', ht1, fun j hj => by omega, hs1'⟩
    case round =>
      clear hb1 hx1' ht1 hs1'
      obtain ⟨k, hgg, hk, rfl, hb, hbx, hth, hms, hsz⟩ := hrel
      have HGG : Hid _ := hgg
      clear hgg
      by_cases hkn : k < n
      · obtain ⟨b, off, rfl, hbb, hc⟩ := hs.at hn0
        have hcell := (hb.cell (p := ⟨b, off + k, none⟩) hbb).trans (hc k _ (ints_at (by rw [HSL.out]; exact hkn)))
        have hstep := msg_step hth hms hkn
        obtain ⟨y, hy⟩ : ∃ y, y = ss[k]?.getD 0 := ⟨_, rfl⟩
        rw [← hy] at hcell hstep
        have hth' : wr.there (w.heap.size + 1) (k * 6) 6 := fun j hj => by have := hth (k * 6 + j) (by omega); simpa using this
        have hkn' : (k : Int) < (n : Int) := by omega
        have hb' := below_setCells (a := w) (w.heap.size + 1) (by omega) (msg k y) (k * 6) wr hb
        have hbx' := hbx.carry (block_setCells (w.heap.size + 1) (msg k y) (k * 6) wr w.heap.size (by omega))
        have HSTEP : Hid _ := hstep
        have HB : Hid _ := hb'
        have HBX : Hid _ := hbx'
        clear hc hy hstep hth hms hs hb' hbx' hb hbx hi
        go_wp2_with ((with_reducible show wpList _ _ _ (Oper.mk none (Op.store 36 (.tmp 34) (.tmp 33)) _ _ _ none :: _) _ _); refine wpList_store_to rfl 36 (.tmp 34) (.tmp 33) rfl (w.heap.size + 1) (k * 6) #[.int .i64 (k : Int), .int .i64 0, .int .i64 y, .string ⟨#[]⟩, .slice none 0 0, .string ⟨#[]⟩] rfl rfl hth' Try.size36 (msg_one k y) ?_)
        intro w2 hw2
        have ew2 : w2 = wr.setCells (w.heap.size + 1) (k * 6) (msg k y) := hw2.out
        have r1 : Below w.heap.size w w2 := by rw [ew2]; exact HB.out
        have r2 : Box w2 w.heap.size (.slice none 0 0) (.slice none 0 0) := by rw [ew2]; exact HBX.out
        have r3 : w2.there (w.heap.size + 1) 0 (n * 6) := by rw [ew2]; exact HSTEP.out.1
        have r4 : MsgsTo w2 (w.heap.size + 1) ss (k + 1) := by rw [ew2]; exact HSTEP.out.2
        have r5 : w.heap.size + 1 < w2.heap.size := by rw [ew2, size_setCells]; exact hsz
        clear ew2 hw2 HB HBX HSTEP hth' hcell hsz
        go_wp2
        go_roundg (n - (k + 1))
        case measure => have := HGG.out; omega
        case rel => exact ⟨k + 1, rfl, by omega, by go_num, r1, r2, r3, r4, r5⟩
      · have hkk : k = n := by omega
        subst hkk
        have hbx0 := hbx.c0
        have hbx1 := hbx.c1
        have hbxf := hbx.free
        obtain ⟨v, hv⟩ : ∃ v, v = Value.slice (some ⟨w.heap.size + 1, 0, none⟩) k k := ⟨_, rfl⟩
        obtain ⟨wz, hwz⟩ : ∃ wz, wz = wr.setCell ⟨w.heap.size, 1, none⟩ (.slice (some ⟨w.heap.size + 1, 0, none⟩) k k) := ⟨_, rfl⟩
        have z1 : Below w.heap.size w wz := by rw [hwz]; exact hb.setCell (p := ⟨w.heap.size, 1, none⟩) (Nat.le_refl _) _
        have z2 : Box wz w.heap.size (.slice none 0 0) (.slice (some ⟨w.heap.size + 1, 0, none⟩) k k) := by rw [hwz]; exact hbx.set1 _
        have z3 : wz.heap.size = wr.heap.size := by rw [hwz]; simp [World.setCell]
        have z4 : MsgsTo wz (w.heap.size + 1) ss k := by rw [hwz]; exact hms.carry (Below.heap_setCell _ _ _ _ (by simp))
        have ZM : Hid (∀ wy, (∀ b, b ≠ w.heap.size → b < wz.heap.size → wy.heap[b]? = wz.heap[b]?) → wz.heap.size ≤ wy.heap.size → Msgs wy (some ⟨w.heap.size + 1, 0, none⟩) ss) := fun wy h1 h2 =>
          msgs_of (by rw [HSL.out]; exact z4.carry (h1 _ (by omega) (by omega))) (by omega)
        have hzs : w.heap.size < wz.heap.size := by omega
        have HWZ : Hid (wz = wr.setCell ⟨w.heap.size, 1, none⟩ (.slice (some ⟨w.heap.size + 1, 0, none⟩) k k)) := hwz
        have HZ3 : Hid (wz.heap.size = wr.heap.size) := z3
        clear hv z3 z4 hms hth hsz HGG hk hb hbx hwz
        by_cases hm0 : 0 < m
        · have t1 : (0 : Int) < (m : Int) := by omega
          go_wp2_with (at_make; refine wpList_make_full _ rfl (.tmp 43) (.tmp 43) 31 rfl w.heap.size 39 i2 _ 2 Try.underlying31 hi2 hw0 hw1 .i64 .i64 _ _ m rfl rfl rfl rfl q3 q4 (by rw [← HWZ.out]; omega) ?_)
          intro w4 hown4 hgr4
          obtain ⟨C, hC⟩ : ∃ C, C = wr.heap.size := ⟨_, rfl⟩
          have hCz : wz.heap.size = C := by rw [hC]; exact HZ3.out
          rw [← HWZ.out] at hgr4
          rw [← hC] at hown4 ⊢
          have hth4 := there_own hown4
          have hb4 : Below C wz w4 := (Below.refl _ _).grown hgr4 (by omega) (fun k hk => by cases hk)
          have hsz4 : C < w4.heap.size := by
            obtain ⟨u, hu, _⟩ := there_at hth4 (j := 0) (by omega)
            exact World.block_lt_of_cell? _ _ hu
          have HCZ : Hid (wz.heap.size = C) := hCz
          have hwC : w.heap.size < C := by omega
          clear hC hCz hown4 hgr4 q3 q4 HZ3 HWZ hzs hbx0 hbx1 hbxf
          go_wp2_with fail
          go_loopg [11] m (fun gg i wx => ∃ j : Nat, gg = m - j ∧ j ≤ m ∧ i = .int .i64 j ∧ Below C wz wx ∧ wx.there C 0 (m * 2) ∧ ChansTo w wx C css j ∧ C < wx.heap.size)
          case atStart => exact ⟨0, rfl, Nat.zero_le _, rfl, hb4, hth4, fun j hj => by omega, hsz4⟩
          case round =>
            clear hb4 hth4 hsz4
            obtain ⟨j, hgg, hj, rfl, hb5, hth5, hch5, hsz5⟩ := hrel
            have HGG : Hid _ := hgg
            clear hgg
            have hbw : Below w.heap.size w wr := z1.trans (hb5.mono (by omega))
            by_cases hjm : j < m
            · obtain ⟨b, off, a, l, c', rfl, hbb, hcell0, hrd, hl, hlm⟩ := hi.at hjm
              have hcell : wr.cell? ⟨b, off + j, none⟩ = some (.slice a l c') := (hbw.cell (p := ⟨b, off + j, none⟩) hbb).trans hcell0
              obtain ⟨u0, e0, f0⟩ := there_at hth5 (j := j * 2) (by omega)
              obtain ⟨u1, e1, f1⟩ := there_at hth5 (j := j * 2 + 1) (by omega)
              rw [Nat.zero_add] at e0 f0 e1 f1
              have hjm' : (j : Int) < (m : Int) := by omega
              have hwr : IntKind.i64.wrap (x + (j : Int)) = x + (j : Int) := wrap_in (by omega) (by omega)
              clear hcell0 hl hlm hi
              go_wp2_with fail
              go_region_with (go_at_call 11; refine (itoa_any _ _ (by omega) (by omega)).mono ?_; rintro e w6 ⟨s, rfl, hs6, hg6⟩; have hg7 : wr.grownBy w6 none := ⟨hg6.os, hg6.tape, hg6.output, hg6.size, hg6.block⟩; have k0 := hg7.cell e0 (by simp); have k1 := hg7.cell e1 (by simp); have k2 := hg7.cell hcell (by simp); have k3 : w6.frozen? ⟨C, j * 2, none⟩ = false := (World.frozen?_of_block (w := wr) (a := ⟨C, j * 2, none⟩) (hg7.block C hsz5 (by simp))).trans f0; have k4 : w6.frozen? ⟨C, j * 2 + 1, none⟩ = false := (World.frozen?_of_block (w := wr) (a := ⟨C, j * 2 + 1, none⟩) (hg7.block C hsz5 (by simp))).trans f1)
              all_goals
                have st := chan_step (w0 := w) (w := w6) (b := C) (s := ⟨#[99]⟩ ++ s) (a := a) (l := l) (c := c') (there_carry hth5 (hg7.block C hsz5 (by simp))) (hch5.carry (hg7.block C hsz5 (by simp))) hjm hrd
                have r1 : Below C wz w6 := hb5.grown hg7 (by omega) (fun k hk => by cases hk)
                have r5 : C < w6.heap.size := Nat.lt_of_lt_of_le hsz5 hg7.size
                rw [set2] at st
                have ST : Hid _ := st
                clear st k0 k1 k2 k3 k4 hg6 hg7 hb5 hth5 hch5 hsz5 hcell e0 e1 f0 f1 hrd hbw hwr
                go_wp2
                go_roundg (m - (j + 1))
                case measure => have := HGG.out; omega
                case rel => exact ⟨j + 1, rfl, by omega, by go_num, (r1.setCell (p := ⟨C, j * 2, none⟩) (Nat.le_refl _) _).setCell (p := ⟨C, j * 2 + 1, none⟩) (Nat.le_refl _) _, ST.out.1, ST.out.2, by simpa [World.setCell] using r5⟩
            · have hjj : j = m := by omega
              subst hjj
              have hzG : w.heap.size < wz.heap.size := by rw [HCZ.out]; exact hwC
              have hbx5 : Box wr w.heap.size _ _ := z2.carry (hb5.block _ hwC)
              have y0 := hbx5.c0
              have y1 := hbx5.c1
              have yf := hbx5.free
              clear HGG hj hi
              go_wp2
              go_ret
              have hwr' : Below w.heap.size w (wr.setCell ⟨w.heap.size, 0, none⟩ (.slice (some ⟨C, 0, none⟩) j j)) := hbw.setCell (p := ⟨w.heap.size, 0, none⟩) (Nat.le_refl _) _
              have hb6 := hbx5.set0 (.slice (some ⟨C, 0, none⟩) j j)
              refine ⟨rfl, ⟨hb6.lt, some ⟨C, 0, none⟩, j, _, _, by rw [HCL.out]; exact hb6.c0, by rw [HSL.out]; exact hb6.c1, ZM.out _ (fun b hb1 hb2 => ?_) ?_, chans_of (b := C) ?_ ?_ hwr'⟩, hwr'⟩
              · rw [Below.heap_setCell _ _ _ _ (by exact hb1)]
                exact hb5.block b (by rw [← HCZ.out]; exact hb2)
              · have := hb5.size; simpa [World.setCell] using this
              · rw [HCL.out]
                exact hch5.carry (Below.heap_setCell _ _ _ _ (by simp; omega))
              · simpa [World.setCell] using hsz5
        · have t1 : decide ((0 : Int) < (m : Int)) = false := decide_eq_false (by omega)
          have hcs : css = [] := List.eq_nil_of_length_eq_zero (by rw [HCL.out]; omega)
          subst hcs
          have wl : Wl wz w.heap.size ss [] := ⟨by omega, none, 0, _, _, z2.c0, by rw [HSL.out]; exact z2.c1, ZM.out wz (fun _ _ _ => rfl) (Nat.le_refl _), chans_nil _ _⟩
          clear z2 ZM HZ3 hi q3 q4 hzs
          go_wp2
          go_ret
          have e := HWZ.out
          subst e
          exact ⟨rfl, wl, z1⟩

  · have hn1 : n = 0 := by omega
    have t0 : decide ((0 : Int) < (n : Int)) = false := decide_eq_false (by omega)
    have hss : ss = [] := List.eq_nil_of_length_eq_zero (by rw [HSL.out]; omega)
    obtain ⟨wz, hwz⟩ : ∃ wz, wz = w.alloc (.cells #[.slice none 0 0, .slice none 0 0] 34) := ⟨_, rfl⟩
    have z1 : Below w.heap.size w wz := by rw [hwz]; exact (Below.refl _ _).alloc (Nat.le_refl _) _
    have z2 : Box wz w.heap.size (.slice none 0 0) (.slice none 0 0) := by rw [hwz]; exact box_new w _ _ 34
    have z3 : wz.heap.size = w.heap.size + 1 := by rw [hwz]; simp
    have ZM : Hid (∀ wy, (∀ b, b ≠ w.heap.size → b < wz.heap.size → wy.heap[b]? = wz.heap[b]?) → wz.heap.size ≤ wy.heap.size → Msgs wy none ss) := fun wy _ _ => by rw [hss]; exact msgs_nil _ _
    have hzs : w.heap.size < wz.heap.size := by omega
    have HWZ : Hid (wz = w.alloc (.cells #[.slice none 0 0, .slice none 0 0] 34)) := hwz
    have HZ3 : Hid (wz.heap.size = w.heap.size + 1) := z3
    have HSL0 : Hid (ss.length = 0) := by show _ = _; rw [HSL.out]; exact hn1
    clear hwz z3 hss hn1 HSL q1 q2
    have HSL := HSL0
    clear HSL0
    by_cases hm0 : 0 < m
    · have t1 : (0 : Int) < (m : Int) := by omega
      go_enter Try.func7, Try.ntmps7
      go_wp2_with (at_make; refine wpList_make_full _ rfl (.tmp 43) (.tmp 43) 31 rfl w.heap.size 39 i2 _ 2 Try.underlying31 hi2 hw0 hw1 .i64 .i64 _ _ m rfl rfl rfl rfl q3 q4 (by rw [← HWZ.out]; omega) ?_)
      intro w4 hown4 hgr4
      obtain ⟨C, hC⟩ : ∃ C, C = w.heap.size + 1 := ⟨_, rfl⟩
      have hCz : wz.heap.size = C := by rw [hC]; exact HZ3.out
      rw [← HWZ.out] at hgr4
      rw [← hC] at hown4 ⊢
      have hth4 := there_own hown4
      have hb4 : Below C wz w4 := (Below.refl _ _).grown hgr4 (by omega) (fun k hk => by cases hk)
      have hsz4 : C < w4.heap.size := by
        obtain ⟨u, hu, _⟩ := there_at hth4 (j := 0) (by omega)
        exact World.block_lt_of_cell? _ _ hu
      have HCZ : Hid (wz.heap.size = C) := hCz
      have hwC : w.heap.size < C := by omega
      clear hC hCz hown4 hgr4 q3 q4 HZ3 HWZ hzs
      go_wp2_with fail
      go_loopg [11] m (fun gg i wx => ∃ j : Nat, gg = m - j ∧ j ≤ m ∧ i = .int .i64 j ∧ Below C wz wx ∧ wx.there C 0 (m * 2) ∧ ChansTo w wx C css j ∧ C < wx.heap.size)
      case atStart => exact ⟨0, rfl, Nat.zero_le _, rfl, hb4, hth4, fun j hj => by omega, hsz4⟩
      case round =>
        clear hb4 hth4 hsz4
        obtain ⟨j, hgg, hj, rfl, hb5, hth5, hch5, hsz5⟩ := hrel
        have HGG : Hid _ := hgg
        clear hgg
        have hbw : Below w.heap.size w wr := z1.trans (hb5.mono (by omega))
        by_cases hjm : j < m
        · obtain ⟨b, off, a, l, c', rfl, hbb, hcell0, hrd, hl, hlm⟩ := hi.at hjm
          have hcell : wr.cell? ⟨b, off + j, none⟩ = some (.slice a l c') := (hbw.cell (p := ⟨b, off + j, none⟩) hbb).trans hcell0
          obtain ⟨u0, e0, f0⟩ := there_at hth5 (j := j * 2) (by omega)
          obtain ⟨u1, e1, f1⟩ := there_at hth5 (j := j * 2 + 1) (by omega)
          rw [Nat.zero_add] at e0 f0 e1 f1
          have hjm' : (j : Int) < (m : Int) := by omega
          have hwr : IntKind.i64.wrap (x + (j : Int)) = x + (j : Int) := wrap_in (by omega) (by omega)
          clear hcell0 hl hlm hi
          go_wp2_with fail
          go_region_with (go_at_call 11; refine (itoa_any _ _ (by omega) (by omega)).mono ?_; rintro e w6 ⟨s, rfl, hs6, hg6⟩; have hg7 : wr.grownBy w6 none := ⟨hg6.os, hg6.tape, hg6.output, hg6.size, hg6.block⟩; have k0 := hg7.cell e0 (by simp); have k1 := hg7.cell e1 (by simp); have k2 := hg7.cell hcell (by simp); have k3 : w6.frozen? ⟨C, j * 2, none⟩ = false := (World.frozen?_of_block (w := wr) (a := ⟨C, j * 2, none⟩) (hg7.block C hsz5 (by simp))).trans f0; have k4 : w6.frozen? ⟨C, j * 2 + 1, none⟩ = false := (World.frozen?_of_block (w := wr) (a := ⟨C, j * 2 + 1, none⟩) (hg7.block C hsz5 (by simp))).trans f1)
          all_goals
            have st := chan_step (w0 := w) (w := w6) (b := C) (s := ⟨#[99]⟩ ++ s) (a := a) (l := l) (c := c') (there_carry hth5 (hg7.block C hsz5 (by simp))) (hch5.carry (hg7.block C hsz5 (by simp))) hjm hrd
            have r1 : Below C wz w6 := hb5.grown hg7 (by omega) (fun k hk => by cases hk)
            have r5 : C < w6.heap.size := Nat.lt_of_lt_of_le hsz5 hg7.size
            rw [set2] at st
            have ST : Hid _ := st
            clear st k0 k1 k2 k3 k4 hg6 hg7 hb5 hth5 hch5 hsz5 hcell e0 e1 f0 f1 hrd hbw hwr
            go_wp2
            go_roundg (m - (j + 1))
            case measure => have := HGG.out; omega
            case rel => exact ⟨j + 1, rfl, by omega, by go_num, (r1.setCell (p := ⟨C, j * 2, none⟩) (Nat.le_refl _) _).setCell (p := ⟨C, j * 2 + 1, none⟩) (Nat.le_refl _) _, ST.out.1, ST.out.2, by simpa [World.setCell] using r5⟩
        · have hjj : j = m := by omega
          subst hjj
          have hzG : w.heap.size < wz.heap.size := by rw [HCZ.out]; exact hwC
          have hbx5 : Box wr w.heap.size _ _ := z2.carry (hb5.block _ hwC)
          have y0 := hbx5.c0
          have y1 := hbx5.c1
          have yf := hbx5.free
          clear HGG hj hi
          go_wp2
          go_ret
          have hwr' : Below w.heap.size w (wr.setCell ⟨w.heap.size, 0, none⟩ (.slice (some ⟨C, 0, none⟩) j j)) := hbw.setCell (p := ⟨w.heap.size, 0, none⟩) (Nat.le_refl _) _
          have hb6 := hbx5.set0 (.slice (some ⟨C, 0, none⟩) j j)
          refine ⟨rfl, ⟨hb6.lt, some ⟨C, 0, none⟩, j, _, _, by rw [HCL.out]; exact hb6.c0, by rw [HSL.out]; exact hb6.c1, ZM.out _ (fun b hb1 hb2 => ?_) ?_, chans_of (b := C) ?_ ?_ hwr'⟩, hwr'⟩
          · rw [Below.heap_setCell _ _ _ _ (by exact hb1)]
            exact hb5.block b (by rw [← HCZ.out]; exact hb2)
          · have := hb5.size; simpa [World.setCell] using this
          · rw [HCL.out]
            exact hch5.carry (Below.heap_setCell _ _ _ _ (by simp; omega))
          · simpa [World.setCell] using hsz5
    · have t1 : decide ((0 : Int) < (m : Int)) = false := decide_eq_false (by omega)
      have hcs : css = [] := List.eq_nil_of_length_eq_zero (by rw [HCL.out]; omega)
      subst hcs
      have wl : Wl wz w.heap.size ss [] := ⟨by omega, none, 0, _, _, z2.c0, by rw [HSL.out]; exact z2.c1, ZM.out wz (fun _ _ _ => rfl) (Nat.le_refl _), chans_nil _ _⟩
      clear z2 ZM HZ3 hi q3 q4 hzs
      go_enter Try.func7, Try.ntmps7
      go_wp2
      go_ret
      have e := HWZ.out
      subst e
      exact ⟨rfl, wl, z1⟩

end Go.Proofs.Qxb6630784a
