/-
  Workload.Members, walked.
-/
import Derived.Test.Qxb6630784aWalks2
import Derived.Test.Qxb6630784aPlain
import Derived.Deep.MidRow
namespace Go.Proofs.Qxb6630784a
open Go.RowKit

/-- What a name counts for: Go's 'x + 1'. -/
def suc (x : Int) : Int := wrap64 (x + 1)

theorem range_carry {w w' : World} {b o : Nat} {cs : List Value} (h : w.rangeAt b o cs) (hb : w'.heap[b]? = w.heap[b]?) : w'.rangeAt b o cs := fun j v hv => by
  rw [World.cell?_of_block (w := w) (a := ⟨b, o + j, none⟩) hb]
  exact h j v hv

/-- The cells of a message. -/
def msg (i : Nat) (x : Int) : List Value := [.int .i64 (i : Int), .int .i64 0, .int .i64 x, .string ⟨#[]⟩, .slice none 0 0, .string ⟨#[]⟩]
/-- The messages lie in memory. -/
def Msgs (w : World) (am : Option Addr) (ss : List Int) : Prop :=
  ∀ i, i < ss.length → ∃ b off, am = some ⟨b, off, none⟩ ∧ b < w.heap.size ∧ w.rangeAt b (off + i * 6) (msg i (ss[i]?.getD 0))
/-- The channels lie in memory. -/
def Chans (w : World) (ac : Option Addr) (css : List (List Int)) : Prop :=
  ∀ i, i < css.length → ∃ b off s a l c, ac = some ⟨b, off, none⟩ ∧ b < w.heap.size ∧ w.rangeAt b (off + i * 2) [.string s, .slice a l c] ∧ Rd w a l c (ints (css[i]?.getD []))
/-- A workload in memory: block g holds (Channels, Messages). -/
structure Wl (w : World) (g : Nat) (ss : List Int) (css : List (List Int)) : Prop where
  lt : g < w.heap.size
  ex : ∃ ac cc am cm, w.cell? ⟨g, 0, none⟩ = some (.slice ac css.length cc) ∧ w.cell? ⟨g, 1, none⟩ = some (.slice am ss.length cm) ∧ Msgs w am ss ∧ Chans w ac css

theorem Msgs.carry {w w' : World} {am : Option Addr} {ss : List Int} (h : Msgs w am ss) (hb : Below w.heap.size w w') : Msgs w' am ss := fun i hi => by
  obtain ⟨b, off, e, hlt, hr⟩ := h i hi
  exact ⟨b, off, e, Nat.lt_of_lt_of_le hlt hb.size, range_carry hr (hb.block b hlt)⟩
theorem Chans.carry {w w' : World} {ac : Option Addr} {css : List (List Int)} (h : Chans w ac css) (hb : Below w.heap.size w w') : Chans w' ac css := fun i hi => by
  obtain ⟨b, off, s, a, l, c, e, hlt, hr, hrd⟩ := h i hi
  exact ⟨b, off, s, a, l, c, e, Nat.lt_of_lt_of_le hlt hb.size, range_carry hr (hb.block b hlt), hrd.carry hb⟩
theorem Wl.carry {w w' : World} {g : Nat} {ss : List Int} {css : List (List Int)} (h : Wl w g ss css) (hb : Below w.heap.size w w') : Wl w' g ss css := by
  obtain ⟨hlt, ac, cc, am, cm, h0, h1, h2, h3⟩ := h
  exact ⟨Nat.lt_of_lt_of_le hlt hb.size, ac, cc, am, cm, (hb.cell (p := ⟨g, 0, none⟩) hlt).trans h0, (hb.cell (p := ⟨g, 1, none⟩) hlt).trans h1, h2.carry hb, h3.carry hb⟩

theorem Try.size36 : (Try.prog.info? 36).map (·.size) = some 6 := by kernel_rfl
theorem Try.size39 : (Try.prog.info? 39).map (·.size) = some 2 := by kernel_rfl

set_option maxHeartbeats 1600000 in
set_option maxRecDepth 100000 in
theorem mem_any (g : Nat) (ss : List Int) (css : List (List Int)) (w : World) (h : Wl w g ss css) (hn : ss.length ≤ 1048576) (hm : css.length ≤ 1048576) (hsh : Hid (∀ i, i < css.length → (css[i]?.getD []).length ≤ 1048576)) :
    Calls Try.prog 8 #[.pointer (some ⟨g, 0, none⟩)] w fun e w' => e = .returned (.int .i64 (Pl.mem suc ss css)) ∧ Below w.heap.size w w' := by
  obtain ⟨hlt, ac, cc, am, cm, h0, h1, hms, hch⟩ := h
  obtain ⟨n, hnn⟩ : ∃ n, n = ss.length := ⟨_, rfl⟩
  obtain ⟨m, hmm⟩ : ∃ m, m = css.length := ⟨_, rfl⟩
  rw [← hnn] at h1 hn
  rw [← hmm] at h0 hm
  have HN : Hid (n = ss.length) := hnn
  have HM : Hid (m = css.length) := hmm
  clear hnn hmm
  go_enter Try.func8, Try.ntmps8
  go_wp2
  go_loopg [3, 15] n (fun gg x i wr => ∃ k : Nat, gg = n - k ∧ k ≤ n ∧ i = .int .i64 k ∧ x = .int .i64 (Pl.top suc 1 (ss.take k)) ∧ Below w.heap.size w wr)
  case atStart => exact ⟨0, rfl, Nat.zero_le _, rfl, rfl, Below.refl _ _⟩
  case round =>
    obtain ⟨k, hgg, hk, rfl, rfl, hbel⟩ := hrel
    have HGG : Hid _ := hgg
    clear hgg
    have hsz := hbel.size
    by_cases hkn : k < n
    · obtain ⟨b, off, rfl, hb, hr⟩ := hms k (by rw [← HN.out]; exact hkn)
      have hst := Pl.top_take suc 1 ss (k := k) (by rw [← HN.out]; exact hkn)
      obtain ⟨x, hx⟩ : ∃ x, x = ss[k]?.getD 0 := ⟨_, rfl⟩
      obtain ⟨T, hT⟩ : ∃ T, T = Pl.top suc 1 (ss.take k) := ⟨_, rfl⟩
      rw [← hx] at hr hst
      rw [← hT] at hst ⊢
      have HST : Hid (Pl.top suc 1 (ss.take (k + 1)) = max T (suc x)) := hst
      have hr' := range_carry hr (hbel.block b hb)
      have e0 := hr' 0 _ rfl
      have e1 := hr' 1 _ rfl
      have e2 := hr' 2 _ rfl
      have e3 := hr' 3 _ rfl
      have e4 := hr' 4 _ rfl
      have e5 := hr' 5 _ rfl
      rw [Nat.add_zero] at e0
      have hkn' : (k : Int) < (n : Int) := by omega
      clear hr hr' hms hch h0 h1 hx hT hst
      by_cases hmax : T < wrap64 (x + 1)
      · have HMX : Hid (max T (suc x) = wrap64 (x + 1)) := by show max T (wrap64 (x + 1)) = _; omega
        go_wp2
        go_roundg (n - (k + 1))
        case measure => have := HGG.out; omega
        case rel => exact ⟨k + 1, rfl, by omega, by go_num, by rw [HST.out, HMX.out], hbel.alloc hsz _⟩
      · have HMX : Hid (max T (suc x) = T) := by show max T (wrap64 (x + 1)) = _; omega
        go_wp2
        go_roundg (n - (k + 1))
        case measure => have := HGG.out; omega
        case rel => exact ⟨k + 1, rfl, by omega, by go_num, by rw [HST.out, HMX.out], hbel.alloc hsz _⟩
    · have hkk : k = n := by omega
      subst hkk
      have hall : ss.take k = ss := List.take_of_length_le (by rw [← HN.out]; exact Nat.le_refl _)
      rw [hall]
      obtain ⟨T1, hT1⟩ : ∃ T1, T1 = Pl.top suc 1 ss := ⟨_, rfl⟩
      rw [← hT1]
      have HT1 : Hid (T1 = Pl.top suc 1 ss) := hT1
      have h0' := (hbel.cell (p := ⟨g, 0, none⟩) hlt).trans h0
      clear hT1 hall HGG hk hms h0 h1
      go_wp2_with fail
      go_loopg [3, 30] m (fun gg x i wx => ∃ k : Nat, gg = m - k ∧ k ≤ m ∧ i = .int .i64 k ∧ x = .int .i64 (Pl.top suc T1 (css.take k).flatten) ∧ Below w.heap.size w wx)
      case atStart => exact ⟨0, rfl, Nat.zero_le _, rfl, rfl, hbel⟩
      case round =>
        clear hbel hsz h0'
        obtain ⟨k2, hgg, hk2, rfl, rfl, hbel⟩ := hrel
        have HGG : Hid _ := hgg
        clear hgg
        have hsz := hbel.size
        by_cases hkm : k2 < m
        · obtain ⟨b, off, s, a, l, c, rfl, hb, hr, hrd⟩ := hch k2 (by rw [← HM.out]; exact hkm)
          have hst := Pl.top_rows suc T1 css (k := k2) (by rw [← HM.out]; exact hkm)
          have hcl := hsh.out k2 (by rw [← HM.out]; exact hkm)
          obtain ⟨zs, hzs⟩ : ∃ zs, zs = css[k2]?.getD [] := ⟨_, rfl⟩
          obtain ⟨T, hT⟩ : ∃ T, T = Pl.top suc T1 (css.take k2).flatten := ⟨_, rfl⟩
          rw [← hzs] at hrd hst hcl
          rw [← hT] at hst ⊢
          have HST : Hid (Pl.top suc T1 (css.take (k2 + 1)).flatten = Pl.top suc T zs) := hst
          have hlen : zs.length = l := by have := hrd.len; rwa [ints_len] at this
          have HL : Hid (zs.length = l) := hlen
          have hl2 : l ≤ 1048576 := by omega
          have hr' := range_carry hr (hbel.block b hb)
          have e0 := hr' 0 _ rfl
          have e1 := hr' 1 _ rfl
          rw [Nat.add_zero] at e0
          have hkm' : (k2 : Int) < (m : Int) := by omega
          have hrd5 := fun o => (hrd.carry hbel).alloc o
          clear hr hr' hch hzs hT hst hrd hlen hcl
          go_wp2_with fail
          go_loopg [3, 37] l (fun gg x i wx => ∃ j : Nat, gg = l - j ∧ j ≤ l ∧ i = .int .i64 j ∧ x = .int .i64 (Pl.top suc T (zs.take j)) ∧ wx = wr.alloc (.cells #[.string s, .slice a l c] 39))
          case atStart => exact ⟨0, rfl, Nat.zero_le _, rfl, rfl, rfl⟩
          case round =>
            obtain ⟨j, hgj, hj, rfl, rfl, hwx⟩ := hrel
            subst hwx
            have HGJ : Hid _ := hgj
            clear hgj
            by_cases hjl : j < l
            · obtain ⟨b2, off2, rfl, hb2, hc2⟩ := (hrd5 (.cells #[.string s, .slice a l c] 39)).at (by omega)
              have hcx := hc2 j _ (ints_at (by rw [HL.out]; exact hjl))
              have hst2 := Pl.top_take suc T zs (k := j) (by rw [HL.out]; exact hjl)
              obtain ⟨x, hx⟩ : ∃ x, x = zs[j]?.getD 0 := ⟨_, rfl⟩
              obtain ⟨U, hU⟩ : ∃ U, U = Pl.top suc T (zs.take j) := ⟨_, rfl⟩
              rw [← hx] at hst2 hcx
              rw [← hU] at hst2 ⊢
              have HS2 : Hid (Pl.top suc T (zs.take (j + 1)) = max U (suc x)) := hst2
              have hjl' : (j : Int) < (l : Int) := by omega
              clear hc2 hst2 hx hU hrd5
              by_cases hmax : U < wrap64 (x + 1)
              · have HMX : Hid (max U (suc x) = wrap64 (x + 1)) := by show max U (wrap64 (x + 1)) = _; omega
                go_wp2
                go_roundg (l - (j + 1))
                case measure => have := HGJ.out; omega
                case rel => exact ⟨j + 1, rfl, by omega, by go_num, by rw [HS2.out, HMX.out], rfl⟩
              · have HMX : Hid (max U (suc x) = U) := by show max U (wrap64 (x + 1)) = _; omega
                go_wp2
                go_roundg (l - (j + 1))
                case measure => have := HGJ.out; omega
                case rel => exact ⟨j + 1, rfl, by omega, by go_num, by rw [HS2.out, HMX.out], rfl⟩
            · have hjj : zs.take j = zs := List.take_of_length_le (by rw [HL.out]; omega)
              rw [hjj]
              clear hjj
              go_wp2
              go_roundg (m - (k2 + 1))
              case measure => have := HGG.out; omega
              case rel => exact ⟨k2 + 1, rfl, by omega, by go_num, by rw [HST.out], hbel.alloc hsz _⟩
        · have hall : css.take k2 = css := List.take_of_length_le (by rw [← HM.out]; omega)
          rw [hall]
          clear hall
          have HFIN : Hid (Pl.top suc T1 css.flatten = Pl.mem suc ss css) := by show _ = _; rw [HT1.out, Pl.mem, Pl.names, Pl.top_append]
          go_wp2
          go_ret
          exact ⟨by rw [← HFIN.out]; rfl, hbel⟩

end Go.Proofs.Qxb6630784a
