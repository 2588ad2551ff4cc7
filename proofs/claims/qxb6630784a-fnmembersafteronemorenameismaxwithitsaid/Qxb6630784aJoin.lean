/-
  FnMembersJoinsAtAnyCutAndIsLeastBound, walked.
-/
import Derived.Test.Qxb6630784aBuild
import Derived.Test.Qxb6630784aPlain2
namespace Go.Proofs.Qxb6630784a
open Go.RowKit

theorem Try.info3 : (Try.prog.info? 3).map (fun i => (i.zero, i.size, i.bytes)) = some (some (.int .i64 0), 1, 8) := by kernel_rfl
theorem Try.info22 : (Try.prog.info? 22).map (fun i => (i.zero, i.size, i.bytes)) = some (some (.slice none 0 0), 1, 24) := by kernel_rfl

/-- The greatest int, kept from the walk. -/
def top64 : Int := 9223372036854775807
theorem ne_top {x : Int} (h : ¬ (x == 9223372036854775807) = true) : x ≠ top64 := fun e => h (beq_iff_eq.2 e)
theorem suc_of {x : Int} (h : x ≠ top64) (h0 : -9223372036854775808 ≤ x) (h1 : x ≤ 9223372036854775807) : suc x = x + 1 := by
  unfold suc
  refine IntWalk.wrap64_in _ ⟨?_, ?_⟩
  · omega
  · have : x ≠ 9223372036854775807 := h
    omega

/-- 'x[:j]' as one step. -/
theorem run_take {P : Program} (w : World) {t e : TypeId} {z : Value} {b : Nat} (ht : P.underlying t = some (.slice e)) (hinf : (P.info? e).map (fun i => (i.zero, i.size, i.bytes)) = some (some z, 1, b))
    (ao : Option Addr) (n c j : Nat) (hj : j ≤ c) : (Instr.slice t (.slice ao n c) none (some (.int .i64 (j : Int))) none).run P w = .ok (.slice ao j c) w := by
  obtain ⟨i, hi, hz, hsize, hby⟩ := info_parts hinf
  have he : P.elem t = e := by simp [Program.elem, ht]
  rw [run_slice_h w t ao n c (by rw [he]; exact ht) .i64 j (by omega) (by omega)]
  rw [he]
  have ha : ao.map (fun x => x.add 0) = ao := by cases ao <;> simp [Addr.add]
  simp [sizeOf, typeInfo, hi, hsize, sliced, Result.andThen]
  exact fun _ => ha

theorem ints_take (zs : List Int) (k : Nat) : (ints zs).take k = ints (zs.take k) := by simp [ints, List.map_take]
theorem ints_drop (zs : List Int) (k : Nat) : (ints zs).drop k = ints (zs.drop k) := by simp [ints, List.map_drop]
theorem Items.drew {w : World} {ao : Option Addr} {n c : Nat} {zss : List (List Int)} (h : Items w ao n c zss) : Items w.drew ao n c zss := h.carry (Below.refl _ _).drew
theorem take_each {css : List (List Int)} {m q B : Nat} (h : ∀ i, i < m → (css[i]?.getD []).length ≤ B) (hl : css.length = m) : ∀ i, i < (css.take q).length → ((css.take q)[i]?.getD []).length ≤ B := fun i hi => by
  rw [List.length_take] at hi
  rw [List.getElem?_take, if_pos (by omega)]
  exact h i (by omega)
theorem drop_each {css : List (List Int)} {m q B : Nat} (h : ∀ i, i < m → (css[i]?.getD []).length ≤ B) (hl : css.length = m) : ∀ i, i < (css.drop q).length → ((css.drop q)[i]?.getD []).length ≤ B := fun i hi => by
  rw [List.length_drop] at hi
  rw [List.getElem?_drop]
  exact h _ (by omega)
theorem each_weak {css : List (List Int)} {m : Nat} (h : ∀ i, i < m → (css[i]?.getD []).length ≤ 131072) (hl : css.length = m) : ∀ i, i < css.length → (css[i]?.getD []).length ≤ 1048576 := fun i hi => by
  have := h i (by omega)
  omega

set_option maxHeartbeats 1600000 in
set_option maxRecDepth 100000 in
theorem join_walk (sa : Option Addr) (n cs : Nat) (ss : List Int) (ao : Option Addr) (m c : Nat) (css : List (List Int)) (i0 j0 : Int) (w : World) (hs : Rd w sa n cs (ints ss)) (hi : Items w ao m c css) (hmm : m ≤ c)
    (hm63 : m ≤ maxLen) (hwf : Hid (∀ x ∈ Pl.names ss css, -9223372036854775808 ≤ x ∧ x ≤ 9223372036854775807)) :
    Calls Try.prog 3 #[.slice sa n cs, .slice ao m c, .int .i64 i0, .int .i64 j0] w fun e w' => e = .returned (.bool true) ∧ Below w.heap.size w w' := by
  have HSL : Hid (ss.length = n) := by have := hs.len; rw [ints_len] at this; exact this
  have HCL : Hid (css.length = m) := hi.len
  have hn63 := Nat.le_trans hs.le hs.max
  go_enter Try.func3, Try.ntmps3
  go_wp2_with fail
  refine (bytesJ sa n cs ao m c i0 j0 css w hi hn63 hm63).mono ?_
  rintro e w0 ⟨⟨b, rfl, _⟩, rfl⟩
  cases b with
  | false =>
    go_wp2
    go_ret
    exact ⟨rfl, Below.refl _ _⟩
  | true =>
  go_wp2_with fail
  refine (big_any sa n cs ao m c css w0 hi hn63 hm63).mono ?_
  rintro e w1 ⟨⟨b, rfl, hsm⟩, rfl⟩
  cases b with
  | true =>
    go_wp2
    go_ret
    exact ⟨rfl, Below.refl _ _⟩
  | false =>
  have hn := (hsm rfl).ss
  have hm := (hsm rfl).cs
  have HE : Hid (∀ i, i < m → (css[i]?.getD []).length ≤ 131072) := (hsm rfl).each
  clear hsm hn63 hm63
  by_cases c1 : i0 < 0
  · go_wp2
    go_ret
    exact ⟨rfl, Below.refl _ _⟩
  by_cases c2 : (n : Int) < i0
  · go_wp2
    go_ret
    exact ⟨rfl, Below.refl _ _⟩
  obtain ⟨p, rfl⟩ := Int.eq_ofNat_of_zero_le (Int.not_lt.1 c1)
  have hp : p ≤ n := by omega
  have d1 : decide ((p : Int) < 0) = false := decide_eq_false (by omega)
  have d2 : decide (n < p) = false := decide_eq_false (by omega)
  clear c1 c2
  by_cases c1 : j0 < 0
  · go_wp2
    go_ret
    exact ⟨rfl, Below.refl _ _⟩
  by_cases c2 : (m : Int) < j0
  · go_wp2
    go_ret
    exact ⟨rfl, Below.refl _ _⟩
  obtain ⟨q, rfl⟩ := Int.eq_ofNat_of_zero_le (Int.not_lt.1 c1)
  have hq : q ≤ m := by omega
  have d3 : decide ((q : Int) < 0) = false := decide_eq_false (by omega)
  have d4 : decide (m < q) = false := decide_eq_false (by omega)
  clear c1 c2
  go_wp2_with fail
  go_loopg [9] n (fun gg i wr => ∃ k : Nat, gg = n - k ∧ k ≤ n ∧ i = .int .i64 k ∧ Hid (∀ i, i < k → ss[i]?.getD 0 ≠ top64) ∧ wr = w1)
  case atStart => exact ⟨0, rfl, Nat.zero_le _, rfl, fun i hi => by omega, rfl⟩
  case round =>
    obtain ⟨k, hgg, hk, rfl, HA, hwr⟩ := hrel
    subst hwr
    have HGG : Hid _ := hgg
    clear hgg
    by_cases hkn : k < n
    · obtain ⟨b, off, rfl, hbb, hc⟩ := hs.at (by omega)
      have hcell := hc k _ (ints_at (by rw [HSL.out]; exact hkn))
      have hkn' : (k : Int) < (n : Int) := by omega
      by_cases hy : (ss[k]?.getD 0 == 9223372036854775807) = true
      · clear hc hs hi
        obtain ⟨y, hyy⟩ : ∃ y, y = ss[k]?.getD 0 := ⟨_, rfl⟩
        rw [← hyy] at hcell hy
        clear hyy
        go_wp2
        go_ret
        exact ⟨rfl, Below.refl _ _⟩
      · have HA2 : Hid (∀ i, i < k + 1 → ss[i]?.getD 0 ≠ top64) := fun i hi => by
          by_cases e : i = k
          · rw [e]; exact ne_top hy
          · exact HA.out i (by omega)
        obtain ⟨y, hyy⟩ : ∃ y, y = ss[k]?.getD 0 := ⟨_, rfl⟩
        rw [← hyy] at hcell hy
        have hy' : (y == 9223372036854775807) = false := by simpa using hy
        clear hyy hy hc HA hs hi
        go_wp2
        go_roundg (n - (k + 1))
        case measure => have := HGG.out; omega
        case rel => exact ⟨k + 1, rfl, by omega, by go_num, HA2, rfl⟩
    · have hkk : k = n := by omega
      subst hkk
      clear HGG hk hkn
      go_wp2_with fail
      go_loopg [10] m (fun gg i wx => ∃ k2 : Nat, gg = m - k2 ∧ k2 ≤ m ∧ i = .int .i64 k2 ∧ Hid (∀ k3, k3 < k2 → ∀ j, j < (css[k3]?.getD []).length → (css[k3]?.getD [])[j]?.getD 0 ≠ top64) ∧ wx = wr)
      case atStart => exact ⟨0, rfl, Nat.zero_le _, rfl, fun i hi => by omega, rfl⟩
      case round =>
        obtain ⟨k2, hgg, hk2, rfl, HB, hwr⟩ := hrel
        subst hwr
        have HGG : Hid _ := hgg
        clear hgg
        by_cases hkm : k2 < m
        · obtain ⟨b, off, a, l, c', rfl, hbb, hcell, hrd, hl, hlm⟩ := hi.at hkm
          have hkm' : (k2 : Int) < (m : Int) := by omega
          have hl2 := HE.out k2 hkm
          have HLL : Hid ((css[k2]?.getD []).length = l) := hl
          rw [hl] at hl2
          clear hl hlm hi hs
          go_wp2_with fail
          go_loopg [11] l (fun gg i wx => ∃ j : Nat, gg = l - j ∧ j ≤ l ∧ i = .int .i64 j ∧ Hid (∀ j3, j3 < j → (css[k2]?.getD [])[j3]?.getD 0 ≠ top64) ∧ wx = wr)
          case atStart => exact ⟨0, rfl, Nat.zero_le _, rfl, fun i hi => by omega, rfl⟩
          case round =>
            obtain ⟨j, hgj, hj, rfl, HJ, hwr⟩ := hrel
            subst hwr
            have HGJ : Hid _ := hgj
            clear hgj
            by_cases hjl : j < l
            · obtain ⟨b2, off2, rfl, hbb2, hc2⟩ := hrd.at (by omega)
              have hcell2 := hc2 j _ (ints_at (by rw [HLL.out]; exact hjl))
              have hjl' : (j : Int) < (l : Int) := by omega
              by_cases hy : ((css[k2]?.getD [])[j]?.getD 0 == 9223372036854775807) = true
              · clear hc2 hrd
                obtain ⟨y, hyy⟩ : ∃ y, y = (css[k2]?.getD [])[j]?.getD 0 := ⟨_, rfl⟩
                rw [← hyy] at hcell2 hy
                clear hyy
                go_wp2
                go_ret
                exact ⟨rfl, Below.refl _ _⟩
              · have HJ2 : Hid (∀ j3, j3 < j + 1 → (css[k2]?.getD [])[j3]?.getD 0 ≠ top64) := fun j3 hj3 => by
                  by_cases e : j3 = j
                  · rw [e]; exact ne_top hy
                  · exact HJ.out j3 (by omega)
                obtain ⟨y, hyy⟩ : ∃ y, y = (css[k2]?.getD [])[j]?.getD 0 := ⟨_, rfl⟩
                rw [← hyy] at hcell2 hy
                have hy' : (y == 9223372036854775807) = false := by simpa using hy
                clear hyy hy hc2 HJ hrd
                go_wp2
                go_roundg (l - (j + 1))
                case measure => have := HGJ.out; omega
                case rel => exact ⟨j + 1, rfl, by omega, by go_num, HJ2, rfl⟩
            · have HB2 : Hid (∀ k3, k3 < k2 + 1 → ∀ j, j < (css[k3]?.getD []).length → (css[k3]?.getD [])[j]?.getD 0 ≠ top64) := fun k3 hk3 j4 hj4 => by
                by_cases e : k3 = k2
                · rw [e] at hj4 ⊢
                  rw [HLL.out] at hj4
                  exact HJ.out j4 (by omega)
                · exact HB.out k3 (by omega) j4 hj4
              clear HJ HB hrd
              go_wp2
              go_roundg (m - (k2 + 1))
              case measure => have := HGG.out; omega
              case rel => exact ⟨k2 + 1, rfl, by omega, by go_num, HB2, rfl⟩
        · have hkk2 : k2 = m := by omega
          subst hkk2
          have HNE : Hid (∀ x ∈ Pl.names ss css, suc x = x + 1) := fun x hx =>
            suc_of (Pl.names_ne (by rw [HSL.out]; exact HA.out) (by rw [HCL.out]; exact HB.out) x hx) (hwf.out x hx).1 (hwf.out x hx).2
          have HUP : Hid (Pl.mem suc ss css ≤ 9223372036854775807) := Pl.mem_le HNE.out (by omega) (fun x hx => by
            have h1 := Pl.names_ne (B := top64) (by rw [HSL.out]; exact HA.out) (by rw [HCL.out]; exact HB.out) x hx
            have h2 := (hwf.out x hx).2
            have h3 : x ≠ 9223372036854775807 := h1
            omega)
          clear HGG hk2 hkm HA HB hwf
          have hsP : Rd wr sa p cs (ints (ss.take p)) := by rw [← ints_take]; exact hs.take hp
          have itP : Items wr ao q c (css.take q) := hi.take hq
          obtain ⟨sa', hsa'⟩ : ∃ sa', sa' = (if cs = p then sa else sa.map fun x => x.add p) := ⟨_, rfl⟩
          obtain ⟨ao', hao'⟩ : ∃ ao', ao' = (if c = q then ao else ao.map fun x => x.add q) := ⟨_, rfl⟩
          have hsD : Rd wr sa' (k - p) (cs - p) (ints (ss.drop p)) := by rw [← ints_drop]; exact hs.dropG hp hsa'
          have itD : Items wr ao' (k2 - q) (c - q) (css.drop q) := hi.drop hq hao'
          have hsl1 := fun wx => run_drop (P := Try.prog) wx Try.underlying22 Try.info3 sa k cs p hp hsa'
          have hsl2 := fun wx => run_drop (P := Try.prog) wx Try.underlying23 Try.info22 ao k2 c q hq hao'
          have hcs := hs.le
          have hsl3 := fun wx => run_take (P := Try.prog) wx Try.underlying22 Try.info3 sa k cs p (by omega)
          have hsl4 := fun wx => run_take (P := Try.prog) wx Try.underlying23 Try.info22 ao k2 c q (by omega)
          have E1 : Hid (∀ i, i < css.length → (css[i]?.getD []).length ≤ 1048576) := each_weak HE.out HCL.out
          have E2 : Hid (∀ i, i < (css.take q).length → ((css.take q)[i]?.getD []).length ≤ 1048576) := fun i hi => Nat.le_trans (take_each HE.out HCL.out i hi) (by omega)
          have E3 : Hid (∀ i, i < (css.drop q).length → ((css.drop q)[i]?.getD []).length ≤ 1048576) := fun i hi => Nat.le_trans (drop_each HE.out HCL.out i hi) (by omega)
          clear hsa' hao'
          go_wp2_with fail
          refine (build_any sa k cs ss ao k2 c css 0 _ hs hi (by omega) (by omega) (by omega) (by omega)).mono ?_
          rintro e wA ⟨rfl, wlA, bA⟩
          have sA := bA.size
          go_wp2_with fail
          go_region_with (go_at_call 7; refine (build_any sa p cs (ss.take p) ao q c (css.take q) 0 _ (by exact (hsP.carry bA).drew) (by exact (itP.carry bA).drew) (by omega) (by omega) (by omega) (by omega)).mono ?_; rintro e wB ⟨rfl, wlB, bB⟩)
          have bB' : Below wr.heap.size wr wB := (bA.drew).trans (bB.mono (by exact sA))
          have sB := bB'.size
          have sAB : wA.heap.size ≤ wB.heap.size := bB.size
          replace wlA : Wl wB wr.heap.size ss css := (wlA.carry (Below.refl _ _).drew).carry bB
          clear bB bA hsP itP
          go_wp2_with fail
          go_region_with (go_at_call 7; refine (build_any sa' (k - p) (cs - p) (ss.drop p) ao' (k2 - q) (c - q) (css.drop q) q _ (by exact (hsD.carry bB').drew) (by exact (itD.carry bB').drew) (by omega) (by omega) (by omega) (by omega)).mono ?_; rintro e wC ⟨rfl, wlC, bC⟩)
          have bC' : Below wr.heap.size wr wC := (bB'.drew).trans (bC.mono (by exact sB))
          have sC := bC'.size
          replace wlA : Wl wC wr.heap.size ss css := (wlA.carry (Below.refl _ _).drew).carry bC
          replace wlB : Wl wC wA.heap.size (ss.take p) (css.take q) := (wlB.carry (Below.refl _ _).drew).carry bC
          have wlC' : Wl wC wB.heap.size (ss.drop p) (css.drop q) := wlC
          clear bB' bC wlC hsD itD hsl1 hsl2 hsl3 hsl4 sAB sB sA
          have L1 : ss.length ≤ 1048576 := by rw [HSL.out]; omega
          have L2 : css.length ≤ 1048576 := by rw [HCL.out]; omega
          have L3 : (ss.take p).length ≤ 1048576 := by rw [List.length_take]; omega
          have L4 : (css.take q).length ≤ 1048576 := by rw [List.length_take]; omega
          have L5 : (ss.drop p).length ≤ 1048576 := by rw [List.length_drop]; omega
          have L6 : (css.drop q).length ≤ 1048576 := by rw [List.length_drop]; omega
          go_wp2_with fail
          refine (mem_any wr.heap.size ss css _ wlA L1 L2 E1).mono ?_
          rintro e wD ⟨rfl, bD⟩
          replace wlB := wlB.carry bD
          replace wlC' := wlC'.carry bD
          have bD' := bC'.trans (bD.mono sC)
          have sD := bD'.size
          clear bD bC' wlA
          go_wp2_with fail
          refine (mem_any wA.heap.size (ss.take p) (css.take q) _ wlB L3 L4 E2).mono ?_
          rintro e wE ⟨rfl, bE⟩
          replace wlC' := wlC'.carry bE
          have bE' := bD'.trans (bE.mono sD)
          have sE := bE'.size
          clear bE bD' wlB
          go_wp2_with fail
          refine (mem_any wB.heap.size (ss.drop p) (css.drop q) _ wlC' L5 L6 E3).mono ?_
          rintro e wF ⟨rfl, bF⟩
          have bF' := bE'.trans (bF.mono sE)
          clear bF bE' wlC' L1 L2 L3 L4 L5 L6 E1 E2 E3
          go_wp2_with fail
          refine (max_any _ _ _).mono ?_
          rintro e wG ⟨rfl, rfl⟩
          have hJ := Pl.mem_join suc ss css p q
          rw [← hJ]
          have hr1 := Pl.mem_ge suc ss css
          obtain ⟨r, hr⟩ : ∃ r, r = Pl.mem suc ss css := ⟨_, rfl⟩
          have hrU := HUP.out
          rw [← hr] at hr1 hrU ⊢
          have HR : Hid (r = Pl.mem suc ss css) := hr
          have hne : (r != r) = false := by simp
          clear hJ hr HUP
          go_wp2_with fail
          go_loopg [18, 19] k (fun gg x i wx => ∃ j : Nat, gg = k - j ∧ j ≤ k ∧ i = .int .i64 j ∧ x = .bool (Pl.wit r ([] ++ ss.take j)) ∧ wx = wG)
          case atStart => exact ⟨0, rfl, Nat.zero_le _, rfl, by rw [List.take_zero, List.append_nil, Pl.wit_nil], rfl⟩
          case round =>
            obtain ⟨j, hgj, hj, rfl, rfl, hwr⟩ := hrel
            subst hwr
            have HGJ : Hid _ := hgj
            clear hgj
            by_cases hjl : j < k
            · obtain ⟨b2, off2, rfl, hbb2, hc2⟩ := (hs.carry bF').at (by omega)
              have hcell2 := hc2 j _ (ints_at (by rw [HSL.out]; exact hjl))
              have hjl' : (j : Int) < (k : Int) := by omega
              have hyr : ss[j]?.getD 0 < r := by rw [HR.out]; exact Pl.mem_lt HNE.out (Pl.mem_ss (by rw [HSL.out]; exact hjl))
              by_cases hy : (ss[j]?.getD 0 == r - 1) = true
              · have HW : Hid (Pl.wit r ([] ++ ss.take (j + 1)) = true) := Pl.wit_yes_at (by rw [HSL.out]; exact hjl) (beq_iff_eq.1 hy)
                obtain ⟨y, hyy⟩ : ∃ y, y = ss[j]?.getD 0 := ⟨_, rfl⟩
                rw [← hyy] at hcell2 hy hyr
                obtain ⟨wv, hwv⟩ : ∃ wv, wv = Pl.wit r ([] ++ ss.take j) := ⟨_, rfl⟩
                rw [← hwv]
                clear hyy hc2 hs hi hwv
                go_wp2
                go_roundg (k - (j + 1))
                case measure => have := HGJ.out; omega
                case rel => exact ⟨j + 1, rfl, by omega, by go_num, by rw [HW.out], rfl⟩
              · have HW : Hid (Pl.wit r ([] ++ ss.take (j + 1)) = Pl.wit r ([] ++ ss.take j)) := Pl.wit_no_at (by rw [HSL.out]; exact hjl) (fun e => hy (beq_iff_eq.2 e))
                obtain ⟨y, hyy⟩ : ∃ y, y = ss[j]?.getD 0 := ⟨_, rfl⟩
                rw [← hyy] at hcell2 hy hyr
                have hy' : (y == r - 1) = false := by simpa using hy
                obtain ⟨wv, hwv⟩ : ∃ wv, wv = Pl.wit r ([] ++ ss.take j) := ⟨_, rfl⟩
                have HWV : Hid _ := hwv
                rw [← hwv]
                clear hyy hy hc2 hs hi hwv
                go_wp2
                go_roundg (k - (j + 1))
                case measure => have := HGJ.out; omega
                case rel => exact ⟨j + 1, rfl, by omega, by go_num, by rw [HW.out, HWV.out], rfl⟩
            · have hjk : j = k := by omega
              subst hjk
              have e0 : Pl.wit r ([] ++ ss.take j) = Pl.wit r (ss ++ (css.take 0).flatten) := by
                rw [List.take_of_length_le (by rw [HSL.out]; exact Nat.le_refl _)]; simp
              rw [e0]
              obtain ⟨wv, hwv⟩ : ∃ wv, wv = Pl.wit r (ss ++ (css.take 0).flatten) := ⟨_, rfl⟩
              have HWV : Hid _ := hwv
              rw [← hwv]
              clear hwv e0 HGJ hj hjl
              go_wp2_with fail
              go_loopg [18, 20] k2 (fun gg x i wx => ∃ k3 : Nat, gg = k2 - k3 ∧ k3 ≤ k2 ∧ i = .int .i64 k3 ∧ x = .bool (Pl.wit r (ss ++ (css.take k3).flatten)) ∧ wx = wr)
              case atStart => exact ⟨0, rfl, Nat.zero_le _, rfl, by rw [HWV.out], rfl⟩
              case round =>
                obtain ⟨k3, hgg, hk3, rfl, rfl, hwr⟩ := hrel
                subst hwr
                have HGG : Hid _ := hgg
                clear hgg HWV
                by_cases hkm : k3 < k2
                · obtain ⟨b, off, a, l, c', rfl, hbb, hcell, hrd, hl, hlm⟩ := (hi.carry bF').at hkm
                  have hkm' : (k3 : Int) < (k2 : Int) := by omega
                  have hl2 := HE.out k3 hkm
                  have HLL : Hid ((css[k3]?.getD []).length = l) := hl
                  rw [hl] at hl2
                  obtain ⟨P, hP⟩ : ∃ P, P = ss ++ (css.take k3).flatten := ⟨_, rfl⟩
                  have HF : Hid (ss ++ (css.take (k3 + 1)).flatten = P ++ (css[k3]?.getD []).take l) := by
                    rw [hP, Pl.flat_row (by rw [HCL.out]; exact hkm), List.append_assoc, List.take_of_length_le (l := css[k3]?.getD []) (by rw [HLL.out]; exact Nat.le_refl _)]; exact rfl
                  rw [← hP]
                  obtain ⟨wv, hwv⟩ : ∃ wv, wv = Pl.wit r P := ⟨_, rfl⟩
                  have HWV : Hid _ := hwv
                  rw [← hwv]
                  clear hl hlm hi hs hP hwv
                  go_wp2_with fail
                  go_loopg [18, 21] l (fun gg x i wx => ∃ j : Nat, gg = l - j ∧ j ≤ l ∧ i = .int .i64 j ∧ x = .bool (Pl.wit r (P ++ (css[k3]?.getD []).take j)) ∧ wx = wr)
                  case atStart => exact ⟨0, rfl, Nat.zero_le _, rfl, by rw [List.take_zero, List.append_nil, HWV.out], rfl⟩
                  case round =>
                    obtain ⟨j, hgj, hj, rfl, rfl, hwr⟩ := hrel
                    subst hwr
                    have HGJ : Hid _ := hgj
                    clear hgj HWV
                    by_cases hjl : j < l
                    · obtain ⟨b2, off2, rfl, hbb2, hc2⟩ := hrd.at (by omega)
                      have hcell2 := hc2 j _ (ints_at (by rw [HLL.out]; exact hjl))
                      have hjl' : (j : Int) < (l : Int) := by omega
                      have hyr : (css[k3]?.getD [])[j]?.getD 0 < r := by rw [HR.out]; exact Pl.mem_lt HNE.out (Pl.mem_css (by rw [HCL.out]; exact hkm) (by rw [HLL.out]; exact hjl))
                      by_cases hy : ((css[k3]?.getD [])[j]?.getD 0 == r - 1) = true
                      · have HW : Hid (Pl.wit r (P ++ (css[k3]?.getD []).take (j + 1)) = true) := Pl.wit_yes_at (by rw [HLL.out]; exact hjl) (beq_iff_eq.1 hy)
                        obtain ⟨y, hyy⟩ : ∃ y, y = (css[k3]?.getD [])[j]?.getD 0 := ⟨_, rfl⟩
                        rw [← hyy] at hcell2 hy hyr
                        obtain ⟨wv, hwv⟩ : ∃ wv, wv = Pl.wit r (P ++ (css[k3]?.getD []).take j) := ⟨_, rfl⟩
                        rw [← hwv]
                        clear hyy hc2 hrd hwv
                        go_wp2
                        go_roundg (l - (j + 1))
                        case measure => have := HGJ.out; omega
                        case rel => exact ⟨j + 1, rfl, by omega, by go_num, by rw [HW.out], rfl⟩
                      · have HW : Hid (Pl.wit r (P ++ (css[k3]?.getD []).take (j + 1)) = Pl.wit r (P ++ (css[k3]?.getD []).take j)) := Pl.wit_no_at (by rw [HLL.out]; exact hjl) (fun e => hy (beq_iff_eq.2 e))
                        obtain ⟨y, hyy⟩ : ∃ y, y = (css[k3]?.getD [])[j]?.getD 0 := ⟨_, rfl⟩
                        rw [← hyy] at hcell2 hy hyr
                        have hy' : (y == r - 1) = false := by simpa using hy
                        obtain ⟨wv, hwv⟩ : ∃ wv, wv = Pl.wit r (P ++ (css[k3]?.getD []).take j) := ⟨_, rfl⟩
                        have HWV : Hid _ := hwv
                        rw [← hwv]
                        clear hyy hy hc2 hrd hwv
                        go_wp2
                        go_roundg (l - (j + 1))
                        case measure => have := HGJ.out; omega
                        case rel => exact ⟨j + 1, rfl, by omega, by go_num, by rw [HW.out, HWV.out], rfl⟩
                    · have hjl2 : j = l := by omega
                      subst hjl2
                      rw [← HF.out]
                      obtain ⟨wv, hwv⟩ : ∃ wv, wv = Pl.wit r (ss ++ (css.take (k3 + 1)).flatten) := ⟨_, rfl⟩
                      have HWV : Hid _ := hwv
                      rw [← hwv]
                      clear hwv hrd
                      go_wp2
                      go_roundg (k2 - (k3 + 1))
                      case measure => have := HGG.out; omega
                      case rel => exact ⟨k3 + 1, rfl, by omega, by go_num, by rw [HWV.out], rfl⟩
                · have hkk3 : k3 = k2 := by omega
                  subst hkk3
                  have e1 : Pl.wit r (ss ++ (css.take k3).flatten) = true := by
                    rw [List.take_of_length_le (by rw [HCL.out]; exact Nat.le_refl _), HR.out]
                    exact Pl.mem_wit HNE.out
                  rw [e1]
                  clear e1 HGG hk3 hkm hi hs
                  go_wp2
                  go_ret
                  exact ⟨rfl, bF'⟩

end Go.Proofs.Qxb6630784a
