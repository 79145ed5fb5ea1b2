/-
  Seat b6603051a: cb1HeldFits (30).
-/
import Derived.Test.Qxb6603051aC1
import Derived.Test.Qxb6603051aM1
import Derived.BigQuiet
namespace Go.Proofs.Qxb6603051a
open Go.RowKit
set_option linter.unusedVariables false
set_option linter.unusedSimpArgs false

/-- Block b is a map of truth values that holds just the keys l, each true. -/
def SetIs (w : World) (b : Nat) (l : List ByteArray) : Prop := ∃ mp, MapIs w b mp ∧ ∀ x, (x ∈ l → aget mp x = some (.bool true)) ∧ (x ∉ l → aget mp x = none)

theorem Try.zero4 (w : World) : (zeroValue 4).run Try.prog w = .ok (.bool false) w := by kernel_rfl

theorem SetIs.made (w : World) : SetIs (w.alloc (.map #[] 0)) w.heap.size [] := ⟨[], MapIs.made w, fun x => ⟨fun h => absurd h List.not_mem_nil, fun _ => rfl⟩⟩
theorem SetIs.lt {w : World} {b : Nat} {l : List ByteArray} (h : SetIs w b l) : b < w.heap.size := by obtain ⟨mp, h1, -⟩ := h; exact h1.lt
theorem SetIs.below {w w' : World} {b : Nat} {l : List ByteArray} (h : SetIs w b l) (hb : Below w.heap.size w w') : SetIs w' b l := by obtain ⟨mp, h1, h2⟩ := h; exact ⟨mp, h1.below hb, h2⟩
theorem SetIs.grown {w w' : World} {b r : Nat} {l : List ByteArray} (h : SetIs w b l) (hg : w.grownBy w' (some r)) (hne : b ≠ r) : SetIs w' b l := by
  obtain ⟨mp, h1, h2⟩ := h
  exact ⟨mp, h1.of_block (hg.block b h1.lt (fun e => hne (by cases e; rfl))), h2⟩

theorem SetIs.look_in {w : World} {b : Nat} {l : List ByteArray} (h : SetIs w b l) {x : ByteArray} (hx : x ∈ l) : (Instr.lookup 70 (.map (some b)) (.string x) false).run Try.prog w = .ok (.bool true) w := by
  obtain ⟨mp, h1, h2⟩ := h
  rw [run_lookup_my (P := Try.prog) (T := 70) (K := 9) (E := 4) Try.underlying70 Try.underlying9 (.bool false) (Try.zero4 w) h1 x false, (h2 x).1 hx]
  rfl

theorem SetIs.look_out {w : World} {b : Nat} {l : List ByteArray} (h : SetIs w b l) {x : ByteArray} (hx : x ∉ l) : (Instr.lookup 70 (.map (some b)) (.string x) false).run Try.prog w = .ok (.bool false) w := by
  obtain ⟨mp, h1, h2⟩ := h
  rw [run_lookup_my (P := Try.prog) (T := 70) (K := 9) (E := 4) Try.underlying70 Try.underlying9 (.bool false) (Try.zero4 w) h1 x false, (h2 x).2 hx]
  rfl

theorem SetIs.put {w : World} {b : Nat} {l : List ByteArray} (h : SetIs w b l) (x : ByteArray) : ∃ w', (Instr.mapUpdate 70 (.map (some b)) (.string x) (.bool true)).run Try.prog w = .ok () w' ∧ SetIs w' b (l ++ [x]) ∧ w.grownBy w' (some b) ∧ w'.heap.size = w.heap.size := by
  obtain ⟨mp, h1, h2⟩ := h
  obtain ⟨w', h3, h4, h5, h6⟩ := run_update_my (P := Try.prog) (T := 70) (K := 9) (E := 4) Try.underlying70 Try.underlying9 h1 x (.bool true)
  refine ⟨w', h3, ⟨_, h4, fun y => ?_⟩, h5, h6⟩
  rw [aget_aset]
  by_cases e : y = x
  · simp [e]
  · simp only [e, if_false, List.mem_append, List.mem_singleton, or_false]
    exact h2 y

/-- Entry i fits. -/
def FitAt (ids : List ByteArray) (rp ld : List Int) (fk : List (List ByteArray)) (fc : List (List Int)) (i : Nat) : Prop :=
  (∀ x, ids[i]? = some x → x ∉ ids.take i) ∧ (fk.getD i []).length = (fc.getD i []).length ∧ ¬ (rp.getD i 0 = 0 ∧ ld.getD i 0 = 0 ∧ (fk.getD i []).length = 0) ∧
    ∀ j, j < (fk.getD i []).length → (∀ x, (fk.getD i [])[j]? = some x → x ∉ (fk.getD i []).take j) ∧ ∀ z, (fc.getD i [])[j]? = some z → z ≠ 0

def Fits (ids : List ByteArray) (rp ld : List Int) (fk : List (List ByteArray)) (fc : List (List Int)) (n0 n1 n2 n3 n4 n5 n6 : Nat) : Prop :=
  n1 = n0 ∧ n2 = n0 ∧ n3 = n0 ∧ n4 = n0 ∧ n5 = n6 ∧ ∀ i, i < n0 → FitAt ids rp ld fk fc i

def ResIf (P : Prop) (e : Ending) : Prop := ∃ b, e = .returned (.bool b) ∧ (b = true → P)
theorem ResIf.no (P : Prop) : ResIf P (.returned (.bool false)) := ⟨_, rfl, fun h => by cases h⟩
theorem ResIf.yes {P : Prop} (h : P) : ResIf P (.returned (.bool true)) := ⟨_, rfl, fun _ => h⟩

set_option maxRecDepth 100000 in
set_option maxHeartbeats 4000000 in
theorem fits_any (a0 a1 a2 a3 a4 a5 a6 : Option Addr) (n0 c0 n1 c1 n2 c2 n3 c3 n4 c4 n5 c5 n6 c6 : Nat) (ids : List ByteArray) (rp ld : List Int) (fk : List (List ByteArray)) (fc : List (List Int)) (w : World)
    (h0 : Strs w (.slice a0 n0 c0) ids) (h1 : Ints w (.slice a1 n1 c1) rp) (h2 : Ints w (.slice a2 n2 c2) ld) (h3 : Nest w (.slice a3 n3 c3) fk) (h4 : Slc (Slc EInt) w (.slice a4 n4 c4) fc) (hm : n0 ≤ 1048576) (hmk : ∀ x ∈ fk, x.length ≤ 1048576) :
    Calls Try.prog 30 #[.slice a0 n0 c0, .slice a1 n1 c1, .slice a2 n2 c2, .slice a3 n3 c3, .slice a4 n4 c4, .slice a5 n5 c5, .slice a6 n6 c6] w fun e w' => ResIf (Fits ids rp ld fk fc n0 n1 n2 n3 n4 n5 n6) e ∧ Below w.heap.size w w' := by
  have H0 : Hid (Strs w (.slice a0 n0 c0) ids) := h0
  have H1 : Hid (Ints w (.slice a1 n1 c1) rp) := h1
  have H2 : Hid (Ints w (.slice a2 n2 c2) ld) := h2
  have H3 : Hid (Nest w (.slice a3 n3 c3) fk) := h3
  have H4 : Hid (Slc (Slc EInt) w (.slice a4 n4 c4) fc) := h4
  have HMK : Hid (∀ x ∈ fk, x.length ≤ 1048576) := hmk
  have L : Hid (ids.length = n0 ∧ rp.length = n1 ∧ ld.length = n2 ∧ fk.length = n3 ∧ fc.length = n4) := ⟨h0.len.1, h1.len.1, h2.len.1, h3.len.1, h4.len.1⟩
  clear h0 h1 h2 h3 h4 hmk
  go_enter Try.func30, Try.ntmps30
  by_cases e1 : ¬ n1 = n0
  · have e1' : ((n1 : Int) != (n0 : Int)) = true := by simp; omega
    go_wp2
    go_ret
    exact ⟨ResIf.no _, Below.refl _ _⟩
  obtain rfl : n1 = n0 := by omega
  clear e1
  by_cases e1 : ¬ n2 = n1
  · have e1' : ((n2 : Int) != (n1 : Int)) = true := by simp; omega
    go_wp2
    go_ret
    exact ⟨ResIf.no _, Below.refl _ _⟩
  obtain rfl : n2 = n1 := by omega
  clear e1
  by_cases e1 : ¬ n3 = n2
  · have e1' : ((n3 : Int) != (n2 : Int)) = true := by simp; omega
    go_wp2
    go_ret
    exact ⟨ResIf.no _, Below.refl _ _⟩
  obtain rfl : n3 = n2 := by omega
  clear e1
  by_cases e1 : ¬ n4 = n3
  · have e1' : ((n4 : Int) != (n3 : Int)) = true := by simp; omega
    go_wp2
    go_ret
    exact ⟨ResIf.no _, Below.refl _ _⟩
  obtain rfl : n4 = n3 := by omega
  clear e1
  by_cases e1 : ¬ n5 = n6
  · have e1' : ((n5 : Int) != (n6 : Int)) = true := by simp; omega
    go_wp2
    go_ret
    exact ⟨ResIf.no _, Below.refl _ _⟩
  obtain rfl : n5 = n6 := by omega
  clear e1
  have hmk := fun (w : World) (n : Nat) => run_makeMap_hint (P := Try.prog) (w := w) (T := 70) (K := 9) (E := 4) Try.underlying70 (n : Int)
  have HS0 : Hid (SetIs (w.alloc (.map #[] 0)) w.heap.size [] ∧ Below w.heap.size w (w.alloc (.map #[] 0))) := ⟨SetIs.made w, (Below.refl _ _).alloc (Nat.le_refl _) _⟩
  go_wp2_with fail
  go_loopw [17] (fun i wr => ∃ k : Nat, k ≤ n4 ∧ i = .int .i64 k ∧ SetIs wr w.heap.size (ids.take k) ∧ Below w.heap.size w wr ∧ ∀ i, i < k → FitAt ids rp ld fk fc i) (fun i _ => n4 - (intOf i).toNat)
  case atStart => exact ⟨0, Nat.zero_le _, rfl, by simpa using HS0.out.1, HS0.out.2, fun i hi => by omega⟩
  case round =>
    clear HS0
    obtain ⟨k, hk, rfl, hset, hbe, hfit⟩ := hrel
    have HI : Hid (SetIs wr w.heap.size (ids.take k) ∧ Below w.heap.size w wr ∧ ∀ i, i < k → FitAt ids rp ld fk fc i) := ⟨hset, hbe, hfit⟩
    clear hset hbe hfit
    by_cases hlt : k < n4
    · have hk0 : k < ids.length := by rw [L.out.1]; exact hlt
      have hk1 : k < rp.length := by rw [L.out.2.1]; exact hlt
      have hk2 : k < ld.length := by rw [L.out.2.2.1]; exact hlt
      have hk3 : k < fk.length := by rw [L.out.2.2.2.1]; exact hlt
      have hk4 : k < fc.length := by rw [L.out.2.2.2.2]; exact hlt
      obtain ⟨b0, o0, u0, x0, y0, z0⟩ := H0.out.at hk0
      obtain ⟨b1, o1, u1, x1, y1, z1⟩ := H1.out.at hk1
      obtain ⟨b2, o2, u2, x2, y2, z2⟩ := H2.out.at hk2
      obtain ⟨b3, o3, u3, x3, y3, z3⟩ := H3.out.at hk3
      obtain ⟨b4, o4, u4, x4, y4, z4⟩ := H4.out.at hk4
      unfold EStr at z0
      unfold EInt at z1 z2
      subst z0 z1 z2
      obtain ⟨ai, ci, rfl, -, -⟩ := Slc.shape z3
      obtain ⟨aj, cj, rfl, -, -⟩ := Slc.shape z4
      have hml : fk[k].length ≤ 1048576 := HMK.out _ (List.getElem_mem hk3)
      have HTK : Hid (ids.take (k + 1) = ids.take k ++ [ids[k]]) := List.take_succ_eq_append_getElem hk0
      have HFIT : Hid (∀ (_ : ids[k] ∉ ids.take k) (_ : fk[k].length = fc[k].length) (_ : ¬ (rp[k] = 0 ∧ ld[k] = 0 ∧ fk[k].length = 0)) (_ : ∀ j, j < fk[k].length → (∀ x, fk[k][j]? = some x → x ∉ fk[k].take j) ∧ ∀ z, fc[k][j]? = some z → z ≠ 0), FitAt ids rp ld fk fc k) := by
        intro p1 p2 p3 p4
        unfold FitAt
        have f1 : fk.getD k [] = fk[k] := by simp [hk3]
        have f2 : fc.getD k [] = fc[k] := by simp [hk4]
        have f3 : rp.getD k 0 = rp[k] := by simp [hk1]
        have f4 : ld.getD k 0 = ld[k] := by simp [hk2]
        rw [f1, f2, f3, f4]
        refine ⟨fun x hx => ?_, p2, p3, p4⟩
        rw [List.getElem?_eq_getElem hk0] at hx
        cases hx
        exact p1
      generalize ids[k] = vid at y0 HTK HFIT
      generalize rp[k] = vr at y1 HFIT
      generalize ld[k] = vl at y2 HFIT
      generalize fk[k] = xs at y3 z3 hml HFIT
      generalize fc[k] = zs at y4 z4 HFIT
      have HX : Hid (Strs w (.slice ai xs.length ci) xs ∧ Ints w (.slice aj zs.length cj) zs) := ⟨z3, z4⟩
      obtain ⟨m, hm'⟩ : ∃ m, m = xs.length := ⟨_, rfl⟩
      obtain ⟨p, hp'⟩ : ∃ p, p = zs.length := ⟨_, rfl⟩
      have HM : Hid (xs.length = m ∧ zs.length = p) := ⟨hm'.symm, hp'.symm⟩
      rw [← hm'] at y3 hml HFIT HX
      rw [← hp'] at y4 HFIT HX
      clear z3 z4 hm' hp'
      subst x0 x1 x2 x3 x4
      have y0' := cell_later HI.out.2.1 y0
      have i1 : (k : Int) < (n4 : Int) := by omega
      by_cases hin : vid ∈ ids.take k
      · have lk := HI.out.1.look_in hin
        clear y0
        go_wp2
        go_ret
        exact ⟨ResIf.no _, HI.out.2.1⟩
      have lk := HI.out.1.look_out hin
      have HIN : Hid (vid ∉ ids.take k) := hin
      obtain ⟨w1, hup, hs1, hg1, hz1⟩ := HI.out.1.put vid
      have hb1 : Below w.heap.size w w1 := HI.out.2.1.grown hg1 HI.out.2.1.size (fun j hj => by cases hj; exact Nat.le_refl _)
      rw [← HTK.out] at hs1
      have HI1 : Hid (SetIs w1 w.heap.size (ids.take (k + 1)) ∧ Below w.heap.size w w1) := ⟨hs1, hb1⟩
      have v1 := cell_later hb1 y1
      have v2 := cell_later hb1 y2
      have v3 := cell_later hb1 y3
      have v4 := cell_later hb1 y4
      have HY3 : Hid (w.cell? ⟨b3, o3 + k, none⟩ = some (.slice ai m ci) ∧ w.cell? ⟨b4, o4 + k, none⟩ = some (.slice aj p cj)) := ⟨y3, y4⟩
      clear y0 y1 y2 y3 y4 hs1 hb1 hg1 hz1 hin
      go_wp2_with fail
      go_quiet (fail)
      by_cases hmp : ¬ m = p
      · have e1' : ((m : Int) != (p : Int)) = true := by simp; omega
        go_wp2
        go_ret
        exact ⟨ResIf.no _, below_drewN HI1.out.2 _⟩
      obtain rfl : m = p := by omega
      clear hmp
      by_cases hz : vr = 0 ∧ vl = 0 ∧ m = 0
      · obtain ⟨rfl, rfl, rfl⟩ := hz
        go_wp2
        go_ret
        exact ⟨ResIf.no _, below_drewN HI1.out.2 _⟩
      have HZ : Hid (¬ (vr = 0 ∧ vl = 0 ∧ m = 0)) := hz
      have hz' : ((vr == 0) = false ∧ ¬ vr = 0) ∨ (vr = 0 ∧ (vl == 0) = false ∧ ¬ vl = 0) ∨ (vr = 0 ∧ vl = 0 ∧ ((m : Int) == 0) = false ∧ 0 < m) := by
        by_cases h1 : vr = 0
        · by_cases h2 : vl = 0
          · right; right
            have : ¬ m = 0 := fun h => hz ⟨h1, h2, h⟩
            exact ⟨h1, h2, by simp; omega, by omega⟩
          · right; left; exact ⟨h1, by simp [h2], h2⟩
        · left; exact ⟨by simp [h1], h1⟩
      clear hz
      rcases hz' with ⟨hb, hb'⟩ | ⟨rfl, hb, hb'⟩ | ⟨rfl, rfl, hb, hb'⟩
      all_goals
        go_wp2_with fail
        have HS2 : Hid (SetIs ((w1.drewN nq).alloc (.map #[] 0)) w1.heap.size [] ∧ SetIs ((w1.drewN nq).alloc (.map #[] 0)) w.heap.size (ids.take (k + 1)) ∧ Below w.heap.size w ((w1.drewN nq).alloc (.map #[] 0)) ∧ w.heap.size < w1.heap.size) := by
          have B0 : Below w1.heap.size w1 ((w1.drewN nq).alloc (.map #[] 0)) := (below_drewN (Below.refl _ _) nq).alloc (Nat.le_refl _) _
          exact ⟨SetIs.made _, HI1.out.1.below B0, HI1.out.2.trans (B0.mono HI1.out.2.size), HI1.out.1.lt⟩
        clear lk y0' hup v1 v2 v3 v4 HI1 hb hb'
        generalize w1.heap.size = gk at HS2 ⊢
        generalize (w1.drewN nq).alloc (.map #[] 0) = w3 at HS2 ⊢
        go_loopw [19] (fun i wx => ∃ j : Nat, j ≤ m ∧ i = .int .i64 j ∧ SetIs wx gk (xs.take j) ∧ SetIs wx w.heap.size (ids.take (k + 1)) ∧ Below w.heap.size w wx ∧ ∀ j', j' < j → (∀ x, xs[j']? = some x → x ∉ xs.take j') ∧ ∀ z, zs[j']? = some z → z ≠ 0) (fun i _ => m - (intOf i).toNat)
        case atStart => exact ⟨0, Nat.zero_le _, rfl, by simpa using HS2.out.1, HS2.out.2.1, HS2.out.2.2.1, fun j hj => by omega⟩
        case round =>
          have HGK : Hid (w.heap.size < gk) := HS2.out.2.2.2
          clear HS2
          obtain ⟨j, hj, rfl, q1, q2, q3, q4⟩ := hrel
          have HJ : Hid (SetIs wr gk (xs.take j) ∧ SetIs wr w.heap.size (ids.take (k + 1)) ∧ Below w.heap.size w wr ∧ ∀ j', j' < j → (∀ x, xs[j']? = some x → x ∉ xs.take j') ∧ ∀ z, zs[j']? = some z → z ≠ 0) := ⟨q1, q2, q3, q4⟩
          clear q1 q2 q3 q4
          have v3 := cell_later HJ.out.2.2.1 HY3.out.1
          have v4 := cell_later HJ.out.2.2.1 HY3.out.2
          by_cases hjl : j < m
          · have hjx : j < xs.length := by rw [HM.out.1]; exact hjl
            have hjz : j < zs.length := by rw [HM.out.2]; exact hjl
            obtain ⟨bx, ox, ux, xx, yx, zx⟩ := HX.out.1.at hjx
            obtain ⟨bz, oz, uz, xz, yz, zz⟩ := HX.out.2.at hjz
            unfold EStr at zx
            unfold EInt at zz
            subst zx zz
            replace yx := cell_later HJ.out.2.2.1 yx
            replace yz := cell_later HJ.out.2.2.1 yz
            have HXJ : Hid (xs[j]? = some xs[j] ∧ zs[j]? = some zs[j] ∧ xs.take (j + 1) = xs.take j ++ [xs[j]]) := ⟨List.getElem?_eq_getElem hjx, List.getElem?_eq_getElem hjz, List.take_succ_eq_append_getElem hjx⟩
            generalize xs[j] = key at yx HXJ
            generalize zs[j] = cv at yz HXJ
            subst xx xz
            have i2 : (j : Int) < (m : Int) := by omega
            by_cases hin : key ∈ xs.take j
            · have lk := HJ.out.1.look_in hin
              go_wp2
              go_ret
              exact ⟨ResIf.no _, HJ.out.2.2.1⟩
            have lk := HJ.out.1.look_out hin
            by_cases hcv : cv = 0
            · subst hcv
              go_wp2
              go_ret
              exact ⟨ResIf.no _, HJ.out.2.2.1⟩
            have hcb : (cv == 0) = false := by simp [hcv]
            obtain ⟨w5, hup, hs5, hg5, hz5⟩ := HJ.out.1.put key
            have hb5 : Below w.heap.size w w5 := HJ.out.2.2.1.grown hg5 HJ.out.2.2.1.size (fun j hj => by cases hj; exact Nat.le_of_lt HGK.out)
            have HJ5 : Hid (SetIs w5 gk (xs.take (j + 1)) ∧ SetIs w5 w.heap.size (ids.take (k + 1)) ∧ Below w.heap.size w w5 ∧ ∀ j', j' < j + 1 → (∀ x, xs[j']? = some x → x ∉ xs.take j') ∧ ∀ z, zs[j']? = some z → z ≠ 0) := by
              refine ⟨by rw [HXJ.out.2.2]; exact hs5, HJ.out.2.1.grown hg5 (Nat.ne_of_lt HGK.out), hb5, fun j' hj' => ?_⟩
              by_cases e : j' < j
              · exact HJ.out.2.2.2 j' e
              · obtain rfl : j' = j := by omega
                rw [HXJ.out.1, HXJ.out.2.1]
                exact ⟨fun x hx => by cases hx; exact hin, fun z hz => by cases hz; exact hcv⟩
            clear hs5 hg5 hz5 hb5 hin
            go_wp2
            go_roundw
            case rel => exact ⟨j + 1, by omega, by go_num, HJ5.out.1, HJ5.out.2.1, HJ5.out.2.2.1, HJ5.out.2.2.2⟩
            case measure => simp [intOf]; omega
          · obtain rfl : m = j := by omega
            have HF2 : Hid (∀ i, i < k + 1 → FitAt ids rp ld fk fc i) := fun i hi => by
              by_cases e : i < k
              · exact HI.out.2.2 i e
              · obtain rfl : i = k := by omega
                exact HFIT.out HIN.out (by first | rfl | trivial) HZ.out HJ.out.2.2.2
            go_wp2
            go_roundw
            case rel => exact ⟨k + 1, by omega, by go_num, HJ.out.2.1, HJ.out.2.2.1, HF2.out⟩
            case measure => simp [intOf]; omega
    · obtain rfl : n4 = k := by omega
      have HF2 : Hid (Fits ids rp ld fk fc n4 n4 n4 n4 n4 n5 n5) := ⟨rfl, rfl, rfl, rfl, rfl, HI.out.2.2⟩
      go_wp2
      go_ret
      exact ⟨ResIf.yes HF2.out, HI.out.2.1⟩

end Go.Proofs.Qxb6603051a
