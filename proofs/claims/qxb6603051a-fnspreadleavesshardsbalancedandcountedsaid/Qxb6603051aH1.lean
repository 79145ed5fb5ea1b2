/-
  Seat b6603051a: small helpers: cb1ByteLess (41), cb1NoEmptyID (23), cb1SameStrings (19), cb1SameInts (20), cb1Contains (27), cb1PosIn (17).
-/
import Derived.Test.Qxb6603051aS6
import Derived.Test.Qxb6603051aG1
namespace Go.Proofs.Qxb6603051a
open Go.RowKit
set_option linter.unusedVariables false
set_option linter.unusedSimpArgs false

/-- A bool came back, and where it is true p holds. -/
def BoolIf (p : Prop) (e : Ending) : Prop := ∃ b : Bool, e = .returned (.bool b) ∧ (b = true → p)
theorem BoolIf.no (p : Prop) : BoolIf p (.returned (.bool false)) := ⟨false, rfl, fun h => by cases h⟩
theorem BoolIf.yes {p : Prop} (h : p) : BoolIf p (.returned (.bool true)) := ⟨true, rfl, fun _ => h⟩

/-- Less, byte by byte. -/
def bl : List UInt8 → List UInt8 → Bool
  | [], [] => false
  | [], _ :: _ => true
  | _ :: _, [] => false
  | x :: xs, y :: ys => if x = y then bl xs ys else decide (x < y)

def blB (a b : ByteArray) : Bool := bl a.data.toList b.data.toList

theorem bl_irrefl : ∀ a : List UInt8, bl a a = false
  | [] => rfl
  | x :: a => by simp [bl, bl_irrefl a]

theorem bl_trans : ∀ {a b c : List UInt8}, bl a b = true → bl b c = true → bl a c = true
  | [], [], c, h, _ => by simp [bl] at h
  | [], _ :: _, [], _, h => by simp [bl] at h
  | [], _ :: _, _ :: _, _, _ => rfl
  | _ :: _, [], c, h, _ => by simp [bl] at h
  | _ :: _, _ :: _, [], _, h => by simp [bl] at h
  | x :: a, y :: b, z :: c, h1, h2 => by
    simp only [bl] at h1 h2 ⊢
    by_cases e1 : x = y
    · subst e1
      simp only [if_true] at h1
      by_cases e2 : x = z
      · subst e2
        simp only [if_true] at h2 ⊢
        exact bl_trans h1 h2
      · simp only [e2, if_false] at h2 ⊢
        exact h2
    · simp only [e1, if_false] at h1
      have h1' := of_decide_eq_true h1
      by_cases e2 : y = z
      · subst e2
        simp only [e1, if_false]
        exact h1
      · simp only [e2, if_false] at h2
        have h2' := of_decide_eq_true h2
        have h3 : x < z := UInt8.lt_trans h1' h2'
        have e3 : ¬ x = z := fun e => by subst e; exact absurd h3 (UInt8.lt_irrefl _)
        simp only [e3, if_false]
        exact decide_eq_true h3

theorem bl_total : ∀ {a b : List UInt8}, bl a b = false → a ≠ b → bl b a = true
  | [], [], _, h => absurd rfl h
  | [], _ :: _, h, _ => by simp [bl] at h
  | _ :: _, [], _, _ => rfl
  | x :: a, y :: b, h, hne => by
    simp only [bl] at h ⊢
    by_cases e : x = y
    · subst e
      simp only [if_true] at h ⊢
      exact bl_total h (fun q => hne (by rw [q]))
    · have e' : ¬ y = x := fun q => e q.symm
      simp only [e, e', if_false] at h ⊢
      have h1 := of_decide_eq_false h
      have h2 := UInt8.le_antisymm_iff (a := x) (b := y)
      refine decide_eq_true ?_
      rw [UInt8.lt_iff_toNat_lt] at h1 ⊢
      have h3 : x.toNat ≠ y.toNat := fun q => e (UInt8.toNat_inj.1 q)
      omega

theorem blB_trans {a b c : ByteArray} (h1 : blB a b = true) (h2 : blB b c = true) : blB a c = true := bl_trans h1 h2
theorem blB_irrefl (a : ByteArray) : blB a a = false := bl_irrefl _
theorem blB_total {a b : ByteArray} (h : blB a b = false) (hne : a ≠ b) : blB b a = true := bl_total h (fun e => hne (by obtain ⟨x⟩ := a; obtain ⟨y⟩ := b; exact congrArg ByteArray.mk (Array.toList_inj.1 e)))

theorem bl_drop {a b : List UInt8} {k : Nat} (ha : k < a.length) (hb : k < b.length) : bl (a.drop k) (b.drop k) = if a[k] = b[k] then bl (a.drop (k + 1)) (b.drop (k + 1)) else decide (a[k] < b[k]) := by
  rw [List.drop_eq_getElem_cons ha, List.drop_eq_getElem_cons hb]
  simp only [bl]

theorem bl_end {a b : List UInt8} {k : Nat} (h : a.length ≤ k ∨ b.length ≤ k) (ha : k ≤ a.length) (hb : k ≤ b.length) : bl (a.drop k) (b.drop k) = decide (a.length < b.length) := by
  by_cases h1 : a.length ≤ k
  · have : a.length = k := by omega
    rw [List.drop_of_length_le h1]
    by_cases h2 : b.length ≤ k
    · rw [List.drop_of_length_le h2]; simp [bl]; omega
    · rw [List.drop_eq_getElem_cons (by omega)]; simp [bl]; omega
  · have h2 : b.length ≤ k := by omega
    rw [List.drop_of_length_le h2, List.drop_eq_getElem_cons (by omega)]
    simp [bl]; omega

set_option maxHeartbeats 400000 in
theorem byteLess_any (a b : ByteArray) (w : World) (ha : a.size ≤ 9223372036854775807) (hb : b.size ≤ 9223372036854775807) :
    Calls Try.prog 41 #[.string a, .string b] w fun e w' => e = .returned (.bool (blB a b)) ∧ ∃ m, w' = w.drewN m := by
  by_cases hmin : b.size < a.size
  all_goals
    go_enter Try.func41, Try.ntmps41
    go_wp2_with fail
    go_loopw [6] (fun i wr => ∃ k : Nat, k ≤ a.size ∧ k ≤ b.size ∧ i = .int .i64 k ∧ blB a b = bl (a.data.toList.drop k) (b.data.toList.drop k) ∧ ∃ m, wr = w.drewN m) (fun i _ => a.size - (intOf i).toNat)
    case atStart => exact ⟨0, Nat.zero_le _, Nat.zero_le _, rfl, by simp [blB], 0, rfl⟩
    case round =>
      obtain ⟨k, hk1, hk2, rfl, hbl, m, rfl⟩ := hrel
      have HB : Hid _ := hbl
      clear hbl
      by_cases hlt : k < a.size ∧ k < b.size
      · obtain ⟨h1, h2⟩ := hlt
        have i1 : (k : Int) < (a.size : Int) := by omega
        have i2 : (k : Int) < (b.size : Int) := by omega
        have g1 : k < a.data.toList.length := by simpa using h1
        have g2 : k < b.data.toList.length := by simpa using h2
        have hdr := bl_drop g1 g2
        have e1 : a.data.toList[k] = a[k] := rfl
        have e2 : b.data.toList[k] = b[k] := rfl
        rw [e1, e2] at hdr
        by_cases hab : (a[k].toNat : Int) = (b[k].toNat : Int)
        · have hab' : a[k] = b[k] := UInt8.toNat_inj.1 (by omega)
          rw [if_pos hab'] at hdr
          have HD : Hid _ := hdr
          clear hdr e1 e2 hab'
          go_wp2_with fail
          go_quiet (fail)
          go_wp2
          go_roundw
          case rel => exact ⟨k + 1, by omega, by omega, by go_num, by rw [HB.out, HD.out], _, by first | rfl | exact World.drewN_drewN _ _ _⟩
          case measure => simp [intOf]; omega
        · have hab' : ¬ a[k] = b[k] := fun e => hab (by rw [e])
          rw [if_neg hab'] at hdr
          have HD : Hid _ := hdr
          clear hdr e1 e2 hab'
          go_wp2_with fail
          go_quiet (fail)
          go_wp2_with fail
          go_quiet (fail)
          go_wp2
          go_ret
          refine ⟨?_, _, by rw [World.drewN_drewN, World.drewN_drewN]⟩
          rw [HB.out, HD.out]
          simp [UInt8.lt_iff_toNat_lt]
      · have hend := bl_end (a := a.data.toList) (b := b.data.toList) (k := k) (by simp; omega) (by simpa using hk1) (by simpa using hk2)
        have HD : Hid _ := hend
        clear hend
        go_wp2
        go_ret
        refine ⟨?_, _, rfl⟩
        rw [HB.out, HD.out]
        simp

set_option maxHeartbeats 400000 in
theorem noEmpty_any (ao : Option Addr) (n c : Nat) (ss : List ByteArray) (w : World) (hs : Strs w (.slice ao n c) ss) (hn : n ≤ 1048576) :
    Calls Try.prog 23 #[.slice ao n c] w fun e w' => BoolIf (ByteArray.empty ∉ ss) e ∧ w = w' := by
  have HL : Hid (ss.length = n) := hs.len.1
  go_enter Try.func23, Try.ntmps23
  go_wp2_with fail
  go_loop [3] (fun i => ∃ k : Nat, k ≤ n ∧ i = .int .i64 k ∧ ∀ j x, j < k → ss[j]? = some x → x ≠ ByteArray.empty) (fun i => n - (intOf i).toNat)
  case atStart => exact ⟨0, Nat.zero_le _, rfl, fun j x hj => by omega⟩
  case round =>
    obtain ⟨k, hk, rfl, hall⟩ := hrel
    have HA : Hid _ := hall
    clear hall
    by_cases hlt : k < n
    · have hkl : k < ss.length := by rw [HL.out]; exact hlt
      obtain ⟨b, off, u, hx, hc, hu⟩ := hs.at hkl
      unfold EStr at hu
      subst hx
      subst hu
      clear hs
      cases he : ss[k].toList.isEmpty with
      | true =>
        go_wp2
        go_ret
        exact ⟨BoolIf.no _, rfl⟩
      | false =>
        have HE : Hid _ := he
        go_wp2
        go_round
        case rel =>
          refine ⟨k + 1, by omega, by go_num, fun j x hj hx => ?_⟩
          by_cases e : j = k
          · subst e
            rw [List.getElem?_eq_getElem hkl] at hx
            cases hx
            intro h0
            have h1 := HE.out
            rw [h0, ByteArray.toList_eq] at h1
            cases h1
          · exact HA.out j x (by omega) hx
        case measure => simp [intOf]; omega
    · clear hs
      go_wp2
      go_ret
      refine ⟨BoolIf.yes fun hm => ?_, rfl⟩
      obtain ⟨j, hj, hj2⟩ := List.getElem_of_mem hm
      exact HA.out j _ (by have := HL.out; omega) (by rw [List.getElem?_eq_getElem hj, hj2]) rfl

set_option maxHeartbeats 400000 in
theorem sameStrs_any (ao : Option Addr) (n c : Nat) (ss : List ByteArray) (w : World) (hs : Strs w (.slice ao n c) ss) (hn : n ≤ 1048576) :
    Calls Try.prog 19 #[.slice ao n c, .slice ao n c] w fun e w' => e = .returned (.bool true) ∧ ∃ m, w' = w.drewN m := by
  have HL : Hid (ss.length = n) := hs.len.1
  have kn := fun w a n c n' c' => Lib.run_eql_slice_nil (P := Try.prog) w 22 9 a n c n' c' Try.underlying22
  have hnn : (ao.isNone != ao.isNone) = false := by simp
  go_enter Try.func19, Try.ntmps19
  go_wp2_with fail
  go_loopw [5] (fun i wr => ∃ k : Nat, k ≤ n ∧ i = .int .i64 k ∧ ∃ m, wr = w.drewN m) (fun i _ => n - (intOf i).toNat)
  case atStart => exact ⟨0, Nat.zero_le _, rfl, 0, rfl⟩
  case round =>
    obtain ⟨k, hk, rfl, m, rfl⟩ := hrel
    by_cases hlt : k < n
    · have hkl : k < ss.length := by rw [HL.out]; exact hlt
      obtain ⟨b, off, u, hx, hc, hu⟩ := hs.at hkl
      unfold EStr at hu
      subst hx
      subst hu
      have i1 : (k : Int) < (n : Int) := by omega
      clear hs
      go_wp2_with fail
      go_quiet (fail)
      go_wp2
      go_roundw
      case rel => exact ⟨k + 1, by omega, by go_num, _, by first | rfl | exact World.drewN_drewN _ _ _⟩
      case measure => simp [intOf]; omega
    · clear hs
      go_wp2
      go_ret
      exact ⟨rfl, _, rfl⟩

set_option maxHeartbeats 400000 in
theorem sameInts_any (a0 a1 : Option Addr) (n c0 c1 : Nat) (zs : List Int) (w : World) (h0 : Ints w (.slice a0 n c0) zs) (h1 : Ints w (.slice a1 n c1) zs) (hn : n ≤ 1048576) :
    Calls Try.prog 20 #[.slice a0 n c0, .slice a1 n c1] w fun e w' => e = .returned (.bool true) ∧ ∃ m, w' = w.drewN m := by
  have HL : Hid (zs.length = n) := h0.len.1
  go_enter Try.func20, Try.ntmps20
  go_wp2_with fail
  go_loopw [5] (fun i wr => ∃ k : Nat, k ≤ n ∧ i = .int .i64 k ∧ ∃ m, wr = w.drewN m) (fun i _ => n - (intOf i).toNat)
  case atStart => exact ⟨0, Nat.zero_le _, rfl, 0, rfl⟩
  case round =>
    obtain ⟨k, hk, rfl, m, rfl⟩ := hrel
    by_cases hlt : k < n
    · have hkl : k < zs.length := by rw [HL.out]; exact hlt
      obtain ⟨b, off, u, hx, hc, hu⟩ := h0.at hkl
      obtain ⟨b', off', u', hx', hc', hu'⟩ := h1.at hkl
      unfold EInt at hu hu'
      subst hx hx' hu hu'
      have i1 : (k : Int) < (n : Int) := by omega
      clear h0 h1
      go_wp2_with fail
      go_quiet (fail)
      go_wp2
      go_roundw
      case rel => exact ⟨k + 1, by omega, by go_num, _, by first | rfl | exact World.drewN_drewN _ _ _⟩
      case measure => simp [intOf]; omega
    · clear h0 h1
      go_wp2
      go_ret
      exact ⟨rfl, _, rfl⟩

set_option maxHeartbeats 400000 in
theorem contains_any (ao : Option Addr) (n c : Nat) (ss : List ByteArray) (x : ByteArray) (w : World) (hs : Strs w (.slice ao n c) ss) (hn : n ≤ 1048576) (hx : x ∈ ss) :
    Calls Try.prog 27 #[.slice ao n c, .string x] w fun e w' => e = .returned (.bool true) ∧ w = w' := by
  have HL : Hid (ss.length = n) := hs.len.1
  go_enter Try.func27, Try.ntmps27
  go_wp2_with fail
  go_loop [5] (fun i => ∃ k : Nat, k ≤ n ∧ i = .int .i64 k ∧ ∀ j y, j < k → ss[j]? = some y → y ≠ x) (fun i => n - (intOf i).toNat)
  case atStart => exact ⟨0, Nat.zero_le _, rfl, fun j x hj => by omega⟩
  case round =>
    obtain ⟨k, hk, rfl, hall⟩ := hrel
    have HA : Hid _ := And.intro hall hx
    clear hall hx
    by_cases hlt : k < n
    · have hkl : k < ss.length := by rw [HL.out]; exact hlt
      obtain ⟨b, off, u, hx, hc, hu⟩ := hs.at hkl
      unfold EStr at hu
      subst hx
      subst hu
      clear hs
      by_cases he : ss[k] = x
      · have he' : (ss[k].toList == x.toList) = true := by rw [he]; simp
        clear he
        go_wp2
        go_ret
        exact ⟨rfl, rfl⟩
      · have he' : (ss[k].toList == x.toList) = false := by
          cases hh : (ss[k].toList == x.toList) with
          | false => rfl
          | true => exact absurd (toList_inj (by simpa using hh)) he
        have HE : Hid _ := he
        clear he
        go_wp2
        go_round
        case rel =>
          refine ⟨k + 1, by omega, by go_num, fun j y hj hy => ?_⟩
          by_cases e : j = k
          · subst e
            rw [List.getElem?_eq_getElem hkl] at hy
            cases hy
            exact HE.out
          · exact HA.out.1 j y (by omega) hy
        case measure => simp [intOf]; omega
    · exfalso
      obtain ⟨j, hj, hj2⟩ := List.getElem_of_mem HA.out.2
      exact HA.out.1 j _ (by have := HL.out; omega) (by rw [List.getElem?_eq_getElem hj, hj2]) rfl

/-- Strictly ascending. -/
def Asc (live : List ByteArray) : Prop := ∀ (i j : Nat) x y, i < j → live[i]? = some x → live[j]? = some y → blB x y = true

theorem Asc.nodup {live : List ByteArray} (h : Asc live) : live.Nodup := by
  unfold List.Nodup
  rw [List.pairwise_iff_getElem]
  intro i j hi hj hij he
  have := h i j _ _ hij (List.getElem?_eq_getElem hi) (List.getElem?_eq_getElem hj)
  rw [he, blB_irrefl] at this
  cases this

set_option maxHeartbeats 1000000 in
theorem posIn_any (ao : Option Addr) (n c : Nat) (live : List ByteArray) (x : ByteArray) (w : World) (hs : Strs w (.slice ao n c) live) (hn : n ≤ 1048576) (hasc : Asc live) (hok : okS live) (hx : x.size ≤ 9223372036854775807) :
    Calls Try.prog 17 #[.slice ao n c, .string x] w fun e w' => e = .returned (.int .i64 (oi (idx live x))) ∧ ∃ m, w' = w.drewN m := by
  have HL : Hid (live.length = n) := hs.len.1
  go_enter Try.func17, Try.ntmps17
  go_wp2_with fail
  go_loopw [5, 6] (fun l h wr => ∃ lo hi : Nat, lo ≤ hi ∧ hi ≤ n ∧ l = .int .i64 lo ∧ h = .int .i64 hi ∧ (∀ j y, j < lo → live[j]? = some y → blB y x = true) ∧ (∀ j y, hi ≤ j → live[j]? = some y → blB y x = false) ∧ ∃ m, wr = w.drewN m) (fun l h _ => (intOf h).toNat - (intOf l).toNat)
  case atStart => exact ⟨0, n, Nat.zero_le _, Nat.le_refl _, rfl, rfl, fun j y hj => by omega, fun j y hj hy => by have := (List.getElem?_eq_some_iff.1 hy).1; have := HL.out; omega, 0, rfl⟩
  case round =>
    obtain ⟨lo, hi, hlh, hhn, rfl, rfl, h1, h2, m, rfl⟩ := hrel
    by_cases hlt : lo < hi
    · have hmid : lo + (hi - lo) / 2 < live.length := by rw [HL.out]; omega
      obtain ⟨b, off, u, hxx, hc, hu⟩ := hs.at hmid
      unfold EStr at hu
      subst hxx
      subst hu
      have hsz := hok _ (List.getElem_mem hmid)
      have HA : Hid (_ ∧ _ ∧ Asc live ∧ _ ∧ _) := ⟨h1, h2, hasc, hs, hok⟩
      clear h1 h2 hasc hs hok
      cases hb : blB live[lo + (hi - lo) / 2] x with
      | true =>
        have HC := fun wx => byteLess_any live[lo + (hi - lo) / 2] x wx hsz hx
        rw [hb] at HC
        have HB : Hid _ := hb
        clear hb
        go_wp2_with fail
        refine (HC _).mono ?_
        rintro e w' ⟨rfl, m', rfl⟩
        clear HC
        go_wp2
        go_roundw
        case rel =>
          obtain ⟨h1, h2, hasc, -⟩ := HA.out
          refine ⟨lo + (hi - lo) / 2 + 1, hi, by omega, by omega, by go_num, rfl, fun j y hj hy => ?_, h2, _, by first | rfl | exact World.drewN_drewN _ _ _⟩
          by_cases e : j = lo + (hi - lo) / 2
          · subst e
            rw [List.getElem?_eq_getElem hmid] at hy
            cases hy
            exact HB.out
          · exact blB_trans (hasc j _ y _ (by omega) hy (List.getElem?_eq_getElem hmid)) HB.out
        case measure => simp [intOf]; omega
      | false =>
        have HC := fun wx => byteLess_any live[lo + (hi - lo) / 2] x wx hsz hx
        rw [hb] at HC
        have HB : Hid _ := hb
        clear hb
        go_wp2_with fail
        refine (HC _).mono ?_
        rintro e w' ⟨rfl, m', rfl⟩
        clear HC
        go_wp2
        go_roundw
        case rel =>
          obtain ⟨h1, h2, hasc, -⟩ := HA.out
          refine ⟨lo, lo + (hi - lo) / 2, by omega, by omega, rfl, by go_num, h1, fun j y hj hy => ?_, _, by first | rfl | exact World.drewN_drewN _ _ _⟩
          by_cases e : j = lo + (hi - lo) / 2
          · subst e
            rw [List.getElem?_eq_getElem hmid] at hy
            cases hy
            exact HB.out
          · cases hq : blB y x with
            | false => rfl
            | true =>
              have := blB_trans (hasc _ j _ y (by omega) (List.getElem?_eq_getElem hmid) hy) hq
              rw [HB.out] at this
              cases this
        case measure => simp [intOf]; omega
    · obtain rfl : lo = hi := by omega
      by_cases hln : lo < n
      · have hll : lo < live.length := by rw [HL.out]; exact hln
        obtain ⟨b, off, u, hxx, hc, hu⟩ := hs.at hll
        unfold EStr at hu
        subst hxx
        subst hu
        by_cases he : live[lo] = x
        · have he' : (live[lo].toList == x.toList) = true := by rw [he]; simp
          have hidx : idx live x = some lo := by rw [← he]; exact idx_nodup hasc.nodup (List.getElem?_eq_getElem hll)
          have HX : Hid _ := hidx
          clear he hidx h1 h2 hasc hs hok
          go_wp2
          go_ret
          exact ⟨by rw [HX.out]; rfl, _, rfl⟩
        · have he' : (live[lo].toList == x.toList) = false := by
            cases hh : (live[lo].toList == x.toList) with
            | false => rfl
            | true => exact absurd (toList_inj (by simpa using hh)) he
          have hidx : idx live x = none := by
            cases hi : idx live x with
            | none => rfl
            | some i =>
              have hg := idx_get hi
              rcases Nat.lt_trichotomy i lo with hc1 | hc1 | hc1
              · have := h1 i x hc1 hg; rw [blB_irrefl] at this; cases this
              · subst hc1; rw [List.getElem?_eq_getElem hll] at hg; cases hg; exact absurd rfl he
              · have q1 := h2 lo _ (Nat.le_refl _) (List.getElem?_eq_getElem hll)
                have q2 := hasc lo i _ x hc1 (List.getElem?_eq_getElem hll) hg
                rw [q1] at q2; cases q2
          have HX : Hid _ := hidx
          clear he hidx h1 h2 hasc hs hok
          go_wp2
          go_ret
          exact ⟨by rw [HX.out]; rfl, _, rfl⟩
      · have hidx : idx live x = none := by
          cases hi : idx live x with
          | none => rfl
          | some i =>
            have hg := idx_get hi
            have := (List.getElem?_eq_some_iff.1 hg).1
            have q := h1 i x (by have := HL.out; omega) hg
            rw [blB_irrefl] at q; cases q
        have HX : Hid _ := hidx
        clear hidx h1 h2 hasc hs hok
        go_wp2
        go_ret
        exact ⟨by rw [HX.out]; rfl, _, rfl⟩

end Go.Proofs.Qxb6603051a
