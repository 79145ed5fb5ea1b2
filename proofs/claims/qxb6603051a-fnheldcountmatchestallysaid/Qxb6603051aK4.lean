/-
  Seat b6603051a: cb1BuildHeld (32).
-/
import Derived.Test.Qxb6603051aK3
import Derived.Test.Qxb6603051aF1
import Derived.StillTailTactics
namespace Go.Proofs.Qxb6603051a
open Go.RowKit
set_option linter.unusedVariables false
set_option linter.unusedSimpArgs false

/-- The value beside the key. -/
def pk : List ByteArray → List Int → ByteArray → Int
  | x :: xs, z :: zs, k => if k = x then z else pk xs zs k
  | _, _, _ => 0

def pkF : List ByteArray → List (List ByteArray) → List (List Int) → ByteArray → ByteArray → Int
  | x :: xs, y :: ys, z :: zs, k => if k = x then pk y z else pkF xs ys zs k
  | _, _, _, _ => fun _ => 0

theorem pk_nil (zs : List Int) (k : ByteArray) : pk [] zs k = 0 := rfl
theorem pkF_nil (ys : List (List ByteArray)) (zs : List (List Int)) (k : ByteArray) : pkF [] ys zs k = fun _ => 0 := rfl

theorem pk_out : ∀ {xs : List ByteArray} {zs : List Int} {k : ByteArray}, k ∉ xs → pk xs zs k = 0
  | [], _, _, _ => rfl
  | x :: xs, [], _, _ => rfl
  | x :: xs, z :: zs, k, h => by
    simp only [List.mem_cons, not_or] at h
    simp only [pk, h.1, if_false]
    exact pk_out h.2

theorem pkF_out : ∀ {xs : List ByteArray} {ys : List (List ByteArray)} {zs : List (List Int)} {k : ByteArray}, k ∉ xs → pkF xs ys zs k = fun _ => 0
  | [], _, _, _, _ => rfl
  | x :: xs, [], _, _, _ => rfl
  | x :: xs, y :: ys, [], _, _ => rfl
  | x :: xs, y :: ys, z :: zs, k, h => by
    simp only [List.mem_cons, not_or] at h
    simp only [pkF, h.1, if_false]
    exact pkF_out h.2

theorem pk_snoc : ∀ {xs : List ByteArray} {zs : List Int} {i : Nat} {x : ByteArray} {z : Int}, xs[i]? = some x → zs[i]? = some z → x ∉ xs.take i → pk (xs.take (i + 1)) zs = upd (pk (xs.take i) zs) x z
  | [], zs, i, x, z, h, _, _ => by simp at h
  | a :: xs, [], i, x, z, _, h, _ => by simp at h
  | a :: xs, c :: zs, 0, x, z, h1, h2, _ => by
    simp only [List.getElem?_cons_zero, Option.some.injEq] at h1 h2
    subst h1 h2
    funext k
    simp [pk, upd]
  | a :: xs, c :: zs, i + 1, x, z, h1, h2, h3 => by
    simp only [List.getElem?_cons_succ] at h1 h2
    simp only [List.take_succ_cons, List.mem_cons, not_or] at h3
    have ih := pk_snoc h1 h2 h3.2
    funext k
    have ihk := congrFun ih k
    simp only [List.take_succ_cons, pk]
    unfold upd at ihk ⊢
    by_cases e : k = a
    · have : ¬ k = x := fun e' => h3.1 (e'.symm.trans e)
      simp [e] at this ⊢
      exact fun h => absurd h this
    · simp only [e, if_false, pk]
      exact ihk

theorem pkF_snoc : ∀ {xs : List ByteArray} {ys : List (List ByteArray)} {zs : List (List Int)} {i : Nat} {x : ByteArray} {y : List ByteArray} {z : List Int}, xs[i]? = some x → ys[i]? = some y → zs[i]? = some z → x ∉ xs.take i → pkF (xs.take (i + 1)) ys zs = upd (pkF (xs.take i) ys zs) x (pk y z)
  | [], _, _, _, _, _, _, h, _, _, _ => by simp at h
  | a :: xs, [], _, _, _, _, _, _, h, _, _ => by simp at h
  | a :: xs, b :: ys, [], _, _, _, _, _, _, h, _ => by simp at h
  | a :: xs, b :: ys, c :: zs, 0, x, y, z, h1, h2, h3, _ => by
    simp only [List.getElem?_cons_zero, Option.some.injEq] at h1 h2 h3
    subst h1 h2 h3
    funext k
    simp [pkF, upd]
  | a :: xs, b :: ys, c :: zs, i + 1, x, y, z, h1, h2, h3, h4 => by
    simp only [List.getElem?_cons_succ] at h1 h2 h3
    simp only [List.take_succ_cons, List.mem_cons, not_or] at h4
    have ih := pkF_snoc h1 h2 h3 h4.2
    funext k
    have ihk := congrFun ih k
    simp only [List.take_succ_cons, pkF]
    unfold upd at ihk ⊢
    by_cases e : k = a
    · have : ¬ k = x := fun e' => h4.1 (e'.symm.trans e)
      simp [e] at this ⊢
      exact fun h => absurd h this
    · simp only [e, if_false, pkF]
      exact ihk

theorem HeldC.made (w : World) : HeldC (w.alloc (.map #[] 0)) w.heap.size w.heap.size (fun _ => 0) (fun _ => 0) (fun _ _ => 0) (fun _ => none) none :=
  ⟨⟨[], MapIs.made w, Tidy.nil, fun id _ => rfl⟩, fun _ _ => rfl, (fun _ _ _ h => by cases h), (fun _ _ h => by cases h), Nat.le_refl _⟩

theorem HeldC.grown {w w' : World} {bh base g : Nat} {R L : ByteArray → Int} {F : ByteArray → ByteArray → Int} {B : ByteArray → Option Nat} {ex : Option ByteArray} (h : HeldC w bh base R L F B ex) (hg : w.grownBy w' (some g)) (h1 : bh ≠ g) (h2 : ∀ id, B id ≠ some g) : HeldC w' bh base R L F B ex := by
  obtain ⟨⟨mp, q1, q2, q3⟩, q4, q5, q6, q7⟩ := h
  exact ⟨⟨mp, q1.of_block (hg.block bh q1.lt (fun e => h1 (by cases e; rfl))), q2, q3⟩, fun id => (q4 id).of_block (fun b hb hlt => hg.block b hlt (fun e => h2 id (by cases e; exact hb))), q5, q6, q7⟩

theorem HeldC.swap {w : World} {bh base : Nat} {R L : ByteArray → Int} {F : ByteArray → ByteArray → Int} {B : ByteArray → Option Nat} {id : ByteArray} (h : HeldC w bh base R L F B (some id)) {ro : Option Nat} {f : ByteArray → Int} (hf : Fol w ro f) (hr : ∀ b, ro = some b → b ≠ bh ∧ base ≤ b ∧ ∀ x, B x ≠ some b) :
    HeldC w bh base R L (upd F id f) (upd B id ro) (some id) := by
  obtain ⟨⟨mp, q1, q2, q3⟩, q4, q5, q6, q7⟩ := h
  refine ⟨⟨mp, q1, q2, fun x hx => ?_⟩, fun x => ?_, fun x y b hx hy => ?_, fun x b hx => ?_, q7⟩
  · have hne : x ≠ id := fun e => hx (by rw [e])
    rw [upd_ne _ _ hne]; exact q3 x hx
  · by_cases e : x = id
    · subst e; rw [upd_same, upd_same]; exact hf
    · rw [upd_ne _ _ e, upd_ne _ _ e]; exact q4 x
  · by_cases e : x = id
    · by_cases e' : y = id
      · rw [e, e']
      · subst e
        rw [upd_same] at hx
        rw [upd_ne _ _ e'] at hy
        exact absurd hy ((hr b hx).2.2 y)
    · by_cases e' : y = id
      · subst e'
        rw [upd_same] at hy
        rw [upd_ne _ _ e] at hx
        exact absurd hx ((hr b hy).2.2 x)
      · rw [upd_ne _ _ e] at hx
        rw [upd_ne _ _ e'] at hy
        exact q5 x y b hx hy
  · by_cases e : x = id
    · subst e
      rw [upd_same] at hx
      exact ⟨(hr b hx).1, (hr b hx).2.1⟩
    · rw [upd_ne _ _ e] at hx
      exact q6 x b hx

theorem FolRaw.made (w : World) : FolRaw (w.alloc (.map #[] 0)) w.heap.size (fun _ => 0) := ⟨[], MapIs.made w, Tidy.nil, fun k => rfl⟩

/-- The Held that is being built: i entries stand. -/
def BHI (w wr : World) (ids : List ByteArray) (rp ld : List Int) (fk : List (List ByteArray)) (fc : List (List Int)) (i : Nat) (B : ByteArray → Option Nat) : Prop :=
  HeldC wr w.heap.size w.heap.size (pk (ids.take i) rp) (pk (ids.take i) ld) (pkF (ids.take i) fk fc) B none ∧ Below w.heap.size w wr

/-- The last step of a round: the entry is written. -/
theorem BHI.put {w wr : World} {ids : List ByteArray} {rp ld : List Int} {fk : List (List ByteArray)} {fc : List (List Int)} {i : Nat} {B : ByteArray → Option Nat} (h : BHI w wr ids rp ld fk fc i B) {x : ByteArray} {r l : Int} {y : List ByteArray} {z : List Int}
    (h0 : ids[i]? = some x) (h1 : rp[i]? = some r) (h2 : ld[i]? = some l) (h3 : fk[i]? = some y) (h4 : fc[i]? = some z) (hx : x ∉ ids.take i) {ro : Option Nat} (hf : Fol wr ro (pk y z)) (hr : ∀ b, ro = some b → b ≠ w.heap.size ∧ w.heap.size ≤ b ∧ ∀ x, B x ≠ some b) (hne : ¬ (r = 0 ∧ l = 0 ∧ ro = none)) :
    ∃ w', (Instr.mapUpdate 58 (.map (some w.heap.size)) (.string x) (.agg #[.int .i64 r, .int .i64 l, .map ro])).run Try.prog wr.drew = .ok () w' ∧ ∃ B', BHI w w' ids rp ld fk fc (i + 1) B' := by
  have q0 := (HeldC.weak h.1 x).swap hf hr
  have q1 : HeldC wr.drew w.heap.size w.heap.size (pk (ids.take i) rp) (pk (ids.take i) ld) (upd (pkF (ids.take i) fk fc) x (pk y z)) (upd B x ro) (some x) := q0.later ((Below.refl _ _).drew)
  obtain ⟨w', p1, p2, p3⟩ := q1.put r l (by rw [upd_same]; exact hne)
  rw [upd_same] at p1
  refine ⟨w', p1, upd B x ro, ?_, h.2.drew.trans p3.1⟩
  rw [pk_snoc h0 h1 hx, pk_snoc h0 h2 hx, pkF_snoc h0 h3 h4 hx]
  exact p2

set_option maxRecDepth 100000 in
set_option maxHeartbeats 4000000 in
theorem buildHeld_any (a0 a1 a2 a3 a4 : Option Addr) (n c0 c1 c2 c3 c4 : Nat) (ids : List ByteArray) (rp ld : List Int) (fk : List (List ByteArray)) (fc : List (List Int)) (w : World)
    (h0 : Strs w (.slice a0 n c0) ids) (h1 : Ints w (.slice a1 n c1) rp) (h2 : Ints w (.slice a2 n c2) ld) (h3 : Nest w (.slice a3 n c3) fk) (h4 : Slc (Slc EInt) w (.slice a4 n c4) fc) (hm : n ≤ 1048576) (hmk : ∀ x ∈ fk, x.length ≤ 1048576) (hfit : ∀ i, i < n → FitAt ids rp ld fk fc i) :
    Calls Try.prog 32 #[.slice a0 n c0, .slice a1 n c1, .slice a2 n c2, .slice a3 n c3, .slice a4 n c4] w fun e w' => e = .returned (.map (some w.heap.size)) ∧ (∃ B, HeldC w' w.heap.size w.heap.size (pk ids rp) (pk ids ld) (pkF ids fk fc) B none) ∧ Below w.heap.size w w' := by
  have H0 : Hid (Strs w (.slice a0 n c0) ids) := h0
  have H1 : Hid (Ints w (.slice a1 n c1) rp) := h1
  have H2 : Hid (Ints w (.slice a2 n c2) ld) := h2
  have H3 : Hid (Nest w (.slice a3 n c3) fk) := h3
  have H4 : Hid (Slc (Slc EInt) w (.slice a4 n c4) fc) := h4
  have HMK : Hid ((∀ x ∈ fk, x.length ≤ 1048576) ∧ ∀ i, i < n → FitAt ids rp ld fk fc i) := ⟨hmk, hfit⟩
  have L : Hid (ids.length = n ∧ rp.length = n ∧ ld.length = n ∧ fk.length = n ∧ fc.length = n) := ⟨h0.len.1, h1.len.1, h2.len.1, h3.len.1, h4.len.1⟩
  clear h0 h1 h2 h3 h4 hmk hfit
  have hmkH := fun (w : World) => run_makeMap_hint (P := Try.prog) (w := w) (T := 58) (K := 9) (E := 80) Try.underlying58 (n : Int)
  have HS0 : Hid (∃ B, BHI w (w.alloc (.map #[] 0)) ids rp ld fk fc 0 B) := ⟨_, by simpa [pk, pkF] using HeldC.made w, (Below.refl _ _).alloc (Nat.le_refl _) _⟩
  go_enter Try.func32, Try.ntmps32
  go_wp2_with fail
  go_loopw [12] (fun i wr => ∃ k : Nat, k ≤ n ∧ i = .int .i64 k ∧ ∃ B, BHI w wr ids rp ld fk fc k B) (fun i _ => n - (intOf i).toNat)
  case atStart => exact ⟨0, Nat.zero_le _, rfl, HS0.out⟩
  case round =>
    clear HS0 hmkH
    obtain ⟨k, hk, rfl, B, hB⟩ := hrel
    have HI : Hid (BHI w wr ids rp ld fk fc k B) := hB
    clear hB
    by_cases hlt : k < n
    · have hk0 : k < ids.length := by rw [L.out.1]; exact hlt
      have hk1 : k < rp.length := by rw [L.out.2.1]; exact hlt
      have hk2 : k < ld.length := by rw [L.out.2.2.1]; exact hlt
      have hk3 : k < fk.length := by rw [L.out.2.2.2.1]; exact hlt
      have hk4 : k < fc.length := by rw [L.out.2.2.2.2]; exact hlt
      obtain ⟨b0, o0, u0, x0, y0, z0⟩ := H0.out.at hk0
      obtain ⟨b1, o1, u1, x1, y1, z1⟩ := H1.out.at hk1
      obtain ⟨b2, o2, u2, x2, y2, z2⟩ := H2.out.at hk2
      obtain ⟨b3, o3, u3, x3, y3, z3⟩ := H3.out.at hk3
      obtain ⟨b4, o4, u4, x4, y4, z4⟩ := H4.out.at hk4
      unfold EStr at z0
      unfold EInt at z1 z2
      subst z0 z1 z2
      obtain ⟨ai, ci, rfl, -, -⟩ := Slc.shape z3
      obtain ⟨aj, cj, rfl, -, -⟩ := Slc.shape z4
      have hml : fk[k].length ≤ 1048576 := HMK.out.1 _ (List.getElem_mem hk3)
      have HFIT := HMK.out.2 k hlt
      have HG : Hid (ids[k]? = some ids[k] ∧ rp[k]? = some rp[k] ∧ ld[k]? = some ld[k] ∧ fk[k]? = some fk[k] ∧ fc[k]? = some fc[k]) := ⟨List.getElem?_eq_getElem hk0, List.getElem?_eq_getElem hk1, List.getElem?_eq_getElem hk2, List.getElem?_eq_getElem hk3, List.getElem?_eq_getElem hk4⟩
      have HF : Hid (ids[k] ∉ ids.take k ∧ fk[k].length = fc[k].length ∧ ¬ (rp[k] = 0 ∧ ld[k] = 0 ∧ fk[k].length = 0) ∧ ∀ j, j < fk[k].length → (∀ x, fk[k][j]? = some x → x ∉ fk[k].take j) ∧ ∀ z, fc[k][j]? = some z → z ≠ 0) := by
        unfold FitAt at HFIT
        have f1 : fk.getD k [] = fk[k] := by simp [hk3]
        have f2 : fc.getD k [] = fc[k] := by simp [hk4]
        have f3 : rp.getD k 0 = rp[k] := by simp [hk1]
        have f4 : ld.getD k 0 = ld[k] := by simp [hk2]
        rw [f1, f2, f3, f4] at HFIT
        exact ⟨HFIT.1 _ HG.out.1, HFIT.2⟩
      clear HFIT
      generalize ids[k] = vid at y0 HG HF
      generalize rp[k] = vr at y1 HG HF
      generalize ld[k] = vl at y2 HG HF
      generalize fk[k] = xs at y3 z3 hml HG HF
      generalize fc[k] = zs at y4 z4 HG HF
      have HX : Hid (Strs w (.slice ai xs.length ci) xs ∧ Ints w (.slice aj zs.length cj) zs) := ⟨z3, z4⟩
      obtain ⟨m, hm'⟩ : ∃ m, m = xs.length := ⟨_, rfl⟩
      have hpz : zs.length = m := by rw [hm']; exact HF.out.2.1.symm
      have HM : Hid (xs.length = m ∧ zs.length = m) := ⟨hm'.symm, hpz⟩
      rw [← hm'] at y3 hml HX
      rw [hpz] at y4 HX
      clear z3 z4 hm' hpz
      subst x0 x1 x2 x3 x4
      have v0 := cell_later HI.out.2 y0
      have v1 := cell_later HI.out.2 y1
      have v2 := cell_later HI.out.2 y2
      have v3 := cell_later HI.out.2 y3
      have v4 := cell_later HI.out.2 y4
      have HY : Hid (w.cell? ⟨b0, o0 + k, none⟩ = some (.string vid) ∧ w.cell? ⟨b1, o1 + k, none⟩ = some (.int .i64 vr) ∧ w.cell? ⟨b2, o2 + k, none⟩ = some (.int .i64 vl) ∧ w.cell? ⟨b3, o3 + k, none⟩ = some (.slice ai m ci) ∧ w.cell? ⟨b4, o4 + k, none⟩ = some (.slice aj m cj)) := ⟨y0, y1, y2, y3, y4⟩
      clear y0 y1 y2 y3 y4
      have i1 : (k : Int) < (n : Int) := by omega
      by_cases hm0 : m = 0
      · have hx0 : xs = [] := List.length_eq_zero_iff.1 (by rw [HM.out.1]; exact hm0)
        obtain ⟨w', hup, hB'⟩ := HI.out.put HG.out.1 HG.out.2.1 HG.out.2.2.1 HG.out.2.2.2.1 HG.out.2.2.2.2 HF.out.1 (ro := none) (by intro k; rw [hx0]; rfl) (fun b h => by cases h) (fun h => HF.out.2.2.1 ⟨h.1, h.2.1, by rw [HM.out.1]; exact hm0⟩)
        have HB' : Hid (∃ B', BHI w w' ids rp ld fk fc (k + 1) B') := hB'
        clear hB' hx0
        subst hm0
        go_wp2_with fail
        go_still_tail 15, mixed
        go_wp2
        go_roundw
        case rel => exact ⟨k + 1, by omega, by go_num, HB'.out⟩
        case measure => simp [intOf]; omega
      · have hmp : (0 : Int) < (m : Int) := by omega
        have hmkM := fun (w : World) => run_makeMap_hint (P := Try.prog) (w := w) (T := 23) (K := 9) (E := 3) Try.underlying23 (m : Int)
        have HS1 : Hid (FolRaw (wr.alloc (.map #[] 0)) wr.heap.size (pk (xs.take 0) zs) ∧ BHI w (wr.alloc (.map #[] 0)) ids rp ld fk fc k B ∧ (∀ x, B x ≠ some wr.heap.size) ∧ w.heap.size < wr.heap.size) := by
          have B0 : Below wr.heap.size wr (wr.alloc (.map #[] 0)) := (Below.refl _ _).alloc (Nat.le_refl _) _
          refine ⟨FolRaw.made wr, ⟨HI.out.1.later B0, HI.out.2.trans (B0.mono HI.out.2.size)⟩, fun x hx => ?_, HI.out.1.lt⟩
          have := HI.out.1.2.1 x
          rw [hx] at this
          exact Nat.lt_irrefl _ this.1.lt
        go_wp2_with fail
        clear v0 v1 v2 v3 v4
        generalize wr.alloc (.map #[] 0) = wv at HS1 ⊢
        generalize wr.heap.size = gf at HS1 ⊢
        have HGF : Hid ((∀ x, B x ≠ some gf) ∧ w.heap.size < gf) := HS1.out.2.2
        have HM0 : Hid (¬ m = 0) := hm0
        have hdd : decide (0 < m) = true := decide_eq_true (by omega)
        rw [hdd]
        clear HI hmkM hmp hm0 hdd
        go_loopw [14] (fun i wx => ∃ j : Nat, j ≤ m ∧ i = .int .i64 j ∧ FolRaw wx gf (pk (xs.take j) zs) ∧ BHI w wx ids rp ld fk fc k B) (fun i _ => m - (intOf i).toNat)
        case atStart => exact ⟨0, Nat.zero_le _, rfl, HS1.out.1, HS1.out.2.1⟩
        case round =>
          clear HS1
          obtain ⟨j, hj, rfl, q1, q2⟩ := hrel
          have HI : Hid (FolRaw wr gf (pk (xs.take j) zs) ∧ BHI w wr ids rp ld fk fc k B) := ⟨q1, q2⟩
          clear q1 q2
          have v3 := cell_later HI.out.2.2 HY.out.2.2.2.1
          have v4 := cell_later HI.out.2.2 HY.out.2.2.2.2
          by_cases hjl : j < m
          · have hjx : j < xs.length := by rw [HM.out.1]; exact hjl
            have hjz : j < zs.length := by rw [HM.out.2]; exact hjl
            obtain ⟨bx, ox, ux, xx, yx, zx⟩ := HX.out.1.at hjx
            obtain ⟨bz, oz, uz, xz, yz, zz⟩ := HX.out.2.at hjz
            unfold EStr at zx
            unfold EInt at zz
            subst zx zz
            replace yx := cell_later HI.out.2.2 yx
            replace yz := cell_later HI.out.2.2 yz
            have HXJ : Hid (xs[j]? = some xs[j] ∧ zs[j]? = some zs[j]) := ⟨List.getElem?_eq_getElem hjx, List.getElem?_eq_getElem hjz⟩
            generalize xs[j] = key at yx HXJ
            generalize zs[j] = cv at yz HXJ
            subst xx xz
            have i2 : (j : Int) < (m : Int) := by omega
            have hfj := HF.out.2.2.2 j hjx
            have hr0 : FolRaw wr.drew gf (pk (xs.take j) zs) := HI.out.1
            obtain ⟨w1, p1, p2, p3, -, p5, -⟩ := hr0.put key cv
            have HI2 : Hid (FolRaw w1 gf (pk (xs.take (j + 1)) zs) ∧ BHI w w1 ids rp ld fk fc k B) := by
              have hk1 := hfj.1 key HXJ.out.1
              rw [pk_snoc HXJ.out.1 HXJ.out.2 hk1]
              refine ⟨p5 (hfj.2 cv HXJ.out.2), HeldC.grown (HI.out.2.1.later ((Below.refl _ _).drew)) p2 (Nat.ne_of_lt HGF.out.2) HGF.out.1, HI.out.2.2.drew.grown p2 HI.out.2.2.size (fun b hb => by cases hb; exact Nat.le_of_lt HGF.out.2)⟩
            clear hfj hr0 p2 p3 p5
            go_wp2_with fail
            go_still_tail 15, mixed
            go_wp2
            go_roundw
            case rel => exact ⟨j + 1, by omega, by go_num, HI2.out.1, HI2.out.2⟩
            case measure => simp [intOf]; omega
          · obtain rfl : m = j := by omega
            clear hjl hj
            have v0 := cell_later HI.out.2.2 HY.out.1
            have v1 := cell_later HI.out.2.2 HY.out.2.1
            have v2 := cell_later HI.out.2.2 HY.out.2.2.1
            have hfull : xs.take m = xs := List.take_of_length_le (by rw [HM.out.1]; exact Nat.le_refl _)
            obtain ⟨w', hup, hB'⟩ := HI.out.2.put HG.out.1 HG.out.2.1 HG.out.2.2.1 HG.out.2.2.2.1 HG.out.2.2.2.2 HF.out.1 (ro := some gf) (by
                have h1 := HI.out.1
                rw [hfull] at h1
                refine ⟨h1, ?_⟩
                have hm0 := HM0.out
                have hx0 : 0 < xs.length := by rw [HM.out.1]; omega
                have hz0 : 0 < zs.length := by rw [HM.out.2]; omega
                refine ⟨xs[0], ?_⟩
                have hne := (HF.out.2.2.2 0 hx0).2 zs[0] (List.getElem?_eq_getElem hz0)
                have hp : pk xs zs xs[0] = zs[0] := by
                  cases xs with
                  | nil => simp at hx0
                  | cons a xs =>
                    cases zs with
                    | nil => simp at hz0
                    | cons c zs => simp [pk]
                rw [hp]; exact hne) (fun b h => by cases h; exact ⟨fun e => by have := HGF.out.2; omega, Nat.le_of_lt HGF.out.2, HGF.out.1⟩) (fun h => by cases h.2.2)
            have HB' : Hid (∃ B', BHI w w' ids rp ld fk fc (k + 1) B') := hB'
            clear hB' hfull
            go_wp2_with fail
            go_still_tail 15, mixed
            go_wp2
            go_roundw
            case rel => exact ⟨k + 1, by omega, by go_num, HB'.out⟩
            case measure => simp [intOf]; omega
    · obtain rfl : n = k := by omega
      have HB' : Hid ((∃ B, HeldC wr w.heap.size w.heap.size (pk ids rp) (pk ids ld) (pkF ids fk fc) B none) ∧ Below w.heap.size w wr) := by
        have h1 := HI.out
        unfold BHI at h1
        rw [List.take_of_length_le (by rw [L.out.1]; exact Nat.le_refl _)] at h1
        exact ⟨⟨B, h1.1⟩, h1.2⟩
      go_wp2
      go_ret
      exact ⟨rfl, HB'.out⟩

end Go.Proofs.Qxb6603051a
