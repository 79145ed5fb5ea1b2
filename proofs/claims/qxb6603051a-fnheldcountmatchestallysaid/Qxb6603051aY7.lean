/-
  Seat b6603051a: cb1TallyHeld (35).
-/
import Derived.Test.Qxb6603051aY5
import Derived.Test.Qxb6603051aY6
import Derived.StillTailTactics
namespace Go.Proofs.Qxb6603051a
open Go.RowKit
set_option linter.unusedVariables false
set_option linter.unusedSimpArgs false

def St (s : TS) (r0 l0 : ByteArray → Int) (f0 : ByteArray → ByteArray → Int) (S : PS) : Prop := s.r0 = r0 ∧ s.l0 = l0 ∧ s.f0 = f0 ∧ s.nr = S.nR ∧ s.nl = S.nL ∧ s.nf = S.nF

theorem St.ent {s : TS} {r0 l0 : ByteArray → Int} {f0 : ByteArray → ByteArray → Int} {S : PS} (h : St s r0 l0 f0 S) (id : ByteArray) : St (s.ent id) r0 l0 f0 S := by
  unfold TS.ent
  cases idx s.N id with
  | some _ => exact h
  | none => exact h
theorem St.fol {s : TS} {r0 l0 : ByteArray → Int} {f0 : ByteArray → ByteArray → Int} {S : PS} (h : St s r0 l0 f0 S) (a key : ByteArray) : St (s.fol a key) r0 l0 f0 S := by
  unfold TS.fol
  cases idx (s.FK a) key with
  | some _ => exact h
  | none => exact h
theorem fol_N (s : TS) (a key : ByteArray) : (s.fol a key).N = s.N := by
  unfold TS.fol
  cases idx (s.FK a) key with
  | some _ => rfl
  | none => rfl

theorem upd_upd {β : Type} (f : ByteArray → β) (a : ByteArray) (u v : β) : upd (upd f a u) a v = upd f a v := by
  funext x; unfold upd; split <;> rfl

theorem TM.start (w : World) (U : List ByteArray) : TM w ((w.alloc (.map #[] 0)).alloc (.cells #[.slice none 0 0, .map (some w.heap.size), .slice none 0 0, .slice none 0 0, .slice none 0 0, .slice none 0 0, .slice none 0 0, .slice none 0 0, .slice none 0 0, .slice none 0 0] 84)) (w.heap.size + 1) U ⟨[], fun _ => [], fun _ => 0, fun _ => 0, fun _ => 0, fun _ => 0, fun _ _ => 0, fun _ _ => 0⟩ := by
  have B1 : Below w.heap.size w (w.alloc (.map #[] 0)) := (Below.refl _ _).alloc (Nat.le_refl _) _
  have hs : (w.alloc (.map #[] 0)).heap.size = w.heap.size + 1 := by simp
  refine ⟨⟨List.nodup_nil, fun _ => List.nodup_nil, fun _ _ => ⟨rfl, rfl, rfl, rfl, rfl⟩, fun _ _ _ => ⟨rfl, rfl⟩, (fun a h => by cases h), (fun a k h => by cases h)⟩, w.heap.size, fun _ => .slice none 0 0, fun _ => [], [], [], ⟨?_, by omega, Mem.nil _ _, fun b m hm => ?_, B1.alloc (by rw [hs]; omega) _⟩, ?_, ?_⟩
  · rw [← hs]; exact heap_alloc_new _ _
  · simp only [List.mem_singleton, Prod.mk.injEq] at hm
    obtain ⟨rfl, rfl⟩ := hm
    exact ⟨(MapIs.made w).below ((Below.refl _ _).alloc (Nat.le_refl _) _), Nat.le_refl _⟩
  · exact ⟨rfl, rfl, rfl, rfl, rfl, rfl, rfl, rfl, rfl, rfl, fun e a h => by simp at h, fun x _ => ⟨rfl, rfl⟩⟩
  · exact ⟨NumbL.nil, fun e p a h => by simp at h, by simp⟩

set_option maxRecDepth 100000 in
set_option maxHeartbeats 8000000 in
theorem tally_any (a0 a1 a2 a3 a4 a5 a6 : Option Addr) (n c0 c1 c2 c3 c4 p c5 c6 : Nat) (ids : List ByteArray) (rp ld : List Int) (fk : List (List ByteArray)) (fc : List (List Int)) (ls : List ByteArray) (RS : List (List ByteArray)) (U : List ByteArray) (w : World)
    (h0 : Strs w (.slice a0 n c0) ids) (h1 : Ints w (.slice a1 n c1) rp) (h2 : Ints w (.slice a2 n c2) ld) (h3 : Nest w (.slice a3 n c3) fk) (h4 : Slc (Slc EInt) w (.slice a4 n c4) fc) (h5 : Strs w (.slice a5 p c5) ls) (h6 : Nest w (.slice a6 p c6) RS)
    (hm : n ≤ 1048576) (hmk : ∀ x ∈ fk, x.length ≤ 1048576) (hpm : p ≤ 1048576) (hmr : ∀ x ∈ RS, x.length ≤ 1048576) (hfit : ∀ i, i < n → FitAt ids rp ld fk fc i)
    (hUl : U.length ≤ 1048576) (hU0 : ∀ x ∈ ids, x ∈ U) (hU3 : ∀ l ∈ fk, ∀ x ∈ l, x ∈ U) (hU5 : ∀ x ∈ ls, x ∈ U) (hU6 : ∀ l ∈ RS, ∀ x ∈ l, x ∈ U) :
    Calls Try.prog 35 #[.slice a0 n c0, .slice a1 n c1, .slice a2 n c2, .slice a3 n c3, .slice a4 n c4, .slice a5 p c5, .slice a6 p c6] w fun e w' => ∃ gm, e = .returned (.pointer (some ⟨gm, 0, none⟩)) ∧ ∃ s, TM w w' gm U s ∧ St s (pk ids rp) (pk ids ld) (pkF ids fk fc) (stRun PS.zero (ls.zip RS)) := by
  have H0 : Hid (Strs w (.slice a0 n c0) ids) := h0
  have H1 : Hid (Ints w (.slice a1 n c1) rp) := h1
  have H2 : Hid (Ints w (.slice a2 n c2) ld) := h2
  have H3 : Hid (Nest w (.slice a3 n c3) fk) := h3
  have H4 : Hid (Slc (Slc EInt) w (.slice a4 n c4) fc) := h4
  have H5 : Hid (Strs w (.slice a5 p c5) ls) := h5
  have H6 : Hid (Nest w (.slice a6 p c6) RS) := h6
  have HMK : Hid ((∀ x ∈ fk, x.length ≤ 1048576) ∧ (∀ i, i < n → FitAt ids rp ld fk fc i) ∧ (∀ x ∈ RS, x.length ≤ 1048576)) := ⟨hmk, hfit, hmr⟩
  have HU : Hid (U.length ≤ 1048576 ∧ (∀ x ∈ ids, x ∈ U) ∧ (∀ l ∈ fk, ∀ x ∈ l, x ∈ U) ∧ (∀ x ∈ ls, x ∈ U) ∧ (∀ l ∈ RS, ∀ x ∈ l, x ∈ U)) := ⟨hUl, hU0, hU3, hU5, hU6⟩
  have L : Hid (ids.length = n ∧ rp.length = n ∧ ld.length = n ∧ fk.length = n ∧ fc.length = n ∧ ls.length = p ∧ RS.length = p) := ⟨h0.len.1, h1.len.1, h2.len.1, h3.len.1, h4.len.1, h5.len.1, h6.len.1⟩
  clear h0 h1 h2 h3 h4 h5 h6 hmk hfit hmr hUl hU0 hU3 hU5 hU6
  have hmkM := run_makeMap_none w
  have HT0 : Hid (∃ s, TM w ((w.alloc (.map #[] 0)).alloc (.cells #[.slice none 0 0, .map (some w.heap.size), .slice none 0 0, .slice none 0 0, .slice none 0 0, .slice none 0 0, .slice none 0 0, .slice none 0 0, .slice none 0 0, .slice none 0 0] 84)) (w.heap.size + 1) U s ∧ St s (pk (ids.take 0) rp) (pk (ids.take 0) ld) (pkF (ids.take 0) fk fc) PS.zero) := ⟨_, TM.start w U, rfl, rfl, rfl, rfl, rfl, rfl⟩
  go_enter Try.func35, Try.ntmps35
  go_wp2_with fail
  generalize (w.alloc (.map #[] 0)).alloc (.cells #[.slice none 0 0, .map (some w.heap.size), .slice none 0 0, .slice none 0 0, .slice none 0 0, .slice none 0 0, .slice none 0 0, .slice none 0 0, .slice none 0 0, .slice none 0 0] 84) = wS at HT0 ⊢
  generalize w.heap.size + 1 = gm at HT0 ⊢
  clear hmkM
  go_loopw [16] (fun i wr => ∃ k : Nat, k ≤ n ∧ i = .int .i64 k ∧ ∃ s, TM w wr gm U s ∧ St s (pk (ids.take k) rp) (pk (ids.take k) ld) (pkF (ids.take k) fk fc) PS.zero) (fun i _ => n - (intOf i).toNat)
  case atStart => exact ⟨0, Nat.zero_le _, rfl, HT0.out⟩
  case round =>
    clear HT0
    obtain ⟨k, hk, rfl, s, hT, hS⟩ := hrel
    have HT : Hid (TM w wr gm U s ∧ St s (pk (ids.take k) rp) (pk (ids.take k) ld) (pkF (ids.take k) fk fc) PS.zero) := ⟨hT, hS⟩
    clear hT hS
    by_cases hlt : k < n
    · have hk0 : k < ids.length := by rw [L.out.1]; exact hlt
      have hk1 : k < rp.length := by rw [L.out.2.1]; exact hlt
      have hk2 : k < ld.length := by rw [L.out.2.2.1]; exact hlt
      have hk3 : k < fk.length := by rw [L.out.2.2.2.1]; exact hlt
      have hk4 : k < fc.length := by rw [L.out.2.2.2.2.1]; exact hlt
      obtain ⟨b0, o0, u0, x0, y0, z0⟩ := H0.out.at hk0
      obtain ⟨b1, o1, u1, x1, y1, z1⟩ := H1.out.at hk1
      obtain ⟨b2, o2, u2, x2, y2, z2⟩ := H2.out.at hk2
      obtain ⟨b3, o3, u3, x3, y3, z3⟩ := H3.out.at hk3
      obtain ⟨b4, o4, u4, x4, y4, z4⟩ := H4.out.at hk4
      unfold EStr at z0
      unfold EInt at z1 z2
      subst z0 z1 z2
      obtain ⟨ai, ci', rfl, -, -⟩ := Slc.shape z3
      obtain ⟨aj, cj, rfl, -, -⟩ := Slc.shape z4
      have hml : fk[k].length ≤ 1048576 := HMK.out.1 _ (List.getElem_mem hk3)
      have HFIT := HMK.out.2.1 k hlt
      have HG : Hid (ids[k]? = some ids[k] ∧ rp[k]? = some rp[k] ∧ ld[k]? = some ld[k] ∧ fk[k]? = some fk[k] ∧ fc[k]? = some fc[k] ∧ ids[k] ∈ U ∧ ∀ x ∈ fk[k], x ∈ U) := ⟨List.getElem?_eq_getElem hk0, List.getElem?_eq_getElem hk1, List.getElem?_eq_getElem hk2, List.getElem?_eq_getElem hk3, List.getElem?_eq_getElem hk4, HU.out.2.1 _ (List.getElem_mem hk0), HU.out.2.2.1 _ (List.getElem_mem hk3)⟩
      have HF : Hid (ids[k] ∉ ids.take k ∧ fk[k].length = fc[k].length ∧ ∀ j, j < fk[k].length → (∀ x, fk[k][j]? = some x → x ∉ fk[k].take j)) := by
        unfold FitAt at HFIT
        have f1 : fk.getD k [] = fk[k] := by simp [hk3]
        have f2 : fc.getD k [] = fc[k] := by simp [hk4]
        rw [f1, f2] at HFIT
        exact ⟨HFIT.1 _ HG.out.1, HFIT.2.1, fun j hj => (HFIT.2.2.2 j hj).1⟩
      clear HFIT
      generalize ids[k] = vid at y0 HG HF
      generalize rp[k] = vr at y1 HG HF
      generalize ld[k] = vl at y2 HG HF
      generalize fk[k] = xs at y3 z3 hml HG HF
      generalize fc[k] = zs at y4 z4 HG HF
      have HX : Hid (Strs w (.slice ai xs.length ci') xs ∧ Ints w (.slice aj zs.length cj) zs) := ⟨z3, z4⟩
      obtain ⟨m, hm'⟩ : ∃ m, m = xs.length := ⟨_, rfl⟩
      have hpz : zs.length = m := by rw [hm']; exact HF.out.2.1.symm
      have HM : Hid (xs.length = m ∧ zs.length = m) := ⟨hm'.symm, hpz⟩
      rw [← hm'] at y3 hml HX
      rw [hpz] at y4 HX
      clear z3 z4 hm' hpz
      subst x0 x1 x2 x3 x4
      have v0 := cell_later HT.out.1.below y0
      have HY : Hid (w.cell? ⟨b1, o1 + k, none⟩ = some (.int .i64 vr) ∧ w.cell? ⟨b2, o2 + k, none⟩ = some (.int .i64 vl) ∧ w.cell? ⟨b3, o3 + k, none⟩ = some (.slice ai m ci') ∧ w.cell? ⟨b4, o4 + k, none⟩ = some (.slice aj m cj)) := ⟨y1, y2, y3, y4⟩
      clear y0 y1 y2 y3 y4
      have i1 : (k : Int) < (n : Int) := by omega
      go_wp2_with fail
      refine (entry_any w wr gm U s vid HT.out.1 HG.out.2.2.2.2.2.1 HU.out.1).mono ?_
      rintro ex w1 ⟨e, rfl, he, hT1⟩
      have hS1 := HT.out.2.ent vid
      generalize s.ent vid = s1 at he hT1 hS1
      clear v0
      obtain ⟨g1, cg1, r1, r2, r3, r4⟩ := hT1.rowR he
      have hel : e < s1.N.length := (List.getElem?_eq_some_iff.1 he).1
      have v1 := cell_later hT1.below HY.out.1
      have HT2 : Hid (TM w (w1.setCell ⟨g1, e, none⟩ (.int .i64 vr)).drew gm U { s1 with r0 := upd s1.r0 vid vr } ∧ St { s1 with r0 := upd s1.r0 vid vr } (upd (pk (ids.take k) rp) vid vr) (pk (ids.take k) ld) (pkF (ids.take k) fk fc) PS.zero ∧ s1.N[e]? = some vid) := by
        refine ⟨(r4 vr).later ((Below.refl _ _).drew), ⟨?_, hS1.2.1, hS1.2.2.1, hS1.2.2.2⟩, he⟩
        show upd s1.r0 vid vr = _
        rw [hS1.1]
      clear r4 hT1 hS1 he
      generalize hnn : s1.N.length = nN at r1 hel
      have HNN : Hid (s1.N.length = nN) := hnn
      clear hnn
      have i2 : (e : Int) < (nN : Int) := by omega
      have r2d : w1.drew.cell? ⟨g1, e, none⟩ = some (.int .i64 (s1.r0 vid)) := r2
      have r3d : w1.drew.frozen? ⟨g1, e, none⟩ = false := r3
      generalize s1.r0 vid = zz at r2 r2d
      go_wp2_with fail
      go_still_tail 10, mixed
      go_wp2_with fail
      have hs2N : ({ s1 with r0 := upd s1.r0 vid vr } : TS).N = s1.N := rfl
      generalize ({ s1 with r0 := upd s1.r0 vid vr } : TS) = s2 at HT2 hs2N
      generalize (w1.setCell ⟨g1, e, none⟩ (.int .i64 vr)).drew = w2 at HT2 ⊢
      have he2 : s2.N[e]? = some vid := by rw [hs2N]; exact HT2.out.2.2
      clear r1 r2 r3 r2d r3d v1
      obtain ⟨g2, cg2, r1, r2, r3, r4⟩ := HT2.out.1.rowL he2
      have v2 := cell_later HT2.out.1.below HY.out.2.1
      have HT3 : Hid (TM w ((w2.setCell ⟨g2, e, none⟩ (.int .i64 vl)).drew) gm U { s2 with l0 := upd s2.l0 vid vl } ∧ St { s2 with l0 := upd s2.l0 vid vl } (upd (pk (ids.take k) rp) vid vr) (upd (pk (ids.take k) ld) vid vl) (upd (pkF (ids.take k) fk fc) vid (pk (xs.take 0) zs)) PS.zero ∧ s2.N[e]? = some vid) := by
        obtain ⟨-, q, -⟩ := HT2.out
        refine ⟨(r4 vl).later ((Below.refl _ _).drew), ⟨q.1, ?_, ?_, q.2.2.2⟩, he2⟩
        · show upd s2.l0 vid vl = _
          rw [q.2.1]
        · show s2.f0 = _
          rw [q.2.2.1]
          have : pk (xs.take 0) zs = pkF (ids.take k) fk fc vid := by
            rw [pkF_out HF.out.1]
            funext y
            rfl
          rw [this, upd_self]
      rw [hs2N, HNN.out] at r1
      clear r4 HT2 he2 HNN hs2N
      have r2d : w2.drew.cell? ⟨g2, e, none⟩ = some (.int .i64 (s2.l0 vid)) := r2
      have r3d : w2.drew.frozen? ⟨g2, e, none⟩ = false := r3
      generalize s2.l0 vid = zz2 at r2 r2d
      go_still_tail 10, mixed
      go_wp2_with fail
      have hs3N : ({ s2 with l0 := upd s2.l0 vid vl } : TS).N = s2.N := rfl
      generalize ({ s2 with l0 := upd s2.l0 vid vl } : TS) = s3 at HT3 hs3N
      generalize (w2.setCell ⟨g2, e, none⟩ (.int .i64 vl)).drew = w3 at HT3 ⊢
      have HT4 : Hid (∃ s, (TM w w3 gm U s ∧ St s (upd (pk (ids.take k) rp) vid vr) (upd (pk (ids.take k) ld) vid vl) (upd (pkF (ids.take k) fk fc) vid (pk (xs.take 0) zs)) PS.zero ∧ s.N[e]? = some vid)) := ⟨s3, HT3.out.1, HT3.out.2.1, by rw [hs3N]; exact HT3.out.2.2⟩
      clear r1 r2 r3 r2d r3d v2 hs3N HT3 HT
      go_loopw [18] (fun i wx => ∃ j : Nat, j ≤ m ∧ i = .int .i64 j ∧ ∃ s, (TM w wx gm U s ∧ St s (upd (pk (ids.take k) rp) vid vr) (upd (pk (ids.take k) ld) vid vl) (upd (pkF (ids.take k) fk fc) vid (pk (xs.take j) zs)) PS.zero ∧ s.N[e]? = some vid)) (fun i _ => m - (intOf i).toNat)
      case atStart => exact ⟨0, Nat.zero_le _, rfl, HT4.out⟩
      case round =>
        clear HT4
        obtain ⟨j, hj, rfl, t, q1, q2, q3⟩ := hrel
        have HT : Hid (TM w wr gm U t ∧ St t (upd (pk (ids.take k) rp) vid vr) (upd (pk (ids.take k) ld) vid vl) (upd (pkF (ids.take k) fk fc) vid (pk (xs.take j) zs)) PS.zero ∧ t.N[e]? = some vid) := ⟨q1, q2, q3⟩
        clear q1 q2 q3
        have v3 := cell_later HT.out.1.below HY.out.2.2.1
        by_cases hjl : j < m
        · have hjx : j < xs.length := by rw [HM.out.1]; exact hjl
          have hjz : j < zs.length := by rw [HM.out.2]; exact hjl
          obtain ⟨bx, ox, ux, xx, yx, zx⟩ := HX.out.1.at hjx
          obtain ⟨bz, oz, uz, xz, yz, zz'⟩ := HX.out.2.at hjz
          unfold EStr at zx
          unfold EInt at zz'
          subst zx zz'
          replace yx := cell_later HT.out.1.below yx
          have HXJ : Hid (xs[j]? = some xs[j] ∧ zs[j]? = some zs[j] ∧ xs[j] ∈ U) := ⟨List.getElem?_eq_getElem hjx, List.getElem?_eq_getElem hjz, HG.out.2.2.2.2.2.2 _ (List.getElem_mem hjx)⟩
          generalize xs[j] = key at yx HXJ
          generalize zs[j] = cv at yz HXJ
          have HYZ : Hid (w.cell? ⟨bz, oz + j, none⟩ = some (.int .i64 cv)) := yz
          clear yz
          subst xx xz
          have i3 : (j : Int) < (m : Int) := by omega
          go_wp2_with fail
          refine (fol_any w wr gm U t vid key e HT.out.1 HT.out.2.2 HXJ.out.2.2 HU.out.1).mono ?_
          rintro ex w4 ⟨f, rfl, hf, hT4⟩
          have hS4 := HT.out.2.1.fol vid key
          have hN4 : (t.fol vid key).N[e]? = some vid := by rw [fol_N]; exact HT.out.2.2
          generalize t.fol vid key = t1 at hf hT4 hS4 hN4
          clear v3 yx
          obtain ⟨g6, c6', b6, cb6, r1, r2, r3, r4, r5⟩ := hT4.rowF hN4 hf
          have hel1 : e < t1.N.length := (List.getElem?_eq_some_iff.1 hN4).1
          have hfl1 : f < (t1.FK vid).length := (List.getElem?_eq_some_iff.1 hf).1
          have v4 := cell_later hT4.below HY.out.2.2.2
          have vz := cell_later hT4.below HYZ.out
          have HT5 : Hid (∃ s, TM w (w4.setCell ⟨b6, f, none⟩ (.int .i64 cv)).drew gm U s ∧ St s (upd (pk (ids.take k) rp) vid vr) (upd (pk (ids.take k) ld) vid vl) (upd (pkF (ids.take k) fk fc) vid (pk (xs.take (j + 1)) zs)) PS.zero ∧ s.N[e]? = some vid) := by
            refine ⟨_, (r5 cv).later ((Below.refl _ _).drew), ⟨hS4.1, hS4.2.1, ?_, hS4.2.2.2⟩, hN4⟩
            show upd t1.f0 vid (upd (t1.f0 vid) key cv) = _
            rw [hS4.2.2.1, upd_upd, upd_same, pk_snoc HXJ.out.1 HXJ.out.2.1 (HF.out.2.2 j hjx key HXJ.out.1)]
          clear r5 hT4 hS4 hN4 hf
          generalize t1.N.length = nN1 at r1 hel1
          generalize (t1.FK vid).length = nK1 at r2 hfl1
          have i4 : (e : Int) < (nN1 : Int) := by omega
          have i5 : (f : Int) < (nK1 : Int) := by omega
          have r3d : w4.drew.cell? ⟨b6, f, none⟩ = some (.int .i64 (t1.f0 vid key)) := r3
          have r4d : w4.drew.frozen? ⟨b6, f, none⟩ = false := r4
          generalize t1.f0 vid key = zq at r3 r3d
          go_wp2_with fail
          go_still_tail 16, mixed
          go_wp2
          go_roundw
          case rel => exact ⟨j + 1, by omega, by go_num, HT5.out⟩
          case measure => simp [intOf]; omega
        · obtain rfl : m = j := by omega
          clear hjl hj
          have HT6 : Hid (∃ s, TM w wr gm U s ∧ St s (pk (ids.take (k + 1)) rp) (pk (ids.take (k + 1)) ld) (pkF (ids.take (k + 1)) fk fc) PS.zero) := by
            have hfull : xs.take m = xs := List.take_of_length_le (by rw [HM.out.1]; exact Nat.le_refl _)
            obtain ⟨q1, q2, -⟩ := HT.out
            rw [hfull] at q2
            rw [pk_snoc HG.out.1 HG.out.2.1 HF.out.1, pk_snoc HG.out.1 HG.out.2.2.1 HF.out.1, pkF_snoc HG.out.1 HG.out.2.2.2.1 HG.out.2.2.2.2.1 HF.out.1]
            exact ⟨t, q1, q2⟩
          go_wp2
          go_roundw
          case rel => exact ⟨k + 1, by omega, by go_num, HT6.out⟩
          case measure => simp [intOf]; omega
    · obtain rfl : n = k := by omega
      clear hlt hk
      have HT7 : Hid (∃ s, TM w wr gm U s ∧ St s (pk ids rp) (pk ids ld) (pkF ids fk fc) (stRun PS.zero ((ls.zip RS).take 0))) := by
        have hfull : ids.take n = ids := List.take_of_length_le (by rw [L.out.1]; exact Nat.le_refl _)
        have q := HT.out
        rw [hfull] at q
        exact ⟨s, q⟩
      clear HT H0 H1 H2 H3 H4
      generalize hwS : wr = wS2 at HT7 ⊢
      clear hwS
      go_wp2_with fail
      go_loopw [20] (fun i wr => ∃ k : Nat, k ≤ p ∧ i = .int .i64 k ∧ ∃ s, TM w wr gm U s ∧ St s (pk ids rp) (pk ids ld) (pkF ids fk fc) (stRun PS.zero ((ls.zip RS).take k))) (fun i _ => p - (intOf i).toNat)
      case atStart => exact ⟨0, Nat.zero_le _, rfl, HT7.out⟩
      case round =>
        clear HT7
        obtain ⟨k, hk, rfl, s, hT, hS⟩ := hrel
        have HT : Hid (TM w wr gm U s ∧ St s (pk ids rp) (pk ids ld) (pkF ids fk fc) (stRun PS.zero ((ls.zip RS).take k))) := ⟨hT, hS⟩
        clear hT hS
        by_cases hlt : k < p
        · have hk5 : k < ls.length := by rw [L.out.2.2.2.2.2.1]; exact hlt
          have hk6 : k < RS.length := by rw [L.out.2.2.2.2.2.2]; exact hlt
          obtain ⟨b5, o5, u5, x5, y5, z5⟩ := H5.out.at hk5
          obtain ⟨b6, o6, u6, x6, y6, z6⟩ := H6.out.at hk6
          unfold EStr at z5
          subst z5
          obtain ⟨ai, ci', rfl, -, -⟩ := Slc.shape z6
          have hml : RS[k].length ≤ 1048576 := HMK.out.2.2 _ (List.getElem_mem hk6)
          have HG : Hid (ls[k] ∈ U ∧ (∀ x ∈ RS[k], x ∈ U) ∧ stRun PS.zero ((ls.zip RS).take (k + 1)) = stP (stRun PS.zero ((ls.zip RS).take k)) (ls[k], RS[k])) := by
            refine ⟨HU.out.2.2.2.1 _ (List.getElem_mem hk5), HU.out.2.2.2.2 _ (List.getElem_mem hk6), ?_⟩
            have hkz : k < (ls.zip RS).length := by rw [List.length_zip]; omega
            rw [stRun_snoc PS.zero hkz, List.getElem_zip]
          generalize ls[k] = lv at y5 HG
          generalize RS[k] = xs at y6 z6 hml HG
          have HX : Hid (Strs w (.slice ai xs.length ci') xs) := z6
          obtain ⟨m, hm'⟩ : ∃ m, m = xs.length := ⟨_, rfl⟩
          have HM : Hid (xs.length = m) := hm'.symm
          rw [← hm'] at y6 hml HX
          clear z6 hm'
          subst x5 x6
          generalize stRun PS.zero ((ls.zip RS).take k) = S at HT HG
          have v6 := cell_later HT.out.1.below y6
          have HY : Hid (w.cell? ⟨b5, o5 + k, none⟩ = some (.string lv) ∧ w.cell? ⟨b6, o6 + k, none⟩ = some (.slice ai m ci')) := ⟨y5, y6⟩
          clear y5 y6
          have i1 : (k : Int) < (p : Int) := by omega
          have HT8 : Hid (∃ s, TM w wr gm U s ∧ St s (pk ids rp) (pk ids ld) (pkF ids fk fc) (stA S (xs.take 0))) := ⟨s, HT.out⟩
          go_wp2_with fail
          clear v6 HT
          generalize hwS : wr = wS3 at HT8 ⊢
          clear hwS
          go_loopw [115] (fun i wx => ∃ j : Nat, j ≤ m ∧ i = .int .i64 j ∧ ∃ s, TM w wx gm U s ∧ St s (pk ids rp) (pk ids ld) (pkF ids fk fc) (stA S (xs.take j))) (fun i _ => m - (intOf i).toNat)
          case atStart => exact ⟨0, Nat.zero_le _, rfl, HT8.out⟩
          case round =>
            clear HT8
            obtain ⟨j, hj, rfl, t, q1, q2⟩ := hrel
            have HT : Hid (TM w wr gm U t ∧ St t (pk ids rp) (pk ids ld) (pkF ids fk fc) (stA S (xs.take j))) := ⟨q1, q2⟩
            clear q1 q2
            by_cases hjl : j < m
            · have hjx : j < xs.length := by rw [HM.out]; exact hjl
              obtain ⟨bx, ox, ux, xx, yx, zx⟩ := HX.out.at hjx
              unfold EStr at zx
              subst zx
              replace yx := cell_later HT.out.1.below yx
              have HXJ : Hid (xs[j] ∈ U ∧ stA S (xs.take (j + 1)) = { stA S (xs.take j) with nR := bump (stA S (xs.take j)).nR xs[j] }) := ⟨HG.out.2.1 _ (List.getElem_mem hjx), stA_snoc S hjx⟩
              generalize xs[j] = id at yx HXJ
              subst xx
              have i3 : (j : Int) < (m : Int) := by omega
              go_wp2_with fail
              refine (entry_any w wr gm U t id HT.out.1 HXJ.out.1 HU.out.1).mono ?_
              rintro ex w4 ⟨e, rfl, he, hT4⟩
              have hS4 := HT.out.2.ent id
              generalize t.ent id = t1 at he hT4 hS4
              clear yx
              obtain ⟨g4, cg4, r1, r2, r3, r4⟩ := hT4.rowNR he
              have hel1 : e < t1.N.length := (List.getElem?_eq_some_iff.1 he).1
              generalize hzz : wrap64 (t1.nr id : Int) = zz at r2 r4
              have HT5 : Hid (∃ s, TM w (w4.setCell ⟨g4, e, none⟩ (.int .i64 (wrap64 (zz + 1)))) gm U s ∧ St s (pk ids rp) (pk ids ld) (pkF ids fk fc) (stA S (xs.take (j + 1)))) := by
                refine ⟨_, r4, ?_⟩
                rw [HXJ.out.2]
                refine ⟨hS4.1, hS4.2.1, hS4.2.2.1, ?_, hS4.2.2.2.2⟩
                show bump t1.nr id = bump _ id
                rw [hS4.2.2.2.1]
              clear r4 hT4 hS4 he hzz
              generalize t1.N.length = nN1 at r1 hel1
              have i4 : (e : Int) < (nN1 : Int) := by omega
              go_wp2
              go_roundw
              case rel => exact ⟨j + 1, by omega, by go_num, HT5.out⟩
              case measure => simp [intOf]; omega
            · obtain rfl : m = j := by omega
              clear hjl hj
              have hfull : xs.take m = xs := List.take_of_length_le (by rw [HM.out]; exact Nat.le_refl _)
              have HTA : Hid (TM w wr gm U t ∧ St t (pk ids rp) (pk ids ld) (pkF ids fk fc) (stA S xs)) := by
                have q := HT.out
                rw [hfull] at q
                exact q
              have HFULL : Hid (xs.take m = xs) := hfull
              clear hfull HT
              have v5 := cell_later HTA.out.1.below HY.out.1
              cases hem : lv.toList.isEmpty with
              | true =>
                have HF : Hid (∃ s, TM w wr gm U s ∧ St s (pk ids rp) (pk ids ld) (pkF ids fk fc) (stRun PS.zero ((ls.zip RS).take (k + 1)))) := by
                  refine ⟨t, HTA.out.1, ?_⟩
                  rw [HG.out.2.2]
                  unfold stP
                  simp only [hem, if_true]
                  exact HTA.out.2
                go_wp2
                go_roundw
                case rel => exact ⟨k + 1, by omega, by go_num, HF.out⟩
                case measure => simp [intOf]; omega
              | false =>
                have HEM : Hid (lv.toList.isEmpty = false) := hem
                go_wp2_with fail
                refine (entry_any w wr gm U t lv HTA.out.1 HG.out.1 HU.out.1).mono ?_
                rintro ex w4 ⟨e, rfl, he, hT4⟩
                have hS4 := HTA.out.2.ent lv
                generalize t.ent lv = t1 at he hT4 hS4
                clear v5 HTA
                obtain ⟨g4, cg4, r1, r2, r3, r4⟩ := hT4.rowNL he
                have hel1 : e < t1.N.length := (List.getElem?_eq_some_iff.1 he).1
                generalize hzz : wrap64 (t1.nl lv : Int) = zz at r2 r4
                have HT5 : Hid (∃ s, TM w (w4.setCell ⟨g4, e, none⟩ (.int .i64 (wrap64 (zz + 1)))) gm U s ∧ St s (pk ids rp) (pk ids ld) (pkF ids fk fc) (stF (stL (stA S xs) lv) lv (xs.take 0)) ∧ s.N[e]? = some lv) := by
                  refine ⟨_, r4, ⟨hS4.1, hS4.2.1, hS4.2.2.1, hS4.2.2.2.1, ?_, hS4.2.2.2.2.2⟩, he⟩
                  show bump t1.nl lv = bump _ lv
                  rw [hS4.2.2.2.2.1]
                have v6 : (w4.setCell ⟨g4, e, none⟩ (.int .i64 (wrap64 (zz + 1)))).cell? ⟨b6, o6 + k, none⟩ = some (.slice ai m ci') := by
                  obtain ⟨s', q, -⟩ := HT5.out
                  exact cell_later q.below HY.out.2
                clear r4 hT4 hS4 he hzz
                generalize t1.N.length = nN1 at r1 hel1
                have i4 : (e : Int) < (nN1 : Int) := by omega
                go_upto_region 25 with fail
                generalize w4.setCell ⟨g4, e, none⟩ (.int .i64 (wrap64 (zz + 1))) = w5 at HT5 v6 ⊢
                clear r1 r2 r3 hem
                go_wp2_with fail
                clear v6
                go_loopw [157] (fun i wx => ∃ j : Nat, j ≤ m ∧ i = .int .i64 j ∧ ∃ s, TM w wx gm U s ∧ St s (pk ids rp) (pk ids ld) (pkF ids fk fc) (stF (stL (stA S xs) lv) lv (xs.take j)) ∧ s.N[e]? = some lv) (fun i _ => m - (intOf i).toNat)
                case atStart => exact ⟨0, Nat.zero_le _, rfl, HT5.out⟩
                case round =>
                  clear HT5
                  obtain ⟨j, hj, rfl, t2, q1, q2, q3⟩ := hrel
                  have HT : Hid (TM w wr gm U t2 ∧ St t2 (pk ids rp) (pk ids ld) (pkF ids fk fc) (stF (stL (stA S xs) lv) lv (xs.take j)) ∧ t2.N[e]? = some lv) := ⟨q1, q2, q3⟩
                  clear q1 q2 q3
                  by_cases hjl : j < m
                  · have hjx : j < xs.length := by rw [HM.out]; exact hjl
                    obtain ⟨bx, ox, ux, xx, yx, zx⟩ := HX.out.at hjx
                    unfold EStr at zx
                    subst zx
                    replace yx := cell_later HT.out.1.below yx
                    have v5 := cell_later HT.out.1.below HY.out.1
                    have HXJ : Hid (xs[j] ∈ U ∧ stF (stL (stA S xs) lv) lv (xs.take (j + 1)) = stF1 (stF (stL (stA S xs) lv) lv (xs.take j)) lv xs[j]) := ⟨HG.out.2.1 _ (List.getElem_mem hjx), stF_snoc _ _ hjx⟩
                    generalize xs[j] = id at yx HXJ
                    subst xx
                    have i3 : (j : Int) < (m : Int) := by omega
                    by_cases hid : id = lv
                    · subst hid
                      have HT6 : Hid (∃ s, TM w wr gm U s ∧ St s (pk ids rp) (pk ids ld) (pkF ids fk fc) (stF (stL (stA S xs) id) id (xs.take (j + 1))) ∧ s.N[e]? = some id) := by
                        rw [HXJ.out.2, stF1_same]
                        exact ⟨t2, HT.out⟩
                      go_wp2
                      go_roundw
                      case rel => exact ⟨j + 1, by omega, by go_num, HT6.out⟩
                      case measure => simp [intOf]; omega
                    · have hb1 : (id.toList == lv.toList) = false := by
                        cases hh : (id.toList == lv.toList) with
                        | false => rfl
                        | true => exact absurd (bytes_inj (by simpa using hh)) hid
                      have hb2 : (id.toList != lv.toList) = true := by simp [bne, hb1]
                      have HID : Hid (id ≠ lv) := hid
                      go_wp2_with fail
                      refine (fol_any w wr gm U t2 lv id e HT.out.1 HT.out.2.2 HXJ.out.1 HU.out.1).mono ?_
                      rintro ex w6 ⟨f, rfl, hf, hT6⟩
                      have hS6 := HT.out.2.1.fol lv id
                      have hN6 : (t2.fol lv id).N[e]? = some lv := by rw [fol_N]; exact HT.out.2.2
                      generalize t2.fol lv id = t3 at hf hT6 hS6 hN6
                      clear yx v5 hid
                      obtain ⟨g8, c8', b8, cb8, r1, r2, r3, r4, r5⟩ := hT6.rowNF hN6 hf
                      have hel1 : e < t3.N.length := (List.getElem?_eq_some_iff.1 hN6).1
                      have hfl1 : f < (t3.FK lv).length := (List.getElem?_eq_some_iff.1 hf).1
                      generalize hzz2 : wrap64 (t3.nf lv id : Int) = zz2 at r3 r5
                      have HT7 : Hid (∃ s, TM w (w6.setCell ⟨b8, f, none⟩ (.int .i64 (wrap64 (zz2 + 1)))) gm U s ∧ St s (pk ids rp) (pk ids ld) (pkF ids fk fc) (stF (stL (stA S xs) lv) lv (xs.take (j + 1))) ∧ s.N[e]? = some lv) := by
                        refine ⟨_, r5, ?_, hN6⟩
                        rw [HXJ.out.2]
                        unfold stF1
                        rw [if_neg HID.out]
                        refine ⟨hS6.1, hS6.2.1, hS6.2.2.1, hS6.2.2.2.1, hS6.2.2.2.2.1, ?_⟩
                        show upd t3.nf lv (bump (t3.nf lv) id) = upd _ lv (bump _ id)
                        rw [hS6.2.2.2.2.2]
                      clear r5 hT6 hS6 hN6 hf hzz2 hb1 hb2
                      generalize t3.N.length = nN2 at r1 hel1
                      generalize (t3.FK lv).length = nK2 at r2 hfl1
                      have i5 : (e : Int) < (nN2 : Int) := by omega
                      have i6 : (f : Int) < (nK2 : Int) := by omega
                      go_wp2
                      go_roundw
                      case rel => exact ⟨j + 1, by omega, by go_num, HT7.out⟩
                      case measure => simp [intOf]; omega
                  · obtain rfl : m = j := by omega
                    have HF : Hid (∃ s, TM w wr gm U s ∧ St s (pk ids rp) (pk ids ld) (pkF ids fk fc) (stRun PS.zero ((ls.zip RS).take (k + 1)))) := by
                      refine ⟨t2, HT.out.1, ?_⟩
                      have q := HT.out.2.1
                      rw [HFULL.out] at q
                      rw [HG.out.2.2]
                      unfold stP
                      simp only [HEM.out, Bool.false_eq_true, if_false]
                      exact q
                    go_wp2
                    go_roundw
                    case rel => exact ⟨k + 1, by omega, by go_num, HF.out⟩
                    case measure => simp [intOf]; omega
        · obtain rfl : p = k := by omega
          have HF : Hid (∃ s, TM w wr gm U s ∧ St s (pk ids rp) (pk ids ld) (pkF ids fk fc) (stRun PS.zero (ls.zip RS))) := by
            have q := HT.out
            rw [List.take_of_length_le (by rw [List.length_zip]; have := L.out.2.2.2.2.2.1; omega)] at q
            exact ⟨s, q⟩
          go_wp2
          go_ret
          exact ⟨gm, rfl, HF.out⟩

end Go.Proofs.Qxb6603051a
