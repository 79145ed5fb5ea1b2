/-
  Seat b6603051a: cb1ModelFollower (48): the plain part.
-/
import Derived.Test.Qxb6603051aY3
import Derived.Deep.RegionLaw
namespace Go.Proofs.Qxb6603051a
open Go.RowKit
set_option linter.unusedVariables false
set_option linter.unusedSimpArgs false

section
variable {w0 w : World} {gm ma : Nat} {V : Nat → Value} {X : Nat → List Value} {MS : List (Nat × AMap)}

/-- 'm.f[e] = append(m.f[e], v)': row y, kept in row x at place e. -/
theorem RM.nest (h : RM w0 w gm ma V X MS) (x y e : Nat) (hx : x ≤ 8) (hy : 9 ≤ y) (k : Nat) (hk : ci x = k) (et : TypeId) (he : rty y = et) (hxy : (X x)[e]? = some (V y)) (v : Value) :
    ∃ bx cx nx ao n c Y, nx = (X x).length ∧ e < nx ∧ n = (X y).length ∧ Y = X y ∧ w.cell? ⟨gm, k, none⟩ = some (.slice (some ⟨bx, 0, none⟩) nx cx) ∧ w.cell? ⟨bx, e, none⟩ = some (.slice ao n c) ∧ w.frozen? ⟨bx, e, none⟩ = false ∧
      gm < w.heap.size ∧ bx < w.heap.size ∧ w0.heap.size ≤ w.heap.size ∧ w.ownsRow w0.heap.size et 1 (.slice ao n c) n Y ∧ (Value.slice ao n c).ownBlock ≠ some gm ∧ (Value.slice ao n c).ownBlock ≠ some bx ∧
      ∀ g cap w3, w3.ownsRow w0.heap.size et 1 (.slice (some ⟨g, 0, none⟩) (n + 1) cap) (n + 1) (Y ++ [v]) → ((w.alloc (.cells #[v] et)).drew).grownBy w3 (Value.slice ao n c).ownBlock → ((Value.slice ao n c).ownBlock = some g ∨ g = w.heap.size + 1) →
        ∃ V' X', (V' = updN V y (.slice (some ⟨g, 0, none⟩) (n + 1) cap) ∧ X' = updN (updN X y (X y ++ [v])) x ((X x).set e (.slice (some ⟨g, 0, none⟩) (n + 1) cap))) ∧ RM w0 (w3.setCell ⟨bx, e, none⟩ (.slice (some ⟨g, 0, none⟩) (n + 1) cap)) gm ma V' X' MS := by
  subst hk he
  have hrow := h.2.2.1.1 y
  obtain ⟨ao, c, ev, -, -⟩ := own_shape hrow
  have hel : e < (X x).length := (List.getElem?_eq_some_iff.1 hxy).1
  obtain ⟨bx, cx, hvx, hb1, hb2, hb3, hb4⟩ := h.2.2.1.shape hel
  have hne : x ≠ y := by omega
  refine ⟨bx, cx, _, ao, _, c, _, rfl, hel, rfl, rfl, by rw [← hvx]; exact (h.head hx).1, by rw [hb3, hxy, ev], hb4, lt_of_block h.1, hb2, h.2.2.2.2.size, by rw [← ev]; exact hrow, by rw [← ev]; exact h.row_ne y, ?_, fun g cap w3 hown hgrow hat => ?_⟩
  · rw [← ev]
    exact fun e' => hne (h.2.2.1.2 x y bx (by rw [hvx]; rfl) e')
  · rw [← ev] at hgrow hat
    have hG := h.grown (wA := (w.alloc (.cells #[v] (rty y))).drew) (fun k hk => Below.heap_alloc _ _ _ hk) ((h.2.2.2.2.alloc h.2.2.2.2.size _).drew) (by simp) hown hgrow hat
    have hR3 : RM w0 w3 gm ma (updN V y (.slice (some ⟨g, 0, none⟩) ((X y).length + 1) cap)) (updN X y (X y ++ [v])) MS := ⟨by rw [headOf_far V ma hy]; exact hG.1, h.2.1, hG.2.1, hG.2.2.1, hG.2.2.2⟩
    refine ⟨_, _, ⟨rfl, rfl⟩, ?_⟩
    have := hR3.stored (x := x) (g := bx) (n := (X x).length) (c := cx) (by rw [updN_ne _ _ hne]; exact hvx) e (.slice (some ⟨g, 0, none⟩) ((X y).length + 1) cap)
    rw [show updN X y (X y ++ [v]) x = X x from updN_ne _ _ hne] at this
    exact this
end

def TS.fol (s : TS) (a key : ByteArray) : TS := match idx (s.FK a) key with | some _ => s | none => { s with FK := upd s.FK a (s.FK a ++ [key]) }
theorem TS.fol_in {s : TS} {a key : ByteArray} {k : Nat} (h : idx (s.FK a) key = some k) : s.fol a key = s := by unfold TS.fol; rw [h]
theorem TS.fol_out {s : TS} {a key : ByteArray} (h : idx (s.FK a) key = none) : s.fol a key = { s with FK := upd s.FK a (s.FK a ++ [key]) } := by unfold TS.fol; rw [h]

theorem range_set (n : Nat) (f : Nat → Value) (e : Nat) (v : Value) (g : Nat → Value) (hg : ∀ j, g j = if j = e then v else f j) : ((List.range n).map f).set e v = (List.range n).map g := by
  apply List.ext_getElem?
  intro j
  rw [List.getElem?_set]
  simp only [List.length_map, List.length_range, List.getElem?_map]
  by_cases hj : j < n
  · rw [List.getElem?_range hj]
    by_cases ej : e = j
    · subst ej; simp [hj, hg]
    · have ej' : ¬ j = e := fun h => ej h.symm
      simp [ej, hg, ej']
  · rw [List.getElem?_eq_none (by simpa using hj)]
    by_cases ej : e = j
    · subst ej; simp [hj]
    · simp [ej]

theorem TM.follow {w0 w9 : World} {gm ma b : Nat} {U : List ByteArray} {s : TS} {a key : ByteArray} {e : Nat} {V X : _} {FM : List (Nat × AMap)} {mp fm : AMap} {v1 v2 v3 : Value} (hp : TP U s) (he : s.N[e]? = some a) (hk : key ∉ s.FK a) (hU : key ∈ U) (hx : TX s V X FM) (hm : TMaps s ma mp FM) (hfm : FM[e]? = some (b, fm))
    {X1 X2 X3 : Nat → List Value} (e1 : X1 = updN (updN X (9 + 3 * e) (X (9 + 3 * e) ++ [.string key])) 5 ((X 5).set e v1)) (e2 : X2 = updN (updN X1 (10 + 3 * e) (X1 (10 + 3 * e) ++ [.int .i64 0])) 6 ((X1 6).set e v2)) (e3 : X3 = updN (updN X2 (11 + 3 * e) (X2 (11 + 3 * e) ++ [.int .i64 0])) 7 ((X2 7).set e v3))
    (hR : RM w0 w9 gm ma (updN (updN (updN V (9 + 3 * e) v1) (10 + 3 * e) v2) (11 + 3 * e) v3) X3 ((ma, mp) :: FM.set e (b, aset fm key (.int .i64 ((s.FK a).length : Int))))) :
    TM w0 w9 gm U { s with FK := upd s.FK a (s.FK a ++ [key]) } := by
  obtain ⟨p1, p2, p3, p4, p5, p6⟩ := hp
  obtain ⟨x0, x1, x2, x3, x4, x5, x6, x7, x8, xl, xe, xt⟩ := hx
  obtain ⟨m1, m2, m3⟩ := hm
  have ha : a ∈ s.N := List.mem_of_getElem? he
  have hel : e < s.N.length := (List.getElem?_eq_some_iff.1 he).1
  obtain ⟨z1, z2⟩ := p4 a key hk
  have hX : ∀ x, X3 x = if x = 7 then (X 7).set e v3 else if x = 6 then (X 6).set e v2 else if x = 5 then (X 5).set e v1 else if x = 9 + 3 * e then X x ++ [.string key] else if x = 10 + 3 * e then X x ++ [.int .i64 0] else if x = 11 + 3 * e then X x ++ [.int .i64 0] else X x := by
    intro x
    have t7 : X2 7 = X 7 := by rw [e2, updN_ne _ _ (by omega), updN_ne _ _ (by omega), e1, updN_ne _ _ (by omega), updN_ne _ _ (by omega)]
    have t6 : X1 6 = X 6 := by rw [e1, updN_ne _ _ (by omega), updN_ne _ _ (by omega)]
    have t11 : X2 (11 + 3 * e) = X (11 + 3 * e) := by rw [e2, updN_ne _ _ (by omega), updN_ne _ _ (by omega), e1, updN_ne _ _ (by omega), updN_ne _ _ (by omega)]
    have t10 : X1 (10 + 3 * e) = X (10 + 3 * e) := by rw [e1, updN_ne _ _ (by omega), updN_ne _ _ (by omega)]
    rw [e3, t7, t11]
    by_cases h7 : x = 7
    · subst h7; rw [updN_same, if_pos rfl]
    rw [updN_ne _ _ h7, if_neg h7]
    by_cases h11 : x = 11 + 3 * e
    · subst h11
      rw [updN_same, if_neg (by omega), if_neg (by omega), if_neg (by omega), if_neg (by omega), if_pos rfl]
    rw [updN_ne _ _ h11, e2, t6, t10]
    by_cases h6 : x = 6
    · subst h6; rw [updN_same, if_pos rfl]
    rw [updN_ne _ _ h6, if_neg h6]
    by_cases h10 : x = 10 + 3 * e
    · subst h10
      rw [updN_same, if_neg (by omega), if_neg (by omega), if_pos rfl]
    rw [updN_ne _ _ h10, e1]
    by_cases h5 : x = 5
    · subst h5; rw [updN_same, if_pos rfl]
    rw [updN_ne _ _ h5, if_neg h5]
    by_cases h9 : x = 9 + 3 * e
    · subst h9
      rw [updN_same, if_pos rfl]
    rw [updN_ne _ _ h9, if_neg h9, if_neg h10, if_neg h11]
  have hV : ∀ x, updN (updN (updN V (9 + 3 * e) v1) (10 + 3 * e) v2) (11 + 3 * e) v3 x = if x = 11 + 3 * e then v3 else if x = 10 + 3 * e then v2 else if x = 9 + 3 * e then v1 else V x := fun x => rfl
  refine ⟨⟨p1, fun c => ?_, fun c hc => ?_, fun c k hck => ?_, p5, fun c k hck => ?_⟩, ma, _, _, _, _, hR, ?_, ?_⟩
  · dsimp only
    by_cases ec : c = a
    · subst ec
      rw [upd_same]
      refine List.nodup_append.2 ⟨p2 c, by simp, fun y hy z hz => ?_⟩
      simp only [List.mem_singleton] at hz
      subst hz
      exact fun e => hk (e ▸ hy)
    · rw [upd_ne _ _ ec]; exact p2 c
  · have hc' : c ∉ s.N := hc
    have hca : c ≠ a := fun e => hc' (e ▸ ha)
    dsimp only
    rw [upd_ne _ _ hca]; exact p3 c hc
  · dsimp only at hck
    by_cases ec : c = a
    · subst ec
      rw [upd_same] at hck
      exact p4 c k (fun h => hck (List.mem_append.2 (.inl h)))
    · rw [upd_ne _ _ ec] at hck; exact p4 c k hck
  · dsimp only at hck
    by_cases ec : c = a
    · subst ec
      rw [upd_same] at hck
      rcases List.mem_append.1 hck with h | h
      · exact p6 c k h
      · simp only [List.mem_singleton] at h
        rw [h]; exact hU
    · rw [upd_ne _ _ ec] at hck; exact p6 c k hck
  · have hno : ∀ x, x ≤ 4 ∨ x = 8 → X3 x = X x := fun x hx => by
      rw [hX, if_neg (by omega), if_neg (by omega), if_neg (by omega), if_neg (by omega), if_neg (by omega), if_neg (by omega)]
    refine ⟨by rw [hno 0 (by omega)]; exact x0, by rw [hno 1 (by omega)]; exact x1, by rw [hno 2 (by omega)]; exact x2, by rw [hno 3 (by omega)]; exact x3, by rw [hno 4 (by omega)]; exact x4, ?_, ?_, ?_, ?_, by rw [List.length_set]; exact xl, fun e' a' he' => ?_, fun x hx => ?_⟩
    · rw [hX, if_neg (by omega), if_neg (by omega), if_pos rfl, x5]
      refine range_set _ _ _ _ _ (fun j => ?_)
      rw [hV]
      by_cases ej : j = e
      · subst ej; rw [if_neg (by omega), if_neg (by omega), if_pos rfl, if_pos rfl]
      · rw [if_neg (by omega), if_neg (by omega), if_neg (by omega), if_neg ej]
    · rw [hX, if_neg (by omega), if_pos rfl, x6]
      refine range_set _ _ _ _ _ (fun j => ?_)
      rw [hV]
      by_cases ej : j = e
      · subst ej; rw [if_neg (by omega), if_pos rfl, if_pos rfl]
      · rw [if_neg (by omega), if_neg (by omega), if_neg (by omega), if_neg ej]
    · rw [hX, if_pos rfl, x7]
      refine range_set _ _ _ _ _ (fun j => ?_)
      rw [hV]
      by_cases ej : j = e
      · subst ej; rw [if_pos rfl, if_pos rfl]
      · rw [if_neg (by omega), if_neg (by omega), if_neg (by omega), if_neg ej]
    · rw [hno 8 (by omega), x8]
      apply List.ext_getElem?
      intro j
      simp only [List.getElem?_map, List.getElem?_set]
      by_cases ej : e = j
      · subst ej
        have hlF : e < FM.length := by omega
        have hg : FM[e] = (b, fm) := by
          have := hfm
          rw [List.getElem?_eq_getElem hlF] at this
          simpa using this
        simp [hlF, hg]
      · simp [ej]
    · by_cases ee : e' = e
      · subst ee
        have : a' = a := by rw [he] at he'; simpa using he'.symm
        subst this
        obtain ⟨q1, q2, q3⟩ := xe e' a' he
        have h9 : X3 (9 + 3 * e') = X (9 + 3 * e') ++ [.string key] := by rw [hX, if_neg (by omega), if_neg (by omega), if_neg (by omega), if_pos rfl]
        have h10 : X3 (10 + 3 * e') = X (10 + 3 * e') ++ [.int .i64 0] := by rw [hX, if_neg (by omega), if_neg (by omega), if_neg (by omega), if_neg (by omega), if_pos rfl]
        have h11 : X3 (11 + 3 * e') = X (11 + 3 * e') ++ [.int .i64 0] := by rw [hX, if_neg (by omega), if_neg (by omega), if_neg (by omega), if_neg (by omega), if_neg (by omega), if_pos rfl]
        rw [h9, h10, h11, q1, q2, q3]
        simp only [upd_same]
        simp [z1, z2, intV, cntV, wrap64]
      · have hne : a' ≠ a := fun h => ee (by
          subst h
          have h1 := idx_nodup p1 he'
          have h2 := idx_nodup p1 he
          rw [h1] at h2
          simpa using h2)
        have hl' : e' < s.N.length := (List.getElem?_eq_some_iff.1 he').1
        rw [hX, hX, hX]
        simp only [upd_ne _ _ hne]
        rw [if_neg (by omega), if_neg (by omega), if_neg (by omega), if_neg (by omega), if_neg (by omega), if_neg (by omega), if_neg (by omega), if_neg (by omega), if_neg (by omega), if_neg (by omega), if_neg (by omega), if_neg (by omega), if_neg (by omega), if_neg (by omega), if_neg (by omega), if_neg (by omega), if_neg (by omega), if_neg (by omega)]
        exact xe e' a' he'
    · have hx' : 9 + 3 * s.N.length ≤ x := hx
      rw [hV, hX, if_neg (by omega), if_neg (by omega), if_neg (by omega), if_neg (by omega), if_neg (by omega), if_neg (by omega), if_neg (by omega), if_neg (by omega), if_neg (by omega)]
      exact xt x hx'
  · refine ⟨m1, fun e' p a' hp' ha' => ?_, ?_⟩
    · rw [List.getElem?_set] at hp'
      by_cases ee : e = e'
      · subst ee
        have hlF : e < FM.length := by omega
        simp only [if_true, hlF] at hp'
        have hp2 : p = (b, aset fm key (.int .i64 ((s.FK a).length : Int))) := by simpa using hp'.symm
        have : a' = a := by
          have ha'' : s.N[e]? = some a' := ha'
          rw [he] at ha''
          simpa using ha''.symm
        subst this
        dsimp only
        rw [hp2, upd_same]
        exact (m2 e (b, fm) a' hfm he).snoc hk
      · simp only [ee, if_false] at hp'
        have hne : a' ≠ a := fun h => ee (by
          subst h
          have h1 := idx_nodup p1 ha'
          have h2 := idx_nodup p1 he
          rw [h1] at h2
          simpa using h2.symm)
        dsimp only
        rw [upd_ne _ _ hne]
        exact m2 e' p a' hp' ha'
    · have hfst : (((ma, mp) :: FM.set e (b, aset fm key (.int .i64 ((s.FK a).length : Int)))).map (·.1)) = ((ma, mp) :: FM).map (·.1) := by
        simp only [List.map_cons, List.map_set]
        congr 1
        apply List.ext_getElem?
        intro j
        rw [List.getElem?_set]
        by_cases ej : e = j
        · subst ej
          have hlF : e < FM.length := by omega
          have hg : FM[e] = (b, fm) := by
            have := hfm
            rw [List.getElem?_eq_getElem hlF] at this
            simpa using this
          simp [hlF, hg]
        · simp [ej]
      have h1 : (((ma, mp) :: FM).map (·.1)).Pairwise (· ≠ ·) := List.pairwise_map.2 m3
      rw [← hfst] at h1
      exact List.pairwise_map.1 h1

end Go.Proofs.Qxb6603051a
