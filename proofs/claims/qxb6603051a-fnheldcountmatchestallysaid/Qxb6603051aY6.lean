/-
  Seat b6603051a: reading and writing the tally's rows.
-/
import Derived.Test.Qxb6603051aY4
namespace Go.Proofs.Qxb6603051a
open Go.RowKit
set_option linter.unusedVariables false
set_option linter.unusedSimpArgs false

theorem range_get' (n : Nat) (f : Nat → Value) {e : Nat} (h : e < n) : ((List.range n).map f)[e]? = some (f e) := by
  rw [List.getElem?_map, List.getElem?_range h]; rfl

theorem ne_of_out {c a : ByteArray} {l : List ByteArray} (hc : c ∉ l) (ha : a ∈ l) : c ≠ a := fun e => hc (by rw [e]; exact ha)

section
variable {w0 w : World} {gm : Nat} {U : List ByteArray} {s : TS}

theorem TM.below (h : TM w0 w gm U s) : Below w0.heap.size w0 w := by
  obtain ⟨_, ma, V, X, mp, FM, hR, _⟩ := h
  exact hR.2.2.2.2

theorem TM.namesLen (h : TM w0 w gm U s) : ∃ ao c, w.cell? ⟨gm, 0, none⟩ = some (.slice ao s.N.length c) := by
  obtain ⟨_, ma, V, X, mp, FM, hR, hx, hm⟩ := h
  obtain ⟨ao, c, ev, -, -⟩ := own_shape (hR.2.2.1.1 0)
  refine ⟨ao, c, ?_⟩
  have := (hR.head (x := 0) (by omega)).1
  rw [ev, hx.lens.1] at this
  exact this

theorem TM.name (h : TM w0 w gm U s) {e : Nat} {a : ByteArray} (he : s.N[e]? = some a) : ∃ g c, w.cell? ⟨gm, 0, none⟩ = some (.slice (some ⟨g, 0, none⟩) s.N.length c) ∧ w.cell? ⟨g, e, none⟩ = some (.string a) := by
  obtain ⟨_, ma, V, X, mp, FM, hR, hx, hm⟩ := h
  have hel : e < s.N.length := (List.getElem?_eq_some_iff.1 he).1
  obtain ⟨g, c, hv, -, -, h3, -⟩ := hR.2.2.1.shape (x := 0) (k := e) (by rw [hx.lens.1]; exact hel)
  rw [hx.lens.1] at hv
  refine ⟨g, c, ?_, ?_⟩
  · have := (hR.head (x := 0) (by omega)).1
    rw [hv] at this; exact this
  · rw [h3, hx.1, List.getElem?_map, he]; rfl

/-- One of the four rows of numbers. -/
theorem TM.num (h : TM w0 w gm U s) {e : Nat} {a : ByteArray} (he : s.N[e]? = some a) (x : Nat) (hx1 : 1 ≤ x) (hx4 : x ≤ 4) (f : ByteArray → Value)
    (hX : ∀ V X FM, TX s V X FM → X x = s.N.map f) (s' : Value → TS) (ok : Value → Prop)
    (hs : ∀ u, ok u → (∀ V X FM, TX s V X FM → TX (s' u) V (updN X x ((X x).set e u)) FM) ∧ TP U (s' u) ∧ (s' u).N = s.N ∧ (s' u).FK = s.FK) :
    ∃ g c, w.cell? ⟨gm, x + 1, none⟩ = some (.slice (some ⟨g, 0, none⟩) s.N.length c) ∧ w.cell? ⟨g, e, none⟩ = some (f a) ∧ w.frozen? ⟨g, e, none⟩ = false ∧ ∀ u, ok u → TM w0 (w.setCell ⟨g, e, none⟩ u) gm U (s' u) := by
  obtain ⟨_, ma, V, X, mp, FM, hR, hx, hm⟩ := h
  have hel : e < s.N.length := (List.getElem?_eq_some_iff.1 he).1
  have hl : (X x).length = s.N.length := by rw [hX V X FM hx, List.length_map]
  obtain ⟨g, c, hv, -, -, h3, h4⟩ := hR.2.2.1.shape (x := x) (k := e) (by rw [hl]; exact hel)
  rw [hl] at hv
  refine ⟨g, c, ?_, ?_, h4, fun u hu => ?_⟩
  · have := (hR.head (x := x) (by omega)).1
    rw [hv] at this
    have e1 : ci x = x + 1 := by unfold ci; rw [if_neg (by omega)]
    rw [e1] at this
    exact this
  · rw [h3, hX V X FM hx, List.getElem?_map, he]; rfl
  · obtain ⟨q1, q2, q3, q4⟩ := hs u hu
    refine ⟨q2, ma, V, _, mp, FM, hR.stored hv e u, q1 V X FM hx, ?_⟩
    obtain ⟨m1, m2, m3⟩ := hm
    exact ⟨by rw [q3]; exact m1, by rw [q3, q4]; exact m2, m3⟩

theorem TM.rowR (h : TM w0 w gm U s) {e : Nat} {a : ByteArray} (he : s.N[e]? = some a) :
    ∃ g c, w.cell? ⟨gm, 2, none⟩ = some (.slice (some ⟨g, 0, none⟩) s.N.length c) ∧ w.cell? ⟨g, e, none⟩ = some (.int .i64 (s.r0 a)) ∧ w.frozen? ⟨g, e, none⟩ = false ∧ ∀ z : Int, TM w0 (w.setCell ⟨g, e, none⟩ (.int .i64 z)) gm U { s with r0 := upd s.r0 a z } := by
  have ha : a ∈ s.N := List.mem_of_getElem? he
  have hp := h.1
  obtain ⟨g, c, h1, h2, h3, h4⟩ := h.num he 1 (by omega) (by omega) (fun a => intV (s.r0 a)) (fun V X FM hx => hx.2.1) (fun u => match u with | .int _ z => { s with r0 := upd s.r0 a z } | _ => s) (fun u => ∃ z, u = .int .i64 z) (by
    rintro u ⟨z, rfl⟩
    refine ⟨fun V X FM hx => ?_, ?_, rfl, rfl⟩
    · obtain ⟨x0, x1, x2, x3, x4, x5, x6, x7, x8, xl, xe, xt⟩ := hx
      refine ⟨by rw [updN_ne _ _ (by omega)]; exact x0, ?_, by rw [updN_ne _ _ (by omega)]; exact x2, by rw [updN_ne _ _ (by omega)]; exact x3, by rw [updN_ne _ _ (by omega)]; exact x4, by rw [updN_ne _ _ (by omega)]; exact x5, by rw [updN_ne _ _ (by omega)]; exact x6, by rw [updN_ne _ _ (by omega)]; exact x7, by rw [updN_ne _ _ (by omega)]; exact x8, xl, fun e' a' h' => by rw [updN_ne _ _ (by omega), updN_ne _ _ (by omega), updN_ne _ _ (by omega)]; exact xe e' a' h', fun x hx => by rw [updN_ne _ _ (by omega)]; exact xt x hx⟩
      rw [updN_same, x1]
      exact map_upd_set hp.1 he intV z
    · obtain ⟨p1, p2, p3, p4, p5, p6⟩ := hp
      exact ⟨p1, p2, fun c hc => ⟨(p3 c hc).1, (by show upd s.r0 a z c = 0; rw [upd_ne _ _ (ne_of_out (l := s.N) hc ha)]; exact (p3 c hc).2.1), (p3 c hc).2.2⟩, p4, p5, p6⟩)
  exact ⟨g, c, h1, h2, h3, fun z => h4 (.int .i64 z) ⟨z, rfl⟩⟩

theorem TM.rowL (h : TM w0 w gm U s) {e : Nat} {a : ByteArray} (he : s.N[e]? = some a) :
    ∃ g c, w.cell? ⟨gm, 3, none⟩ = some (.slice (some ⟨g, 0, none⟩) s.N.length c) ∧ w.cell? ⟨g, e, none⟩ = some (.int .i64 (s.l0 a)) ∧ w.frozen? ⟨g, e, none⟩ = false ∧ ∀ z : Int, TM w0 (w.setCell ⟨g, e, none⟩ (.int .i64 z)) gm U { s with l0 := upd s.l0 a z } := by
  have ha : a ∈ s.N := List.mem_of_getElem? he
  have hp := h.1
  obtain ⟨g, c, h1, h2, h3, h4⟩ := h.num he 2 (by omega) (by omega) (fun a => intV (s.l0 a)) (fun V X FM hx => hx.2.2.1) (fun u => match u with | .int _ z => { s with l0 := upd s.l0 a z } | _ => s) (fun u => ∃ z, u = .int .i64 z) (by
    rintro u ⟨z, rfl⟩
    refine ⟨fun V X FM hx => ?_, ?_, rfl, rfl⟩
    · obtain ⟨x0, x1, x2, x3, x4, x5, x6, x7, x8, xl, xe, xt⟩ := hx
      refine ⟨by rw [updN_ne _ _ (by omega)]; exact x0, by rw [updN_ne _ _ (by omega)]; exact x1, ?_, by rw [updN_ne _ _ (by omega)]; exact x3, by rw [updN_ne _ _ (by omega)]; exact x4, by rw [updN_ne _ _ (by omega)]; exact x5, by rw [updN_ne _ _ (by omega)]; exact x6, by rw [updN_ne _ _ (by omega)]; exact x7, by rw [updN_ne _ _ (by omega)]; exact x8, xl, fun e' a' h' => by rw [updN_ne _ _ (by omega), updN_ne _ _ (by omega), updN_ne _ _ (by omega)]; exact xe e' a' h', fun x hx => by rw [updN_ne _ _ (by omega)]; exact xt x hx⟩
      rw [updN_same, x2]
      exact map_upd_set hp.1 he intV z
    · obtain ⟨p1, p2, p3, p4, p5, p6⟩ := hp
      exact ⟨p1, p2, fun c hc => ⟨(p3 c hc).1, (p3 c hc).2.1, (by show upd s.l0 a z c = 0; rw [upd_ne _ _ (ne_of_out (l := s.N) hc ha)]; exact (p3 c hc).2.2.1), (p3 c hc).2.2.2⟩, p4, p5, p6⟩)
  exact ⟨g, c, h1, h2, h3, fun z => h4 (.int .i64 z) ⟨z, rfl⟩⟩

theorem wrap_succ (n : Nat) : wrap64 (wrap64 (n : Int) + 1) = wrap64 ((n + 1 : Nat) : Int) := by
  rw [wrap64_add_left]
  congr 1

theorem TM.rowNR (h : TM w0 w gm U s) {e : Nat} {a : ByteArray} (he : s.N[e]? = some a) :
    ∃ g c, w.cell? ⟨gm, 4, none⟩ = some (.slice (some ⟨g, 0, none⟩) s.N.length c) ∧ w.cell? ⟨g, e, none⟩ = some (.int .i64 (wrap64 (s.nr a))) ∧ w.frozen? ⟨g, e, none⟩ = false ∧ TM w0 (w.setCell ⟨g, e, none⟩ (.int .i64 (wrap64 (wrap64 (s.nr a) + 1)))) gm U { s with nr := bump s.nr a } := by
  have ha : a ∈ s.N := List.mem_of_getElem? he
  have hp := h.1
  obtain ⟨g, c, h1, h2, h3, h4⟩ := h.num he 3 (by omega) (by omega) (fun a => cntV (s.nr a)) (fun V X FM hx => hx.2.2.2.1) (fun u => { s with nr := bump s.nr a }) (fun u => u = .int .i64 (wrap64 (wrap64 (s.nr a) + 1))) (by
    rintro u rfl
    refine ⟨fun V X FM hx => ?_, ?_, rfl, rfl⟩
    · obtain ⟨x0, x1, x2, x3, x4, x5, x6, x7, x8, xl, xe, xt⟩ := hx
      refine ⟨by rw [updN_ne _ _ (by omega)]; exact x0, by rw [updN_ne _ _ (by omega)]; exact x1, by rw [updN_ne _ _ (by omega)]; exact x2, ?_, by rw [updN_ne _ _ (by omega)]; exact x4, by rw [updN_ne _ _ (by omega)]; exact x5, by rw [updN_ne _ _ (by omega)]; exact x6, by rw [updN_ne _ _ (by omega)]; exact x7, by rw [updN_ne _ _ (by omega)]; exact x8, xl, fun e' a' h' => by rw [updN_ne _ _ (by omega), updN_ne _ _ (by omega), updN_ne _ _ (by omega)]; exact xe e' a' h', fun x hx => by rw [updN_ne _ _ (by omega)]; exact xt x hx⟩
      rw [updN_same, x3, wrap_succ]
      exact map_upd_set hp.1 he cntV (s.nr a + 1)
    · obtain ⟨p1, p2, p3, p4, p5, p6⟩ := hp
      exact ⟨p1, p2, fun c hc => ⟨(p3 c hc).1, (p3 c hc).2.1, (p3 c hc).2.2.1, (by show bump s.nr a c = 0; unfold bump; rw [upd_ne _ _ (ne_of_out (l := s.N) hc ha)]; exact (p3 c hc).2.2.2.1), (p3 c hc).2.2.2.2⟩, p4, p5, p6⟩)
  exact ⟨g, c, h1, h2, h3, h4 _ rfl⟩

theorem TM.rowNL (h : TM w0 w gm U s) {e : Nat} {a : ByteArray} (he : s.N[e]? = some a) :
    ∃ g c, w.cell? ⟨gm, 5, none⟩ = some (.slice (some ⟨g, 0, none⟩) s.N.length c) ∧ w.cell? ⟨g, e, none⟩ = some (.int .i64 (wrap64 (s.nl a))) ∧ w.frozen? ⟨g, e, none⟩ = false ∧ TM w0 (w.setCell ⟨g, e, none⟩ (.int .i64 (wrap64 (wrap64 (s.nl a) + 1)))) gm U { s with nl := bump s.nl a } := by
  have ha : a ∈ s.N := List.mem_of_getElem? he
  have hp := h.1
  obtain ⟨g, c, h1, h2, h3, h4⟩ := h.num he 4 (by omega) (by omega) (fun a => cntV (s.nl a)) (fun V X FM hx => hx.2.2.2.2.1) (fun u => { s with nl := bump s.nl a }) (fun u => u = .int .i64 (wrap64 (wrap64 (s.nl a) + 1))) (by
    rintro u rfl
    refine ⟨fun V X FM hx => ?_, ?_, rfl, rfl⟩
    · obtain ⟨x0, x1, x2, x3, x4, x5, x6, x7, x8, xl, xe, xt⟩ := hx
      refine ⟨by rw [updN_ne _ _ (by omega)]; exact x0, by rw [updN_ne _ _ (by omega)]; exact x1, by rw [updN_ne _ _ (by omega)]; exact x2, by rw [updN_ne _ _ (by omega)]; exact x3, ?_, by rw [updN_ne _ _ (by omega)]; exact x5, by rw [updN_ne _ _ (by omega)]; exact x6, by rw [updN_ne _ _ (by omega)]; exact x7, by rw [updN_ne _ _ (by omega)]; exact x8, xl, fun e' a' h' => by rw [updN_ne _ _ (by omega), updN_ne _ _ (by omega), updN_ne _ _ (by omega)]; exact xe e' a' h', fun x hx => by rw [updN_ne _ _ (by omega)]; exact xt x hx⟩
      rw [updN_same, x4, wrap_succ]
      exact map_upd_set hp.1 he cntV (s.nl a + 1)
    · obtain ⟨p1, p2, p3, p4, p5, p6⟩ := hp
      exact ⟨p1, p2, fun c hc => ⟨(p3 c hc).1, (p3 c hc).2.1, (p3 c hc).2.2.1, (p3 c hc).2.2.2.1, (by show bump s.nl a c = 0; unfold bump; rw [upd_ne _ _ (ne_of_out (l := s.N) hc ha)]; exact (p3 c hc).2.2.2.2)⟩, p4, p5, p6⟩)
  exact ⟨g, c, h1, h2, h3, h4 _ rfl⟩

/-- The row of keys of an entry. -/
theorem TM.keys (h : TM w0 w gm U s) {e : Nat} {a : ByteArray} (he : s.N[e]? = some a) :
    ∃ g c ao ck, w.cell? ⟨gm, 6, none⟩ = some (.slice (some ⟨g, 0, none⟩) s.N.length c) ∧ w.cell? ⟨g, e, none⟩ = some (.slice ao (s.FK a).length ck) ∧ ∀ (j : Nat) key, (s.FK a)[j]? = some key → ∃ b, ao = some ⟨b, 0, none⟩ ∧ w.cell? ⟨b, j, none⟩ = some (.string key) := by
  obtain ⟨_, ma, V, X, mp, FM, hR, hx, hm⟩ := h
  have hel : e < s.N.length := (List.getElem?_eq_some_iff.1 he).1
  obtain ⟨l0, l1, l2, l3, l4, l5, l6, l7, l8⟩ := hx.lens
  obtain ⟨g, c, hv, -, -, h3, -⟩ := hR.2.2.1.shape (x := 5) (k := e) (by rw [l5]; exact hel)
  rw [l5] at hv
  obtain ⟨x9, -, -⟩ := hx.2.2.2.2.2.2.2.2.2.2.1 e a he
  obtain ⟨ao, ck, ev, -, -⟩ := own_shape (hR.2.2.1.1 (9 + 3 * e))
  have hlen : (X (9 + 3 * e)).length = (s.FK a).length := by rw [x9, List.length_map]
  rw [hlen] at ev
  refine ⟨g, c, ao, ck, ?_, ?_, fun j key hj => ?_⟩
  · have := (hR.head (x := 5) (by omega)).1
    rw [hv] at this; exact this
  · rw [h3, hx.2.2.2.2.2.1, range_get' _ _ hel, ev]
  · have hjl : j < (X (9 + 3 * e)).length := by rw [hlen]; exact (List.getElem?_eq_some_iff.1 hj).1
    obtain ⟨b, cb, hvb, -, -, hb3, -⟩ := hR.2.2.1.shape (x := 9 + 3 * e) (k := j) hjl
    rw [ev, hlen] at hvb
    cases hvb
    exact ⟨b, rfl, by rw [hb3, x9, List.getElem?_map, hj]; rfl⟩

/-- The two rows of numbers beside the keys. -/
theorem TM.inner (h : TM w0 w gm U s) {e j : Nat} {a key : ByteArray} (he : s.N[e]? = some a) (hj : (s.FK a)[j]? = some key) (x yb : Nat) (hx : (x = 6 ∧ yb = 10) ∨ (x = 7 ∧ yb = 11)) (f : ByteArray → Value)
    (hX : ∀ V X FM, TX s V X FM → X (yb + 3 * e) = (s.FK a).map f ∧ X x = (List.range s.N.length).map fun e => V (yb + 3 * e)) (s' : Value → TS) (ok : Value → Prop)
    (hs : ∀ u, ok u → (∀ V X FM, TX s V X FM → TX (s' u) V (updN X (yb + 3 * e) ((X (yb + 3 * e)).set j u)) FM) ∧ TP U (s' u) ∧ (s' u).N = s.N ∧ (s' u).FK = s.FK) :
    ∃ g c b cb, w.cell? ⟨gm, x + 1, none⟩ = some (.slice (some ⟨g, 0, none⟩) s.N.length c) ∧ w.cell? ⟨g, e, none⟩ = some (.slice (some ⟨b, 0, none⟩) (s.FK a).length cb) ∧ w.cell? ⟨b, j, none⟩ = some (f key) ∧ w.frozen? ⟨b, j, none⟩ = false ∧ ∀ u, ok u → TM w0 (w.setCell ⟨b, j, none⟩ u) gm U (s' u) := by
  obtain ⟨_, ma, V, X, mp, FM, hR, hx', hm⟩ := h
  have hel : e < s.N.length := (List.getElem?_eq_some_iff.1 he).1
  obtain ⟨hXy, hXx⟩ := hX V X FM hx'
  have hlx : (X x).length = s.N.length := by rw [hXx]; simp
  have hly : (X (yb + 3 * e)).length = (s.FK a).length := by rw [hXy, List.length_map]
  obtain ⟨g, c, hv, -, -, h3, -⟩ := hR.2.2.1.shape (x := x) (k := e) (by rw [hlx]; exact hel)
  rw [hlx] at hv
  obtain ⟨b, cb, hvb, -, -, hb3, hb4⟩ := hR.2.2.1.shape (x := yb + 3 * e) (k := j) (by rw [hly]; exact (List.getElem?_eq_some_iff.1 hj).1)
  rw [hly] at hvb
  refine ⟨g, c, b, cb, ?_, ?_, ?_, hb4, fun u hu => ?_⟩
  · have := (hR.head (x := x) (by omega)).1
    rw [hv] at this
    have e1 : ci x = x + 1 := by unfold ci; rw [if_neg (by omega)]
    rw [e1] at this
    exact this
  · rw [h3, hXx, range_get' _ _ hel, hvb]
  · rw [hb3, hXy, List.getElem?_map, hj]; rfl
  · obtain ⟨q1, q2, q3, q4⟩ := hs u hu
    refine ⟨q2, ma, V, _, mp, FM, hR.stored hvb j u, q1 V X FM hx', ?_⟩
    obtain ⟨m1, m2, m3⟩ := hm
    exact ⟨by rw [q3]; exact m1, by rw [q3, q4]; exact m2, m3⟩

theorem TM.rowF (h : TM w0 w gm U s) {e j : Nat} {a key : ByteArray} (he : s.N[e]? = some a) (hj : (s.FK a)[j]? = some key) :
    ∃ g c b cb, w.cell? ⟨gm, 7, none⟩ = some (.slice (some ⟨g, 0, none⟩) s.N.length c) ∧ w.cell? ⟨g, e, none⟩ = some (.slice (some ⟨b, 0, none⟩) (s.FK a).length cb) ∧ w.cell? ⟨b, j, none⟩ = some (.int .i64 (s.f0 a key)) ∧ w.frozen? ⟨b, j, none⟩ = false ∧ ∀ z : Int, TM w0 (w.setCell ⟨b, j, none⟩ (.int .i64 z)) gm U { s with f0 := upd s.f0 a (upd (s.f0 a) key z) } := by
  have hk : key ∈ s.FK a := List.mem_of_getElem? hj
  have hp := h.1
  obtain ⟨g, c, b, cb, h1, h2, h3, h4, h5⟩ := h.inner he hj 6 10 (.inl ⟨rfl, rfl⟩) (fun k => intV (s.f0 a k)) (fun V X FM hx => ⟨(hx.2.2.2.2.2.2.2.2.2.2.1 e a he).2.1, hx.2.2.2.2.2.2.1⟩) (fun u => match u with | .int _ z => { s with f0 := upd s.f0 a (upd (s.f0 a) key z) } | _ => s) (fun u => ∃ z, u = .int .i64 z) (by
    rintro u ⟨z, rfl⟩
    refine ⟨fun V X FM hx => ?_, ?_, rfl, rfl⟩
    · obtain ⟨x0, x1, x2, x3, x4, x5, x6, x7, x8, xl, xe, xt⟩ := hx
      have hel : e < s.N.length := (List.getElem?_eq_some_iff.1 he).1
      refine ⟨by rw [updN_ne _ _ (by omega)]; exact x0, by rw [updN_ne _ _ (by omega)]; exact x1, by rw [updN_ne _ _ (by omega)]; exact x2, by rw [updN_ne _ _ (by omega)]; exact x3, by rw [updN_ne _ _ (by omega)]; exact x4, by rw [updN_ne _ _ (by omega)]; exact x5, by rw [updN_ne _ _ (by omega)]; exact x6, by rw [updN_ne _ _ (by omega)]; exact x7, by rw [updN_ne _ _ (by omega)]; exact x8, xl, fun e' a' h' => ?_, fun x hx => by
        have hx' : 9 + 3 * s.N.length ≤ x := hx
        rw [updN_ne _ _ (by omega)]; exact xt x hx'⟩
      have h'' : s.N[e']? = some a' := h'
      obtain ⟨y1, y2, y3⟩ := xe e' a' h''
      rw [updN_ne _ _ (by omega), updN_ne (x := 11 + 3 * e') _ _ (by omega)]
      refine ⟨y1, ?_, y3⟩
      by_cases ee : e' = e
      · subst ee
        have : a' = a := by rw [he] at h''; simpa using h''.symm
        subst this
        rw [updN_same, y2]
        show _ = (s.FK a').map fun k => intV (upd s.f0 a' (upd (s.f0 a') key z) a' k)
        rw [upd_same]
        exact map_upd_set (hp.2.1 a') hj intV z
      · rw [updN_ne _ _ (by omega), y2]
        have hne : a' ≠ a := fun h => ee (by
          subst h
          have h1 := idx_nodup hp.1 h''
          have h2 := idx_nodup hp.1 he
          rw [h1] at h2
          simpa using h2)
        show _ = (s.FK a').map fun k => intV (upd s.f0 a (upd (s.f0 a) key z) a' k)
        rw [upd_ne _ _ hne]
    · obtain ⟨p1, p2, p3, p4, p5, p6⟩ := hp
      refine ⟨p1, p2, p3, fun c k hck => ⟨?_, (p4 c k hck).2⟩, p5, p6⟩
      show upd s.f0 a (upd (s.f0 a) key z) c k = 0
      by_cases ec : c = a
      · subst ec
        have hck' : k ∉ s.FK c := hck
        rw [upd_same, upd_ne _ _ (ne_of_out hck' hk)]
        exact (p4 c k hck).1
      · rw [upd_ne _ _ ec]; exact (p4 c k hck).1)
  exact ⟨g, c, b, cb, h1, h2, h3, h4, fun z => h5 (.int .i64 z) ⟨z, rfl⟩⟩

theorem TM.rowNF (h : TM w0 w gm U s) {e j : Nat} {a key : ByteArray} (he : s.N[e]? = some a) (hj : (s.FK a)[j]? = some key) :
    ∃ g c b cb, w.cell? ⟨gm, 8, none⟩ = some (.slice (some ⟨g, 0, none⟩) s.N.length c) ∧ w.cell? ⟨g, e, none⟩ = some (.slice (some ⟨b, 0, none⟩) (s.FK a).length cb) ∧ w.cell? ⟨b, j, none⟩ = some (.int .i64 (wrap64 (s.nf a key))) ∧ w.frozen? ⟨b, j, none⟩ = false ∧ TM w0 (w.setCell ⟨b, j, none⟩ (.int .i64 (wrap64 (wrap64 (s.nf a key) + 1)))) gm U { s with nf := upd s.nf a (bump (s.nf a) key) } := by
  have hk : key ∈ s.FK a := List.mem_of_getElem? hj
  have hp := h.1
  obtain ⟨g, c, b, cb, h1, h2, h3, h4, h5⟩ := h.inner he hj 7 11 (.inr ⟨rfl, rfl⟩) (fun k => cntV (s.nf a k)) (fun V X FM hx => ⟨(hx.2.2.2.2.2.2.2.2.2.2.1 e a he).2.2, hx.2.2.2.2.2.2.2.1⟩) (fun u => { s with nf := upd s.nf a (bump (s.nf a) key) }) (fun u => u = .int .i64 (wrap64 (wrap64 (s.nf a key) + 1))) (by
    rintro u rfl
    refine ⟨fun V X FM hx => ?_, ?_, rfl, rfl⟩
    · obtain ⟨x0, x1, x2, x3, x4, x5, x6, x7, x8, xl, xe, xt⟩ := hx
      have hel : e < s.N.length := (List.getElem?_eq_some_iff.1 he).1
      refine ⟨by rw [updN_ne _ _ (by omega)]; exact x0, by rw [updN_ne _ _ (by omega)]; exact x1, by rw [updN_ne _ _ (by omega)]; exact x2, by rw [updN_ne _ _ (by omega)]; exact x3, by rw [updN_ne _ _ (by omega)]; exact x4, by rw [updN_ne _ _ (by omega)]; exact x5, by rw [updN_ne _ _ (by omega)]; exact x6, by rw [updN_ne _ _ (by omega)]; exact x7, by rw [updN_ne _ _ (by omega)]; exact x8, xl, fun e' a' h' => ?_, fun x hx => by
        have hx' : 9 + 3 * s.N.length ≤ x := hx
        rw [updN_ne _ _ (by omega)]; exact xt x hx'⟩
      have h'' : s.N[e']? = some a' := h'
      obtain ⟨y1, y2, y3⟩ := xe e' a' h''
      rw [updN_ne _ _ (by omega), updN_ne (x := 10 + 3 * e') _ _ (by omega)]
      refine ⟨y1, y2, ?_⟩
      by_cases ee : e' = e
      · subst ee
        have : a' = a := by rw [he] at h''; simpa using h''.symm
        subst this
        rw [updN_same, y3, wrap_succ]
        show _ = (s.FK a').map fun k => cntV (upd s.nf a' (bump (s.nf a') key) a' k)
        rw [upd_same]
        exact map_upd_set (hp.2.1 a') hj cntV (s.nf a' key + 1)
      · rw [updN_ne _ _ (by omega), y3]
        have hne : a' ≠ a := fun h => ee (by
          subst h
          have h1 := idx_nodup hp.1 h''
          have h2 := idx_nodup hp.1 he
          rw [h1] at h2
          simpa using h2)
        show _ = (s.FK a').map fun k => cntV (upd s.nf a (bump (s.nf a) key) a' k)
        rw [upd_ne _ _ hne]
    · obtain ⟨p1, p2, p3, p4, p5, p6⟩ := hp
      refine ⟨p1, p2, p3, fun c k hck => ⟨(p4 c k hck).1, ?_⟩, p5, p6⟩
      show upd s.nf a (bump (s.nf a) key) c k = 0
      by_cases ec : c = a
      · subst ec
        have hck' : k ∉ s.FK c := hck
        rw [upd_same]
        unfold bump
        rw [upd_ne _ _ (ne_of_out hck' hk)]
        exact (p4 c k hck).2
      · rw [upd_ne _ _ ec]; exact (p4 c k hck).2)
  exact ⟨g, c, b, cb, h1, h2, h3, h4, h5 _ rfl⟩
end

end Go.Proofs.Qxb6603051a
