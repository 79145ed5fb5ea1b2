/-
  Seat b6603051a: cb1ModelEntry (47).
-/
import Derived.Test.Qxb6603051aY1
import Derived.Deep.Cut
namespace Go.Proofs.Qxb6603051a
open Go.RowKit
set_option linter.unusedVariables false
set_option linter.unusedSimpArgs false

theorem Try.info23 : (Try.prog.info? 23).map (fun i => (i.zero, i.size, i.bytes)) = some (some (Value.map none), 1, 8) := by kernel_rfl

section
variable {w0 w : World} {gm ma : Nat} {V : Nat → Value} {X : Nat → List Value} {MS : List (Nat × AMap)}

/-- 'm.f = append(m.f, v)': all that the walk wants, by letters. -/
theorem RM.appL (h : RM w0 w gm ma V X MS) (x : Nat) (hx : x ≤ 8) (k : Nat) (hk : ci x = k) (e : TypeId) (he : rty x = e) (v : Value) :
    ∃ ao n c Y, n = (X x).length ∧ Y = X x ∧ w.cell? ⟨gm, k, none⟩ = some (.slice ao n c) ∧ (w.alloc (.cells #[v] e)).ownsRow w0.heap.size e 1 (.slice ao n c) n Y ∧ w0.heap.size ≤ (w.alloc (.cells #[v] e)).heap.size ∧
      ∀ g cap w3, w3.ownsRow w0.heap.size e 1 (.slice (some ⟨g, 0, none⟩) (n + 1) cap) (n + 1) (Y ++ [v]) → (w.alloc (.cells #[v] e)).grownBy w3 (Value.slice ao n c).ownBlock → ((Value.slice ao n c).ownBlock = some g ∨ g = w.heap.size + 1) →
        w3.cell? ⟨gm, k, none⟩ = some (.slice ao n c) ∧ w3.frozen? ⟨gm, k, none⟩ = false ∧
        ∃ V' X', (V' = updN V x (.slice (some ⟨g, 0, none⟩) (n + 1) cap) ∧ X' = updN X x (X x ++ [v])) ∧ RM w0 (w3.setCell ⟨gm, k, none⟩ (.slice (some ⟨g, 0, none⟩) (n + 1) cap)) gm ma V' X' MS := by
  subst hk he
  have hrow := h.2.2.1.1 x
  obtain ⟨ao, c, ev, -, -⟩ := own_shape hrow
  refine ⟨ao, _, c, _, rfl, rfl, by rw [← ev]; exact (h.head hx).1, by rw [← ev]; exact hrow.alloc _, by simp; have := h.2.2.2.2.size; omega, fun g cap w3 hown hgrow hat => ?_⟩
  rw [← ev] at hgrow hat
  have hG := h.grown (fun k hk => Below.heap_alloc _ _ _ hk) (h.2.2.2.2.alloc h.2.2.2.2.size _) (by simp) hown hgrow hat
  refine ⟨?_, free_of_block hG.1, _, _, ⟨rfl, rfl⟩, RM.headSet hx h.2.1 hG⟩
  rw [cell_of_block hG.1, headOf_get V ma hx, ev]

/-- A new map. -/
theorem RM.addMap (h : RM w0 w gm ma V X MS) : RM w0 (w.alloc (.map #[] 0)) gm ma V X (MS ++ [(w.heap.size, [])]) ∧ ∀ p ∈ MS, p.1 ≠ w.heap.size := by
  have B0 : Below w.heap.size w (w.alloc (.map #[] 0)) := (Below.refl _ _).alloc (Nat.le_refl _) _
  obtain ⟨h1, h2, h3, h4, h5⟩ := h.later B0
  refine ⟨⟨h1, h2, h3, fun b m hm => ?_, h5⟩, fun p hp e => ?_⟩
  · rcases List.mem_append.1 hm with hm | hm
    · exact h4 b m hm
    · simp only [List.mem_singleton, Prod.mk.injEq] at hm
      obtain ⟨rfl, rfl⟩ := hm
      exact ⟨MapIs.made w, h.2.2.2.2.size⟩
  · have := (h.2.2.2.1 p.1 p.2 hp).1.lt
    omega
end

def TS.ent (s : TS) (id : ByteArray) : TS := match idx s.N id with | some _ => s | none => { s with N := s.N ++ [id] }

theorem TS.ent_in {s : TS} {id : ByteArray} {k : Nat} (h : idx s.N id = some k) : s.ent id = s := by unfold TS.ent; rw [h]
theorem TS.ent_out {s : TS} {id : ByteArray} (h : idx s.N id = none) : s.ent id = { s with N := s.N ++ [id] } := by unfold TS.ent; rw [h]

/-- The head's nine rows, each with one more. -/
theorem TM.enter {w0 w9 : World} {gm ma gN : Nat} {U : List ByteArray} {s : TS} {id : ByteArray} {V X : _} {FM : List (Nat × AMap)} {mp : AMap} {v0 v1 v2 v3 v4 v5 v6 v7 v8 : Value} (hp : TP U s) (hid : id ∉ s.N) (hU : id ∈ U) (hx : TX s V X FM) (hm : TMaps s ma mp FM)
    (hne : ∀ p ∈ (ma, mp) :: FM, p.1 ≠ gN)
    (hR : RM w0 w9 gm ma (updN (updN (updN (updN (updN (updN (updN (updN (updN V 0 v0) 1 v1) 2 v2) 3 v3) 4 v4) 5 v5) 6 v6) 7 v7) 8 v8)
      (updN (updN (updN (updN (updN (updN (updN (updN (updN X 0 (X 0 ++ [.string id])) 1 (X 1 ++ [.int .i64 0])) 2 (X 2 ++ [.int .i64 0])) 3 (X 3 ++ [.int .i64 0])) 4 (X 4 ++ [.int .i64 0])) 5 (X 5 ++ [.slice none 0 0])) 6 (X 6 ++ [.slice none 0 0])) 7 (X 7 ++ [.slice none 0 0])) 8 (X 8 ++ [.map (some gN)]))
      ((ma, aset mp id (.int .i64 (s.N.length : Int))) :: (FM ++ [(gN, [])]))) :
    TM w0 w9 gm U { s with N := s.N ++ [id] } := by
  obtain ⟨p1, p2, p3, p4, p5, p6⟩ := hp
  obtain ⟨x0, x1, x2, x3, x4, x5, x6, x7, x8, xl, xe, xt⟩ := hx
  obtain ⟨m1, m2, m3⟩ := hm
  obtain ⟨z1, z2, z3, z4, z5⟩ := p3 id hid
  have hf : ∀ (x : Nat), 9 ≤ x → ∀ {β : Type} (f : Nat → β) (a0 a1 a2 a3 a4 a5 a6 a7 a8 : β), updN (updN (updN (updN (updN (updN (updN (updN (updN f 0 a0) 1 a1) 2 a2) 3 a3) 4 a4) 5 a5) 6 a6) 7 a7) 8 a8 x = f x := fun x hx β f a0 a1 a2 a3 a4 a5 a6 a7 a8 => by
    rw [updN_ne _ _ (by omega), updN_ne _ _ (by omega), updN_ne _ _ (by omega), updN_ne _ _ (by omega), updN_ne _ _ (by omega), updN_ne _ _ (by omega), updN_ne _ _ (by omega), updN_ne _ _ (by omega), updN_ne _ _ (by omega)]
  refine ⟨⟨?_, p2, fun a ha => p3 a (fun h => ha (List.mem_append.2 (.inl h))), p4, fun a ha => ?_, p6⟩, ma, _, _, _, _, hR, ?_, ?_⟩
  · refine List.nodup_append.2 ⟨p1, by simp, fun a ha b hb => ?_⟩
    simp only [List.mem_singleton] at hb
    subst hb
    exact fun e => hid (e ▸ ha)
  · rcases List.mem_append.1 ha with h | h
    · exact p5 a h
    · simp only [List.mem_singleton] at h
      rw [h]; exact hU
  · refine ⟨?_, ?_, ?_, ?_, ?_, ?_, ?_, ?_, ?_, by simp [xl], fun e a he => ?_, fun x hx => ?_⟩
    · simp [updN, x0]
    · simp [updN, x1, z2, intV]
    · simp [updN, x2, z3, intV]
    · simp [updN, x3, z4, cntV, wrap64]
    · simp [updN, x4, z5, cntV, wrap64]
    · have : (updN (updN (updN (updN (updN (updN (updN (updN (updN X 0 (X 0 ++ [Value.string id])) 1 (X 1 ++ [.int .i64 0])) 2 (X 2 ++ [.int .i64 0])) 3 (X 3 ++ [.int .i64 0])) 4 (X 4 ++ [.int .i64 0])) 5 (X 5 ++ [.slice none 0 0])) 6 (X 6 ++ [.slice none 0 0])) 7 (X 7 ++ [.slice none 0 0])) 8 (X 8 ++ [.map (some gN)])) 5 = X 5 ++ [.slice none 0 0] := by simp [updN]
      rw [this, x5]
      simp only [List.length_append, List.length_cons, List.length_nil, List.range_succ, List.map_append, List.map_cons, List.map_nil]
      rw [hf _ (by omega), (xt _ (Nat.le_refl _)).1]
      congr 1
      exact List.map_congr_left (fun e _ => (hf _ (by omega) V _ _ _ _ _ _ _ _ _).symm)
    · have : (updN (updN (updN (updN (updN (updN (updN (updN (updN X 0 (X 0 ++ [Value.string id])) 1 (X 1 ++ [.int .i64 0])) 2 (X 2 ++ [.int .i64 0])) 3 (X 3 ++ [.int .i64 0])) 4 (X 4 ++ [.int .i64 0])) 5 (X 5 ++ [.slice none 0 0])) 6 (X 6 ++ [.slice none 0 0])) 7 (X 7 ++ [.slice none 0 0])) 8 (X 8 ++ [.map (some gN)])) 6 = X 6 ++ [.slice none 0 0] := by simp [updN]
      rw [this, x6]
      simp only [List.length_append, List.length_cons, List.length_nil, List.range_succ, List.map_append, List.map_cons, List.map_nil]
      rw [hf _ (by omega), (xt _ (by omega)).1]
      congr 1
      exact List.map_congr_left (fun e _ => (hf _ (by omega) V _ _ _ _ _ _ _ _ _).symm)
    · have : (updN (updN (updN (updN (updN (updN (updN (updN (updN X 0 (X 0 ++ [Value.string id])) 1 (X 1 ++ [.int .i64 0])) 2 (X 2 ++ [.int .i64 0])) 3 (X 3 ++ [.int .i64 0])) 4 (X 4 ++ [.int .i64 0])) 5 (X 5 ++ [.slice none 0 0])) 6 (X 6 ++ [.slice none 0 0])) 7 (X 7 ++ [.slice none 0 0])) 8 (X 8 ++ [.map (some gN)])) 7 = X 7 ++ [.slice none 0 0] := by simp [updN]
      rw [this, x7]
      simp only [List.length_append, List.length_cons, List.length_nil, List.range_succ, List.map_append, List.map_cons, List.map_nil]
      rw [hf _ (by omega), (xt _ (by omega)).1]
      congr 1
      exact List.map_congr_left (fun e _ => (hf _ (by omega) V _ _ _ _ _ _ _ _ _).symm)
    · rw [updN_same, x8]
      simp
    · rw [hf _ (by omega), hf _ (by omega), hf _ (by omega)]
      simp only at he
      by_cases hel : e < s.N.length
      · rw [List.getElem?_append_left hel] at he
        exact xe e a he
      · have hen : e = s.N.length := by
          have := (List.getElem?_eq_some_iff.1 he).1
          simp at this
          omega
        subst hen
        rw [List.getElem?_append_right (Nat.le_refl _), Nat.sub_self] at he
        simp only [List.getElem?_cons_zero, Option.some.injEq] at he
        subst he
        rw [(xt _ (Nat.le_refl _)).2, (xt (10 + 3 * s.N.length) (by omega)).2, (xt (11 + 3 * s.N.length) (by omega)).2]
        simp only [z1]
        exact ⟨rfl, rfl, rfl⟩
    · simp only [List.length_append, List.length_cons, List.length_nil] at hx
      rw [hf _ (by omega), hf _ (by omega)]
      exact xt x (by omega)
  · refine ⟨m1.snoc hid, fun e p a he ha => ?_, ?_⟩
    · simp only at ha
      by_cases hel : e < s.N.length
      · rw [List.getElem?_append_left hel] at ha
        rw [List.getElem?_append_left (by omega)] at he
        exact m2 e p a he ha
      · have hen : e = s.N.length := by
          have := (List.getElem?_eq_some_iff.1 ha).1
          simp at this
          omega
        subst hen
        rw [List.getElem?_append_right (Nat.le_refl _), Nat.sub_self] at ha
        rw [← xl, List.getElem?_append_right (Nat.le_refl _), Nat.sub_self] at he
        simp only [List.getElem?_cons_zero, Option.some.injEq] at he ha
        subst he ha
        show NumbL [] (s.FK id)
        rw [z1]
        exact NumbL.nil
    · rw [List.pairwise_cons] at m3 ⊢
      refine ⟨fun q hq => ?_, List.pairwise_append.2 ⟨m3.2, by simp, fun a ha b hb => ?_⟩⟩
      · rcases List.mem_append.1 hq with h | h
        · exact m3.1 q h
        · simp only [List.mem_singleton] at h
          rw [h]; exact hne (ma, mp) (.head _)
      · simp only [List.mem_singleton] at hb
        rw [hb]; exact hne a (.tail _ ha)

end Go.Proofs.Qxb6603051a
