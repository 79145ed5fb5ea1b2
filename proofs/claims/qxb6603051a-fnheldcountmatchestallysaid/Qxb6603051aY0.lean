/-
  Seat b6603051a: the memory of the tally's model: a family of rows, no two in one block; its head; its maps.
  Rows by number: 0 names, 1 initRep, 2 initLead, 3 nRep, 4 nLead, 5 fKeys, 6 fInit, 7 fN, 8 fAt; 9 + 3e, 10 + 3e, 11 + 3e: fKeys[e], fInit[e], fN[e].
-/
import Derived.Test.Qxb6603051aK4
import Derived.Test.Qxb6603051aS0
import Derived.Deep.AppendLies
import Derived.Laws.OwnMore
namespace Go.Proofs.Qxb6603051a
open Go.RowKit
set_option linter.unusedVariables false
set_option linter.unusedSimpArgs false

def updN {β : Type} (f : Nat → β) (a : Nat) (v : β) : Nat → β := fun x => if x = a then v else f x
theorem updN_same {β : Type} (f : Nat → β) (a : Nat) (v : β) : updN f a v a = v := by simp [updN]
theorem updN_ne {β : Type} (f : Nat → β) {a x : Nat} (v : β) (h : x ≠ a) : updN f a v x = f x := by simp [updN, h]

/-- The element's type of row x. -/
def rty (x : Nat) : TypeId := if x = 0 then 9 else if x ≤ 4 then 3 else if x = 5 then 22 else if x ≤ 7 then 24 else if x = 8 then 23 else if x % 3 = 0 then 9 else 3

theorem rty_ne (x : Nat) : rty x ≠ 84 := by unfold rty; (repeat' split) <;> decide

theorem own_keep {w w' : World} {base : Nat} {e : TypeId} {size n : Nat} {v : Value} {xs : List Value} (h : w.ownsRow base e size v n xs) (hb : ∀ g, base ≤ g → g < w.heap.size → v.ownBlock = some g → w'.heap[g]? = w.heap[g]?) : w'.ownsRow base e size v n xs := by
  obtain ⟨h1, h2⟩ := h
  refine ⟨h1, ?_⟩
  rcases h2 with h2 | ⟨g, cap, cur, rfl, h4, h5, h6⟩
  · exact Or.inl h2
  · exact Or.inr ⟨g, cap, cur, rfl, h4, by rw [hb g h4 (lt_of_block h5) rfl]; exact h5, h6⟩

theorem own_map_ne {w : World} {base : Nat} {e : TypeId} {size n b g : Nat} {v : Value} {xs : List Value} {m : AMap} (h : w.ownsRow base e size v n xs) (hg : v.ownBlock = some g) (hm : MapIs w b m) : b ≠ g := by
  obtain ⟨h1, h2⟩ := h
  rcases h2 with ⟨rfl, _⟩ | ⟨g', cap, cur, rfl, h4, h5, h6⟩
  · simp [Value.ownBlock] at hg
  · simp only [Value.ownBlock, Option.some.injEq] at hg
    subst hg
    rintro rfl
    obtain ⟨es, clk, q, _⟩ := hm
    rw [q] at h5
    cases h5

def Mem (w : World) (base : Nat) (V : Nat → Value) (X : Nat → List Value) : Prop :=
  (∀ x, w.ownsRow base (rty x) 1 (V x) (X x).length (X x)) ∧ ∀ x y b, (V x).ownBlock = some b → (V y).ownBlock = some b → x = y

theorem Mem.nil (w : World) (base : Nat) : Mem w base (fun _ => .slice none 0 0) (fun _ => []) :=
  ⟨fun x => World.ownsRow_nil _ _ _ _, fun x y b h => by simp [Value.ownBlock] at h⟩

theorem Mem.keep {w w' : World} {base : Nat} {V : Nat → Value} {X : Nat → List Value} (h : Mem w base V X) (hb : ∀ x g, (V x).ownBlock = some g → base ≤ g → g < w.heap.size → w'.heap[g]? = w.heap[g]?) : Mem w' base V X :=
  ⟨fun x => own_keep (h.1 x) (fun g h1 h2 h3 => hb x g h3 h1 h2), h.2⟩

theorem Mem.push {w w1 w' : World} {base H : Nat} {V : Nat → Value} {X : Nat → List Value} {v' : Value} {p : Value} (h : Mem w base V X) (x : Nat)
    (hw1 : ∀ g, g < w.heap.size → w1.heap[g]? = w.heap[g]?) (hs1 : w.heap.size ≤ w1.heap.size) (hH : w1.heap.size = H)
    (hown : w'.ownsRow base (rty x) 1 v' ((X x).length + 1) (X x ++ [p])) (hg : w1.grownBy w' (V x).ownBlock) (hat : v'.ownBlock = (V x).ownBlock ∨ v'.ownBlock = some H) :
    Mem w' base (updN V x v') (updN X x (X x ++ [p])) := by
  have lt : ∀ y b, (V y).ownBlock = some b → b < w.heap.size := fun y b hb => ((h.1 y).lt b hb).2
  refine ⟨fun y => ?_, fun y z b hy hz => ?_⟩
  · by_cases e : y = x
    · subst e
      rw [updN_same, updN_same, List.length_append]
      exact hown
    · rw [updN_ne _ _ e, updN_ne _ _ e]
      refine own_keep (h.1 y) (fun b hb1 hb2 hb3 => ?_)
      rw [hg.block b (by omega) (fun e' => e (h.2 y x b hb3 e'.symm)), hw1 b hb2]
  · by_cases e : y = x
    · by_cases e' : z = x
      · rw [e, e']
      · subst e
        rw [updN_same] at hy
        rw [updN_ne _ _ e'] at hz
        rcases hat with h1 | h1
        · rw [h1] at hy; exact h.2 y z b hy hz
        · rw [h1] at hy
          have := lt z b hz
          simp only [Option.some.injEq] at hy
          omega
    · by_cases e' : z = x
      · subst e'
        rw [updN_ne _ _ e] at hy
        rw [updN_same] at hz
        rcases hat with h1 | h1
        · rw [h1] at hz; exact h.2 y z b hy hz
        · rw [h1] at hz
          have := lt y b hy
          simp only [Option.some.injEq] at hz
          omega
      · rw [updN_ne _ _ e] at hy
        rw [updN_ne _ _ e'] at hz
        exact h.2 y z b hy hz

theorem Mem.stored {w : World} {base g n c : Nat} {V : Nat → Value} {X : Nat → List Value} (h : Mem w base V X) {x : Nat} (hv : V x = .slice (some ⟨g, 0, none⟩) n c) (j : Nat) (u : Value) :
    Mem (w.setCell ⟨g, j, none⟩ u) base V (updN X x ((X x).set j u)) := by
  have hx := h.1 x
  have hn : n = (X x).length := by
    obtain ⟨ao, c', e, _⟩ := own_shape hx
    rw [hv] at e
    cases e
    rfl
  refine ⟨fun y => ?_, h.2⟩
  by_cases e : y = x
  · subst e
    rw [updN_same, List.length_set]
    rw [hv] at hx ⊢
    rw [← hn] at hx ⊢
    exact (hx.stored j u).1
  · rw [updN_ne _ _ e]
    exact ownsRow_setCell_other (h.1 y) (fun e' => e (h.2 y x g e' (by rw [hv]; rfl))) u

/-- A row with cells: its header. -/
theorem Mem.shape {w : World} {base : Nat} {V : Nat → Value} {X : Nat → List Value} (h : Mem w base V X) {x k : Nat} (hk : k < (X x).length) :
    ∃ g c, V x = .slice (some ⟨g, 0, none⟩) (X x).length c ∧ base ≤ g ∧ g < w.heap.size ∧ w.cell? ⟨g, k, none⟩ = (X x)[k]? ∧ w.frozen? ⟨g, k, none⟩ = false := by
  have hx := h.1 x
  rcases hx.2 with ⟨_, e⟩ | ⟨g, cap, cur, hv, h4, h5, h6, h7, h8, h9⟩
  · omega
  · rw [hv] at hx
    refine ⟨g, cap, hv, h4, lt_of_block h5, ?_, hx.frozenAt k⟩
    have := own_rd hx
    obtain ⟨b, off, e1, e2⟩ := this.at hk
    cases e1
    rw [Nat.zero_add] at e2
    rw [e2, List.getElem?_eq_getElem hk]

/-- The place of field x in the head. -/
def ci (x : Nat) : Nat := if x = 0 then 0 else x + 1

def headOf (V : Nat → Value) (ma : Nat) : List Value := [V 0, .map (some ma), V 1, V 2, V 3, V 4, V 5, V 6, V 7, V 8]

theorem headOf_get (V : Nat → Value) (ma : Nat) {x : Nat} (h : x ≤ 8) : (headOf V ma)[ci x]? = some (V x) := by
  unfold headOf ci
  rcases x with _ | _ | _ | _ | _ | _ | _ | _ | _ | x <;> first | rfl | omega

theorem headOf_set (V : Nat → Value) (ma : Nat) {x : Nat} (h : x ≤ 8) (v : Value) : (headOf V ma).set (ci x) v = headOf (updN V x v) ma := by
  unfold headOf ci updN
  rcases x with _ | _ | _ | _ | _ | _ | _ | _ | _ | x <;> first | rfl | omega

theorem headOf_far (V : Nat → Value) (ma : Nat) {x : Nat} (h : 9 ≤ x) (v : Value) : headOf (updN V x v) ma = headOf V ma := by
  unfold headOf updN
  have : ∀ k, k ≤ 8 → ¬ k = x := fun k hk => by omega
  simp [this]

/-- The whole memory of the model at gm, in world w, since world w0. -/
def RM (w0 w : World) (gm ma : Nat) (V : Nat → Value) (X : Nat → List Value) (MS : List (Nat × AMap)) : Prop :=
  w.heap[gm]? = some (.cells (headOf V ma).toArray 84 (0, 0)) ∧ w0.heap.size ≤ gm ∧ Mem w w0.heap.size V X ∧ (∀ b m, (b, m) ∈ MS → MapIs w b m ∧ w0.heap.size ≤ b) ∧ Below w0.heap.size w0 w

section
variable {w0 w : World} {gm ma : Nat} {V : Nat → Value} {X : Nat → List Value} {MS : List (Nat × AMap)}

theorem RM.later {w' : World} (h : RM w0 w gm ma V X MS) (hb : Below w.heap.size w w') : RM w0 w' gm ma V X MS := by
  obtain ⟨h1, h2, h3, h4, h5⟩ := h
  refine ⟨by rw [hb.block _ (lt_of_block h1)]; exact h1, h2, h3.keep (fun x g _ _ hlt => hb.block g hlt), fun b m hm => ⟨(h4 b m hm).1.below hb, (h4 b m hm).2⟩, h5.trans (hb.mono h5.size)⟩

theorem RM.head (h : RM w0 w gm ma V X MS) {x : Nat} (hx : x ≤ 8) : w.cell? ⟨gm, ci x, none⟩ = some (V x) ∧ w.frozen? ⟨gm, ci x, none⟩ = false := by
  rw [cell_of_block h.1, headOf_get V ma hx]
  exact ⟨rfl, free_of_block h.1⟩

theorem RM.at (h : RM w0 w gm ma V X MS) : w.cell? ⟨gm, 1, none⟩ = some (.map (some ma)) := by
  rw [cell_of_block h.1]; rfl

theorem RM.row_ne (h : RM w0 w gm ma V X MS) (x : Nat) : (V x).ownBlock ≠ some gm := fun e => (own_ne (h.2.2.1.1 x) h.1 (rty_ne x)) e.symm

/-- A row's cell is written. -/
theorem RM.stored (h : RM w0 w gm ma V X MS) {x g n c : Nat} (hv : V x = .slice (some ⟨g, 0, none⟩) n c) (j : Nat) (u : Value) : RM w0 (w.setCell ⟨g, j, none⟩ u) gm ma V (updN X x ((X x).set j u)) MS := by
  have hne : gm ≠ g := fun e => h.row_ne x (by rw [hv, e]; rfl)
  obtain ⟨h1, h2, h3, h4, h5⟩ := h
  have hbg : w0.heap.size ≤ g := ((h3.1 x).lt g (by rw [hv]; rfl)).1
  exact ⟨by rw [Below.heap_setCell _ _ _ _ hne]; exact h1, h2, h3.stored hv j u, fun b m hm => ⟨(h4 b m hm).1.setCell _ _, (h4 b m hm).2⟩, h5.setCell hbg u⟩

/-- A map is written. -/
theorem RM.mapped (h : RM w0 w gm ma V X MS) {w' : World} {b : Nat} {m m' : AMap} (hm : MapIs w b m) (hb : w0.heap.size ≤ b) (hg : w.grownBy w' (some b)) (hm' : MapIs w' b m') {MS' : List (Nat × AMap)} (hMS : ∀ b' q, (b', q) ∈ MS' → (b' = b ∧ q = m') ∨ (b' ≠ b ∧ (b', q) ∈ MS)) : RM w0 w' gm ma V X MS' := by
  obtain ⟨h1, h2, h3, h4, h5⟩ := h
  have hgm : gm ≠ b := fun e => by
    obtain ⟨es, clk, q, _⟩ := hm
    rw [e, q] at h1; cases h1
  refine ⟨by rw [hg.block gm (lt_of_block h1) (fun e => hgm (by cases e; rfl))]; exact h1, h2, h3.keep (fun x g hx _ hlt => hg.block g hlt (fun e => own_map_ne (h3.1 x) hx hm (by cases e; rfl))), fun b' q hq => ?_, h5.grown hg h5.size (fun k hk => by cases hk; exact hb)⟩
  rcases hMS b' q hq with ⟨rfl, rfl⟩ | ⟨hne, hin⟩
  · exact ⟨hm', hb⟩
  · exact ⟨(h4 b' q hin).1.of_block (hg.block b' (h4 b' q hin).1.lt (fun e => hne (by cases e; rfl))), (h4 b' q hin).2⟩

/-- What an append leaves, before its result is stored. -/
theorem RM.grown (h : RM w0 w gm ma V X MS) {x : Nat} {wA w3 : World} {p : Value} {g cap : Nat} (hA : ∀ k, k < w.heap.size → wA.heap[k]? = w.heap[k]?) (hBA : Below w0.heap.size w0 wA) (hsA : wA.heap.size = w.heap.size + 1)
    (hown : w3.ownsRow w0.heap.size (rty x) 1 (.slice (some ⟨g, 0, none⟩) ((X x).length + 1) cap) ((X x).length + 1) (X x ++ [p])) (hgrow : wA.grownBy w3 (V x).ownBlock) (hat : (V x).ownBlock = some g ∨ g = w.heap.size + 1) :
    w3.heap[gm]? = some (.cells (headOf V ma).toArray 84 (0, 0)) ∧ Mem w3 w0.heap.size (updN V x (.slice (some ⟨g, 0, none⟩) ((X x).length + 1) cap)) (updN X x (X x ++ [p])) ∧ (∀ b m, (b, m) ∈ MS → MapIs w3 b m ∧ w0.heap.size ≤ b) ∧ Below w0.heap.size w0 w3 := by
  have hne := h.row_ne x
  obtain ⟨h1, h2, h3, h4, h5⟩ := h
  have lgm := lt_of_block h1
  refine ⟨by rw [hgrow.block gm (by omega) (fun e => hne e.symm), hA gm lgm]; exact h1, h3.push x hA (by omega) hsA hown hgrow ?_, fun b m hm => ?_, hBA.grown hgrow (by rw [hsA]; have := h5.size; omega) (fun k hk => ((h3.1 x).lt k hk).1)⟩
  · rcases hat with e | e
    · left; rw [e]; rfl
    · right; rw [e]; rfl
  · obtain ⟨q1, q2⟩ := h4 b m hm
    refine ⟨(q1.of_block (w' := wA) (hA b q1.lt)).of_block (hgrow.block b (by have := q1.lt; omega) (fun e => own_map_ne (h3.1 x) e.symm q1 rfl)), q2⟩

/-- The append's result is stored into the head. -/
theorem RM.headSet {w3 : World} {x g n cap : Nat} {X' : Nat → List Value} (hx : x ≤ 8) (hg : w0.heap.size ≤ gm)
    (h : w3.heap[gm]? = some (.cells (headOf V ma).toArray 84 (0, 0)) ∧ Mem w3 w0.heap.size (updN V x (.slice (some ⟨g, 0, none⟩) n cap)) X' ∧ (∀ b m, (b, m) ∈ MS → MapIs w3 b m ∧ w0.heap.size ≤ b) ∧ Below w0.heap.size w0 w3) :
    RM w0 (w3.setCell ⟨gm, ci x, none⟩ (.slice (some ⟨g, 0, none⟩) n cap)) gm ma (updN V x (.slice (some ⟨g, 0, none⟩) n cap)) X' MS := by
  obtain ⟨h1, h2, h3, h4⟩ := h
  refine ⟨?_, hg, ⟨fun y => ownsRow_setCell_other (h2.1 y) (fun e => own_ne (h2.1 y) h1 (rty_ne y) e.symm) _, h2.2⟩, fun b m hm => ⟨(h3 b m hm).1.setCell _ _, (h3 b m hm).2⟩, h4.setCell hg _⟩
  rw [← headOf_set V ma hx]
  exact block_setCell h1 _

/-- 'm.f = append(m.f, v)', f the field of row x. -/
theorem RM.app (h : RM w0 w gm ma V X MS) (x : Nat) (hx : x ≤ 8) (T : TypeId) (hT : Try.prog.underlying T = some (.slice (rty x))) {z : Value} {bytes : Nat} (hinfo : (Try.prog.info? (rty x)).map (fun i => (i.zero, i.size, i.bytes)) = some (some z, 1, bytes)) (hz : z.cells.size = 1) (hby : bytes ≤ 24)
    (v : Value) (hv : v.oneCell' = true) (hlen : (X x).length ≤ 1048576) (ty' : TypeId) :
    ∃ ao c g cap w3, V x = .slice ao (X x).length c ∧ w.cell? ⟨gm, ci x, none⟩ = some (.slice ao (X x).length c) ∧
      (Builtin.append_ #[T, T] ty' #[.slice ao (X x).length c, .slice (some ⟨w.heap.size, 0, none⟩) 1 1]).run Try.prog (w.alloc (.cells #[v] (rty x))) = .ok (.slice (some ⟨g, 0, none⟩) ((X x).length + 1) cap) w3 ∧
      w3.cell? ⟨gm, ci x, none⟩ = some (.slice ao (X x).length c) ∧ w3.frozen? ⟨gm, ci x, none⟩ = false ∧
      RM w0 (w3.setCell ⟨gm, ci x, none⟩ (.slice (some ⟨g, 0, none⟩) ((X x).length + 1) cap)) gm ma (updN V x (.slice (some ⟨g, 0, none⟩) ((X x).length + 1) cap)) (updN X x (X x ++ [v])) MS := by
  have hrow := h.2.2.1.1 x
  obtain ⟨ao, c, ev, -, -⟩ := own_shape hrow
  obtain ⟨i0, hi0, hz0, hz1, hz2⟩ := info_parts hinfo
  have hrowA : (w.alloc (.cells #[v] (rty x))).ownsRow w0.heap.size (rty x) 1 (.slice ao (X x).length c) (X x).length (X x) := by rw [← ev]; exact hrow.alloc _
  obtain ⟨g, cap, w3, hr, hown, hgrow, hat, hlt⟩ := run_append_lies (P := Try.prog) (w.alloc (.cells #[v] (rty x))) T ty' w0.heap.size (rty x) i0 z 1 bytes hT hi0 hz0 hz1 hz2 hz (by omega) (.slice ao (X x).length c) (X x).length (X x) hrowA ⟨w.heap.size, 0, none⟩ 1 1 [v] rfl (World.news_of_block (cs := #[v]) (t := rty x) (fr := (0, 0)) (heap_alloc_new w _)) (by simpa using hv) (by omega) (by unfold maxLen; omega) (by
      have h1 : ((X x).length + 1) * bytes ≤ 1048577 * 24 := Nat.mul_le_mul (by omega) hby
      omega) (by simp; have := h.2.2.2.2.size; omega) (w.heap.size + 1) (by simp)
  rw [← ev] at hgrow hat
  have hG := h.grown (fun k hk => Below.heap_alloc _ _ _ hk) (h.2.2.2.2.alloc h.2.2.2.2.size _) (by simp) hown hgrow hat
  refine ⟨ao, c, g, cap, w3, ev, by rw [← ev]; exact (h.head hx).1, hr, ?_, free_of_block hG.1, RM.headSet hx h.2.1 hG⟩
  rw [cell_of_block hG.1, headOf_get V ma hx, ev]

end

end Go.Proofs.Qxb6603051a
