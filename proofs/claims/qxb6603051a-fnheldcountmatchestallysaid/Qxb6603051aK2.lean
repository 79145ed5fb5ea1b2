/-
  Seat b6603051a: the plain counts of the placements; what they make of a Held.
-/
import Derived.Test.Qxb6603051aK1
import Derived.Test.Qxb6603051aP1
namespace Go.Proofs.Qxb6603051a
open Go.RowKit
set_option linter.unusedVariables false
set_option linter.unusedSimpArgs false

/-- start + n * by, as Go reckons it. -/
def val (b : Int) (z : Int) (n : Nat) : Int := wrap64 (z + (n : Int) * b)

theorem wrap64_add_left (a b : Int) : wrap64 (wrap64 a + b) = wrap64 (a + b) := by unfold wrap64; omega
theorem wrap64_add_right (a b : Int) : wrap64 (a + wrap64 b) = wrap64 (a + b) := by unfold wrap64; omega

theorem val_succ (b z : Int) (n : Nat) : wrap64 (val b z n + b) = val b z (n + 1) := by
  unfold val
  rw [wrap64_add_left]
  congr 1
  have : ((n + 1 : Nat) : Int) * b = (n : Int) * b + b := by rw [show ((n + 1 : Nat) : Int) = (n : Int) + 1 by omega, Int.add_mul, Int.one_mul]
  omega

theorem val_zero (b : Int) {z : Int} (h : -9223372036854775808 ≤ z ∧ z ≤ 9223372036854775807) : val b z 0 = z := by
  unfold val wrap64; omega

theorem val_two (b z : Int) (n : Nat) : wrap64 (z + wrap64 ((n : Int) * b)) = val b z n := wrap64_add_right _ _

def bump (f : ByteArray → Nat) (id : ByteArray) : ByteArray → Nat := upd f id (f id + 1)

structure PS where
  nR : ByteArray → Nat
  nL : ByteArray → Nat
  nF : ByteArray → ByteArray → Nat

def PS.zero : PS := ⟨fun _ => 0, fun _ => 0, fun _ _ => 0⟩
def stA (S : PS) (l : List ByteArray) : PS := { S with nR := l.foldl bump S.nR }
def stL (S : PS) (ld : ByteArray) : PS := { S with nL := bump S.nL ld }
def stF1 (S : PS) (ld id : ByteArray) : PS := if id = ld then S else { S with nF := upd S.nF ld (bump (S.nF ld) id) }
def stF (S : PS) (ld : ByteArray) (l : List ByteArray) : PS := l.foldl (fun S id => stF1 S ld id) S
def stP (S : PS) (p : ByteArray × List ByteArray) : PS := if p.1.toList.isEmpty then stA S p.2 else stF (stL (stA S p.2) p.1) p.1 p.2
def stRun (S : PS) (ps : List (ByteArray × List ByteArray)) : PS := ps.foldl stP S

theorem stA_snoc (S : PS) {l : List ByteArray} {j : Nat} (h : j < l.length) : stA S (l.take (j + 1)) = { stA S (l.take j) with nR := bump (stA S (l.take j)).nR l[j] } := by
  unfold stA
  rw [List.take_succ_eq_append_getElem h, List.foldl_append]
  rfl

theorem stF_snoc (S : PS) (ld : ByteArray) {l : List ByteArray} {j : Nat} (h : j < l.length) : stF S ld (l.take (j + 1)) = stF1 (stF S ld (l.take j)) ld l[j] := by
  unfold stF
  rw [List.take_succ_eq_append_getElem h, List.foldl_append]
  rfl

theorem stF1_L (S : PS) (ld id : ByteArray) : stF1 (stL S ld) ld id = stL (stF1 S ld id) ld := by
  unfold stF1 stL
  split <;> rfl

theorem stF_L (ld : ByteArray) : ∀ (l : List ByteArray) (S : PS), stF (stL S ld) ld l = stL (stF S ld l) ld
  | [], S => rfl
  | x :: l, S => by
    show stF (stF1 (stL S ld) ld x) ld l = stL (stF (stF1 S ld x) ld l) ld
    rw [stF1_L, stF_L ld l]

theorem stRun_snoc (S : PS) {ps : List (ByteArray × List ByteArray)} {k : Nat} (h : k < ps.length) : stRun S (ps.take (k + 1)) = stP (stRun S (ps.take k)) ps[k] := by
  unfold stRun
  rw [List.take_succ_eq_append_getElem h, List.foldl_append]
  rfl

/-- A Held whose nodes have start values R0, L0, F0 and have been counted S times, by b each; the entry of ex may be stale. -/
def HeldS (w : World) (bh base : Nat) (b : Int) (R0 L0 : ByteArray → Int) (F0 : ByteArray → ByteArray → Int) (S : PS) (B : ByteArray → Option Nat) (ex : Option ByteArray) : Prop :=
  HeldC w bh base (fun id => val b (R0 id) (S.nR id)) (fun id => val b (L0 id) (S.nL id)) (fun id k => val b (F0 id k) (S.nF id k)) B ex

theorem val_upd (b : Int) (R0 : ByteArray → Int) (n : ByteArray → Nat) (id : ByteArray) : upd (fun x => val b (R0 x) (n x)) id (wrap64 (val b (R0 id) (n id) + b)) = fun x => val b (R0 x) (bump n id x) := by
  funext x
  unfold bump
  by_cases e : x = id
  · subst e; rw [upd_same, upd_same, val_succ]
  · rw [upd_ne _ _ e, upd_ne _ _ e]

theorem HeldS.bumpR {w : World} {bh base : Nat} {b : Int} {R0 L0 : ByteArray → Int} {F0 : ByteArray → ByteArray → Int} {S : PS} {B : ByteArray → Option Nat} {id : ByteArray}
    (h : HeldC w bh base (upd (fun id => val b (R0 id) (S.nR id)) id (wrap64 (val b (R0 id) (S.nR id) + b))) (upd (fun id => val b (L0 id) (S.nL id)) id (val b (L0 id) (S.nL id))) (fun id k => val b (F0 id k) (S.nF id k)) B none) :
    HeldS w bh base b R0 L0 F0 { S with nR := bump S.nR id } B none := by
  rw [val_upd, upd_self (fun id => val b (L0 id) (S.nL id)) id] at h
  exact h

theorem HeldS.bumpL {w : World} {bh base : Nat} {b : Int} {R0 L0 : ByteArray → Int} {F0 : ByteArray → ByteArray → Int} {S : PS} {B : ByteArray → Option Nat} {id : ByteArray}
    (h : HeldC w bh base (upd (fun id => val b (R0 id) (S.nR id)) id (val b (R0 id) (S.nR id))) (upd (fun id => val b (L0 id) (S.nL id)) id (wrap64 (val b (L0 id) (S.nL id) + b))) (fun id k => val b (F0 id k) (S.nF id k)) B none) :
    HeldS w bh base b R0 L0 F0 (stL S id) B none := by
  rw [val_upd, upd_self (fun id => val b (R0 id) (S.nR id)) id] at h
  exact h

theorem HeldS.bumpF {w : World} {bh base : Nat} {b : Int} {R0 L0 : ByteArray → Int} {F0 : ByteArray → ByteArray → Int} {S : PS} {B : ByteArray → Option Nat} {ld id : ByteArray} (hne : id ≠ ld)
    (h : HeldC w bh base (fun id => val b (R0 id) (S.nR id)) (fun id => val b (L0 id) (S.nL id)) (upd (fun id k => val b (F0 id k) (S.nF id k)) ld (upd (fun k => val b (F0 ld k) (S.nF ld k)) id (wrap64 (val b (F0 ld id) (S.nF ld id) + b)))) B (some ld)) :
    HeldS w bh base b R0 L0 F0 (stF1 S ld id) B (some ld) := by
  rw [val_upd] at h
  unfold HeldS stF1
  rw [if_neg hne]
  have e : upd (fun id k => val b (F0 id k) (S.nF id k)) ld (fun x => val b (F0 ld x) (bump (S.nF ld) id x)) = fun a k => val b (F0 a k) (upd S.nF ld (bump (S.nF ld) id) a k) := by
    funext a
    by_cases e : a = ld
    · subst e; rw [upd_same, upd_same]
    · rw [upd_ne _ _ e, upd_ne _ _ e]
  rw [e] at h
  exact h

theorem stF1_same (S : PS) (ld : ByteArray) : stF1 S ld ld = S := by simp [stF1]
theorem stF1_nR (S : PS) (ld id : ByteArray) : (stF1 S ld id).nR = S.nR := by unfold stF1; split <;> rfl
theorem stF1_nL (S : PS) (ld id : ByteArray) : (stF1 S ld id).nL = S.nL := by unfold stF1; split <;> rfl
theorem stF_nR (ld : ByteArray) : ∀ (l : List ByteArray) (S : PS), (stF S ld l).nR = S.nR
  | [], S => rfl
  | x :: l, S => by show (stF (stF1 S ld x) ld l).nR = S.nR; rw [stF_nR ld l, stF1_nR]
theorem stF_nL (ld : ByteArray) : ∀ (l : List ByteArray) (S : PS), (stF S ld l).nL = S.nL
  | [], S => rfl
  | x :: l, S => by show (stF (stF1 S ld x) ld l).nL = S.nL; rw [stF_nL ld l, stF1_nL]

theorem HeldC.setCell {w : World} {bh base : Nat} {R L : ByteArray → Int} {F : ByteArray → ByteArray → Int} {B : ByteArray → Option Nat} {ex : Option ByteArray} (h : HeldC w bh base R L F B ex) (a : Addr) (u : Value) : HeldC (w.setCell a u) bh base R L F B ex := by
  obtain ⟨⟨mp, h1, h2, h3⟩, h4, h5, h6, h7⟩ := h
  refine ⟨⟨mp, h1.setCell a u, h2, h3⟩, fun id => ?_, h5, h6, h7⟩
  have := h4 id
  cases hb : B id with
  | none => rw [hb] at this; exact this
  | some b =>
    rw [hb] at this
    obtain ⟨⟨fm, f1, f2, f3⟩, f4⟩ := this
    exact ⟨⟨fm, f1.setCell a u, f2, f3⟩, f4⟩

theorem MF.setCell {base : Nat} {w wx : World} (h : MF base w wx) {a : Addr} (hw : w.heap.size ≤ a.block) (hb : base ≤ a.block) (u : Value) : MF base w (wx.setCell a u) := by
  refine ⟨h.1.setCell hb u, fun g cs e f q => ?_⟩
  rw [Below.heap_setCell _ _ _ _ (by have := lt_of_block q; omega)]
  exact h.2 g cs e f q

theorem MF.alloc {base : Nat} {w wx : World} (h : MF base w wx) (hb : base ≤ wx.heap.size) (o : Obj) : MF base w (wx.alloc o) :=
  h.trans (MF.of_below ((Below.refl _ _).alloc (Nat.le_refl _) _) hb)

theorem cell_block {w : World} {a : Addr} {u : Value} (h : w.cell? a = some u) : ∃ cs e f, w.heap[a.block]? = some (.cells cs e f) := by
  unfold World.cell? at h
  split at h <;> simp_all

theorem MF.cell {base : Nat} {w w' : World} (h : MF base w w') {a : Addr} {u : Value} (hc : w.cell? a = some u) : w'.cell? a = some u := by
  obtain ⟨cs, e, f, hb⟩ := cell_block hc
  rw [World.cell?_of_block (w := w) (by rw [hb]; exact h.2 _ _ _ _ hb)]
  exact hc

theorem Strs.mf {base : Nat} {w w' : World} {v : Value} {xs : List ByteArray} (h : Strs w v xs) (hm : MF base w w') : Strs w' v xs := Slc.mono h (fun _ _ hc => hm.cell hc) (fun _ _ h => h)

end Go.Proofs.Qxb6603051a
