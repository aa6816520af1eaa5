import PyProof.Rows.All
import Wide.All
import OpenK.AllK
import Wide.FinOn
import PySem.Challenge.RW_wv0034_01
open PySem PySem.Spec PySem.Calls PySem.W PyProof.Rows
set_option Elab.async false
set_option maxRecDepth 100000
set_option linter.all false
set_option maxHeartbeats 4000000
namespace Mine
theorem said : PySem.Challenge.rw_wv0034_01.wellSaid = true := by decide +kernel
@[reducible] def AtOnce (P : Prop) : Prop := P
abbrev TheRow : OpenRow := PySem.Challenge.rw_wv0034_01.row
theorem PySem.W.holds_open {q : Program} {loose : List Str} {Xt : Shared → Bool} {XP : (Str → Option Value) → Heap → Prop} {α : Type} {Yf : Shared → α} {Ya : World → α} {YP : World → Heap → Prop} {d : DefRec} {kwd : List (Str × PySem.Expr)} {N : Nat}
    (a0 : AtOnce (LeftO TheRow.prog q loose Xt Yf Ya N)) (a1 : ∀ w s, Yf s = Ya w → YP w s.heap) (a2 : ∀ w h h', YP w h → (∀ b o, h.get? b = some o → h'.get? b = some o) → YP w h')
    (a3 : ∀ s, Xt s = true → XP (s.heap.nsMap mainGlobals) s.heap) (a4 : ∀ mg h h', XP mg h → (∀ b o, h.get? b = some o → h'.get? b = some o) → XP mg h')
    (a5 : defOf q TheRow.name = some (d, kwd)) (a6 : TheRow.prog.theDef TheRow.name = some (d.params, d.body, d.scope)) (a7 : kwWritten? d.params.kwonlyargs d.params.kw_defaults = some kwd) (a8 : ∀ s, Xt s = true → RecFacts TheRow.records s.heap) (a9 : (!TheRow.writes || TheRow.records.isEmpty) = true)
    (_ : True) (b2 : (chainsOk q && opensWell TheRow.prog && (frees TheRow.toRowW && TheRow.within.isEmpty)) = true) (b3 : TheRow.prog.bare) (b4 : TheRow.toRowW.promised)
    (b5 : WalkO q loose XP YP TheRow.toRowW d kwd fun f vs => PySem.call f vs) : TheRow.Holds :=
  _root_.PySem.W.holds_open a0 a1 a2 a3 a4 a5 a6 a7 a8 a9 (row_said said) b2 b3 b4 b5
set_option maxHeartbeats 8000000 in
open_top hd for PySem.Challenge.rw_wv0034_01.row
theorem top (h : PySem.Challenge.rw_wv0034_01.row.Holds) : PySem.Challenge.rw_wv0034_01.Holds := holds_law said fun _ => h
set_option compiler.extract_closed false
noncomputable def Hid (p : Prop) : Prop := p
noncomputable def Paused (p : Prop) : Prop := p
theorem paus {p : Prop} (h : Paused p) : p := h
section
theorem byC {p : Prop} (h : ¬p → False) : p := Classical.byContradiction h
theorem tnB {a b : Int} (h : 0 ≤ a) : b.toNat - a.toNat = (b - a).toNat := by
  obtain ⟨n, rfl⟩ := Int.eq_ofNat_of_zero_le h
  exact (Int.toNat_sub' b n).symm
theorem tnA {a b : Int} (h : 0 ≤ a) (h2 : a ≤ b) : b.toNat = a.toNat + (b - a).toNat := by
  rw [← Int.toNat_add h (Int.sub_nonneg_of_le h2)]
  congr 1
  rw [Int.add_comm, Int.sub_add_cancel]
theorem mlin {a p q n c b : Nat} (h : a + p + c * (n + 1) < b) (hq : q ≤ p + c) : a + q + c * n < b := by
  rw [Nat.mul_succ, Nat.add_comm (c * n) c, Nat.add_assoc a p, ← Nat.add_assoc p c, ← Nat.add_assoc a] at h
  exact Nat.lt_of_le_of_lt (Nat.add_le_add_right (Nat.add_le_add_left hq a) _) h
theorem mlin2 {a p q n c b : Nat} (h : a + c * (n + 1) + p < b) (hq : q ≤ c) : a + q + c * n + p < b := by
  rw [Nat.mul_succ, Nat.add_comm (c * n) c, ← Nat.add_assoc a] at h
  exact Nat.lt_of_le_of_lt (Nat.add_le_add_right (Nat.add_le_add_right (Nat.add_le_add_left hq a) _) p) h
theorem om1 {a0 : Nat} : a0 + (1 : Nat) ≠ a0 := by first | decide | lia | omega
theorem om2 {a0 : Nat} (h0 : ¬(↑(63 : Nat) : Int) < (↑a0 : Int)) : a0 ≤ (63 : Nat) := Nat.le_of_not_lt fun h => h0 (Int.ofNat_lt.mpr h)
theorem om3 {a0 : Int} (h0 : (0 : Int) ≤ a0) (h1 : a0 ≤ (9 : Int)) : a0 = (0 : Int) ∨ a0 = (1 : Int) ∨ a0 = (2 : Int) ∨ a0 = (3 : Int) ∨ a0 = (4 : Int) ∨ a0 = (5 : Int) ∨ a0 = (6 : Int) ∨ a0 = (7 : Int) ∨ a0 = (8 : Int) ∨ a0 = (9 : Int) := by obtain ⟨n, rfl⟩ := Int.eq_ofNat_of_zero_le h0; have h : n ≤ 9 := Int.ofNat_le.mp h1; clear h0 h1; revert n; decide
theorem om4 {a0 : Int} (h0 : a0 < (0 : Int)) : a0 ≤ (-1 : Int) := by first | decide | lia | omega
theorem om5 {a0 : Nat} (h0 : (↑a0 : Int) = (3 : Int) ∨ (↑a0 : Int) = (5 : Int)) : a0 ≤ (5 : Nat) := h0.elim (fun e => by rw [Int.ofNat.inj e]; decide) (fun e => by rw [Int.ofNat.inj e]; decide)
theorem om6 {a0 a1 : Nat} (h0 : (5 : Nat) ≤ a0) (h1 : a1 = a0) : (5 : Nat) ≤ a1 := by subst h1; exact h0
theorem om7 {a0 a1 : Nat} (h0 : a0 ≤ (9 : Nat)) (h1 : a1 = a0) : a1 ≤ (9 : Nat) := by first | decide | lia | omega
theorem om8 {a0 a1 : Nat} {a2 a3 : Nat} {a4 a5 : Nat} (h0 : a0 < a1) (h1 : (37 : Nat) < a0) (h2 : a1 < a2) (h3 : a2 < a3) (h4 : a3 < a4) (h5 : a5 ≤ (37 : Nat)) : a4 ≠ a5 := Nat.ne_of_gt (Nat.lt_of_le_of_lt h5 (Nat.lt_trans h1 (Nat.lt_trans h0 (Nat.lt_trans h2 (Nat.lt_trans h3 h4)))))
theorem om9 {a0 a1 : Nat} {a2 a3 a4 : Nat} (h0 : a0 < a1) (h1 : (37 : Nat) < a0) (h2 : a1 < a2) (h3 : a2 < a3) (h4 : a4 ≤ (37 : Nat)) : a3 ≠ a4 := Nat.ne_of_gt (Nat.lt_of_le_of_lt h4 (Nat.lt_trans h1 (Nat.lt_trans h0 (Nat.lt_trans h2 h3))))
theorem om10 {a0 a1 : Nat} {a2 a3 : Nat} (h0 : a0 < a1) (h1 : (37 : Nat) < a0) (h2 : a1 < a2) (h3 : a3 ≤ (37 : Nat)) : a2 ≠ a3 := Nat.ne_of_gt (Nat.lt_of_le_of_lt h3 (Nat.lt_trans h1 (Nat.lt_trans h0 h2)))
theorem om11 {a0 a1 a2 : Nat} (h0 : a0 < a1) (h1 : (37 : Nat) < a0) (h2 : a2 ≤ (37 : Nat)) : a1 ≠ a2 := Nat.ne_of_gt (Nat.lt_of_le_of_lt h2 (Nat.lt_trans h1 h0))
theorem om12 {a0 a1 : Nat} (h0 : (37 : Nat) < a0) (h1 : a1 ≤ (37 : Nat)) : a0 ≠ a1 := Nat.ne_of_gt (Nat.lt_of_le_of_lt h1 h0)
theorem om13 {a0 a1 : Nat} (h0 : (37 : Nat) < a0) (h1 : a1 ≤ (37 : Nat)) : a0 + (1 : Nat) + (1 : Nat) + (1 : Nat) + (1 : Nat) ≠ a1 := Nat.ne_of_gt (Nat.lt_of_le_of_lt h1 (Nat.lt_of_lt_of_le h0 (Nat.le_add_right a0 4)))
theorem om14 {a0 a1 : Nat} (h0 : (↑a0 : Int) = (3 : Int) ∨ (↑a0 : Int) = (5 : Int)) (h1 : a1 = a0) : a1 ≤ (5 : Nat) := by subst h1; exact h0.elim (fun e => by rw [Int.ofNat.inj e]; decide) (fun e => by rw [Int.ofNat.inj e]; decide)
theorem om15 {a0 : Int} (h0 : (13 : Int) ≤ a0) : (13 : Nat) ≤ a0.toNat := Int.ofNat_le.mp (by rw [Int.toNat_of_nonneg (Int.le_trans (by decide) h0)]; exact h0)
theorem om16 {a0 a1 : Nat} (h0 : (↑a0 : Int) = (3 : Int) ∨ (↑a0 : Int) = (5 : Int)) (h1 : a1 = a0) : a1 = (3 : Nat) ∨ a1 = (5 : Nat) := by subst h1; exact h0.imp Int.ofNat.inj Int.ofNat.inj
theorem om17 {a0 a1 : Nat} {a2 : Int} (h0 : a0 = a1) (h1 : a2 ≤ (↑a0 : Int)) : a2 ≤ (↑a1 : Int) := by subst h0; exact h1
theorem om18 {a0 a1 : Nat} {a2 : Int} (h0 : a0 ≤ (9 : Nat)) (h1 : a1 = a0) (h2 : a2 ≤ (↑a1 : Int)) : a2 ≤ (9 : Int) := by subst h1; exact Int.le_trans h2 (Int.ofNat_le.mpr h0)
theorem om19 {a0 a1 : Nat} {a2 : Int} (h0 : a0 = a1) (h1 : a2 ≤ (↑a0 : Int)) : (0 : Int) ≤ (↑a1 : Int) - a2 := by subst h0; exact Int.sub_nonneg_of_le h1
theorem om20 {a0 : Nat} {a1 : Int} (h0 : a0 ≤ (9 : Nat)) (h1 : (0 : Int) ≤ a1) : (↑a0 : Int) - a1 ≤ (9 : Int) := Int.le_trans (Int.sub_le_self _ h1) (Int.ofNat_le.mpr h0)
theorem om21 {a0 : Nat} (h0 : (5 : Nat) ≤ a0) : (5 : Int) ≤ (↑a0 : Int) := Int.ofNat_le.mpr h0
theorem om22 {a0 : Nat} (h0 : a0 ≤ (9 : Nat)) : (↑a0 : Int) ≤ (9 : Int) := by first | decide | lia | omega
theorem om23 {a0 : Nat} (h0 : (↑a0 : Int) = (3 : Int) ∨ (↑a0 : Int) = (5 : Int)) : (3 : Int) ≤ (↑a0 : Int) := h0.elim (fun e => by rw [e]; decide) (fun e => by rw [e]; decide)
theorem om24 {a0 a1 : Nat} (h0 : a0 = a1) (h1 : a0 ≤ (5 : Nat)) : (↑a1 : Int) ≤ (5 : Int) := by subst h0; exact Int.ofNat_le.mpr h1
theorem om25 {a0 a1 a2 : Int} (h0 : a0 + a1 = a2) (h1 : (0 : Int) ≤ a0 ∧ a0 ≤ (59049 : Int)) (h2 : (0 : Int) ≤ a1 ∧ a1 ≤ (59049 : Int)) : a2 ≤ (1000000 : Int) := by rw [← h0]; exact Int.le_trans (Int.add_le_add h1.2 h2.2) (by decide)
theorem om26 {a0 : Nat} (h0 : (5 : Nat) ≤ a0) : (0 : Int) < (↑a0 : Int) := Int.ofNat_lt.mpr (Nat.lt_of_lt_of_le (by decide) h0)
theorem om27 {a0 a1 a2 : Int} (h0 : a0 + a1 = a2) (h1 : (0 : Int) ≤ a0 ∧ a0 ≤ (59049 : Int)) (h2 : (0 : Int) ≤ a1 ∧ a1 ≤ (59049 : Int)) : (0 : Int) ≤ a2 := by rw [← h0]; exact Int.add_nonneg h1.1 h2.1
theorem om28 {a0 : Nat} (h0 : (37 : Nat) < a0) : (30 : Nat) ≠ a0 + (1 : Nat) + (1 : Nat) + (1 : Nat) + (1 : Nat) := Nat.ne_of_lt (Nat.lt_trans (by decide : 30 < 37) (Nat.lt_of_lt_of_le h0 (Nat.le_add_right a0 4)))
theorem om29 {a0 : Nat} (h0 : (37 : Nat) < a0) : (37 : Nat) ≠ a0 + (1 : Nat) + (1 : Nat) + (1 : Nat) + (1 : Nat) := Nat.ne_of_lt (Nat.lt_of_lt_of_le h0 (Nat.le_add_right a0 4))
theorem om30 {a0 : Nat} : a0 = a0 - (0 : Nat) := by first | decide | lia | omega
theorem om31 {a0 a1 : Nat} (h0 : a0 < a1) : a1 - (a0 + (1 : Nat)) < a1 - a0 := Nat.sub_lt_sub_left h0 (Nat.lt_succ_self a0)
theorem om32 {a0 a1 a2 : Nat} (h0 : a0 ≤ (100000 : Nat)) (h1 : a1 < a0) (h2 : a2 ≤ a1) : a2 ≤ (16777216 : Nat) := Nat.le_trans h2 (Nat.le_trans (Nat.le_of_lt h1) (Nat.le_trans h0 (by decide)))
theorem om33 {a0 a1 : Nat} (h0 : a0 ≤ a1) (h1 : ¬a0 < a1) : a0 = a1 := by first | decide | lia | omega
theorem om34 {a0 a1 : Nat} (h0 : a0 < a1) : a1 - (1 : Nat) - a0 < a1 := Nat.lt_of_le_of_lt (Nat.sub_le _ _) (Nat.sub_lt (Nat.lt_of_le_of_lt (Nat.zero_le _) h0) Nat.one_pos)
theorem om35 {a0 a1 : Nat} (h0 : a0 < a1) : (↑a1 : Int) - (1 : Int) - (↑a0 : Int) = (↑(a1 - (1 : Nat) - a0) : Int) := by rw [Int.ofNat_sub (Nat.le_sub_one_of_lt h0), Int.ofNat_sub (Nat.succ_le_of_lt (Nat.lt_of_le_of_lt (Nat.zero_le _) h0))]; rfl
theorem om36 {a0 a1 : Nat} (h0 : (↑a0 : Int) - (1 : Int) - (↑a1 : Int) = (↑(a0 - (1 : Nat) - a1) : Int)) : (↑(a0 - (1 : Nat) - a1) : Int) - (1 : Int) = (↑a0 : Int) - (1 : Int) - (↑(a1 + (1 : Nat)) : Int) := by rw [← h0]; exact Int.sub_sub _ _ _
theorem om37 {a0 : Nat} : (↑a0 : Int) - (1 : Int) - (↑a0 : Int) = (-1 : Int) := by first | decide | lia | omega
theorem om38 {a0 a1 a2 : Nat} (h0 : a0 ≤ (100000 : Nat)) (h1 : a1 ≤ a2) (h2 : a2 < a0) : a1 ≤ (16777216 : Nat) := Nat.le_trans h1 (Nat.le_trans (Nat.le_of_lt h2) (Nat.le_trans h0 (by decide)))
theorem om39 {a0 a1 : Nat} (h0 : a0 + (1 : Nat) ≤ a1) : a1 = a1 - (1 : Nat) + (1 : Nat) := (Nat.sub_add_cancel (Nat.le_trans (Nat.le_add_left 1 a0) h0)).symm
theorem om40 {a0 a1 : Nat} : a0 + a1 = a1 + a0 := by first | decide | lia | omega
theorem om41 {a0 a1 : Nat} (h0 : a0 + (1 : Nat) ≤ a1 + (1 : Nat)) : a0 ≤ a1 := by first | decide | lia | omega
theorem om42 {a0 a1 : Nat} : a0 + (1 : Nat) + a1 = a0 + a1 + (1 : Nat) := by first | decide | lia | omega
theorem om43 {a0 a1 a2 : Nat} (h0 : a0 + a1 ≤ a2) : min a0 a2 + (a1 + (a2 - (a0 + a1))) = a2 := by rw [Nat.min_eq_left (Nat.le_trans (Nat.le_add_right a0 a1) h0), ← Nat.add_assoc, Nat.add_sub_cancel' h0]
theorem om44 {a0 a1 : Nat} {a2 a3 : Nat} (h0 : a0 + a1 + a2 ≤ a3) : min a0 a3 = a0 := Nat.min_eq_left (Nat.le_trans (Nat.le_trans (Nat.le_add_right a0 a1) (Nat.le_add_right _ a2)) h0)
theorem om45 {a0 a1 : Nat} {a2 a3 : Nat} (h0 : a0 + a1 + a2 ≤ a3) : a0 ≤ min a0 a3 := Nat.le_min.mpr ⟨Nat.le_refl _, Nat.le_trans (Nat.le_trans (Nat.le_add_right a0 a1) (Nat.le_add_right _ a2)) h0⟩
theorem om46 {a0 a1 : Nat} : min a0 a1 ≤ a0 := Nat.min_le_left _ _
theorem om47 {a0 a1 : Nat} {a2 a3 : Nat} : min a0 a1 + a2 ≤ a0 + a2 + a3 := Nat.le_trans (Nat.add_le_add_right (Nat.min_le_left _ _) _) (Nat.le_add_right _ _)
theorem om48 {a0 a1 : Nat} {a2 a3 : Nat} (h0 : a0 + a1 + a2 ≤ a3) : a0 + a1 + (a0 + a1 + a2 - (min a0 a3 + a1)) = a0 + (a1 + a2) := by rw [Nat.min_eq_left (Nat.le_trans (Nat.le_trans (Nat.le_add_right a0 a1) (Nat.le_add_right _ a2)) h0), Nat.add_sub_cancel_left, Nat.add_assoc]
theorem om49 {a0 a1 : Nat} (h0 : a0 = a1) : a0 ≤ a1 := Nat.le_of_eq h0
theorem om50 {a0 : Nat} : (2 : Int) ^ a0 * (2 : Int) = (2 : Int) * (2 : Int) ^ a0 := by first | decide | lia | omega
theorem om51 {a0 a1 : Int} {a2 : Nat} (h0 : a0 + (1 : Int) < a1) (h1 : a1 - a0 ≤ (2 : Int) ^ (a2 + (1 : Nat))) : a0 < (a0 + a1) / (2 : Int) ∧ (a0 + a1) / (2 : Int) < a1 ∧ (a0 + a1) / (2 : Int) - a0 ≤ (2 : Int) ^ a2 ∧ a1 - (a0 + a1) / (2 : Int) ≤ (2 : Int) ^ a2 := by first | decide | lia | omega
theorem om52 {a0 a1 : Nat} (h0 : a0 ≤ a1) : a1 - a0 + a0 = a1 := Nat.sub_add_cancel h0
theorem om53 {a0 : Nat} : (0 : Int) ≤ (↑a0 : Int) := by first | decide | lia | omega
theorem om54 {a0 a1 a2 : Nat} (h0 : a0 + a1 = a2) : (↑a2 : Int) + (↑a0 : Int) - (2 : Int) * (↑a0 : Int) = (↑a1 : Int) := by first | decide | lia | omega
theorem om55 {a0 a1 a2 : Int} : a0 + (a1 + a2) = a0 + a1 + a2 := by first | decide | lia | omega
theorem om56 {a0 : Int} {a1 : Nat} (h0 : a0 < (2 : Int) ^ a1) : a0 + (1 : Int) ≤ (2 : Int) ^ a1 := h0
theorem om57 {a0 : Int} {a1 : Nat} {a2 a3 : Int} (h0 : (0 : Int) ≤ a0) (h1 : a0 < (2 : Int) ^ a1) (h2 : (0 : Int) ≤ a2) (h3 : a2 + (2 : Int) ^ a1 ≤ a3) : (0 : Int) ≤ a0 + a2 ∧ a0 + a2 < a3 := ⟨Int.add_nonneg h0 h2, Int.lt_of_lt_of_le (by rw [Int.add_comm]; exact Int.add_lt_add_left h1 a2) h3⟩
theorem om58 {a0 a1 a2 : Nat} (h0 : a0 ≤ a1) : min (a0 - a2) (a1 - a2) = a0 - a2 := Nat.min_eq_left (Nat.sub_le_sub_right h0 a2)
theorem om59 {a0 a1 a2 : Nat} (h0 : a0 ≤ a1) (h1 : a1 ≤ a2) : a2 - a0 = a1 - a0 + (a2 - a1) := by rw [Nat.add_comm]; exact (Nat.sub_add_sub_cancel h1 h0).symm
theorem om60 {a0 a1 : Nat} (h0 : a0 ≤ a1) : a0 + (a1 - a0) = a1 := Nat.add_sub_cancel' h0
theorem om61 {a0 : Nat} : a0 + (1 : Nat) - a0 = (1 : Nat) := Nat.add_sub_cancel_left _ _
theorem om62 {a0 a1 : Nat} (h0 : a0 + (1 : Nat) < a1 + (1 : Nat)) : a0 < a1 := by first | decide | lia | omega
theorem om63 {a0 a1 : Nat} (h0 : a0 < a1) : (a1 - (1 : Nat) - a0).succ = a1 - a0 := by rw [Nat.sub_right_comm]; exact Nat.sub_add_cancel (Nat.sub_pos_of_lt h0)
theorem om64 {a0 a1 : Nat} : a1 - (a0 + (1 : Nat)) = a1 - (1 : Nat) - a0 := by first | decide | lia | omega
theorem om65 {a0 a1 a2 : Nat} (h0 : a0 + a1 = a2) : a2 = a0 + a1 := by first | decide | lia | omega
theorem om66 {a0 a1 a2 : Nat} : a0 + a1 + a2 = a1 + a2 + a0 := by first | decide | lia | omega
theorem om67 {a0 a1 : Nat} (h0 : a0 < (2 : Nat) ^ a1) (h1 : (↑((2 : Nat) ^ a1) : Int) = (2 : Int) ^ a1) : (↑a0 : Int) < (2 : Int) ^ a1 := by rw [← h1]; exact Int.ofNat_lt.mpr h0
theorem om68 {a0 a1 : Int} : a0 + a1 = a1 + a0 := by first | decide | lia | omega
theorem om69 {a0 a1 a2 : Int} : a0 + a1 = a2 + a0 + (a1 - a2) := by first | decide | lia | omega
theorem om70 {a0 a1 : Int} {a2 a3 : Int} : a0 + (a1 + a2 + a3) = a0 + a1 + (a2 + a3) := by first | decide | lia | omega
theorem om71 {a0 a1 : Int} {a2 a3 : Int} (h0 : (0 : Int) ≤ a0 ∧ a0 ≤ a1) (h1 : (0 : Int) ≤ a2 ∧ a2 ≤ a3) : (0 : Int) ≤ a0 + a2 ∧ a0 + a2 ≤ a1 + a3 := ⟨Int.add_nonneg h0.1 h1.1, Int.add_le_add h0.2 h1.2⟩
theorem om72 {a0 : Int} {a1 : Nat} {a2 : Int} (h0 : (↑(a0.toNat + a1) : Int) = a2) : a2.toNat = a0.toNat + a1 := by rw [← h0]; exact Int.toNat_natCast _
theorem om73 {a0 : Int} {a1 : Nat} (h0 : (↑a0.toNat : Int) < (↑((2 : Nat) ^ a1) : Int)) : a0.toNat < (2 : Nat) ^ a1 := Int.ofNat_lt.mp h0
theorem om74 {a0 : Int} {a1 : Nat} (h0 : (0 : Int) ≤ a0 ∧ a0 ≤ (2 : Int) ^ a1 - (2 : Int)) : (0 : Int) ≤ a0 ∧ a0 < (2 : Int) ^ a1 := ⟨h0.1, Int.lt_of_le_of_lt h0.2 (Int.sub_lt_self _ (by decide))⟩
theorem om75 {a0 : Int} {a1 : Nat} (h0 : (0 : Int) ≤ a0 ∧ a0 < (2 : Int) ^ a1) : a0 + (1 : Int) ≤ (2 : Int) ^ a1 := h0.2
theorem om76 {a0 : Int} {a1 : Nat} {a2 a3 : Int} (h0 : (0 : Int) ≤ a0 ∧ a0 ≤ (2 : Int) ^ a1 - (2 : Int)) (h1 : (0 : Int) ≤ a2) (h2 : a2 + (2 : Int) ^ a1 ≤ a3) : (0 : Int) ≤ a0 + a2 ∧ a0 + a2 < a3 - (1 : Int) := ⟨Int.add_nonneg h0.1 h1, Int.lt_of_le_of_lt (Int.le_trans (Int.add_le_add_right h0.2 a2) (by rw [Int.add_comm, ← Int.add_sub_assoc]; exact Int.sub_le_sub_right h2 2)) (Int.sub_lt_sub_left (by decide : (1 : Int) < 2) a3)⟩
theorem om77 {a0 a1 : Nat} : a0 + (1 : Nat) + a1 = a0 + (a1 + (1 : Nat)) := by first | decide | lia | omega
theorem om78 {a0 a1 : Nat} (h0 : a0 + (1 : Nat) < a1 + (1 : Nat)) : a0 < a1 + (1 : Nat) := Nat.lt_succ_of_lt (Nat.lt_of_succ_lt_succ h0)
theorem om79 {a0 a1 : Nat} (h0 : a0 < a1) : (0 : Nat) < a1 := Nat.lt_of_le_of_lt (Nat.zero_le _) h0
theorem om80 {a0 a1 : Nat} (h0 : a0 + (1 : Nat) ≤ a1) : a0 ≤ a1 := Nat.le_of_succ_le h0
theorem om81 {a0 a1 : Nat} (h0 : a0 + (1 : Nat) ≤ a1) : a0 < a1 := h0
theorem om82 {a0 a1 : Nat} (h0 : a0 < a1) : a0 < a1 + (1 : Nat) := by first | decide | lia | omega
theorem om83 {a0 a1 : Nat} (h0 : a0 ≠ a1) (h1 : ¬a0 < a1) : ¬a0 < a1 + (1 : Nat) := fun h => h1 (Nat.lt_of_le_of_ne (Nat.le_of_lt_succ h) h0)
theorem om84 {a0 a1 : Nat} (h0 : a0 < a1) : (↑a1 : Int) ≠ (0 : Int) := Int.ne_of_gt (Int.ofNat_lt.mpr (Nat.lt_of_le_of_lt (Nat.zero_le _) h0))
theorem om85 {a0 a1 : Nat} (h0 : a0 < a1) : (0 : Int) < (↑a1 : Int) := by first | decide | lia | omega
theorem om86 {a0 : Int} {a1 : Nat} (h0 : (0 : Int) ≤ a0) (h1 : a0 < (↑a1 : Int)) : a0.toNat < a1 := (Int.toNat_lt h0).mpr h1
theorem om87 {a0 a1 a2 : Nat} (h0 : a0 = a1) (h1 : a2 < a0) : a2 < a1 := by rw [← h0]; exact h1
theorem om88 {a0 a1 a2 : Nat} (h0 : a0 = a1) (h1 : a2 < a1) : a2 < a0 := by rw [h0]; exact h1
theorem om89 {a0 a1 : Nat} (h0 : a0 < a1 + (1 : Nat)) (h1 : ¬a1 = a0) : a0 < a1 := Nat.lt_of_le_of_ne (Nat.le_of_lt_succ h0) fun e => h1 e.symm
theorem om90 {a0 : Nat} (h0 : a0 = (5 : Nat)) : (1 : Nat) ≤ a0 := by first | decide | lia | omega
theorem om91 {a0 : Nat} (h0 : a0 = (7 : Nat)) : (1 : Nat) ≤ a0 := by rw [h0]; decide
theorem om92 {a0 : Nat} (h0 : a0 = (9 : Nat)) : (1 : Nat) ≤ a0 := by first | decide | lia | omega
theorem om93 {a0 : Nat} (h0 : (1 : Nat) ≤ a0) : a0 - (1 : Nat) + (1 : Nat) = a0 := Nat.sub_add_cancel h0
theorem om94 {a0 a1 : Int} {a2 a3 : Int} : a0 + a1 + (a2 + a3) = a0 + a2 + (a1 + a3) := by first | decide | lia | omega
theorem om95 {a0 a1 a2 : Int} : a0 + a1 + a2 = a0 + (a1 + a2) := by first | decide | lia | omega
theorem om96 {a0 : Int} {a1 : Nat} {a2 : Int} : (1 : Int) - a0 + ((↑a1 : Int) - a2) = (↑(a1 + (1 : Nat)) : Int) - (a0 + a2) := by first | decide | lia | omega
theorem om97 {a0 a1 : Int} {a2 : Nat} (h0 : a0 + a1 = (↑a2 : Int)) : (↑a2 : Int) - a0 = a1 := by rw [← h0, Int.add_comm, Int.add_sub_cancel]
theorem om98 {a0 a1 a2 : Int} : a0 - (a1 + a2) = -a1 + (a0 - a2) := by first | decide | lia | omega
theorem om99 {a0 a1 a2 : Int} : a0 + a1 - (a0 - a2) = a1 - -a2 := by first | decide | lia | omega
theorem om100 {a0 a1 : Nat} : a0 + (a1 + (1 : Nat)) = a0 + (1 : Nat) + a1 := by first | decide | lia | omega
theorem om101 {a0 : Int} : a0 * (-1 : Int) = -a0 := by first | decide | lia | omega
theorem om102 {a0 a1 : Int} {a2 : Nat} (h0 : (0 : Int) ≤ a0 ∧ a0 < (2 : Int)) (h1 : (0 : Int) ≤ a1 ∧ a1 ≤ (↑a2 : Int)) : (0 : Int) ≤ a0 + a1 ∧ a0 + a1 ≤ (↑(a2 + (1 : Nat)) : Int) := ⟨Int.add_nonneg h0.1 h1.1, by rw [Int.add_comm]; exact Int.add_le_add h1.2 (Int.le_of_lt_add_one h0.2 : a0 ≤ 1)⟩
theorem om103 {a0 : Int} (h0 : (0 : Int) ≤ a0 ∧ a0 < (2 : Int)) : (0 : Int) ≤ (1 : Int) - a0 ∧ (1 : Int) - a0 < (2 : Int) := ⟨Int.sub_nonneg_of_le (Int.le_of_lt_add_one h0.2), Int.lt_of_le_of_lt (Int.sub_le_self 1 h0.1) (by decide)⟩
theorem om104 {a0 : Nat} (h0 : (5 : Nat) ≤ a0 ∧ a0 ≤ (9 : Nat)) : a0 - (1 : Nat) + (1 : Nat) = a0 := Nat.sub_add_cancel (Nat.le_trans (by decide) h0.1)
theorem om105 {a0 : Nat} (h0 : (5 : Nat) ≤ a0 ∧ a0 ≤ (9 : Nat)) : (0 : Nat) < a0 := Nat.lt_of_lt_of_le (by decide) h0.1
theorem om106 {a0 : Int} (h0 : (0 : Int) ≤ a0 ∧ a0 < (2 : Int)) : (0 : Int) ≤ a0 ∧ a0 ≤ (1 : Int) := ⟨h0.1, Int.le_of_lt_add_one h0.2⟩
theorem om107 {a0 : Nat} (h0 : a0 + (1 : Nat) ≤ (5 : Nat)) : a0 ≤ (4 : Nat) := by first | decide | lia | omega
theorem om108 {a0 : Int} {a1 a2 : Nat} (h0 : (0 : Int) ≤ a0 ∧ a0 ≤ (9 : Int) ^ a1 * (1 : Int)) (h1 : (9 : Int) ^ a1 ≤ (9 : Int) ^ (4 : Nat)) (h2 : (2 : Int) ^ (13 : Nat) ≤ (2 : Int) ^ a2) : (0 : Int) ≤ a0 ∧ a0 ≤ (2 : Int) ^ a2 - (2 : Int) := ⟨h0.1, Int.le_trans (Int.le_trans h0.2 (by rw [Int.mul_one]; exact h1)) (Int.le_sub_right_of_add_le (Int.le_trans (by decide : (9 : Int) ^ 4 + 2 ≤ 2 ^ 13) h2))⟩
theorem om109 {a0 a1 : Nat} {a2 : Prop} {a3 : Int} (h0 : (5 : Nat) ≤ a0 ∧ a0 ≤ (9 : Nat)) (h1 : a1 = a0 ∧ a2) (h2 : (0 : Int) ≤ a3 ∧ a3 ≤ (↑a1 : Int)) : a3 ≤ (9 : Int) := Int.le_trans h2.2 (by rw [h1.1]; exact Int.ofNat_le.mpr h0.2)
theorem om110 {a0 : Nat} {a1 : Int} : (↑a0 : Int) - a1 + a1 = (↑a0 : Int) := by first | decide | lia | omega
theorem om111 {a0 a1 : Int} : a0 + a1 = a0 - -a1 := by first | decide | lia | omega
theorem om112 {a0 : Nat} (h0 : a0 = (3 : Nat) ∨ a0 = (5 : Nat)) : a0 ≤ (5 : Nat) := h0.elim (fun e => by rw [e]; decide) (fun e => Nat.le_of_eq e)
theorem om113 {a0 a1 : Int} : (-1 : Int) * a0 + a1 = a1 - a0 := by first | decide | lia | omega
theorem om114 {a0 a1 a2 : Nat} (h0 : a0 + (0 : Nat) = a1 + (1 : Nat)) (h1 : a1 = a2) : a2 ≤ a0 := by subst h1; exact Nat.le_of_lt (Nat.lt_of_succ_le (Nat.le_of_eq h0.symm))
theorem om115 {a0 a1 : Nat} {a2 a3 : Nat} (h0 : a0 + (a1 + (1 : Nat)) = a2 + (1 : Nat)) (h1 : a3 ≤ a0) : a3 < a2 + (1 : Nat) := Nat.lt_of_le_of_lt (Nat.le_trans h1 (Nat.le_add_right a0 a1)) (Nat.lt_of_succ_le (Nat.le_of_eq h0))
theorem om116 {a0 a1 a2 : Nat} {a3 : Prop} (h0 : a1 = a2) (h1 : a0 + (1 : Nat) ≤ a1 ∧ a3) : a0 < a2 := by subst h0; exact h1.1
theorem om117 {a0 a1 a2 : Nat} (h0 : a0 + (a1 + (1 : Nat)) = a2 + (1 : Nat)) : a0 + (1 : Nat) + a1 = a2 + (1 : Nat) := by rw [Nat.add_right_comm]; exact h0
theorem om118 {a0 a1 : Nat} (h0 : a0 ≤ a1) : a0 ≤ a1 := by first | decide | lia | omega
theorem om119 {a0 a1 : Nat} (h0 : a1 ≤ a0) : a1 ≤ a0 + (1 : Nat) := by first | decide | lia | omega
theorem om120 {a0 a1 : Nat} (h0 : ¬a0 < a1) : a1 ≤ a0 + (1 : Nat) := Nat.le_succ_of_le (Nat.le_of_not_lt h0)
theorem om121 {a0 a1 : Nat} (h0 : ¬a0 < a1) : a1 ≤ a0 := Nat.le_of_not_lt h0
theorem om122 {a0 : Nat} : (0 : Nat) + (a0 + (1 : Nat)) = a0 + (1 : Nat) := by first | decide | lia | omega
theorem om123 {a0 a1 a2 : Nat} : a0 - a1 - a2 = a0 - a2 - a1 := Nat.sub_right_comm _ _ _
theorem om124 {a0 : Int} {a1 : Nat} : a0 + (1 : Int) + (↑a1 : Int) = a0 + (↑(a1 + (1 : Nat)) : Int) := by first | decide | lia | omega
theorem om125 {a0 : Nat} : (0 : Nat) ≤ (5 : Nat) * (a0 + (1 : Nat)) := by first | decide | lia | omega
theorem om126 {a0 a1 : Nat} (h0 : a0 ≤ (5 : Nat) * a1 + (4 : Nat)) : a0 + (1 : Nat) ≤ (5 : Nat) * (a1 + (1 : Nat)) := Nat.succ_le_succ h0
theorem om127 {a0 : Int} {a1 a2 a3 : Nat} (h0 : a0 + (↑a1 : Int) = (↑a2 : Int)) (h1 : a2 < a3) : (-1 : Int) + a0 + ((↑a1 : Int) + (1 : Int)) = (0 : Int) + (↑(min a2 a3) : Int) := by rw [Nat.min_eq_left (Nat.le_of_lt h1), Int.zero_add, ← h0, Int.add_comm (-1) a0, Int.add_assoc, Int.add_comm (-1), Int.add_neg_cancel_right]
theorem om128 {a0 : Int} {a1 a2 : Nat} (h0 : a0 + (↑a1 : Int) = (↑a2 : Int)) : a0 + ((↑a1 : Int) + (1 : Int) + (0 : Int)) + (↑(0 : Nat) : Int) = (↑(a2 + (1 : Nat)) : Int) := by rw [Int.natCast_add, ← h0, ← Int.add_assoc, ← Int.add_assoc]; exact (Int.add_zero _).trans (Int.add_zero _)
theorem om129 {a0 : Int} {a1 a2 : Nat} (h0 : a0 + (↑a1 : Int) = (↑a2 : Int)) : a0 + (↑(a1 + (1 : Nat)) : Int) = (↑(a2 + (1 : Nat)) : Int) := by rw [Int.natCast_add, Int.natCast_add, ← h0, Int.add_assoc]
theorem om130 {a0 a1 a2 : Nat} (h0 : a0 ≤ (5 : Nat) * a1) (h1 : a2 ≤ (3 : Nat)) : a0 + a2 ≤ (5 : Nat) * a1 + (3 : Nat) := Nat.add_le_add h0 h1
theorem om131 {a0 : Nat} : a0 + (0 : Nat) = a0 := by first | decide | lia | omega
theorem om132 {a0 a1 : Nat} (h0 : a0 ≤ (5 : Nat) * a1 + (3 : Nat)) : a0 ≤ (5 : Nat) * a1 + (4 : Nat) := Nat.le_succ_of_le h0
theorem om133 {a0 a1 : Nat} (h0 : a0 ≤ (5 : Nat) * a1 + (3 : Nat)) : a0 + (1 : Nat) ≤ (5 : Nat) * a1 + (4 : Nat) := Nat.succ_le_succ h0
theorem om134 {a0 a1 : Nat} (h0 : a0 = a1) : a0 + (0 : Nat) = a1 := by first | decide | lia | omega
theorem om135 {a0 : Nat} {a1 : Int} {a2 : Nat} (h0 : (↑a0 : Int) ≤ a1) : (↑(a0 + (1 : Nat)) : Int) ≤ (↑a2 : Int) + (1 : Int) + a1 := by rw [Int.add_comm]; exact Int.add_le_add h0 (Int.ofNat_le.mpr (Nat.succ_le_succ (Nat.zero_le a2)))
theorem om136 {a0 : Nat} {a1 : Int} {a2 a3 : Nat} (h0 : (↑a0 : Int) ≤ a1) (h1 : a1 + (↑a2 : Int) = (↑a3 : Int)) : a0 ≤ a3 := Int.ofNat_le.mp (Int.le_trans h0 (by rw [← h1]; exact Int.le_add_of_nonneg_right (Int.natCast_nonneg a2)))
theorem om137 {a0 : Int} {a1 : Nat} : a0 ≤ a0 ∧ a0 < a0 + (↑(a1 + (1 : Nat)) : Int) := ⟨Int.le_refl _, Int.lt_add_of_pos_right a0 (Int.ofNat_lt.mpr (Nat.succ_pos a1))⟩
theorem om138 {a0 a1 : Int} {a2 : Nat} (h0 : a0 + (1 : Int) ≤ a1 ∧ a1 < a0 + (1 : Int) + (↑a2 : Int)) : a0 ≤ a1 ∧ a1 < a0 + (↑(a2 + (1 : Nat)) : Int) := ⟨Int.le_of_lt h0.1, by have := h0.2; rw [Int.add_assoc, Int.add_comm 1] at this; exact this⟩
theorem om139 {a0 a1 : Int} {a2 : Nat} (h0 : a0 + (1 : Int) ≤ a1 ∧ a1 < a0 + (1 : Int) + (↑a2 : Int)) : a0 < a1 := Int.lt_of_add_one_le h0.1
theorem om140 {a0 : Int} {a1 : Nat} : a0 + (↑(a1 + (1 : Nat)) : Int) = a0 + (1 : Int) + (↑a1 : Int) := by rw [Int.natCast_add, Int.add_assoc, Int.add_comm 1]; rfl
theorem om141 {a0 a1 : Nat} (h0 : a0 ≤ a1) : a0 ≤ a1 + (1 : Nat) := Nat.le_succ_of_le h0
theorem om142 {a0 a1 : Nat} {a2 : Int} (h0 : (↑a0 : Int) = (↑a1 : Int) - a2) : (↑(a0 + (1 : Nat)) : Int) = (↑(a1 + (1 : Nat)) : Int) - ((0 : Int) + a2) := by first | decide | lia | omega
theorem om143 {a0 a1 : Nat} {a2 : Int} (h0 : (↑a0 : Int) = (↑a1 : Int) - a2) : (↑a0 : Int) = (↑(a1 + (1 : Nat)) : Int) - ((1 : Int) + a2) := by first | decide | lia | omega
theorem om144 {a0 a1 a2 : Nat} (h0 : a0 < a1) (h1 : a1 < a2) : a0 < a2 := Nat.lt_trans h0 h1
theorem om145 {a0 : Int} : (0 : Int) ≤ (↑a0.toNat : Int) := by first | decide | lia | omega
theorem om146 {a0 a1 : Int} (h0 : (0 : Int) ≤ a0) (h1 : a0 < a1) : (↑a0.toNat : Int) < a1 := by rw [Int.toNat_of_nonneg h0]; exact h1
theorem om147 {a0 : Int} : a0 ≤ (↑a0.toNat : Int) := Int.self_le_toNat a0
theorem om148 {a0 : Int} {a1 : Nat} {a2 : Int} (h0 : a0 ≤ (↑a1 : Int)) (h1 : (0 : Int) ≤ a2) (h2 : a2 < a0) : (↑a2.toNat : Int) < (↑a1 : Int) := by rw [Int.toNat_of_nonneg h1]; exact Int.lt_of_lt_of_le h2 h0
theorem om149 {a0 : Int} {a1 : Nat} {a2 : Int} (h0 : (0 : Int) ≤ a0) (h1 : a2 ≤ (↑a1 : Int)) (h2 : a0 + (2 : Int) ≤ a2) : (↑a0.toNat : Int) < (↑a1 : Int) := by rw [Int.toNat_of_nonneg h0]; exact Int.lt_of_lt_of_le (Int.lt_of_lt_of_le (Int.lt_add_of_pos_right a0 (by decide)) h2) h1
theorem om150 {a0 a1 : Int} (h0 : (0 : Int) ≤ a0) (h1 : a0 + (2 : Int) ≤ a1) : (↑a0.toNat : Int) < a1 := by rw [Int.toNat_of_nonneg h0]; exact Int.lt_of_lt_of_le (Int.lt_add_of_pos_right a0 (by decide)) h1
theorem om151 {a0 : Int} : a0 ≤ (↑(a0.toNat + (1 : Nat)) : Int) := Int.le_trans (Int.self_le_toNat a0) (Int.ofNat_le.mpr (Nat.le_succ _))
theorem om152 {a0 : Int} {a1 : Nat} {a2 : Int} (h0 : (0 : Int) ≤ a0) (h1 : a2 ≤ (↑a1 : Int)) (h2 : a0 + (2 : Int) ≤ a2) : (↑(a0.toNat + (1 : Nat)) : Int) < (↑a1 : Int) := by rw [Int.natCast_add, Int.toNat_of_nonneg h0]; exact Int.lt_of_lt_of_le (Int.lt_of_lt_of_le (Int.add_lt_add_left (by decide : (1 : Int) < 2) a0) h2) h1
theorem om153 {a0 : Int} : (0 : Int) ≤ (↑(a0.toNat + (1 : Nat)) : Int) := Int.natCast_nonneg _
theorem om154 {a0 a1 : Int} (h0 : (0 : Int) ≤ a0) (h1 : a0 + (2 : Int) ≤ a1) : (↑(a0.toNat + (1 : Nat)) : Int) < a1 := by rw [Int.natCast_add, Int.toNat_of_nonneg h0]; exact Int.lt_of_lt_of_le (Int.add_lt_add_left (by decide : (1 : Int) < 2) a0) h1
theorem om155 {a0 : Int} : a0.toNat < a0.toNat + (1 : Nat) := by first | decide | lia | omega
theorem om156 {a0 : Int} {a1 : Nat} {a2 : Int} (h0 : (0 : Int) ≤ a0) (h1 : a2 ≤ (↑a1 : Int)) (h2 : a0 + (2 : Int) ≤ a2) : a0.toNat + (1 : Nat) < a1 := by refine Int.ofNat_lt.mp ?_; rw [Int.natCast_add, Int.toNat_of_nonneg h0]; exact Int.lt_of_lt_of_le (Int.lt_of_lt_of_le (Int.add_lt_add_left (by decide : (1 : Int) < 2) a0) h2) h1
theorem om157 {a0 a1 : Int} {a2 : Nat} (h0 : (0 : Int) ≤ a0) (h1 : a1 ≤ (↑a2 : Int)) (h2 : a0 < a1) : (↑a0.toNat : Int) < (↑a2 : Int) := by rw [Int.toNat_of_nonneg h0]; exact Int.lt_of_lt_of_le h2 h1
theorem om158 {a0 a1 : Int} {a2 : Nat} (h0 : (0 : Int) ≤ a0) (h1 : a1 ≤ (↑a2 : Int)) (h2 : a0 < a1) : a0.toNat < a2 := (Int.toNat_lt h0).mpr (Int.lt_of_lt_of_le h2 h1)
theorem om159 {a0 : Nat} {a1 : Int} (h0 : (↑a0 : Int) ≤ a1) (h1 : a1 ≤ (↑a0 : Int)) : a1 = (↑a0 : Int) := Int.le_antisymm h1 h0
theorem om160 {a0 a1 a2 : Int} (h0 : a1 < a0 + (2 : Int)) (h1 : a0 < a1) (h2 : a2 = (0 : Int)) : a1 - a0 = (1 : Int) - a2 := by subst h2; have e : a1 = a0 + 1 := Int.le_antisymm (Int.le_of_lt_add_one (by rw [Int.add_assoc]; exact h0)) h1; rw [e, Int.add_comm, Int.add_sub_cancel]; rfl
theorem om161 {a0 a1 : Int} {a2 : Nat} (h0 : a1 ≤ a0) (h1 : a0 ≤ (↑a2 : Int)) : a1 ≤ (↑a2 : Int) := Int.le_trans h0 h1
theorem om162 {a0 a1 : Nat} (h0 : a0 < a1) : (↑a0 : Int) < (↑a1 : Int) := Int.ofNat_lt.mpr h0
theorem om163 {a0 a1 a2 : Int} (h0 : a0 ≤ a1) (h1 : a1 ≤ a0) (h2 : a2 = (1 : Int)) : a1 - a0 = (1 : Int) - a2 := by subst h2; rw [Int.le_antisymm h1 h0, Int.sub_self]; rfl
theorem om164 {a0 a1 a2 : Int} (h0 : a0 ≤ a1) (h1 : (0 : Int) ≤ a2) (h2 : a2 < a0) : (↑a2.toNat : Int) < a1 := by rw [Int.toNat_of_nonneg h1]; exact Int.lt_of_lt_of_le h2 h0
theorem om165 {a0 a1 a2 : Int} (h0 : (0 : Int) ≤ a0) (h1 : a2 ≤ a1) (h2 : a0 < a2) : (↑a0.toNat : Int) < a1 := by rw [Int.toNat_of_nonneg h0]; exact Int.lt_of_lt_of_le h2 h1
theorem om166 {a0 : Nat} : (1 : Int) ≤ (↑a0 : Int) + (1 : Int) := by first | decide | lia | omega
theorem om167 {a0 a1 : Int} (h0 : (1 : Int) ≤ a0) (h1 : (0 : Int) ≤ a1) : (0 : Int) ≤ a0 + a1 := Int.add_nonneg (Int.le_trans (by decide) h0) h1
theorem om168 {a0 a1 : Int} (h0 : (0 : Int) ≤ a0) : a1 ≤ a1 + a0 := by first | decide | lia | omega
theorem om169 {a0 a1 a2 : Int} (h0 : (1 : Int) ≤ a0) (h1 : a1 ≤ a2) : a1 ≤ a0 + a2 := Int.le_trans h1 (Int.le_add_of_nonneg_left (Int.le_trans (by decide) h0))
theorem om170 {a0 : Nat} {a1 a2 : Int} (h0 : a0 ≤ (9 : Nat)) (h1 : (0 : Int) ≤ (-1 : Int) + (a1 + a2) ∧ (-1 : Int) + (a1 + a2) < (0 : Int) + (↑a0 : Int)) : a1 + a2 ≤ (9 : Int) := Int.le_trans (Int.le_of_sub_one_lt (by rw [Int.sub_eq_add_neg, Int.add_comm]; exact Int.lt_of_lt_of_le h1.2 (by rw [Int.zero_add]; exact Int.le_refl _))) (Int.ofNat_le.mpr h0)
theorem om171 {a0 : Int} (h0 : (1 : Int) ≤ a0 ∧ a0 ≤ (9 : Int)) : a0 ≠ (127 : Int) := Int.ne_of_lt (Int.lt_of_le_of_lt h0.2 (by decide))
theorem om172 {a0 : Int} (h0 : (1 : Int) ≤ a0 ∧ a0 ≤ (9 : Int)) : a0 ≠ (0 : Int) := Int.ne_of_gt (Int.lt_of_lt_of_le (by decide) h0.1)
theorem om173 {a0 : Int} {a1 : Nat} (h0 : (0 : Int) ≤ a0 ∧ a0 ≤ (↑a1 : Int)) : (0 : Int) ≤ (0 : Int) + a0 ∧ (0 : Int) + a0 ≤ (↑(a1 + (1 : Nat)) : Int) := ⟨by rw [Int.zero_add]; exact h0.1, by rw [Int.zero_add]; exact Int.le_trans h0.2 (Int.ofNat_le.mpr (Nat.le_succ a1))⟩
theorem om174 {a0 : Int} {a1 : Nat} (h0 : (0 : Int) ≤ a0 ∧ a0 ≤ (↑a1 : Int)) : (0 : Int) ≤ (1 : Int) + a0 ∧ (1 : Int) + a0 ≤ (↑(a1 + (1 : Nat)) : Int) := ⟨Int.add_nonneg (by decide) h0.1, by rw [Int.add_comm]; exact Int.add_le_add_right h0.2 1⟩
theorem om187 {a0 : Int} {a1 : Nat} (h0 : a0 ≤ (↑a1 : Int)) : a0.toNat ≤ a1 := Int.toNat_le.mpr h0
theorem om192 {a0 a1 a2 : Nat} (h0 : a0 ≤ a1) (h1 : a2 ≤ a1) : a0 + (1 : Nat) ≤ a1 + (1 : Nat) ∧ a2 ≤ a1 + (1 : Nat) := ⟨Nat.succ_le_succ h0, Nat.le_succ_of_le h1⟩
theorem om193 {a0 a1 a2 : Nat} (h0 : a0 ≤ a1) (h1 : a2 ≤ a1) : a0 ≤ a1 + (1 : Nat) ∧ a2 ≤ a1 + (1 : Nat) := ⟨Nat.le_succ_of_le h0, Nat.le_succ_of_le h1⟩
theorem om194 {a0 a1 : Nat} (h0 : a0 ≤ a1) : (0 : Nat) ≤ a1 + (1 : Nat) ∧ a0 + (1 : Nat) ≤ a1 + (1 : Nat) := by first | decide | lia | omega
theorem om195 {a0 a1 : Nat} {a2 a3 : Nat} (h0 : a0 ≤ a1 + (1 : Nat) + a2 ∧ a3 ≤ a1 + (1 : Nat) + a2) : a0 ≤ a1 + (a2 + (1 : Nat)) ∧ a3 ≤ a1 + (a2 + (1 : Nat)) := by rw [Nat.add_assoc, Nat.add_comm 1] at h0; exact h0
theorem om196 {a0 a1 : Nat} (h0 : a0 ≤ a1) : a0 + (1 : Nat) ≤ a1 + (1 : Nat) := Nat.succ_le_succ h0
theorem om197 {a0 : Nat} : (0 : Nat) ≤ a0 + (1 : Nat) := by first | decide | lia | omega
theorem om198 {a0 a1 a2 : Nat} (h0 : a0 ≤ a1 + (1 : Nat) + a2) : a0 ≤ a1 + (a2 + (1 : Nat)) := by rw [Nat.add_assoc, Nat.add_comm 1] at h0; exact h0
theorem om199 {a0 : Nat} (h0 : (↑a0 : Int) ≠ (0 : Int)) : ¬a0 = (0 : Nat) := by first | decide | lia | omega
theorem om200 {a0 a1 a2 : Nat} (h0 : a0 ≤ (10000 : Nat)) (h1 : a1 ≤ min a0 a2) : a1 + (1 : Nat) ≤ (20000 : Nat) := Nat.le_trans (Nat.succ_le_succ (Nat.le_trans h1 (Nat.le_trans (Nat.min_le_left _ _) h0))) (by decide)
theorem om201 {a0 a1 a2 : Nat} (h0 : a0 ≤ (10000 : Nat)) (h1 : a1 ≤ min a0 a2) : a1 ≤ (10000 : Nat) := Nat.le_trans h1 (Nat.le_trans (Nat.min_le_left _ _) h0)
theorem om202 {a0 a1 : Nat} (h0 : a0 ≤ (20000 : Nat)) (h1 : a1 = a0) : a1 ≤ (100000 : Nat) := by subst h1; exact Nat.le_trans h0 (by decide)
theorem om203 {a0 a1 a2 : Nat} (h0 : a0 = min a1 a2) : a0 ≤ a1 := by rw [h0]; exact Nat.min_le_left _ _
theorem om204 {a0 a1 a2 : Nat} (h0 : a0 < a1) (h1 : a1 = a2) : a0 < a2 := by subst h1; exact h0
theorem om205 {a0 : Nat} (h0 : (↑a0 : Int) = (0 : Int)) : a0 = (0 : Nat) := by first | decide | lia | omega
theorem om206 {a0 a1 a2 : Nat} (h0 : a0 ≤ (10000 : Nat)) (h1 : a1 ≤ min a0 a2) : a1 ≤ (20000 : Nat) := Nat.le_trans h1 (Nat.le_trans (Nat.min_le_left _ _) (Nat.le_trans h0 (by decide)))
theorem om207 {a0 a1 : Nat} : a1 - (a0 + (1 : Nat)) ≤ a1 - (1 : Nat) - a0 := by first | decide | lia | omega
theorem om208 {a0 a1 a2 : Nat} (h0 : a1 - a0 ≤ a2) : a1 - (a0 + (1 : Nat)) ≤ a2 := Nat.le_trans (Nat.sub_le_sub_left (Nat.le_succ a0) a1) h0
theorem om209 {a0 : Nat} : a0 + (1 : Nat) ≠ (0 : Nat) := by first | decide | lia | omega
theorem om210 {a0 a1 a2 : Nat} (h0 : a0 - (a1 + (1 : Nat)) ≤ a2) : a0 - (a1 + (1 : Nat)) + (a2 - (a0 - (a1 + (1 : Nat)))) = a2 := Nat.add_sub_cancel' h0
theorem om211 {a0 a1 : Nat} : a1 - (1 : Nat) - a0 = a1 - (a0 + (1 : Nat)) := by first | decide | lia | omega
theorem om212 {a0 a1 a2 : Nat} (h0 : a0 + (1 : Nat) ≤ a1) : a1 - (a0 + (1 : Nat)) + (a2 + (1 : Nat)) = a1 - a0 + a2 := by rw [Nat.add_comm a2 1, ← Nat.add_assoc, Nat.sub_add_eq, Nat.sub_add_cancel (Nat.le_sub_of_add_le (by rw [Nat.add_comm]; exact h0))]
theorem om213 {a0 a1 a2 : Nat} (h0 : a0 ≤ a1) (h1 : a2 = a1) (h2 : ¬a0 < a1) : a0 = a2 := by subst h1; exact Nat.le_antisymm h0 (Nat.le_of_not_lt h2)
theorem om214 {a0 a1 : Nat} (h0 : a0 = a1) : a1 ≤ a0 := by first | decide | lia | omega
theorem om215 {a0 a1 : Nat} (h0 : a0 + (1 : Nat) < a1) : a1 - (1 : Nat) - (a1 - a0 - (1 : Nat)) = a0 := by rw [Nat.sub_right_comm a1 a0 1]; exact Nat.sub_sub_self (Nat.le_sub_of_add_le (Nat.le_of_lt h0))
theorem om216 {a0 a1 : Nat} (h0 : a0 + (1 : Nat) < a1) : a1 - a0 - (1 : Nat) ≠ (0 : Nat) := Nat.sub_ne_zero_of_lt (Nat.lt_sub_of_add_lt (by rw [Nat.add_comm]; exact h0))
theorem om217 {a0 a1 : Nat} (h0 : a0 + (1 : Nat) < a1) : a1 - a0 = a1 - (a0 + (1 : Nat)) + (1 : Nat) := by rw [Nat.sub_add_eq, Nat.sub_add_cancel (Nat.le_sub_of_add_le (by rw [Nat.add_comm]; exact Nat.le_of_lt h0))]
theorem om218 {a0 : Nat} (h0 : (0 : Nat) + (1 : Nat) < a0) : a0 ≠ (0 : Nat) := by first | decide | lia | omega
theorem om219 {a0 a1 : Nat} (h0 : a0 + (1 : Nat) + (1 : Nat) < a1) : a1 - (a1 - (a0 + (1 : Nat))) = a0 + (1 : Nat) := Nat.sub_sub_self (Nat.le_of_lt (Nat.lt_of_succ_lt h0))
theorem om220 {a0 a1 : Nat} (h0 : a0 < a1) : a1 - (1 : Nat) - (a1 - a0 - (1 : Nat)) = a0 := by rw [Nat.sub_right_comm a1 a0 1]; exact Nat.sub_sub_self (Nat.le_sub_of_add_le h0)
theorem om221 {a0 : Nat} (h0 : (0 : Nat) < a0) : a0 ≠ (0 : Nat) := by first | decide | lia | omega
theorem om222 {a0 a1 a2 : Nat} (h0 : a0 < a1) (h1 : a2 < a0) : a2 + (1 : Nat) < a1 := Nat.lt_of_le_of_lt h1 h0
theorem om223 {a0 a1 : Nat} {a2 a3 a4 : Nat} (h0 : a0 < a1) (h1 : a1 < a2) (h2 : a2 < a3) (h3 : a4 < a0) : a4 ≠ a3 := Nat.ne_of_lt (Nat.lt_trans h3 (Nat.lt_trans h0 (Nat.lt_trans h1 h2)))
theorem om224 {a0 a1 a2 : Nat} (h0 : a0 < a1) (h1 : a2 < a0) : a2 ≠ a1 := Nat.ne_of_lt (Nat.lt_trans h1 h0)
theorem om225 {a0 a1 : Nat} {a2 a3 : Nat} (h0 : a0 < a1) (h1 : a1 < a2) (h2 : a3 < a0) : a3 ≠ a2 := Nat.ne_of_lt (Nat.lt_trans h2 (Nat.lt_trans h0 h1))
theorem om226 {a0 a1 : Nat} (h0 : a1 < a0) : a1 ≠ a0 := by first | decide | lia | omega
theorem om227 {a0 a1 a2 : Nat} (h0 : a0 < a1) (h1 : a1 < a2) : a2 ≠ a0 := Nat.ne_of_gt (Nat.lt_trans h0 h1)
theorem om228 {a0 a1 : Nat} (h0 : a0 < a1) : a1 ≠ a0 := by first | decide | lia | omega
theorem om229 {a0 a1 : Nat} {a2 a3 : Nat} (h0 : a0 < a1) (h1 : a1 < a2) (h2 : a2 < a3) : a3 ≠ a0 := Nat.ne_of_gt (Nat.lt_trans h0 (Nat.lt_trans h1 h2))
theorem om230 {a0 a1 : Nat} (h0 : a0 < a1) : a0 ≠ a1 := by first | decide | lia | omega
theorem om231 {a0 a1 : Nat} (h0 : a0 < a1) : (0 : Int) < (↑a1 : Int) - (↑a0 : Int) := Int.sub_pos_of_lt (Int.ofNat_lt.mpr h0)
theorem om232 {a0 : Nat} : (↑(a0 + (1 : Nat)) : Int) = (↑a0 : Int) + (1 : Int) := by first | decide | lia | omega
theorem om233 {a0 a1 : Nat} : (↑a0 : Int) - ((↑a1 : Int) + (1 : Int)) = (↑a0 : Int) - (↑a1 : Int) - (1 : Int) := by first | decide | lia | omega
theorem om234 {a0 : Nat} : (↑a0 : Int) - (↑a0 : Int) ≤ (0 : Int) := by first | decide | lia | omega
theorem om235 {a0 : Nat} : -(2 : Int) ^ (62 : Nat) ≤ (↑a0 : Int) := by first | decide | lia | omega
theorem om236 {a0 : Nat} (h0 : a0 ≤ (100000 : Nat)) : (↑a0 : Int) < (2 : Int) ^ (62 : Nat) := Int.lt_of_le_of_lt (Int.ofNat_le.mpr h0) (by decide)
theorem om237 {a0 : Nat} : (↑a0 : Int) - (0 : Int) = (↑a0 : Int) := by first | decide | lia | omega
theorem om238 {a0 : Nat} (h0 : ¬(0 : Int) < (↑a0 : Int)) : (0 : Int) = (↑a0 : Int) := (Int.ofNat_inj.mpr (Nat.eq_zero_of_not_pos fun h => h0 (Int.ofNat_lt.mpr h))).symm
theorem om239 {a0 a1 : Nat} {a2 a3 a4 : Nat} (h0 : a0 ≤ a1 + a2) (h1 : a1 ≤ a3 + a4) : a0 ≤ a3 + (a2 + a4) := by rw [Nat.add_comm a2, ← Nat.add_assoc]; exact Nat.le_trans h0 (Nat.add_le_add_right h1 a2)
theorem om240 {a0 : Nat} (h0 : (0 : Nat) < a0) : (↑a0 : Int) ≠ (0 : Int) := by first | decide | lia | omega
theorem om241 {a0 : Nat} (h0 : (0 : Nat) < a0) : (0 : Int) < (↑a0 : Int) := Int.ofNat_lt.mpr h0
theorem om242 {a0 a1 a2 : Nat} (h0 : (↑a0 : Int) + (↑a1 : Int) - (1 : Int) < (↑a2 : Int) + (↑a1 : Int) + (↑a1 : Int)) : a0 ≤ a2 + a1 := Int.ofNat_le.mp (Int.le_of_add_le_add_right (Int.le_of_sub_one_lt h0))
theorem om243 {a0 a1 : Nat} (h0 : a0 ≤ a1) : a1 = a0 + (a1 - a0) := (Nat.add_sub_cancel' h0).symm
theorem om244 {a0 : Int} (h0 : (13 : Int) ≤ a0) : (0 : Int) ≤ a0 := by first | decide | lia | omega
theorem om245 {a0 : Nat} (h0 : a0 ≤ (9 : Nat)) : (16 : Int) * (↑a0 : Int) ≤ (144 : Int) := by first | decide | lia | omega
theorem om246 {a0 : Nat} (h0 : (37 : Nat) < a0) : (30 : Nat) ≠ a0 := by first | decide | lia | omega
theorem om247 {a0 : Nat} (h0 : (37 : Nat) < a0) : (37 : Nat) ≠ a0 := by first | decide | lia | omega
theorem om248 {a0 a1 : Nat} {a2 : Prop} (h0 : a0 < a1 ∧ (30 : Nat) < a1 ∧ a2) : a1 ≠ a0 := Nat.ne_of_gt h0.1
theorem om249 {a0 : Int} (h0 : a0 ≤ (16 : Int)) : a0.toNat ≤ (16 : Nat) := Int.toNat_le.mpr h0
theorem om250 {a0 : Int} (h0 : (13 : Int) ≤ a0) : (1 : Nat) ≤ a0.toNat := by first | decide | lia | omega
theorem om251 {a0 : Nat} (h0 : a0 ≤ (144 : Nat) * (5 : Nat)) : (1 : Nat) + ((1 : Nat) + a0) ≤ (2 : Nat) ^ (20 : Nat) := Nat.le_trans (Nat.add_le_add_left (Nat.add_le_add_left h0 1) 1) (by decide)
theorem om252 {a0 a1 : Nat} (h0 : a0 ≤ (144 : Nat)) (h1 : a1 ≤ a0) : a1 ≤ (2 : Nat) ^ (20 : Nat) := Nat.le_trans h1 (Nat.le_trans h0 (by decide))
theorem om253 {a0 : Int} (h0 : (13 : Int) ≤ a0) : (0 : Int) < a0 := Int.lt_of_lt_of_le (by decide) h0
theorem om254 {a0 : Int} (h0 : a0 ≤ (16 : Int)) : a0 ≤ (4000 : Int) := Int.le_trans h0 (by decide)
theorem om255 {a0 : Nat} (h0 : (37 : Nat) < a0) : a0 ≠ (37 : Nat) := by first | decide | lia | omega
theorem om256 {a0 a1 : Nat} (h0 : a0 + (200 : Nat) < a1) : a0 + (1 : Nat) + (60 : Nat) < a1 := Nat.lt_of_le_of_lt (Nat.add_le_add_left (by decide : 61 ≤ 200) a0) h0
theorem om257 {a0 a1 : Nat} (h0 : a0 + (2000 : Nat) < a1) : a0 + (3 : Nat) + (600 : Nat) < a1 := Nat.lt_of_le_of_lt (Nat.add_le_add_left (by decide : 603 ≤ 2000) a0) h0
theorem om258 {a0 : Nat} (h0 : a0 ≤ (9 : Nat)) : (↑a0 : Int) ≤ (100000 : Int) := by first | decide | lia | omega
theorem om259 {a0 : Nat} (h0 : a0 ≤ (9 : Nat)) : (16 : Int) * (↑a0 : Int) ≤ (1000000 : Int) := Int.ofNat_le.mpr (Nat.le_trans (Nat.mul_le_mul_left 16 h0) (by decide))
theorem om260 {a0 a1 : Nat} (h0 : a0 ≤ (1 : Nat) + a1) (h1 : a1 ≤ (144 : Nat) * (5 : Nat)) : a0 ≤ (800 : Nat) := Nat.le_trans h0 (Nat.le_trans (Nat.add_le_add_left h1 1) (by decide))
theorem om261 {a0 : Nat} (h0 : (2 : Nat) ^ (2 : Nat) ≤ (2 : Nat) ^ a0) : (2 : Nat) ≤ (2 : Nat) ^ a0 - (1 : Nat) := Nat.le_sub_of_add_le (Nat.le_trans (by decide : 2 + 1 ≤ 2 ^ 2) h0)
theorem om262 {a0 : Int} {a1 : Nat} (h0 : a0 = (↑((2 : Nat) ^ a1 - (1 : Nat)) : Int)) (h1 : (2 : Nat) ^ a1 ≤ (2 : Nat) ^ (144 : Nat)) : a0.natAbs < (2 : Nat) ^ (144 : Nat) := by subst h0; rw [Int.natAbs_natCast]; exact Nat.lt_of_lt_of_le (Nat.sub_lt (Nat.two_pow_pos a1) Nat.one_pos) h1
theorem om263 {a0 : Nat} (h0 : a0 ≤ (1 : Nat) + (144 : Nat)) : a0 ≤ (145 : Nat) := h0
theorem om264 {a0 : Nat} (h0 : a0 ≤ (1 : Nat) + (800 : Nat)) : a0 ≤ (801 : Nat) := h0
theorem om265 {a0 : Int} {a1 : Nat} (h0 : a0 = (↑((2 : Nat) ^ a1 - (1 : Nat)) : Int)) (h1 : (2 : Nat) ≤ (2 : Nat) ^ a1 - (1 : Nat)) : (1 : Int) * a0 ≠ (0 : Int) := by subst h0; rw [Int.one_mul]; exact Int.ne_of_gt (Int.ofNat_lt.mpr (Nat.lt_of_lt_of_le (by decide) h1))
theorem om266 {a0 : Int} {a1 : Nat} (h0 : a0 = (↑((2 : Nat) ^ a1 - (1 : Nat)) : Int)) (h1 : (2 : Nat) ≤ (2 : Nat) ^ a1 - (1 : Nat)) : (-1 : Int) * a0 ≠ (0 : Int) := by subst h0; rw [Int.neg_mul, Int.one_mul]; exact Int.neg_ne_zero.mpr (Int.ne_of_gt (Int.ofNat_lt.mpr (Nat.lt_of_lt_of_le (by decide) h1)))
theorem om267 {a0 a1 : Nat} {a2 : Prop} (h0 : a0 < a1 ∧ (30 : Nat) < a1 ∧ a2) : a1 ≠ (30 : Nat) := Nat.ne_of_gt h0.2.1
theorem om268 {a0 a1 : Nat} (h0 : a0 + (200 : Nat) < a1) : a0 + (1 : Nat) + (110 : Nat) + (5 : Nat) * (3 : Nat) < a1 := Nat.lt_of_le_of_lt (Nat.add_le_add_left (by decide : 126 ≤ 200) a0) h0
theorem om269 {a0 a1 : Nat} (h0 : a0 + (2000 : Nat) < a1) : a0 + (3 : Nat) + (1100 : Nat) + (20 : Nat) * (3 : Nat) < a1 := Nat.lt_of_le_of_lt (Nat.add_le_add_left (by decide : 1163 ≤ 2000) a0) h0
theorem om270 : (2 : Nat) + (1 : Nat) ≤ (3 : Nat) := by first | decide | lia | omega
theorem om271 : (2 : Nat) + (0 : Nat) ≤ (3 : Nat) := by first | decide | lia | omega
theorem om272 : (0 : Nat) + (1 : Nat) ≤ (3 : Nat) := by first | decide | lia | omega
theorem om273 : (0 : Nat) + (0 : Nat) ≤ (3 : Nat) := by first | decide | lia | omega
theorem om274 {a0 : Int} {a1 : Nat} (h0 : a0 = (↑((2 : Nat) ^ a1 - (1 : Nat)) : Int)) (h1 : (2 : Nat) ≤ (2 : Nat) ^ a1 - (1 : Nat)) : a0 ≠ (0 : Int) := by subst h0; exact Int.ne_of_gt (Int.ofNat_lt.mpr (Nat.lt_of_lt_of_le (by decide) h1))
theorem om275 {a0 : Int} {a1 : Nat} (h0 : a0 = (↑((2 : Nat) ^ a1 - (1 : Nat)) : Int)) : (0 : Int) ≤ a0 := by first | decide | lia | omega
theorem om276 {a0 : Int} : (-1 : Int) * a0 = -a0 := by first | decide | lia | omega
theorem om277 {a0 : Int} {a1 : Nat} (h0 : a0 = (↑((2 : Nat) ^ a1 - (1 : Nat)) : Int)) (h1 : (2 : Nat) ≤ (2 : Nat) ^ a1 - (1 : Nat)) : -a0 < (0 : Int) := by first | decide | lia | omega
theorem om278 {a0 : Int} : (-1 : Int) * -a0 = a0 := by first | decide | lia | omega
theorem om279 {a0 : Int} {a1 : Nat} (h0 : a0 = (↑((2 : Nat) ^ a1 - (1 : Nat)) : Int)) (h1 : (2 : Nat) ≤ (2 : Nat) ^ a1 - (1 : Nat)) : (0 : Int) < a0 := by subst h0; exact Int.ofNat_lt.mpr (Nat.lt_of_lt_of_le (by decide) h1)
theorem om280 {a0 : Int} {a1 a2 : Nat} {a3 : Int} (h0 : a0 = (↑((2 : Nat) ^ a1 - (1 : Nat)) : Int)) (h1 : (↑a2 : Int) = a3) (h2 : a3 < a0) : a2 < (2 : Nat) ^ a1 := by subst h0 h1; exact Nat.lt_of_lt_of_le (Int.ofNat_lt.mp h2) (Nat.sub_le _ _)
theorem om281 {a0 a1 : Int} (h0 : (0 : Int) ≤ a1) (h1 : a1 ≤ a0) : a1.natAbs ≤ a0.natAbs := by obtain ⟨n, rfl⟩ := Int.eq_ofNat_of_zero_le h0; obtain ⟨m, rfl⟩ := Int.eq_ofNat_of_zero_le (Int.le_trans h0 h1); exact Int.ofNat_le.mp h1
theorem om282 {a0 : Int} {a1 : Nat} (h0 : (13 : Int) ≤ a0) : (0 : Int) ≤ (↑a1 : Int) + a0 - (1 : Int) := Int.sub_nonneg_of_le (Int.le_trans (Int.le_trans (by decide) h0) (Int.le_add_of_nonneg_left (Int.natCast_nonneg a1)))
theorem om283 {a0 a1 : Nat} {a2 a3 a4 : Int} (h0 : a0 ≤ a1) (h1 : (↑a1 : Int) = a2) (h2 : a3 = a2 + a4) : (↑a0 : Int) + a4 - (1 : Int) < a3 := by subst h1 h2; exact Int.lt_of_lt_of_le (Int.sub_lt_self _ (by decide)) (Int.add_le_add_right (Int.ofNat_le.mpr h0) a4)
theorem om284 {a0 : Nat} {a1 : Int} {a2 : Nat} (h0 : a1 = (↑a2 : Int)) (h1 : a1 < (↑a0 : Int) + (1 : Int)) : a2 ≤ a0 := by subst h0; exact Int.ofNat_le.mp (Int.le_of_lt_add_one h1)
theorem om285 {a0 : Nat} {a1 a2 : Int} {a3 : Nat} (h0 : (↑a0 : Int) + a1 - (1 : Int) < a2 + a1) (h1 : (↑a3 : Int) = a2) : a0 ≤ a3 := by subst h1; exact Int.ofNat_le.mp (Int.le_of_add_le_add_right (Int.le_of_sub_one_lt h0))
theorem om286 {a0 : Int} : a0.natAbs ≤ ((1 : Int) * a0).natAbs := by rw [Int.one_mul]; exact Nat.le_refl _
theorem om287 {a0 : Int} : a0.natAbs ≤ ((-1 : Int) * a0).natAbs := by rw [Int.neg_mul, Int.one_mul, Int.natAbs_neg]; exact Nat.le_refl _
theorem om288 : (1 : Nat) ≤ (2 : Nat) ^ (20 : Nat) := by first | decide | lia | omega
theorem om289 : (144 : Nat) ≤ (2 : Nat) ^ (20 : Nat) := by first | decide | lia | omega
theorem om290 {a0 a1 : Nat} (h0 : a0 ≤ (9 : Nat)) (h1 : a1 ≤ a0) : a1 ≤ (100000 : Nat) := Nat.le_trans h1 (Nat.le_trans h0 (by decide))
theorem om291 {a0 a1 : Nat} (h0 : a0 ≤ (9 : Nat)) (h1 : a1 ≤ a0) : (16 : Int) * (↑a1 : Int) ≤ (1000000 : Int) := Int.ofNat_le.mpr (Nat.le_trans (Nat.mul_le_mul_left 16 (Nat.le_trans h1 h0)) (by decide))
theorem om292 {a0 : Int} (h0 : (13 : Int) ≤ a0) : (0 : Nat) < a0.toNat := Int.lt_toNat.mpr (Int.lt_of_lt_of_le (by decide) h0)
theorem om293 {a0 a1 : Nat} : ((↑a0 : Int) - (↑a1 : Int)).toNat = a0 - a1 := Int.toNat_sub a0 a1
theorem om294 {a0 : Nat} (h0 : (30 : Nat) < a0) : (30 : Nat) < a0 := h0
theorem om295 {a0 a1 : Nat} (h0 : a0 < a1) : a0 < a1 := by first | decide | lia | omega
theorem om296 {a0 : Nat} (h0 : (37 : Nat) < a0) : (37 : Nat) < a0 := by first | decide | lia | omega
theorem om297 {a0 a1 : Nat} (h0 : a0 ≤ (9 : Nat)) (h1 : a1 < a0) : a1 < (9 : Nat) := Nat.lt_of_lt_of_le h1 h0
theorem om298 {a0 : Nat} (h0 : a0 < (9 : Nat)) : a0 ≤ (8 : Nat) := Nat.le_of_lt_succ h0
theorem om299 {a0 : Int} : (0 : Int) ≤ a0 % (4 : Int) := by first | decide | lia | omega
theorem om300 {a0 : Int} : a0 % (4 : Int) < (4 : Int) := by first | decide | lia | omega
theorem om301 {a0 : Int} (h0 : a0 < (4 : Int)) : a0.toNat < (4 : Nat) := by first | decide | lia | omega
theorem om302 {a0 : Int} (h0 : a0 < (4 : Int)) : a0 < (2 : Int) ^ (63 : Nat) := Int.lt_trans h0 (by decide)
theorem om303 {a0 : Nat} (h0 : a0 ≤ (9 : Nat)) : a0 ≤ (9 : Nat) := by first | decide | lia | omega
theorem om307 {a0 a1 a2 : Nat} (h0 : a0 < a1) (h1 : a1 < a2) : a0 ≠ a2 := Nat.ne_of_lt (Nat.lt_trans h0 h1)
theorem om308 {a0 a1 : Nat} (h0 : (37 : Nat) < a0) (h1 : a0 < a1) : (30 : Nat) ≠ a1 := Nat.ne_of_lt (Nat.lt_trans (by decide : 30 < 37) (Nat.lt_trans h0 h1))
theorem om309 {a0 a1 : Nat} (h0 : (37 : Nat) < a0) (h1 : a0 < a1) : (37 : Nat) ≠ a1 := by first | decide | lia | omega
theorem om310 {a0 : Nat} (h0 : (37 : Nat) < a0) : a0 ≠ (30 : Nat) := by first | decide | lia | omega
theorem om311 {a0 a1 : Nat} (h0 : (37 : Nat) < a0) (h1 : a0 < a1) : a1 ≠ (30 : Nat) := Nat.ne_of_gt (Nat.lt_trans (by decide : 30 < 37) (Nat.lt_trans h0 h1))
theorem om312 {a0 a1 : Nat} (h0 : (37 : Nat) < a0) (h1 : a0 < a1) : a1 ≠ (37 : Nat) := Nat.ne_of_gt (Nat.lt_trans h0 h1)
theorem om313 {a0 a1 : Nat} (h0 : a0 + (200 : Nat) < a1) : a0 + (1 : Nat) < a1 := Nat.lt_of_le_of_lt (Nat.add_le_add_left (by decide : 1 ≤ 200) a0) h0
theorem om314 {a0 : Nat} : a0 < a0 + (5 : Nat) := by first | decide | lia | omega
theorem om315 {a0 a1 : Nat} (h0 : a0 ≤ (9 : Nat)) (h1 : a1 < a0) : a1 + (1 : Nat) ≤ (9 : Nat) := by first | decide | lia | omega
theorem om316 {a0 : Nat} (h0 : (5 : Nat) ≤ a0) : (↑a0 : Int) ≠ (0 : Int) := by first | decide | lia | omega
theorem om317 {a0 a1 : Nat} {a2 a3 : Nat} (h0 : (37 : Nat) < a0) (h1 : a0 < a1) (h2 : a1 < a2) (h3 : a2 < a3) : a3 ≠ (30 : Nat) := Nat.ne_of_gt (Nat.lt_trans (by decide : 30 < 37) (Nat.lt_trans h0 (Nat.lt_trans h1 (Nat.lt_trans h2 h3))))
theorem om318 {a0 a1 : Nat} {a2 a3 : Nat} (h0 : (37 : Nat) < a0) (h1 : a0 < a1) (h2 : a1 < a2) (h3 : a2 < a3) : a3 ≠ (37 : Nat) := Nat.ne_of_gt (Nat.lt_trans h0 (Nat.lt_trans h1 (Nat.lt_trans h2 h3)))
theorem om319 {a0 a1 : Int} (h0 : (-20 : Int) ≤ a0 + a1) : -(2 : Int) ^ (64 : Nat) < a0 + a1 := Int.lt_of_lt_of_le (by decide) h0
theorem om320 {a0 a1 : Int} (h0 : a0 + a1 ≤ (30 : Int)) : a0 + a1 < (2 : Int) ^ (64 : Nat) := Int.lt_of_le_of_lt h0 (by decide)
theorem om321 {a0 : Nat} : -(2 : Int) ^ (64 : Nat) < (↑a0 : Int) := Int.lt_of_lt_of_le (by decide) (Int.natCast_nonneg a0)
theorem om322 {a0 : Nat} (h0 : a0 ≤ (9 : Nat)) : (↑a0 : Int) < (2 : Int) ^ (64 : Nat) := Int.lt_of_le_of_lt (Int.ofNat_le.mpr h0) (by decide)
theorem om323 {a0 a1 : Int} {a2 : Nat} (h0 : (-20 : Int) ≤ a0) (h1 : (0 : Int) ≤ a1) (h2 : a1 < (↑a2 : Int)) : (-20 : Int) * (↑a2 : Int) ≤ a0 := by first | decide | lia | omega
theorem om324 {a0 a1 : Int} {a2 : Nat} (h0 : a0 ≤ (30 : Int)) (h1 : (0 : Int) ≤ a1) (h2 : a1 < (↑a2 : Int)) : a0 < (31 : Int) * (↑a2 : Int) := Int.lt_of_lt_of_le (Int.lt_of_le_of_lt h0 (by decide : (30 : Int) < 31 * 1)) (Int.mul_le_mul_of_nonneg_left (Int.lt_of_le_of_lt h1 h2) (by decide))
theorem om325 {a0 : Int} (h0 : a0 < (31 : Int)) : a0 ≤ (30 : Int) := Int.le_of_lt_add_one h0
theorem om326 {a0 : Int} (h0 : (-20 : Int) ≤ a0 ∧ a0 ≤ (30 : Int)) : -(2 : Int) ^ (64 : Nat) < a0 := Int.lt_of_lt_of_le (by decide) h0.1
theorem om327 {a0 : Int} (h0 : (-20 : Int) ≤ a0 ∧ a0 ≤ (30 : Int)) : a0 < (2 : Int) ^ (64 : Nat) := Int.lt_of_le_of_lt h0.2 (by decide)
theorem om328 {a0 a1 : Nat} {a2 : Prop} (h0 : a0 < a1 ∧ a2) : a1 ≠ a0 := Nat.ne_of_gt h0.1
theorem om329 {a0 a1 : Nat} (h0 : a0 ≤ (5 : Nat)) (h1 : a1 < a0) : a1 ≤ (5 : Nat) := Nat.le_trans (Nat.le_of_lt h1) h0
theorem om330 {a0 a1 : Nat} (h0 : a0 + (1 : Nat) + (1 : Nat) + (1 : Nat) + (1 : Nat) < a1) : a0 + (1 : Nat) + (1 : Nat) + (1 : Nat) + (1 : Nat) < a1 := h0
theorem om331 {a0 a1 : Nat} (h0 : a0 + (1 : Nat) + (1 : Nat) < a1) : a0 + (1 : Nat) + (1 : Nat) < a1 := h0
theorem om332 {a0 a1 : Nat} (h0 : a0 + (1 : Nat) < a1) : a0 + (1 : Nat) < a1 := h0
theorem om333 {a0 : Nat} : a0 + (1 : Nat) + (1 : Nat) ≠ a0 + (1 : Nat) + (1 : Nat) + (1 : Nat) := by first | decide | lia | omega
theorem om334 {a0 : Nat} : a0 + (1 : Nat) ≠ a0 + (1 : Nat) + (1 : Nat) + (1 : Nat) := by first | decide | lia | omega
theorem om335 {a0 a1 : Nat} (h0 : a0 < a1) : a0 ≠ a1 + (1 : Nat) + (1 : Nat) + (1 : Nat) := Nat.ne_of_lt (Nat.lt_of_lt_of_le h0 (Nat.le_add_right a1 3))
theorem om336 {a0 : Nat} : a0 + (1 : Nat) + (1 : Nat) ≠ a0 + (1 : Nat) + (1 : Nat) + (1 : Nat) + (1 : Nat) := by first | decide | lia | omega
theorem om337 {a0 : Nat} : a0 + (1 : Nat) ≠ a0 + (1 : Nat) + (1 : Nat) + (1 : Nat) + (1 : Nat) := by first | decide | lia | omega
theorem om338 {a0 a1 : Nat} (h0 : a0 < a1) : a0 ≠ a1 + (1 : Nat) + (1 : Nat) + (1 : Nat) + (1 : Nat) := Nat.ne_of_lt (Nat.lt_of_lt_of_le h0 (Nat.le_add_right a1 4))
theorem om339 {a0 : Nat} : ((↑a0 : Int) - (1 : Int)).toNat = a0 - (1 : Nat) := Int.toNat_sub a0 1
theorem om340 {a0 a1 : Nat} (h0 : a0 + (1 : Nat) + (1 : Nat) + (1 : Nat) + (1 : Nat) < a1) : a0 + (1 : Nat) + (1 : Nat) + (1 : Nat) ≠ a1 := Nat.ne_of_lt (Nat.lt_of_succ_lt h0)
theorem om341 {a0 a1 : Nat} (h0 : a0 + (1 : Nat) + (1 : Nat) + (1 : Nat) + (1 : Nat) < a1) : a0 + (1 : Nat) + (1 : Nat) + (1 : Nat) + (1 : Nat) ≠ a1 := Nat.ne_of_lt h0
theorem om342 {a0 : Nat} (h0 : a0 ≤ (9 : Nat)) : a0 ≤ (100000 : Nat) := by first | decide | lia | omega
theorem om343 {a0 : Nat} (h0 : (5 : Nat) ≤ a0) : (1 : Nat) ≤ a0 := by first | decide | lia | omega
theorem om344 {a0 a1 a2 : Nat} (h0 : a0 + (1 : Nat) + (1 : Nat) + (1 : Nat) + (1 : Nat) < a1) (h1 : a1 < a2) : a0 + (1 : Nat) + (1 : Nat) + (1 : Nat) + (1 : Nat) < a2 := Nat.lt_trans h0 h1
theorem om345 {a0 a1 : Int} (h0 : a0 + (1 : Int) = a1) : a1 - a0 = (1 : Int) := by subst h0; rw [Int.add_comm, Int.add_sub_cancel]
theorem om346 {a0 a1 : Int} (h0 : a0 + (1 : Int) = a1) : (a1 - a0).toNat = (1 : Nat) := by subst h0; rw [Int.add_comm, Int.add_sub_cancel]; rfl
theorem om347 {a0 a1 : Int} {a2 : Nat} (h0 : (0 : Int) ≤ a0) (h1 : a1 ≤ (↑a2 : Int)) (h2 : a0 + (1 : Int) = a1) : a0.toNat < a2 := (Int.toNat_lt h0).mpr (Int.lt_of_lt_of_le (by rw [← h2]; exact Int.lt_succ a0) h1)
theorem om348 {a0 a1 : Int} (h0 : a0 < a1) (h1 : a0 + (1 : Int) ≠ a1) : a0 + (1 : Int) < a1 := Int.lt_iff_le_and_ne.mpr ⟨h0, h1⟩
theorem om349 {a0 : Nat} : a0 + (1 : Nat) = a0 + (1 : Nat) - (1 : Nat) + (1 : Nat) := by first | decide | lia | omega
theorem om350 {a0 a1 : Int} (h0 : a0 < a1) : -(2 : Int) ^ (64 : Nat) < a1 - a0 := Int.lt_trans (by decide : -(2 : Int) ^ 64 < 0) (Int.sub_pos_of_lt h0)
theorem om351 {a0 a1 : Int} {a2 : Nat} {a3 : Int} (h0 : (0 : Int) ≤ a0) (h1 : a1 ≤ (↑a2 : Int)) (h2 : (↑a2 : Int) ≤ (100000 : Int)) (h3 : a3 < a1) : a3 - a0 < (2 : Int) ^ (64 : Nat) := Int.lt_of_le_of_lt (Int.sub_le_self a3 h0) (Int.lt_trans h3 (Int.lt_of_le_of_lt (Int.le_trans h1 h2) (by decide)))
theorem om352 {a0 a1 : Int} (h0 : a0 < a1) : (0 : Int) ≤ a1 - a0 := by first | decide | lia | omega
theorem om353 {a0 : Int} (h0 : (0 : Int) < a0) : (0 : Int) ≤ a0 := by first | decide | lia | omega
theorem om354 {a0 a1 a2 : Int} (h0 : a0 < a1) : a0 - a2 ≤ a1 - a2 := Int.sub_le_sub_right (Int.le_of_lt h0) a2
theorem om355 {a0 a1 : Int} (h0 : a0 ≤ (1000000 : Int)) (h1 : a1 ≤ a0) : a1 ≤ (1000000 : Int) := Int.le_trans h1 h0
theorem om356 {a0 a1 : Int} (h0 : a0 + (1 : Int) < a1) : (0 : Int) ≤ a1 - a0 := Int.sub_nonneg_of_le (Int.le_of_lt (Int.lt_trans (Int.lt_add_of_pos_right a0 (by decide)) h0))
theorem om357 {a0 : Int} {a1 : Nat} (h0 : a0 ≤ (1000000 : Int)) (h1 : (↑a1 : Int) = a0) : a1 ≤ (1000000 : Nat) := by subst h1; exact Int.ofNat_le.mp h0
theorem om358 {a0 : Int} : a0.toNat ≤ a0.natAbs := by cases a0 with | ofNat n => exact Nat.le_refl _ | negSucc n => exact Nat.zero_le _
theorem om359 {a0 : Int} {a1 : Nat} (h0 : a0 ≤ (1000000 : Int)) (h1 : a1 ≤ (1000000 : Nat)) : (↑a1 : Int) + a0 ≤ (2 : Int) ^ (27 : Nat) := Int.le_trans (Int.add_le_add (Int.ofNat_le.mpr h1) h0) (by decide)
theorem om360 {a0 : Nat} : a0 < a0 + (1 : Nat) := by first | decide | lia | omega
theorem om361 {a0 a1 a2 : Nat} (h0 : a0 + (2 : Nat) * (a1 + (1 : Nat)) + (20 : Nat) < a2) : a0 + (1 : Nat) + (2 : Nat) * a1 + (20 : Nat) < a2 := mlin2 h0 (by decide)
theorem om362 {a0 a1 a2 : Nat} (h0 : a0 + (20 : Nat) * (a1 + (1 : Nat)) + (100 : Nat) < a2) : a0 + (3 : Nat) + (20 : Nat) * a1 + (100 : Nat) < a2 := mlin2 h0 (by decide)
theorem om363 {a0 : Int} {a1 : Nat} {a2 : Int} (h0 : a0 ≤ (↑a1 : Int)) (h1 : a2 < a0) : a2 ≤ (↑a1 : Int) := Int.le_trans (Int.le_of_lt h1) h0
theorem om364 {a0 : Int} (h0 : a0 ≤ (1000000 : Int)) : a0 ≤ (1000000 : Int) := h0
theorem om365 {a0 a1 : Int} {a2 : Nat} {a3 : Int} (h0 : (0 : Int) ≤ a0) (h1 : a1 ≤ (↑a2 : Int)) (h2 : a0 < a3) (h3 : a3 < a1) : a0.toNat + (a3 - a0).toNat ≤ a2 := by rw [← tnA h0 (Int.le_of_lt h2)]; exact Int.toNat_le.mpr (Int.le_trans (Int.le_of_lt h3) h1)
theorem om366 {a0 a1 a2 : Int} (h0 : a0 < a2) (h1 : a2 < a1) : (a1 - a0).toNat = (a2 - a0).toNat + (a1 - a2).toNat := by rw [← Int.toNat_add (Int.sub_nonneg_of_le (Int.le_of_lt h0)) (Int.sub_nonneg_of_le (Int.le_of_lt h1))]; congr 1; lia
theorem om367 {a0 a1 : Int} (h0 : (0 : Int) ≤ a0) (h1 : a0 < a1) : (0 : Int) ≤ a1 := Int.le_trans h0 (Int.le_of_lt h1)
theorem om368 {a0 : Int} {a1 a2 : Nat} (h0 : a0 ≤ (↑a1 : Int)) (h1 : a2 = a1) : a0 ≤ (↑a2 : Int) := by subst h1; exact h0
theorem om369 {a0 a1 : Nat} (h0 : (↑a0 : Int) ≤ (100000 : Int)) (h1 : a1 = a0) : (↑a1 : Int) ≤ (100000 : Int) := by subst h1; exact h0
theorem om370 {a0 a1 a2 : Int} (h0 : a0 < a1) : a2 - a1 ≤ a2 - a0 := Int.sub_le_sub_left (Int.le_of_lt h0) a2
theorem om373 {a0 : Nat} : (1 : Nat) ≤ a0 + (1 : Nat) := by first | decide | lia | omega
theorem om374 {a0 : Nat} {a1 : Int} (h0 : (1 : Nat) ≤ a0) : (1 : Int) * a1 ≤ (↑a0 : Int) + a1 - (1 : Int) := by first | decide | lia | omega
theorem om375 {a0 : Nat} {a1 : Int} (h0 : a1 = (↑a0 : Int)) (h1 : (1 : Int) ≤ a1) : (1 : Nat) ≤ a0 := by subst h0; exact Int.ofNat_le.mp h1
theorem om376 {a0 : Nat} {a1 a2 : Int} (h0 : (↑a0 : Int) + a1 - (1 : Int) < a2 + a1) : (↑a0 : Int) ≤ a2 := Int.le_of_add_le_add_right (Int.le_of_sub_one_lt h0)
theorem om377 {a0 a1 : Nat} (h0 : a0 + (60 : Nat) < a1) : a0 + (1 : Nat) + (2 : Nat) * (17 : Nat) + (20 : Nat) < a1 := Nat.lt_of_le_of_lt (Nat.add_le_add_left (by decide : 55 ≤ 60) a0) h0
theorem om378 {a0 a1 : Nat} (h0 : a0 + (600 : Nat) < a1) : a0 + (3 : Nat) + (20 : Nat) * (17 : Nat) + (100 : Nat) < a1 := Nat.lt_of_le_of_lt (Nat.add_le_add_left (by decide : 443 ≤ 600) a0) h0
theorem om379 {a0 : Nat} : (↑a0 : Int) ≤ (↑a0 : Int) := by first | decide | lia | omega
theorem om380 {a0 : Int} (h0 : (0 : Int) ≤ a0) : a0.natAbs = a0.toNat := by obtain ⟨n, rfl⟩ := Int.eq_ofNat_of_zero_le h0; rfl
theorem om381 {a0 : Nat} {a1 : Int} {a2 : Nat} (h0 : (↑a0 : Int) ≤ a1) (h1 : (↑a2 : Int) = a1) : a0 ≤ a2 := by subst h1; exact Int.ofNat_le.mp h0
theorem om382 {a0 : Int} (h0 : (0 : Int) < a0) : (0 : Int) ≤ (↑(0 : Nat) : Int) + a0 - (1 : Int) := by rw [Int.sub_eq_add_neg]; exact Int.sub_nonneg_of_le (by rw [Int.natCast_zero, Int.zero_add]; exact h0)
theorem om383 {a0 : Int} : (↑(0 : Nat) : Int) + a0 - (1 : Int) < a0 := by first | decide | lia | omega
theorem om384 {a0 : Nat} (h0 : (0 : Int) = (↑a0 : Int)) : a0 = (0 : Nat) := by first | decide | lia | omega
theorem om385 {a0 a1 : Int} (h0 : (0 : Int) ≤ a0) (h1 : a0 + (1 : Int) = a1) : a1.toNat = a0.toNat + (1 : Nat) := by rw [← h1]; exact Int.toNat_add h0 (by decide)
theorem om386 {a0 a1 a2 : Int} (h0 : (0 : Int) ≤ a0) (h1 : a0 < a2) : a1.toNat - a2.toNat = (a1 - a2).toNat := tnB (Int.le_trans h0 (Int.le_of_lt h1))
theorem om387 {a0 : Int} {a1 : Nat} (h0 : (0 : Int) ≤ a0 ∧ a0 < (2 : Int) ^ a1) (h1 : (↑((2 : Nat) ^ a1) : Int) = (2 : Int) ^ a1) : a0.natAbs < (2 : Nat) ^ a1 := by obtain ⟨n, rfl⟩ := Int.eq_ofNat_of_zero_le h0.1; have h := h0.2; rw [← h1] at h; exact Int.ofNat_lt.mp h
theorem om388 {a0 : Int} {a1 : Nat} {a2 : Int} (h0 : a0 ≤ (1000000 : Int)) (h1 : (↑a1 : Int) = a2) (h2 : a2 ≤ a0) : a1 ≤ (1000000 : Nat) := by subst h1; exact Int.ofNat_le.mp (Int.le_trans h2 h0)
theorem om389 {a0 : Int} {a1 : Nat} {a2 : Int} (h0 : a0 ≤ (↑a1 : Int)) (h1 : a2 < a0) : a2.toNat ≤ a1 := Int.toNat_le.mpr (Int.le_of_lt (Int.lt_of_lt_of_le h1 h0))
theorem om390 {a0 a1 : Int} (h0 : (0 : Int) ≤ a0) : a1.toNat - a0.toNat = (a1 - a0).toNat := tnB h0
theorem om391 {a0 a1 : Int} (h0 : a0 < a1) : a0.toNat ≤ a1.toNat := Int.toNat_le_toNat (Int.le_of_lt h0)
theorem om392 {a0 a1 : Int} (h0 : a1 < a0) : a1.toNat ≤ a0.toNat := Int.toNat_le_toNat (Int.le_of_lt h0)
theorem om393 {a0 : Nat} (h0 : (↑a0 : Int) ≤ (100000 : Int)) : (↑a0 : Int) ≤ (100000 : Int) := by first | decide | lia | omega
theorem om394 {a0 : Nat} (h0 : (↑a0 : Int) ≤ (100000 : Int)) : (↑a0 : Int) - (0 : Int) ≤ (2 : Int) ^ (17 : Nat) := by first | decide | lia | omega
theorem om395 {a0 : Int} (h0 : (0 : Int) < a0) : ¬a0 = (0 : Int) := by first | decide | lia | omega
theorem om396 {a0 a1 a2 : Nat} (h0 : (1 : Nat) ≤ a1) (h1 : a2 = a1) : (0 : Int) ≤ (↑a0 : Int) + (↑a2 : Int) - (1 : Int) := by subst h1; exact Int.sub_nonneg_of_le (Int.ofNat_le.mpr (Nat.le_trans h0 (Nat.le_add_left _ a0)))
theorem om397 {a0 a1 : Nat} (h0 : (1 : Nat) ≤ a0) (h1 : a1 = a0) : (↑a1 : Int) ≠ (0 : Int) := by subst h1; exact Int.ne_of_gt (Int.ofNat_lt.mpr h0)
theorem om398 {a0 a1 a2 : Nat} {a3 : Int} (h0 : a0 ≤ (50000 : Nat)) (h1 : a1 ≤ (4000 : Nat)) (h2 : a2 = a1) (h3 : a3 ≤ (↑a0 : Int) + (↑a2 : Int) - (1 : Int)) : a3 ≤ (60000 : Int) := by subst h2; exact Int.le_trans h3 (Int.le_trans (Int.sub_le_self _ (by decide)) (Int.le_trans (Int.add_le_add (Int.ofNat_le.mpr h0) (Int.ofNat_le.mpr h1)) (by decide)))
theorem om399 {a0 a1 : Nat} (h0 : (1 : Nat) ≤ a0) (h1 : a1 = a0) : (1 : Int) ≤ (↑a1 : Int) := by subst h1; exact Int.ofNat_le.mpr h0
theorem om400 {a0 : Int} {a1 : Nat} (h0 : a0 ≤ (60000 : Int)) (h1 : (1 : Int) * (↑a1 : Int) ≤ a0) : a1 ≤ (100000 : Nat) := by rw [Int.one_mul] at h1; exact Int.ofNat_le.mp (Int.le_trans h1 (Int.le_trans h0 (by decide)))
theorem om401 {a0 a1 : Nat} (h0 : a0 + (100 : Nat) < a1) : a0 + (1 : Nat) + (60 : Nat) < a1 := Nat.lt_of_le_of_lt (Nat.add_le_add_left (by decide : 61 ≤ 100) a0) h0
theorem om402 {a0 a1 : Nat} (h0 : a0 + (1000 : Nat) < a1) : a0 + (3 : Nat) + (600 : Nat) < a1 := Nat.lt_of_le_of_lt (Nat.add_le_add_left (by decide : 603 ≤ 1000) a0) h0
theorem om403 {a0 a1 : Nat} (h0 : (1 : Nat) ≤ a0) (h1 : a1 = a0) : (0 : Int) < (↑a1 : Int) := by subst h1; exact Int.ofNat_lt.mpr h0
theorem om404 {a0 a1 : Nat} (h0 : a0 ≤ (4000 : Nat)) (h1 : a1 = a0) : (↑a1 : Int) ≤ (4000 : Int) := by subst h1; exact Int.ofNat_le.mpr h0
theorem om405 {a0 : Int} (h0 : a0 ≤ (60000 : Int)) : a0 ≤ (1000000 : Int) := by first | decide | lia | omega
theorem om406 {a0 a1 a2 : Nat} (h0 : a0 = a1) (h1 : a2 < a0) : a1 - (1 : Nat) - a2 < a1 := by subst h0; exact Nat.lt_of_le_of_lt (Nat.sub_le _ _) (Nat.sub_lt (Nat.lt_of_le_of_lt (Nat.zero_le _) h1) Nat.one_pos)
theorem om407 {a0 : Int} (h0 : (0 : Int) < a0) : (0 : Nat) < a0.toNat := Int.lt_toNat.mpr h0
theorem om408 {a0 : Int} {a1 : Nat} (h0 : a0.natAbs < (2 : Nat) ^ a1) : a0.toNat < (2 : Nat) ^ a1 := by refine Nat.lt_of_le_of_lt ?_ h0; cases a0 with | ofNat n => exact Nat.le_refl _ | negSucc n => exact Nat.zero_le _
theorem om409 {a0 : Nat} {a1 : Int} {a2 : Nat} (h0 : a0 < a1.toNat) (h1 : a1.toNat < (2 : Nat) ^ a2) : a0 < (2 : Nat) ^ a2 := Nat.lt_trans h0 h1
theorem om410 {a0 : Nat} {a1 : Int} (h0 : a0 < a1.toNat) : (0 : Nat) < a1.toNat := Nat.lt_of_le_of_lt (Nat.zero_le _) h0
theorem om411 {a0 : Int} {a1 : Nat} (h0 : a0.toNat < (2 : Nat) ^ a1) : a0.toNat ≤ (2 : Nat) ^ a1 := Nat.le_of_lt h0
theorem om412 {a0 a1 : Nat} (h0 : a0 + (100 : Nat) < a1) : a0 + (1 : Nat) + (10 : Nat) < a1 := Nat.lt_of_le_of_lt (Nat.add_le_add_left (by decide : 11 ≤ 100) a0) h0
theorem om413 {a0 a1 : Nat} (h0 : a0 + (1000 : Nat) < a1) : a0 + (3 : Nat) + (80 : Nat) < a1 := Nat.lt_of_le_of_lt (Nat.add_le_add_left (by decide : 83 ≤ 1000) a0) h0
theorem om414 {a0 : Int} (h0 : (0 : Int) < a0) : a0 ≠ (0 : Int) := Int.ne_of_gt h0
theorem om415 {a0 a1 a2 : Nat} (h0 : a0 ≤ (4000 : Nat)) (h1 : a1 = a0) (h2 : a2 ≤ a1 + a1) : (↑a2 : Int) - (↑a1 : Int) ≤ (4000 : Int) := Int.sub_left_le_of_le_add (Int.le_trans (Int.ofNat_le.mpr h2) (Int.add_le_add_left (Int.ofNat_le.mpr (by rw [h1]; exact h0)) _))
theorem om416 {a0 : Int} (h0 : (0 : Int) < a0) : a0.natAbs ≠ (0 : Nat) := Int.natAbs_ne_zero.mpr (Int.ne_of_gt h0)
theorem om417 {a0 a1 : Nat} (h0 : a0 ≤ (4000 : Nat)) (h1 : a1 = a0) : a1 ≤ (9000 : Nat) := by subst h1; exact Nat.le_trans h0 (by decide)
theorem om418 {a0 a1 : Nat} (h0 : a0 ≤ (100000 : Nat)) (h1 : a1 = a0) : a1 ≤ (16777216 : Nat) := by subst h1; exact Nat.le_trans h0 (by decide)
theorem om419 {a0 : Nat} (h0 : a0 ≤ (100000 : Nat)) : (↑a0 : Int) ≤ (100000 : Int) := Int.ofNat_le.mpr h0
theorem om420 {a0 a1 : Int} {a2 a3 : Int} (h0 : -a0 + a1 = -a2) (h1 : a0 + a3 = a2) : -a1 = a3 := by first | decide | lia | omega
theorem om421 {a0 a1 : Int} {a2 a3 : Int} (h0 : a0 + a1 = -a2 - (1 : Int)) : a3 + (-a1 - (1 : Int)) + (-a0 - a3 * (1 : Int)) = a2 := by first | decide | lia | omega
theorem om422 {a0 a1 : Int} (h0 : a0 < a1) : (0 : Int) ≤ a1 + (-a0 - (1 : Int)) := by rw [Int.sub_eq_add_neg, ← Int.neg_add]; exact Int.sub_nonneg_of_le h0
theorem om423 {a0 a1 : Int} (h0 : (0 : Int) ≤ a0) : a1 + (-a0 - (1 : Int)) < a1 := by first | decide | lia | omega
theorem om424 {a0 : Int} (h0 : a0 < (0 : Int)) : a0 < (0 : Int) := by first | decide | lia | omega
theorem om425 {a0 a1 : Nat} (h0 : (2 : Nat) + a0 ≤ a1) : a1 - (1 : Nat) < a1 := Nat.sub_lt (Nat.lt_of_lt_of_le (Nat.lt_of_lt_of_le (by decide) (Nat.le_add_right 2 a0)) h0) Nat.one_pos
theorem om426 {a0 a1 : Nat} {a2 a3 : Nat} (h0 : (2 : Nat) + a0 ≤ a1) (h1 : a2 + (110 : Nat) + (5 : Nat) * a1 < a3) : a2 + (1 : Nat) + (110 : Nat) + (5 : Nat) * (a1 - (1 : Nat)) < a3 := by obtain ⟨n, rfl⟩ := Nat.exists_eq_add_of_le' (Nat.le_trans (Nat.le_trans (by decide : 1 ≤ 2) (Nat.le_add_right 2 a0)) h0); exact mlin (q := 111) h1 (by decide)
theorem om427 {a0 a1 : Nat} {a2 a3 : Nat} (h0 : (2 : Nat) + a0 ≤ a1) (h1 : a2 + (1100 : Nat) + (20 : Nat) * a1 < a3) : a2 + (3 : Nat) + (1100 : Nat) + (20 : Nat) * (a1 - (1 : Nat)) < a3 := by obtain ⟨n, rfl⟩ := Nat.exists_eq_add_of_le' (Nat.le_trans (Nat.le_trans (by decide : 1 ≤ 2) (Nat.le_add_right 2 a0)) h0); exact mlin (q := 1103) h1 (by decide)
theorem om428 {a0 : Int} (h0 : a0 < (0 : Int)) : -a0 ≠ (0 : Int) := Int.neg_ne_zero.mpr (Int.ne_of_lt h0)
theorem om429 {a0 : Int} (h0 : a0 < (0 : Int)) : ¬-a0 < (0 : Int) := by first | decide | lia | omega
theorem om430 {a0 : Nat} (h0 : (2 : Nat) + (0 : Nat) ≤ a0) : (0 : Nat) + (1 : Nat) ≤ a0 - (1 : Nat) := Nat.le_sub_of_add_le h0
theorem om431 {a0 : Nat} : (0 : Nat) + (0 : Nat) ≤ a0 - (1 : Nat) := by first | decide | lia | omega
theorem om432 {a0 : Int} : (-a0).natAbs ≤ a0.natAbs := Nat.le_of_eq (Int.natAbs_neg a0)
theorem om433 {a0 : Int} (h0 : a0 ≠ (0 : Int)) (h1 : ¬a0 < (0 : Int)) : (0 : Int) < a0 := Int.lt_iff_le_and_ne.mpr ⟨Int.not_lt.mp h1, Ne.symm h0⟩
theorem om434 {a0 : Int} (h0 : ¬a0 < (0 : Int)) : ¬a0 < (0 : Int) := by first | decide | lia | omega
theorem om435 {a0 : Int} : -a0 - (1 : Int) = -a0 - (1 : Int) := by first | decide | lia | omega
theorem om436 {a0 : Nat} (h0 : (0 : Nat) + (1 : Nat) ≤ a0) : a0 - (1 : Nat) < a0 := Nat.sub_lt h0 Nat.one_pos
theorem om437 {a0 a1 a2 : Nat} (h0 : (0 : Nat) + (1 : Nat) ≤ a0) (h1 : a1 + (110 : Nat) + (5 : Nat) * a0 < a2) : a1 + (1 : Nat) + (110 : Nat) + (5 : Nat) * (a0 - (1 : Nat)) < a2 := by obtain ⟨n, rfl⟩ := Nat.exists_eq_add_of_le' h0; exact mlin (q := 111) h1 (by decide)
theorem om438 {a0 a1 a2 : Nat} (h0 : (0 : Nat) + (1 : Nat) ≤ a0) (h1 : a1 + (1100 : Nat) + (20 : Nat) * a0 < a2) : a1 + (3 : Nat) + (1100 : Nat) + (20 : Nat) * (a0 - (1 : Nat)) < a2 := by obtain ⟨n, rfl⟩ := Nat.exists_eq_add_of_le' h0; exact mlin (q := 1103) h1 (by decide)
theorem om439 {a0 : Int} (h0 : a0 ≠ (0 : Int)) : a0 ≠ (0 : Int) := by first | decide | lia | omega
theorem om440 {a0 : Int} (h0 : a0 < (0 : Int)) : ¬-a0 - (1 : Int) < (0 : Int) := by first | decide | lia | omega
theorem om441 {a0 : Int} (h0 : a0 < (0 : Int)) : (-a0 - (1 : Int)).natAbs ≤ a0.natAbs := by
  obtain ⟨n, rfl⟩ := Int.eq_negSucc_of_lt_zero h0
  have e : -(Int.negSucc n) - 1 = (n : Int) := Int.add_sub_cancel (n : Int) 1
  rw [e]; exact Nat.le_succ n
theorem om442 {a0 : Int} (h0 : ¬a0 < (0 : Int)) : (0 : Int) ≤ a0 := by first | decide | lia | omega
theorem om443 {a0 a1 a2 : Nat} (h0 : a1 + (110 : Nat) + (5 : Nat) * a0 < a2) : a1 + (1 : Nat) + (100 : Nat) < a2 := Nat.lt_of_le_of_lt (Nat.le_trans (Nat.add_le_add_left (by decide : 101 ≤ 110) a1) (Nat.le_add_right _ _)) h0
theorem om444 {a0 a1 a2 : Nat} (h0 : a1 + (1100 : Nat) + (20 : Nat) * a0 < a2) : a1 + (3 : Nat) + (1000 : Nat) < a2 := Nat.lt_of_le_of_lt (Nat.le_trans (Nat.add_le_add_left (by decide : 1003 ≤ 1100) a1) (Nat.le_add_right _ _)) h0
theorem om445 {a0 : Nat} (h0 : a0 ≤ (50000 : Nat)) : a0 ≤ (50000 : Nat) := by first | decide | lia | omega
theorem om446 {a0 a1 a2 : Nat} (h0 : ¬a0 < a1) (h1 : a2 = a1) : a2 ≤ a0 := by subst h1; exact Nat.le_of_not_lt h0
theorem om447 {a0 : Nat} : min (60 : Nat) a0 ≤ (16777216 : Nat) := Nat.le_trans (Nat.min_le_left _ _) (by decide)
theorem om448 {a0 : Nat} (h0 : a0 < (3 : Nat)) : a0 = (0 : Nat) ∨ a0 = (1 : Nat) ∨ a0 = (2 : Nat) := by revert a0; decide
theorem om449 {a0 : Int} : (5 : Int) + a0 % (3 : Int) * (2 : Int) = (5 : Int) ∨ (5 : Int) + a0 % (3 : Int) * (2 : Int) = (7 : Int) ∨ (5 : Int) + a0 % (3 : Int) * (2 : Int) = (9 : Int) := by
  have h1 := Int.emod_nonneg a0 (by decide : (3 : Int) ≠ 0)
  have h2 := Int.emod_lt_of_pos a0 (by decide : (0 : Int) < 3)
  generalize a0 % 3 = r at *
  obtain ⟨n, rfl⟩ := Int.eq_ofNat_of_zero_le h1
  have h3 : n < 3 := Int.ofNat_lt.mp h2
  clear h1 h2; revert n; decide
theorem om450 {a0 : Int} : (3 : Int) + a0 % (2 : Int) * (2 : Int) = (3 : Int) ∨ (3 : Int) + a0 % (2 : Int) * (2 : Int) = (5 : Int) := by
  have h1 := Int.emod_nonneg a0 (by decide : (2 : Int) ≠ 0)
  have h2 := Int.emod_lt_of_pos a0 (by decide : (0 : Int) < 2)
  generalize a0 % 2 = r at *
  obtain ⟨n, rfl⟩ := Int.eq_ofNat_of_zero_le h1
  have h3 : n < 2 := Int.ofNat_lt.mp h2
  clear h1 h2; revert n; decide
theorem om451 {a0 : Int} : (13 : Int) ≤ (13 : Int) + a0 % (4 : Int) := by first | decide | lia | omega
theorem om452 {a0 : Int} : (13 : Int) + a0 % (4 : Int) ≤ (16 : Int) := by first | decide | lia | omega
theorem om453 {a0 a1 a2 : Nat} (h0 : a0 = a1) (h1 : a1 ≤ (9 : Nat)) (h2 : a2 ≤ a0) : (↑a2 : Int) ≤ (9 : Int) := Int.ofNat_le.mpr (Nat.le_trans h2 (by rw [h0]; exact h1))
theorem om454 {a0 : Nat} (h0 : (↑a0 : Int) ≤ (9 : Int)) : (↑a0 : Int) ≤ (100000 : Int) := by first | decide | lia | omega
theorem om455 {a0 a1 a2 : Nat} (h0 : a0 = a1) (h1 : a2 < a1) : min a2 a0 = a2 := by subst h0; exact Nat.min_eq_left (Nat.le_of_lt h1)
theorem om456 : (0 : Int) ≤ (0 : Int) := by first | decide | lia | omega
theorem om457 {a0 a1 a2 : Int} (h0 : a0 - a1 = (1 : Int) - a2) (h1 : a2 = (0 : Int)) : a1 ≤ a0 := by subst h1; exact Int.le_of_sub_nonneg (by rw [h0]; decide)
theorem om458 {a0 a1 a2 : Int} (h0 : a0 - a1 = (1 : Int) - a2) (h1 : a2 = (1 : Int)) : a1 ≤ a0 := by subst h1; exact Int.le_of_sub_nonneg (by rw [h0]; decide)
theorem om459 {a0 : Int} (h0 : (0 : Int) ≤ a0) : (0 : Int) ≤ a0 := by first | decide | lia | omega
theorem om460 {a0 : Int} {a1 : Nat} (h0 : a0 ≤ (↑a1 : Int)) : a0 ≤ (↑a1 : Int) := h0
theorem om461 {a0 : Int} (h0 : (0 : Int) ≤ a0) : (0 : Int) ≤ a0 / (2 : Int) ∧ a0 / (2 : Int) ≤ a0 := by exact ⟨Int.ediv_nonneg h0 (by decide), Int.ediv_le_self 2 h0⟩
theorem om462 {a0 : Int} {a1 : Nat} {a2 : Int} (h0 : a0 ≤ (↑a1 : Int)) (h1 : a2 ≤ a0) : a2 ≤ (↑a1 : Int) := Int.le_trans h1 h0
theorem om463 {a0 a1 : Nat} (h0 : a0 = a1) (h1 : a1 ≤ (9 : Nat)) : a0 ≤ (100000 : Nat) := by subst h0; exact Nat.le_trans h1 (by decide)
theorem om464 {a0 : Nat} (h0 : a0 = (5 : Nat)) : (5 : Nat) ≤ a0 := by first | decide | lia | omega
theorem om465 {a0 : Nat} (h0 : a0 = (7 : Nat)) : (5 : Nat) ≤ a0 := by first | decide | lia | omega
theorem om466 {a0 : Nat} (h0 : a0 = (9 : Nat)) : (5 : Nat) ≤ a0 := by first | decide | lia | omega
theorem om467 {a0 : Nat} (h0 : a0 = (5 : Nat)) : a0 ≤ (9 : Nat) := by first | decide | lia | omega
theorem om468 {a0 : Nat} (h0 : a0 = (7 : Nat)) : a0 ≤ (9 : Nat) := by first | decide | lia | omega
theorem om469 {a0 : Nat} (h0 : a0 = (9 : Nat)) : a0 ≤ (9 : Nat) := Nat.le_of_eq h0
theorem om470 {a0 a1 : Nat} (h0 : a0 = a1) (h1 : (5 : Nat) ≤ a1) : (5 : Nat) ≤ a0 := by subst h0; exact h1
theorem om471 {a0 a1 : Nat} (h0 : a0 = a1) (h1 : a1 ≤ (9 : Nat)) : a0 ≤ (9 : Nat) := by first | decide | lia | omega
theorem om472 {a0 : Int} (h0 : (-1048576 : Int) < a0) (h1 : a0 < (1048576 : Int)) : a0.natAbs < (2 : Nat) ^ (20 : Nat) := by first | decide | lia | omega
theorem om473 {a0 a1 : Int} (h0 : (0 : Int) ≤ a0) (h1 : a0 < a1) : a1 ≠ (0 : Int) := Int.ne_of_gt (Int.lt_of_le_of_lt h0 h1)
theorem om474 {a0 : Int} (h0 : (5 : Int) ≤ a0) : -a0 < (0 : Int) := Int.neg_neg_of_pos (Int.lt_of_lt_of_le (by decide) h0)
theorem om475 {a0 : Int} (h0 : (5 : Int) ≤ a0) : (0 : Int) ≤ a0 := by first | decide | lia | omega
theorem om476 {a0 : Int} (h0 : (5 : Int) ≤ a0) : (0 : Int) < a0 := by first | decide | lia | omega
theorem om477 {a0 : Int} : -a0 = -a0 + (0 : Int) := by first | decide | lia | omega
theorem om478 {a0 : Int} (h0 : (5 : Int) ≤ a0) : (0 : Int) ≤ a0 - (1 : Int) := by first | decide | lia | omega
theorem om479 {a0 : Int} : a0 - (1 : Int) < a0 := by first | decide | lia | omega
theorem om480 {a0 a1 : Int} : -(a0 + (1 : Int)) = -a0 - a1 * (1 : Int) + (a1 - (1 : Int)) := by first | decide | lia | omega
theorem om481 {a0 : Int} : -(a0 - (1 : Int)) = (1 : Int) - a0 := by first | decide | lia | omega
theorem om482 {a0 : Int} (h0 : (5 : Int) ≤ a0) : a0 ≠ (0 : Int) := by first | decide | lia | omega
theorem om483 {a0 : Int} (h0 : (0 : Int) ≤ a0) : (-1048576 : Int) < a0 := Int.lt_of_lt_of_le (by decide) h0
theorem om484 {a0 : Int} (h0 : a0 ≤ (1000000 : Int)) : a0 < (1048576 : Int) := Int.lt_of_le_of_lt h0 (by decide)
theorem om485 {a0 : Int} (h0 : (0 : Int) ≤ a0) : (-1048576 : Int) < a0 + (1 : Int) := Int.lt_of_lt_of_le (by decide) (Int.add_nonneg h0 (by decide : (0 : Int) ≤ 1))
theorem om486 {a0 : Int} (h0 : a0 ≤ (1000000 : Int)) : a0 + (1 : Int) < (1048576 : Int) := Int.lt_of_le_of_lt (Int.add_le_add_right h0 1) (by decide)
theorem om487 {a0 : Int} (h0 : (5 : Int) ≤ a0) : (-1048576 : Int) < a0 := by first | decide | lia | omega
theorem om488 {a0 : Int} (h0 : a0 ≤ (9 : Int)) : a0 < (1048576 : Int) := by first | decide | lia | omega
theorem om489 {a0 : Int} (h0 : a0 ≤ (9 : Int)) : (-1048576 : Int) < -a0 := Int.lt_of_lt_of_le (by decide : (-1048576 : Int) < -9) (Int.neg_le_neg h0)
theorem om490 {a0 : Int} (h0 : (5 : Int) ≤ a0) : -a0 < (1048576 : Int) := Int.lt_of_le_of_lt (Int.neg_le_neg h0) (by decide)
theorem om491 {a0 : Nat} (h0 : (37 : Nat) < a0) : a0 + (1 : Nat) + (1 : Nat) + (1 : Nat) + (1 : Nat) ≠ (30 : Nat) := by first | decide | lia | omega
theorem om492 {a0 : Nat} (h0 : (37 : Nat) < a0) : a0 + (1 : Nat) + (1 : Nat) + (1 : Nat) + (1 : Nat) ≠ (37 : Nat) := by first | decide | lia | omega
theorem om493 {a0 : Int} (h0 : (5 : Int) ≤ a0) : -a0 ≠ (0 : Int) := Int.ne_of_lt (Int.lt_of_le_of_lt (Int.neg_le_neg h0) (by decide))
theorem om494 {a0 : Int} (h0 : (0 : Int) ≤ a0) (h1 : a0 < (4 : Int)) : a0 = (0 : Int) ∨ a0 = (1 : Int) ∨ a0 = (2 : Int) ∨ a0 = (3 : Int) := by obtain ⟨n, rfl⟩ := Int.eq_ofNat_of_zero_le h0; have h : n < 4 := Int.ofNat_lt.mp h1; clear h0 h1; revert n; decide
theorem om495 {a0 : Nat} (h0 : a0 ≤ (5 : Nat)) : a0 ≤ (100000 : Nat) := by first | decide | lia | omega
theorem om496 {a0 : Int} : (0 : Int) ≤ a0 % (4 : Int) ∧ a0 % (4 : Int) < (4 : Int) := ⟨Int.emod_nonneg a0 (by decide), Int.emod_lt_of_pos a0 (by decide)⟩
theorem om497 {a0 a1 : Nat} (h0 : a0 ≤ (5 : Nat)) (h1 : a1 < a0) : a1 ≤ (8 : Nat) := Nat.le_trans (Nat.le_of_lt h1) (Nat.le_trans h0 (by decide))
theorem om498 {a0 a1 : Nat} (h0 : a0 ≤ (9 : Nat)) (h1 : a1 < a0) : a1 ≤ (8 : Nat) := Nat.le_of_lt_succ (Nat.lt_of_lt_of_le h1 h0)
theorem om499 {a0 : Int} : a0 % (2 : Int) = (0 : Int) ∨ a0 % (2 : Int) = (1 : Int) := Int.emod_two_eq a0
theorem om500 {a0 a1 a2 : Nat} (h0 : a0 ≤ a1) (h1 : a1 = a2) : a0 ≤ a2 + (1 : Nat) := by subst h1; exact Nat.le_succ_of_le h0
theorem om501 {a0 a1 a2 : Nat} (h0 : a0 ≤ a1) (h1 : a1 = a2) : a0 + ((0 : Nat) + (1 : Nat)) ≤ a2 + (1 : Nat) := by subst h1; exact Nat.succ_le_succ h0
theorem om502 {a0 a1 a2 : Nat} (h0 : a0 = a1) (h1 : a2 = a1) : a0 = a2 := by first | decide | lia | omega
theorem om503 {a0 a1 a2 : Nat} (h0 : a0 ≤ (100 : Nat)) (h1 : a1 + a2 ≤ a0 + (1 : Nat)) : a2 ≤ (1000 : Nat) := Nat.le_trans (Nat.le_trans (Nat.le_add_left a2 a1) h1) (Nat.le_trans (Nat.succ_le_succ h0) (by decide))
theorem om504 {a0 a1 : Nat} (h0 : a0 ≤ (100 : Nat)) (h1 : a1 ≤ a0 + (1 : Nat)) : a1 ≤ (200 : Nat) := Nat.le_trans h1 (Nat.le_trans (Nat.succ_le_succ h0) (by decide))
theorem om505 {a0 : Nat} (h0 : a0 ≤ (100 : Nat)) : a0 ≤ (10000 : Nat) := Nat.le_trans h0 (by decide)
theorem om506 {a0 a1 : Nat} {a2 a3 : Int} {a4 a5 : Nat} (h0 : a0 = a1) (h1 : a2 = a3) (h2 : a4 = a5) (h3 : (↑a5 : Int) = (↑a0 : Int) - a3) : (↑a4 : Int) = (↑a1 : Int) - a2 := by subst h0 h1 h2; exact h3
theorem om507 {a0 : Int} {a1 a2 : Nat} (h0 : (↑a1 : Int) = (↑a2 : Int) - a0) : ¬(↑a2 : Int) - a0 < (0 : Int) := by rw [← h0]; exact Int.not_lt.mpr (Int.natCast_nonneg a1)
theorem om508 {a0 : Nat} {a1 a2 : Int} {a3 a4 : Nat} (h0 : a0 ≤ (9 : Nat)) (h1 : a1 = a2) (h2 : a3 ≤ (1000 : Nat)) (h3 : (↑a4 : Int) = (↑a0 : Int) - a1) (h4 : (0 : Int) ≤ a2) : a4 + a3 ≤ (16777216 : Nat) := Nat.le_trans (Nat.add_le_add (Nat.le_trans (Int.ofNat_le.mp (Int.le_trans (Int.le_of_eq h3) (Int.sub_le_self _ (by rw [h1]; exact h4)))) h0) h2) (by decide)
theorem om509 {a0 : Nat} {a1 a2 : Int} {a3 : Nat} (h0 : a0 ≤ (9 : Nat)) (h1 : a1 = a2) (h2 : (↑a3 : Int) = (↑a0 : Int) - a1) (h3 : (0 : Int) ≤ a2) : a3 ≤ (100000 : Nat) := Nat.le_trans (Nat.le_trans (Int.ofNat_le.mp (Int.le_trans (Int.le_of_eq h2) (Int.sub_le_self _ (by rw [h1]; exact h3)))) h0) (by decide)
theorem om510 {a0 : Int} (h0 : (1 : Int) ≤ a0) : ¬a0 = (0 : Int) := by first | decide | lia | omega
theorem om511 {a0 a1 : Int} (h0 : a0 < a1) : a0 ≤ (a0 + a1) / (2 : Int) ∧ (a0 + a1) / (2 : Int) < a1 := by first | decide | lia | omega
theorem om512 {a0 a1 a2 : Int} (h0 : a0 ≤ a2) (h1 : a2 < a1) : (a1 - (a2 + (1 : Int))).toNat < (a1 - a0).toNat := by first | decide | lia | omega
theorem om513 {a0 a1 a2 : Int} (h0 : a0 ≤ a1) (h1 : a1 ≤ a2) : a0 ≤ a2 + (1 : Int) := by first | decide | lia | omega
theorem om514 {a0 a1 : Int} (h0 : a0 < a1) : a0 + (1 : Int) ≤ a1 := by first | decide | lia | omega
theorem om515 {a0 a1 : Int} (h0 : a0 ≤ a1) : a0 ≤ a1 := by first | decide | lia | omega
theorem om516 {a0 : Int} {a1 : Nat} (h0 : (↑a1 : Int) < a0 + (1 : Int)) : a1 ≤ a0.toNat := by first | decide | lia | omega
theorem om517 {a0 a1 : Int} {a2 : Nat} {a3 a4 a5 : Int} (h0 : (0 : Int) ≤ a0) (h1 : a1 ≤ (↑a2 : Int)) (h2 : a0 ≤ a3) (h3 : a4 ≤ a1) (h4 : a3 ≤ a5) (h5 : a5 < a4) : a5.toNat < a2 := by first | decide | lia | omega
theorem om518 {a0 a1 a2 : Int} (h0 : a0 ≤ a2) (h1 : a2 < a1) : (a2 - a0).toNat < (a1 - a0).toNat := by first | decide | lia | omega
theorem om519 {a0 a1 a2 : Int} (h0 : a0 ≤ a1) (h1 : a2 < a0) : a2 ≤ a1 := by first | decide | lia | omega
theorem om520 {a0 : Int} {a1 a2 : Nat} (h0 : a0 ≤ (↑a1 : Int)) (h1 : (↑a2 : Int) < a0) : a2 < a1 := by first | decide | lia | omega
theorem om521 {a0 a1 : Int} (h0 : a0 ≤ a1) (h1 : ¬a0 < a1) : a0 = a1 := by first | decide | lia | omega
theorem om522 {a0 a1 a2 : Int} (h0 : a0 ≤ a1) (h1 : a1 ≤ a2) : a0 ≤ a2 := by first | decide | lia | omega
theorem om523 {a0 a1 : Int} {a2 : Nat} (h0 : ¬a0 < a1) (h1 : a0 ≤ (↑a2 : Int)) : a1 ≤ (↑a2 : Int) := by first | decide | lia | omega
theorem om524 {a0 a1 : Nat} (h0 : a0 + (100 : Nat) < a1) : a0 + (3 : Nat) + (50 : Nat) < a1 := by first | decide | lia | omega
end
section
noncomputable abbrev Prog : Program := PySem.Challenge.rw_wv0034_01.row.prog

structure SiteAt (w : World) (A : Around) (h₀ : Heap) (L : Addr) (p : Program) (loose : List Str) (mean : ExcName → Option Value) (mg mb : Str → Option Value) (A₀ : Around) (base : Heap) (outer : List Env) (env : Env) : Prop where
  B : Below A₀ base outer h₀
  X : (hd.heap_1 w.params).In h₀
  T : Top p loose mean mg mb h₀
  hA : A.frames = some (env :: outer)
  hf : env.frame = some L
  hke : env.scope.kind = .function
  hh : A.handled = none
  c1 : CodeHd h₀ 34 30
  c2 : CodeHd h₀ 41 37
noncomputable def Site (w : World) (A : Around) (h₀ : Heap) (L : Addr) : Prop :=
  ∃ (p : Program) (loose : List Str) (mean : ExcName → Option Value) (mg mb : Str → Option Value) (A₀ : Around) (base : Heap) (outer : List Env) (env : Env),
    SiteAt w A h₀ L p loose mean mg mb A₀ base outer env

theorem site_in {w : World} {A : Around} {e : Env} {p : Program} {loose : List Str} {mean : ExcName → Option Value} {mg mb : Str → Option Value} {base g : Heap} {outer : List Env} {L : Addr}
  (B : Below A base outer g) (X : (hd.heap_1 w.params).In g) (T : Top p loose mean mg mb g) (hh : A.handled = none) (hf : e.frame = some L) (hk : e.scope.kind = .function) (c1 : CodeHd g 34 30) (c2 : CodeHd g 41 37) : Site w (A.deeper e) g L := by
  refine ⟨p, loose, mean, mg, mb, A, base, outer, e, ?_⟩
  constructor
  · exact B
  · exact X
  · exact T
  · exact Around.frames_deeper B.stack
  · exact hf
  · exact hk
  · exact hh
  · exact c1
  · exact c2

theorem allLt_hd {x d : Nat} {o : Obj} {r : List (Addr × Obj)} (h : AllLt d ((x, o) :: r)) : x < d := h.1
theorem allLt_tl {x d : Nat} {o : Obj} {r : List (Addr × Obj)} (h : AllLt d ((x, o) :: r)) : AllLt d r := h.2
theorem allLt_off {d : Addr} {l : List (Addr × Obj)} (h : AllLt d l) : ∀ p ∈ l, p.1 ≠ d := by
  induction l with
  | nil => intro p hp; exact absurd hp List.not_mem_nil
  | cons a r ih =>
    intro p hp
    rcases List.mem_cons.mp hp with rfl | hp
    · exact Nat.ne_of_lt h.1
    · exact ih h.2 p hp
theorem allLt_mem {d : Addr} {l : List (Addr × Obj)} (h : AllLt d l) : ∀ p ∈ l, @LT.lt Nat _ p.1 d := by
  induction l with
  | nil => intro p hp; exact absurd hp List.not_mem_nil
  | cons a r ih =>
    intro p hp
    rcases List.mem_cons.mp hp with rfl | hp
    · exact h.1
    · exact ih h.2 p hp
noncomputable def Off (d : Addr) (l : List (Addr × Obj)) : Prop := ∀ p ∈ l, @Ne Nat p.1 d
noncomputable def AllGe (d : Addr) (l : List (Addr × Obj)) : Prop := ∀ p ∈ l, @LE.le Nat _ d p.1
end
section
@[reducible] noncomputable def nth : List Stmt → Nat → Stmt
  | s :: _, 0 => s
  | _ :: r, n + 1 => nth r n
  | [], _ => .Pass default
@[reducible] noncomputable def sBody : Stmt → List Stmt
  | .FunctionDef _ _ b _ _ _ _ _ _ _ => b
  | _ => []
@[reducible] noncomputable def sParams : Stmt → Arguments
  | .FunctionDef _ p _ _ _ _ _ _ _ _ => p
  | _ => default
@[reducible] noncomputable def sScope : Stmt → Scope
  | .FunctionDef _ _ _ _ _ _ s _ _ _ => s
  | _ => default
structure Lit (α : Type) (x : α) where
  val : α
  eq : val = x
@[reducible] noncomputable def i2dB : Lit (List Stmt) (sBody (nth (sBody (nth PySem.Challenge.pw_wv0034_01.main.body 4)) 1)) := by
  apply Lit.mk; case eq => dsimp only [nth, sBody, sParams, sScope, PySem.Challenge.pw_wv0034_01]
@[reducible] noncomputable def i2dP : Lit Arguments (sParams (nth (sBody (nth PySem.Challenge.pw_wv0034_01.main.body 4)) 1)) := by
  apply Lit.mk; case eq => dsimp only [nth, sBody, sParams, sScope, PySem.Challenge.pw_wv0034_01]
@[reducible] noncomputable def i2dS : Lit Scope (sScope (nth (sBody (nth PySem.Challenge.pw_wv0034_01.main.body 4)) 1)) := by
  apply Lit.mk; case eq => dsimp only [nth, sBody, sParams, sScope, PySem.Challenge.pw_wv0034_01]
@[reducible] noncomputable def d2iB : Lit (List Stmt) (sBody (nth (sBody (nth PySem.Challenge.pw_wv0034_01.main.body 5)) 0)) := by
  apply Lit.mk; case eq => dsimp only [nth, sBody, sParams, sScope, PySem.Challenge.pw_wv0034_01]
@[reducible] noncomputable def d2iP : Lit Arguments (sParams (nth (sBody (nth PySem.Challenge.pw_wv0034_01.main.body 5)) 0)) := by
  apply Lit.mk; case eq => dsimp only [nth, sBody, sParams, sScope, PySem.Challenge.pw_wv0034_01]
@[reducible] noncomputable def d2iS : Lit Scope (sScope (nth (sBody (nth PySem.Challenge.pw_wv0034_01.main.body 5)) 0)) := by
  apply Lit.mk; case eq => dsimp only [nth, sBody, sParams, sScope, PySem.Challenge.pw_wv0034_01]
end
section
noncomputable def digs (n : Nat) : Nat → Nat → List Int
  | 0, _ => []
  | k + 1, x => ((x % 2 ^ n : Nat) : Int) :: digs n k (x / 2 ^ n)
theorem digs_length (n : Nat) : ∀ k x, (digs n k x).length = k
  | 0, _ => rfl
  | k + 1, x => by simp [digs, digs_length n k]
theorem digs_mod (n : Nat) : ∀ a x j, a ≤ j → digs n a (x % 2 ^ (n * j)) = digs n a x
  | 0, _, _, _ => rfl
  | a + 1, x, j, h => by
    obtain ⟨j, rfl⟩ : ∃ i, j = i + 1 := ⟨j - 1, by (first | exact om39 h | omega)⟩
    have e : 2 ^ (n * (j + 1)) = 2 ^ n * 2 ^ (n * j) := by rw [← Nat.pow_add]; congr 1; rw [Nat.mul_succ]; (first | exact om40 | omega)
    simp only [digs]
    rw [e, Nat.mod_mul_right_mod, Nat.mod_mul_right_div_self, digs_mod n a _ j (by (first | exact om41 h | omega))]
theorem digs_append (n : Nat) : ∀ a b x, digs n (a + b) x = digs n a x ++ digs n b (x / 2 ^ (n * a))
  | 0, b, x => by simp [digs]
  | a + 1, b, x => by
    have e : a + 1 + b = (a + b) + 1 := by (first | exact om42 | omega)
    rw [e]
    simp only [digs, List.cons_append]
    rw [digs_append n a b, Nat.div_div_eq_div_mul, ← Nat.pow_add]
    rw [show n + n * a = n * (a + 1) from by rw [Nat.mul_succ]; (first | exact om40 | omega)]
noncomputable def put (ns : List Int) (lo : Nat) (l : List Int) : List Int := ns.take lo ++ l ++ ns.drop (lo + l.length)
theorem put_length {ns : List Int} {lo : Nat} {l : List Int} (h : lo + l.length ≤ ns.length) : (put ns lo l).length = ns.length := by
  simp [put]; (first | exact om43 h | omega)
theorem put_put {ns : List Int} {lo : Nat} {l r : List Int} (h : lo + l.length + r.length ≤ ns.length) : put (put ns lo l) (lo + l.length) r = put ns lo (l ++ r) := by
  have h1 : (ns.take lo).length = lo := by simp; (first | exact om44 h | omega)
  unfold put
  have e1 : (List.take lo ns ++ l ++ List.drop (lo + l.length) ns).take (lo + l.length) = List.take lo ns ++ l := by
    rw [List.take_append_of_le_length (by simp; (first | exact om45 h | omega)), List.take_of_length_le (by simp; (first | exact om46 | omega))]
  have e2 : (List.take lo ns ++ l ++ List.drop (lo + l.length) ns).drop (lo + l.length + r.length) = List.drop (lo + (l ++ r).length) ns := by
    rw [List.drop_append, List.drop_of_length_le (by simp; (first | exact om47 | omega)), List.nil_append, List.drop_drop]
    congr 1
    simp; (first | exact om48 h | omega)
  rw [e1, e2, List.append_assoc, List.append_assoc, List.append_assoc, List.append_assoc]
theorem put_one {ns : List Int} {lo : Nat} {a : Int} (h : lo < ns.length) : put ns lo [a] = ns.set lo a := by
  rw [List.set_eq_take_append_cons_drop, if_pos h]; simp [put]
theorem put_all {ns l : List Int} (h : ns.length = l.length) : put ns 0 l = l := by
  simp [put]; (first | exact om49 h | omega)
theorem mid_spec {lo hi : Int} (k : Nat) (h : lo + 1 < hi) (hk : hi - lo ≤ 2 ^ (k + 1)) (_h0 : 0 ≤ lo) :
    lo < (lo + hi).fdiv (2 ^ Int.toNat 1) ∧ (lo + hi).fdiv (2 ^ Int.toNat 1) < hi ∧ (lo + hi).fdiv (2 ^ Int.toNat 1) - lo ≤ 2 ^ k ∧ hi - (lo + hi).fdiv (2 ^ Int.toNat 1) ≤ 2 ^ k := by
  have e : (2 : Int) ^ Int.toNat 1 = 2 := by decide
  rw [e, Int.fdiv_eq_ediv_of_nonneg _ (by decide)]
  have e2 : (2 : Int) ^ (k + 1) = 2 * 2 ^ k := by rw [Int.pow_succ]; (first | exact om50 | omega)
  (first | exact om51 h hk | omega)
theorem xor_high (x k : Nat) : Builtin.bitXor (x : Int) (((x / 2 ^ k * 2 ^ k : Nat)) : Int) = ((x % 2 ^ k : Nat) : Int) := by
  have e : x &&& (x / 2 ^ k * 2 ^ k) = x / 2 ^ k * 2 ^ k := by
    apply Nat.eq_of_testBit_eq
    intro i
    rw [Nat.testBit_and, Nat.testBit_mul_two_pow, Nat.testBit_div_two_pow]
    by_cases hi : k ≤ i
    · rw [show i - k + k = i from by (first | exact om52 hi | omega)]; simp [hi]
    · simp [hi]
  rw [bitXor_and, bitAnd_pp (by (first | exact om53 | omega)) (by (first | exact om53 | omega)), Int.toNat_natCast, Int.toNat_natCast, e]
  have := Nat.div_add_mod x (2 ^ k)
  rw [Nat.mul_comm] at this
  (first | exact om54 this | omega)
theorem low_part {x sh : Int} (hx : 0 ≤ x) (_hs : 0 ≤ sh) : Builtin.bitXor x (x.fdiv (2 ^ sh.toNat) * 2 ^ sh.toNat) = ((x.toNat % 2 ^ sh.toNat : Nat) : Int) := by
  have e : x.fdiv (2 ^ sh.toNat) * 2 ^ sh.toNat = ((x.toNat / 2 ^ sh.toNat * 2 ^ sh.toNat : Nat) : Int) := by
    rw [Int.fdiv_eq_ediv_of_nonneg _ (Int.pow_nonneg (by decide))]
    rw [Int.natCast_mul, Int.natCast_ediv, Int.natCast_pow, Int.toNat_of_nonneg hx]; rfl
  rw [e, ← xor_high, Int.toNat_of_nonneg hx]
theorem high_part {x sh : Int} (hx : 0 ≤ x) : x.fdiv (2 ^ sh.toNat) = ((x.toNat / 2 ^ sh.toNat : Nat) : Int) := by
  rw [Int.fdiv_eq_ediv_of_nonneg _ (Int.pow_nonneg (by decide)), Int.natCast_ediv, Int.natCast_pow, Int.toNat_of_nonneg hx]; rfl
theorem bits_nat {x n : Nat} (h : x < 2 ^ n) : Builtin.Int.intBits (x : Int) ≤ n := PySem.intBits_le_iff.mpr (by simpa using h)
end
section
noncomputable def bval (n : Nat) : List Int → Int
  | [] => 0
  | a :: r => a + 2 ^ n * bval n r
theorem bval_append (n : Nat) : ∀ l r : List Int, bval n (l ++ r) = bval n l + 2 ^ (n * l.length) * bval n r
  | [], r => by simp [bval]
  | a :: l, r => by
    simp only [List.cons_append, bval, bval_append n l r, List.length_cons]
    rw [Nat.mul_succ, Nat.add_comm, Int.pow_add, Int.mul_add, Int.mul_assoc]
    (first | exact om55 | omega)
theorem bval_bound (n : Nat) : ∀ l : List Int, (∀ a ∈ l, 0 ≤ a ∧ a < 2 ^ n) → 0 ≤ bval n l ∧ bval n l < 2 ^ (n * l.length)
  | [], _ => by simp [bval]
  | a :: r, h => by
    obtain ⟨h1, h2⟩ := h a (.head _)
    obtain ⟨h3, h4⟩ := bval_bound n r fun b hb => h b (.tail _ hb)
    simp only [bval, List.length_cons]
    have hp : (0 : Int) < 2 ^ n := Int.pow_pos (by decide)
    have e : (2 : Int) ^ (n * (r.length + 1)) = 2 ^ n * 2 ^ (n * r.length) := by rw [Nat.mul_succ, Nat.add_comm, Int.pow_add]
    have h5 : 0 ≤ 2 ^ n * bval n r := Int.mul_nonneg (Int.le_of_lt hp) h3
    have h6 : 2 ^ n * (bval n r + 1) ≤ 2 ^ n * 2 ^ (n * r.length) := Int.mul_le_mul_of_nonneg_left (by (first | exact om56 h4 | omega)) (Int.le_of_lt hp)
    rw [Int.mul_add, Int.mul_one] at h6
    rw [e]
    (first | exact om57 h1 h2 h5 h6 | omega)
noncomputable def cut (ns : List Int) (lo hi : Nat) : List Int := (ns.drop lo).take (hi - lo)
theorem cut_length {ns : List Int} {lo hi : Nat} (h : hi ≤ ns.length) : (cut ns lo hi).length = hi - lo := by simp [cut]; (first | exact om58 h | omega)
theorem cut_split {ns : List Int} {lo mid hi : Nat} (h1 : lo ≤ mid) (h2 : mid ≤ hi) : cut ns lo hi = cut ns lo mid ++ cut ns mid hi := by
  unfold cut
  rw [show hi - lo = (mid - lo) + (hi - mid) from by (first | exact om59 h1 h2 | omega), List.take_add, List.drop_drop, show lo + (mid - lo) = mid from by (first | exact om60 h1 | omega)]
theorem cut_one {ns : List Int} {lo : Nat} (h : lo < ns.length) : cut ns lo (lo + 1) = [ns.getD lo 0] := by
  unfold cut
  rw [show lo + 1 - lo = 1 from by (first | exact om61 | omega), List.drop_eq_getElem_cons h, List.take_succ_cons, List.take_zero]
  simp [List.getD, h]
theorem cut_all (ns : List Int) : cut ns 0 ns.length = ns := by simp [cut]
theorem cut_mem {ns : List Int} {lo hi : Nat} {a : Int} (h : a ∈ cut ns lo hi) : a ∈ ns := List.mem_of_mem_drop (List.mem_of_mem_take h)
end
section
noncomputable def eps {C : Type} (i : C) (P : C → Prop) : C := @Classical.epsilon C ⟨i⟩ fun x => ¬ P x
theorem sk {C : Type} {i : C} {P : C → Prop} (h : P (eps i P)) (x : C) : P x := Classical.byContradiction fun n => Classical.epsilon_spec (p := fun x => ¬ P x) ⟨x, n⟩ h
theorem news_sub {h₀ h : Heap} {L : Addr} {news news' : List (Addr × Obj)} (N : News h₀ L h news) (hs : ∀ p ∈ news', p ∈ news) : News h₀ L h news' := fun p hp => N p (hs p hp)
theorem off_nil {d : Addr} : Off d [] := fun _ h => nomatch h
theorem off_cons {d a : Addr} {o : Obj} {r : List (Addr × Obj)} : Off d ((a, o) :: r) ↔ (@Ne Nat a d ∧ Off d r) := by
  constructor
  · intro h; exact ⟨h _ (.head _), fun p hp => h p (.tail _ hp)⟩
  · rintro ⟨h1, h2⟩ p hp
    rcases List.mem_cons.mp hp with rfl | hp
    · exact h1
    · exact h2 p hp
theorem off_of_lt {d : Addr} {r : List (Addr × Obj)} (h : AllLt d r) : Off d r := fun p hp => Nat.ne_of_lt (allLt_mem h p hp)
theorem allLt_mono {d e : Nat} {r : List (Addr × Obj)} (h : AllLt d r) (hde : d ≤ e) : AllLt e r := allLt_of fun p hp => Nat.lt_of_lt_of_le (allLt_mem h p hp) hde
noncomputable abbrev q30 : Str := Str.ofString "_int2digits.<locals>.inner"
noncomputable abbrev q37 : Str := Str.ofString "_digits2int.<locals>.inner"
noncomputable def TabSt (P : Addr) (line col : Nat) (q : Str) (o : Obj) (c : Addr) (k : Obj) : Prop :=
  (o = tabObj #[] ∧ c = P ∧ k = o) ∨ (o = tabObj #[rawInt line, rawInt col, .ref c] ∧ ∃ vs t, k.data = .fields vs ∧ vs[1]? = some (.str q t))
section
variable {M : Model} {A : Around} {E : Value → Shared → Prop} {s : Shared} {h₀ : Heap} {L a c P : Addr} {m mg mb : Str → Option Value} {cn : Str} {cs : Scope} {ccd : Value} {cl : List (Str × Addr)} {news : List (Addr × Obj)}
  {p : Program} {loose : List Str} {mean : ExcName → Option Value} {name qual : Str} {params : Arguments} {body : List Stmt} {scope : Scope} {pos : Pos} {firstLine : Nat} {clos : List (Str × Addr)} {o k : Obj} {c0 : Addr}
theorem nest_any {Q : Value → Shared → Prop} (F : Fr h₀ L s.heap m) (N : News h₀ L s.heap ((P, o) :: (c0, k) :: news)) (T : Top p loose mean mg mb h₀) (C : CodeHd h₀ c P) (hcd : ccd = .ref c)
    (S : TabSt P pos.line pos.col qual o c0 k) (hoff : Off P news)
    (hcl : closureFor scope (envX cn cs L a ccd cl) = pure clos)
    (h : ∀ f c' o' k' vs t ctv doc h' tk, Fr h₀ L h' m →
      News h₀ L h' ((f, fnMade name qual params body scope clos doc ((mg "__name__").getD .none) c' ctv) :: (P, o') :: (c', k') :: news) →
      TabSt P pos.line pos.col qual o' c' k' → k'.data = .fields vs → vs[1]? = some (.str qual t) → (c' = c0 ∨ (∀ q ∈ news, q.1 < c')) → (∀ q ∈ news, q.1 < f) → @LT.lt Nat _ c' f → @LT.lt Nat _ P f → Q (.ref f) { s with heap := h', toks := tk }) :
    wpAny M A (makeFunction name qual params (.stmts body) scope (envX cn cs L a ccd cl) [] [] [] pos firstLine) Q E s := by
  rcases S with ⟨rfl, rfl, rfl⟩ | ⟨rfl, vs, t, hv, ht⟩
  · have N1 : News h₀ L s.heap ((c0, tabObj #[]) :: news) := news_sub N fun p hp => by
      rcases List.mem_cons.mp hp with rfl | hp
      · exact .head _
      · exact .tail _ (.tail _ hp)
    refine nest_K (ps := #[]) F N1 T C hcd (.head hoff) trivial rfl hcl fun f c' oc vs t ctv doc h' tk F' N' d1 d2 l1 l2 => ?_
    refine h f c' (tabObj #[rawInt pos.line, rawInt pos.col, .ref c']) oc vs t ctv doc h' tk F' (news_sub N' fun p hp => ?_) (.inr ⟨rfl, vs, t, d1, d2⟩) d1 d2 (.inr fun q hq => l1 q (.tail _ hq)) (fun q hq => Nat.lt_trans (l1 q (.tail _ hq)) l2) l2 (Nat.lt_trans (l1 _ (.head _)) l2)
    rcases List.mem_cons.mp hp with rfl | hp
    · exact .head _
    · rcases List.mem_cons.mp hp with rfl | hp
      · exact .tail _ (.tail _ (.head _))
      · rcases List.mem_cons.mp hp with rfl | hp
        · exact .tail _ (.head _)
        · exact .tail _ (.tail _ (.tail _ hp))
  · refine nestHit_K (c' := c0) F N T C hcd (.head _) (by simp [TriplesOk, rawInt]) (by simp [codeAmong, rawInt]) hcl fun f ctv doc h' tk F' N' l1 => ?_
    refine h f c0 _ k vs t ctv doc h' tk F' N' (.inr ⟨rfl, vs, t, hv, ht⟩) hv ht (.inl rfl) (fun q hq => l1 q (.tail _ (.tail _ hq))) (l1 _ (.tail _ (.head _))) (l1 _ (.head _))
end
theorem ints_snoc {vs : List Value} {ns : List Int} {i : Int} {t : Tok} (h : IntsAre vs ns) : IntsAre (vs ++ [.int i t]) (ns ++ [i]) := by
  induction h with
  | nil => exact .cons _ _ .nil
  | cons _ _ _ ih => exact .cons _ _ ih
theorem ints_rev {vs : List Value} {ns : List Int} (h : IntsAre vs ns) : IntsAre vs.reverse ns.reverse := by
  induction h with
  | nil => exact .nil
  | cons _ _ _ ih => rw [List.reverse_cons, List.reverse_cons]; exact ints_snoc ih
inductive Pull (x y : Addr × Obj) : List (Addr × Obj) → List (Addr × Obj) → Prop
  | head {r} : Pull x y (x :: y :: r) r
  | tail {p r r'} : Pull x y r r' → Pull x y (p :: r) (p :: r')
theorem Pull.sub {x y : Addr × Obj} {l r : List (Addr × Obj)} (h : Pull x y l r) : ∀ p ∈ x :: y :: r, p ∈ l := by
  induction h with
  | head => exact fun _ h => h
  | tail _ ih =>
    intro p hp
    rcases List.mem_cons.mp hp with rfl | hp
    · exact .tail _ (ih _ (.head _))
    · rcases List.mem_cons.mp hp with rfl | hp
      · exact .tail _ (ih _ (.tail _ (.head _)))
      · rcases List.mem_cons.mp hp with rfl | hp
        · exact .head _
        · exact .tail _ (ih _ (.tail _ (.tail _ hp)))
theorem news_pull {h₀ h : Heap} {L : Addr} {x y : Addr × Obj} {l r : List (Addr × Obj)} (N : News h₀ L h l) (U : Pull x y l r) : News h₀ L h (x :: y :: r) := news_sub N U.sub
end
noncomputable section
@[reducible] noncomputable def frm {h₀ h : Heap} {L : Addr} {m : Str → Option Value} (_ : Fr h₀ L h m) : Str → Option Value := m
@[reducible] noncomputable def led {h₀ h : Heap} {L : Addr} {news : List (Addr × Obj)} (_ : News h₀ L h news) : List (Addr × Obj) := news
@[reducible] noncomputable def adrAt : List (Addr × Obj) → Nat → Addr
  | p :: _, 0 => p.1
  | _ :: r, n + 1 => adrAt r n
  | [], _ => 0
@[reducible] noncomputable def tokOf : Option Value → Tok
  | some (.int _ t) => t
  | some (.str _ t) => t
  | _ => 0
@[reducible] noncomputable def strOf : Option Value → Str
  | some (.str x _) => x
  | _ => Str.ofString ""
@[reducible] noncomputable def boolOf : Option Value → Bool
  | some (.bool b) => b
  | _ => false
theorem ov13 {m m0 : Str → Option Value} {a b c d : Str} {v w y : Value} (hb : m b = some v) (hc : m c = some w) (hd : m d = some y) (h' : ∀ z, z ≠ a → z ≠ b → z ≠ c → z ≠ d → m z = m0 z) :
    m = fun z => if z = a then m z else if z = b then some v else if z = c then some w else if z = d then some y else m0 z := by
  funext z
  by_cases h1 : z = a
  · rw [if_pos h1]
  · rw [if_neg h1]
    by_cases h2 : z = b
    · rw [if_pos h2, h2, hb]
    · rw [if_neg h2]
      by_cases h3 : z = c
      · rw [if_pos h3, h3, hc]
      · rw [if_neg h3]
        by_cases h4 : z = d
        · rw [if_pos h4, h4, hd]
        · rw [if_neg h4]; exact h' z h1 h2 h3 h4
theorem ov3 {m : Str → Option Value} {a b c : Str} {v : Value} (h : m c = some v) : m = fun z => if z = a then m z else if z = b then m z else if z = c then some v else m z := by
  funext z
  by_cases h1 : z = a
  · rw [if_pos h1]
  · rw [if_neg h1]
    by_cases h2 : z = b
    · rw [if_pos h2]
    · rw [if_neg h2]
      by_cases h3 : z = c
      · rw [if_pos h3, h3, h]
      · rw [if_neg h3]
theorem ov3' {m m0 : Str → Option Value} {a b c : Str} {v : Value} (h : m c = some v) (h' : ∀ z, z ≠ a → z ≠ b → z ≠ c → m z = m0 z) : m = fun z => if z = a then m z else if z = b then m z else if z = c then some v else m0 z := by
  funext z
  by_cases h1 : z = a
  · rw [if_pos h1]
  · rw [if_neg h1]
    by_cases h2 : z = b
    · rw [if_pos h2]
    · rw [if_neg h2]
      by_cases h3 : z = c
      · rw [if_pos h3, h3, h]
      · rw [if_neg h3]; exact h' z h1 h2 h3
theorem ov12 {m m0 : Str → Option Value} {a b c : Str} {v w : Value} (hb : m b = some v) (hc : m c = some w) (h' : ∀ z, z ≠ a → z ≠ b → z ≠ c → m z = m0 z) : m = fun z => if z = a then m z else if z = b then some v else if z = c then some w else m0 z := by
  funext z
  by_cases h1 : z = a
  · rw [if_pos h1]
  · rw [if_neg h1]
    by_cases h2 : z = b
    · rw [if_pos h2, h2, hb]
    · rw [if_neg h2]
      by_cases h3 : z = c
      · rw [if_pos h3, h3, hc]
      · rw [if_neg h3]; exact h' z h1 h2 h3
noncomputable abbrev Nev : Value → Shared → Prop := fun _ _ => False
structure It (prog : Program) (w : World) (h₀ : Heap) (L I : Addr) (src : List (Addr × Obj)) (wr : List Addr) (n : Nat) (P : Nat → Value → List (Addr × Obj) → Prop) (st : Nat → List (Addr × Obj) → Prop) : Prop where
  adr : ∀ i own, st i own → ∀ p ∈ own, p.1 ∈ wr
  item : ∀ (A : Around) (E : Value → Shared → Prop) (i : Nat) (own : List (Addr × Obj)) (m : Str → Option Value) (nx : List (Addr × Obj)) (s : Shared) (Q : Option Value → Shared → Prop), A.handled = none → i < n → st i own →
    Fr h₀ L s.heap m → News h₀ L s.heap (own ++ nx) → (∀ p ∈ src, p ∈ nx) → (∀ a ∈ wr, Off a nx) →
    (∀ v own' ex h' tk', P i v ex → st (i + 1) own' → Fr h₀ L h' m → News h₀ L h' (ex ++ (own' ++ nx)) → (∀ p ∈ ex, ∀ q ∈ own' ++ nx, @LT.lt Nat _ q.1 p.1) → Q (some v) { s with heap := h', toks := tk' }) →
    wpAny (model prog w) A (pyNext (.ref I)) Q E s
  done : ∀ (A : Around) (E : Value → Shared → Prop) (own : List (Addr × Obj)) (m : Str → Option Value) (nx : List (Addr × Obj)) (s : Shared) (Q : Option Value → Shared → Prop), A.handled = none → st n own →
    Fr h₀ L s.heap m → News h₀ L s.heap (own ++ nx) → (∀ p ∈ src, p ∈ nx) → (∀ a ∈ wr, Off a nx) →
    (∀ h' tk', Fr h₀ L h' m → News h₀ L h' nx → Q none { s with heap := h', toks := tk' }) →
    wpAny (model prog w) A (pyNext (.ref I)) Q E s
noncomputable def ItSelf (prog : Program) (w : World) (h₀ : Heap) (I : Addr) (st : Nat → List (Addr × Obj) → Prop) : Prop :=
  ∀ (A : Around) (E : Value → Shared → Prop) (L : Addr) (i : Nat) (own nx : List (Addr × Obj)) (s : Shared) (Q : Value → Shared → Prop), st i own → News h₀ L s.heap (own ++ nx) → Q (.ref I) s → wpAny (model prog w) A (pyIter (.ref I)) Q E s
noncomputable def TurnEnd (h₀ : Heap) (L : Addr) (s : Shared) (own : List (Addr × Obj)) (J : (Str → Option Value) → List (Addr × Obj) → Array GenState → Prop) (Q : Flow → Shared → Prop) (f : Flow) (s₃ : Shared) : Prop :=
  match f with
  | .ret v => Q (.ret v) s₃
  | .brk => Q .next s₃
  | _ => ∃ h tk g m nx, s₃ = { s with heap := h, toks := tk, gens := g } ∧ Fr h₀ L h m ∧ News h₀ L h (own ++ nx) ∧ J m nx g
section
variable {prog : Program} {w : World} {A : Around} {E : Value → Shared → Prop} {s : Shared} {h₀ : Heap} {L I : Addr} {src : List (Addr × Obj)} {wr : List Addr} {n : Nat} {P : Nat → Value → List (Addr × Obj) → Prop} {st : Nat → List (Addr × Obj) → Prop}
  {target : PySem.Expr} {body : List Stmt} {env : Env} {Q : Flow → Shared → Prop}
theorem loop_it (hI : It prog w h₀ L I src wr n P st) (J : Nat → (Str → Option Value) → List (Addr × Obj) → Array GenState → Prop) (hh : A.handled = none) {own : List (Addr × Obj)} {m : Str → Option Value} {news : List (Addr × Obj)}
    (h0 : st 0 own) (F : Fr h₀ L s.heap m) (N : News h₀ L s.heap (own ++ news)) (j0 : J 0 m news s.gens)
    (hJ : ∀ i m nx g, J i m nx g → (∀ p ∈ src, p ∈ nx) ∧ ∀ a ∈ wr, Off a nx)
    (turn : ∀ i v ex own m nx h tk g, i < n → P i v ex → st (i + 1) own → J i m nx g → Fr h₀ L h m → News h₀ L h (ex ++ (own ++ nx)) → (∀ p ∈ ex, ∀ q ∈ own ++ nx, @LT.lt Nat _ q.1 p.1) → (∀ q ∈ own, ∀ p ∈ nx, @Ne Nat q.1 p.1) →
      wpAny (model prog w) A (assign target env v) (fun _ s₂ => wpAny (model prog w) A (execs body env) (TurnEnd h₀ L s own (J (i + 1)) Q) Nev s₂) Nev { s with heap := h, toks := tk, gens := g })
    (fin : ∀ m nx h tk g, J n m nx g → Fr h₀ L h m → News h₀ L h nx → Q .next { s with heap := h, toks := tk, gens := g })
    (ht : ∀ v, letOwnedTupleGo target (.ref I) v = pure () := by intro _; rfl) :
    codeAny (model prog w) A (.forLoop target (.ref I) body [] env) (fun r s' => match r with | .ok f => Q f s' | .error e => cameBackBy (model prog w) A env E e s') s := by
  have never : ∀ (R : Value → Shared → Prop), ∀ e s', Nev e s' → R e s' := fun _ _ _ h => h.elim
  refine codeAny_forLoop (fun k s' => ∃ i own h tk g m nx, k = n - i ∧ i ≤ n ∧ s' = { s with heap := h, toks := tk, gens := g } ∧ st i own ∧ Fr h₀ L h m ∧ News h₀ L h (own ++ nx) ∧ J i m nx g) ?_ n
    ⟨0, own, s.heap, s.toks, s.gens, m, news, by (first | exact om30 | omega), Nat.zero_le _, rfl, h0, F, N, j0⟩ ht
  intro k s' pGZ2
  refine byC fun hGZ => ?_
  obtain ⟨i, own, h, tk, g, m, nx, rfl, hi, rfl, hst, F, N, j⟩ := pGZ2
  refine hGZ ?_; clear hGZ
  obtain ⟨hsrc, hoff⟩ := hJ _ _ _ _ j
  by_cases hlt : i < n
  · refine hI.item A _ i own m nx _ _ hh hlt hst F N hsrc hoff fun v own' ex h' tk' hP hst' F' N' hl => ?_
    refine wpAny_mono (turn i v ex own' m nx h' tk' g hlt hP hst' j F' N' hl fun q hq p hp e => hoff _ (hI.adr _ _ hst' q hq) p hp e.symm) (fun _ s₂ h₂ => ?_) (never _)
    refine wpAny_mono h₂ (fun f s₃ h₃ => ?_) (never _)
    have fin' : TurnEnd h₀ L s own' (J (i + 1)) Q .next s₃ → ∃ k', k' < n - i ∧ ∃ i own h tk g m nx, k' = n - i ∧ i ≤ n ∧ s₃ = { s with heap := h, toks := tk, gens := g } ∧ st i own ∧ Fr h₀ L h m ∧ News h₀ L h (own ++ nx) ∧ J i m nx g := by
      rintro ⟨h9, tk9, g9, m9, nx9, rfl, F9, N9, j9⟩
      exact ⟨n - (i + 1), by (first | exact om31 hlt | omega), i + 1, own', h9, tk9, g9, m9, nx9, rfl, hlt, rfl, hst', F9, N9, j9⟩
    cases f with
    | next => exact fin' h₃
    | cont => exact fin' h₃
    | brk => exact h₃
    | ret v => exact h₃
  · obtain rfl : i = n := by (first | exact om33 hi hlt | omega)
    refine hI.done A _ own m nx _ _ hh hst F N hsrc hoff fun h' tk' F' N' => ?_
    exact wpAny_execs_nil (fin m nx h' tk' g j F' N')
end
section
variable {prog : Program} {w : World} {A : Around} {E : Value → Shared → Prop} {s : Shared} {h₀ : Heap} {L : Addr} {m : Str → Option Value} {news : List (Addr × Obj)}
noncomputable def liSt (I l : Addr) (i : Nat) (own : List (Addr × Obj)) : Prop := ∃ o, own = [(I, o)] ∧ o.cls = .type "list_iterator" ∧ o.data = .fields #[.ref l, .int i 0]
theorem it_list {I l : Addr} {vs : List Value} {nn : Nat} : It (prog) w h₀ L I [(l, W.listOf vs.toArray nn)] [I] vs.length (fun i v ex => vs[i]? = some v ∧ ex = []) (liSt I l) where
  adr := by
    rintro i own ⟨o, rfl, _⟩ p hp
    rw [List.mem_singleton.mp hp]; exact .head _
  item := by
    rintro A E i own m nx s Q hh hi ⟨o, rfl, hc, hd⟩ F N hsrc hoff k
    have hl := (N _ (.tail _ (hsrc _ (.head _)))).1
    have ho := (N _ (.head _)).1
    obtain ⟨v, hv⟩ : ∃ v, vs[i]? = some v := ⟨vs[i], List.getElem?_eq_getElem hi⟩
    refine wpAny_pyNext_list_item (x := v) ⟨o, ho, hc, hd⟩ ⟨_, hl, rfl, nn, rfl⟩ (by simpa using hv) fun h' hit hs => ?_
    obtain ⟨o', ho', hc', hd'⟩ := hit
    exact k v [(I, o')] [] h' s.toks ⟨hv, rfl⟩ ⟨o', rfl, hc', hd'⟩ (F.change hs (N _ (.head _)).2.1 (N _ (.head _)).2.2) (News.setHead N (hoff I (.head _)) hs ho') (fun _ h => nomatch h)
  done := by
    rintro A E own m nx s Q hh ⟨o, rfl, hc, hd⟩ F N hsrc hoff k
    have hl := (N _ (.tail _ (hsrc _ (.head _)))).1
    have ho := (N _ (.head _)).1
    refine wpAny_pyNext_list_end hh ⟨o, ho, hc, hd⟩ ⟨_, hl, rfl, nn, rfl⟩ (by simp) fun h' hs => ?_
    refine k h' s.toks ?_ ?_
    · obtain ⟨oL, a1, a2, hoL, a3⟩ := F.ns
      refine ⟨⟨oL, a1, a2, hs L _ (fun e => (N _ (.head _)).2.1 e.symm) hoL, a3⟩, fun b x e => hs b x ?_ (F.keep b x e), F.above⟩
      rintro rfl
      rw [(N _ (.head _)).2.2] at e; cases e
    · exact fun p hp => ⟨hs _ _ (hoff I (.head _) p hp) (N p (.tail _ hp)).1, (N p (.tail _ hp)).2⟩
theorem self_list {I l : Addr} : ItSelf prog w h₀ I (liSt I l) := by
  rintro A E L i own nx s Q ⟨o, rfl, hc, hd⟩ N h
  exact wpAny_pyIter_listiter ⟨o, (N _ (.head _)).1, hc, hd⟩ h
theorem pyIter_list {l : Addr} {vs : List Value} {nn : Nat} {Q : Value → Shared → Prop} (F : Fr h₀ L s.heap m) (N : News h₀ L s.heap news) (hm : (l, W.listOf vs.toArray nn) ∈ news)
    (h : ∀ I o h', Fr h₀ L h' m → News h₀ L h' ([(I, o)] ++ news) → (∀ q ∈ news, @LT.lt Nat _ q.1 I) → liSt I l 0 [(I, o)] → Q (.ref I) { s with heap := h' }) :
    wpAny (model prog w) A (pyIter (.ref l)) Q E s := by
  refine wpAny_pyIter_list ⟨_, (N _ hm).1, rfl, nn, rfl⟩ ?_
  exact h _ _ _ (F.push _) (N.push F _) (fun q hq => Heap.lt_size (N q hq).1) ⟨_, rfl, rfl, rfl⟩
noncomputable def rvSt (I l : Addr) (n : Nat) (i : Nat) (own : List (Addr × Obj)) : Prop := ∃ o, own = [(I, o)] ∧ o.cls = .type "list_reverseiterator" ∧ o.data = .fields #[.ref l, rawInt ((n : Int) - 1 - i)]
theorem it_rev {I l : Addr} {vs : List Value} {nn : Nat} : It (prog) w h₀ L I [(l, W.listOf vs.toArray nn)] [I] vs.length (fun i v ex => vs[vs.length - 1 - i]? = some v ∧ ex = []) (rvSt I l vs.length) where
  adr := by
    rintro i own ⟨o, rfl, _⟩ p hp
    rw [List.mem_singleton.mp hp]; exact .head _
  item := by
    rintro A E i own m nx s Q hh hi ⟨o, rfl, hc, hd⟩ F N hsrc hoff k
    have hl := (N _ (.tail _ (hsrc _ (.head _)))).1
    have ho := (N _ (.head _)).1
    have hlt : vs.length - 1 - i < vs.length := by (first | exact om34 hi | omega)
    obtain ⟨v, hv⟩ : ∃ v, vs[vs.length - 1 - i]? = some v := ⟨vs[vs.length - 1 - i], List.getElem?_eq_getElem hlt⟩
    have ei : (vs.length : Int) - 1 - i = ((vs.length - 1 - i : Nat) : Int) := by (first | exact om35 hi | omega)
    rw [ei] at hd
    refine wpAny_pyNext_rev_item (x := v) ⟨o, ho, hc, hd⟩ ⟨_, hl, rfl, nn, rfl⟩ (by simpa using hv) fun h' hit hs => ?_
    obtain ⟨o', ho', hc', hd'⟩ := hit
    refine k v [(I, o')] [] h' s.toks ⟨hv, rfl⟩ ⟨o', rfl, hc', ?_⟩ (F.change hs (N _ (.head _)).2.1 (N _ (.head _)).2.2) (News.setHead N (hoff I (.head _)) hs ho') (fun _ h => nomatch h)
    rw [hd', show ((vs.length - 1 - i : Nat) : Int) - 1 = (vs.length : Int) - 1 - ((i + 1 : Nat) : Int) from by (first | exact om36 ei | omega)]
  done := by
    rintro A E own m nx s Q hh ⟨o, rfl, hc, hd⟩ F N hsrc hoff k
    have ho := (N _ (.head _)).1
    rw [show (vs.length : Int) - 1 - (vs.length : Int) = -1 from by (first | exact om37 | omega)] at hd
    refine wpAny_pyNext_rev_end (l := l) hh ⟨o, ho, hc, hd⟩ fun h' hs => ?_
    refine k h' s.toks ?_ ?_
    · obtain ⟨oL, a1, a2, hoL, a3⟩ := F.ns
      refine ⟨⟨oL, a1, a2, hs L _ (fun e => (N _ (.head _)).2.1 e.symm) hoL, a3⟩, fun b x e => hs b x ?_ (F.keep b x e), F.above⟩
      rintro rfl
      rw [(N _ (.head _)).2.2] at e; cases e
    · exact fun p hp => ⟨hs _ _ (hoff I (.head _) p hp) (N p (.tail _ hp)).1, (N p (.tail _ hp)).2⟩
theorem call_reversed {l : Addr} {vs : List Value} {nn : Nat} {Q : Value → Shared → Prop} (F : Fr h₀ L s.heap m) (N : News h₀ L s.heap news) (hm : (l, W.listOf vs.toArray nn) ∈ news)
    (h : ∀ I o h', Fr h₀ L h' m → News h₀ L h' ([(I, o)] ++ news) → (∀ q ∈ news, @LT.lt Nat _ q.1 I) → rvSt I l vs.length 0 [(I, o)] → Q (.ref I) { s with heap := h' }) :
    wpAny (model prog w) A (call (.type "reversed") [.ref l]) Q E s := by
  refine call_reversed_list ⟨_, (N _ hm).1, rfl, nn, rfl⟩ ?_
  exact h _ _ _ (F.push _) (N.push F _) (fun q hq => Heap.lt_size (N q hq).1) ⟨_, rfl, rfl, by simp [revObj]⟩
theorem pyIter_rev {I l : Addr} {n i : Nat} {o : Obj} {Q : Value → Shared → Prop} (N : News h₀ L s.heap news) (hm : (I, o) ∈ news) (hs : rvSt I l n i [(I, o)]) (h : Q (.ref I) s) :
    wpAny (model prog w) A (pyIter (.ref I)) Q E s := by
  refine byC fun hGZ => ?_
  obtain ⟨o', e, hc, hd⟩ := hs
  refine hGZ ?_; clear hGZ
  cases e
  exact wpAny_pyIter_revIter ⟨o, (N _ hm).1, hc, hd⟩ h
end
noncomputable def WEnd (h₀ : Heap) (L : Addr) (s : Shared) (k : Nat) (J : Nat → (Str → Option Value) → List (Addr × Obj) → Prop) (Q : Flow → Shared → Prop) (f : Flow) (s₃ : Shared) : Prop :=
  match f with
  | .ret v => Q (.ret v) s₃
  | .brk => Q .next s₃
  | _ => ∃ k' h tk m nx, k' < k ∧ s₃ = { s with heap := h, toks := tk } ∧ Fr h₀ L h m ∧ News h₀ L h nx ∧ J k' m nx
section
variable {prog : Program} {w : World} {A : Around} {E : Value → Shared → Prop} {s : Shared} {h₀ : Heap} {L : Addr} {m : Str → Option Value} {news : List (Addr × Obj)} {test : PySem.Expr} {body : List Stmt} {env : Env} {Q : Flow → Shared → Prop}
theorem loop_while (J : Nat → (Str → Option Value) → List (Addr × Obj) → Prop) (F : Fr h₀ L s.heap m) (N : News h₀ L s.heap news) {n : Nat} (j0 : J n m news)
    (turn : ∀ k m nx h tk, J k m nx → Fr h₀ L h m → News h₀ L h nx → wpAny (model prog w) A (isTrue test env (eval test env)) (fun b s₂ => if b = true then wpAny (model prog w) A (execs body env) (WEnd h₀ L s k J Q) Nev s₂ else Q .next s₂) Nev { s with heap := h, toks := tk }) :
    codeAny (model prog w) A (.whileLoop test body [] env) (fun r s' => match r with | .ok f => Q f s' | .error e => cameBackBy (model prog w) A env E e s') s := by
  have never : ∀ (R : Value → Shared → Prop), ∀ e s', Nev e s' → R e s' := fun _ _ _ h => h.elim
  refine codeAny_whileLoop (fun k s' => ∃ h tk m nx, s' = { s with heap := h, toks := tk } ∧ Fr h₀ L h m ∧ News h₀ L h nx ∧ J k m nx) ?_ n ⟨s.heap, s.toks, m, news, rfl, F, N, j0⟩
  intro k s' pGZ2
  refine byC fun hGZ => ?_
  obtain ⟨h, tk, m, nx, rfl, F, N, j⟩ := pGZ2
  refine hGZ ?_; clear hGZ
  refine wpAny_mono (turn k m nx h tk j F N) (fun b s₂ h₂ => ?_) (never _)
  cases b with
  | false =>
    rw [if_neg Bool.false_ne_true] at h₂
    rw [if_neg Bool.false_ne_true]
    exact wpAny_execs_nil h₂
  | true =>
    rw [if_pos rfl] at h₂
    rw [if_pos rfl]
    refine wpAny_mono h₂ (fun f s₃ h₃ => ?_) (never _)
    have fin' : WEnd h₀ L s k J Q .next s₃ → ∃ k', k' < k ∧ ∃ h tk m nx, s₃ = { s with heap := h, toks := tk } ∧ Fr h₀ L h m ∧ News h₀ L h nx ∧ J k' m nx := by
      rintro ⟨k', h9, tk9, m9, nx9, hk, rfl, F9, N9, j9⟩
      exact ⟨k', hk, h9, tk9, m9, nx9, rfl, F9, N9, j9⟩
    cases f with
    | next => exact fin' h₃
    | cont => exact fin' h₃
    | brk => exact h₃
    | ret v => exact h₃
end
section
variable {prog : Program} {w : World} {A : Around} {E : Value → Shared → Prop} {s : Shared} {h₀ : Heap} {L : Addr} {m : Str → Option Value} {news : List (Addr × Obj)}
noncomputable def stSt (I : Addr) (x : Str) (t : Tok) (i : Nat) (own : List (Addr × Obj)) : Prop := ∃ o, own = [(I, o)] ∧ o.cls = .type (strIterType x) ∧ o.data = .fields #[.str x t, .int i 0]
theorem fr_ext {h h' : Heap} {I : Addr} (F : Fr h₀ L h m) (hs : Heap.ExtBut I h h') (h1 : I ≠ L) (h2 : h₀.get? I = none) : Fr h₀ L h' m := by
  obtain ⟨oL, a1, a2, hoL, a3⟩ := F.ns
  refine ⟨⟨oL, a1, a2, hs L _ (fun e => h1 e.symm) hoL, a3⟩, fun b x e => hs b x ?_ (F.keep b x e), F.above⟩
  rintro rfl
  rw [h2] at e; cases e
theorem it_str {I : Addr} {x : Str} {t : Tok} : It (prog) w h₀ L I [] [I] x.cps.size (fun i v ex => (∃ c u, x.cps[i]? = some c ∧ v = .str ⟨#[c]⟩ u) ∧ ex = []) (stSt I x t) where
  adr := by
    rintro i own ⟨o, rfl, _⟩ p hp
    rw [List.mem_singleton.mp hp]; exact .head _
  item := by
    rintro A E i own m nx s Q hh hi ⟨o, rfl, hc, hd⟩ F N _ hoff k
    have ho := (N _ (.head _)).1
    have hx : x.cps[i]? = some x.cps[i] := by simp [hi]
    unfold strIterType at hc
    cases ha : x.cps.all (· < 128) with
    | true =>
      rw [ha, if_pos rfl] at hc
      refine wpAny_pyNext_ascii_item (c := x.cps[i]) ⟨o, ho, hc, hd⟩ hx fun h' hit hs => ?_
      obtain ⟨o', ho', hc', hd'⟩ := hit
      exact k _ [(I, o')] [] h' _ ⟨⟨_, _, hx, rfl⟩, rfl⟩ ⟨o', rfl, by unfold strIterType; rw [ha, if_pos rfl]; exact hc', hd'⟩ (F.change hs (N _ (.head _)).2.1 (N _ (.head _)).2.2) (News.setHead N (hoff I (.head _)) hs ho') (fun _ h => nomatch h)
    | false =>
      rw [ha, if_neg Bool.false_ne_true] at hc
      refine wpAny_pyNext_wide_item (c := x.cps[i]) ⟨o, ho, hc, hd⟩ hx fun h' hit hs => ?_
      obtain ⟨o', ho', hc', hd'⟩ := hit
      exact k _ [(I, o')] [] h' _ ⟨⟨_, _, hx, rfl⟩, rfl⟩ ⟨o', rfl, by unfold strIterType; rw [ha, if_neg Bool.false_ne_true]; exact hc', hd'⟩ (F.change hs (N _ (.head _)).2.1 (N _ (.head _)).2.2) (News.setHead N (hoff I (.head _)) hs ho') (fun _ h => nomatch h)
  done := by
    rintro A E own m nx s Q hh ⟨o, rfl, hc, hd⟩ F N _ hoff k
    have ho := (N _ (.head _)).1
    unfold strIterType at hc
    have fin : ∀ h', Heap.ExtBut I s.heap h' → Q none { s with heap := h' } := fun h' hs =>
      k h' s.toks (fr_ext F hs (N _ (.head _)).2.1 (N _ (.head _)).2.2) fun p hp => ⟨hs _ _ (hoff I (.head _) p hp) (N p (.tail _ hp)).1, (N p (.tail _ hp)).2⟩
    cases ha : x.cps.all (· < 128) with
    | true =>
      rw [ha, if_pos rfl] at hc
      exact wpAny_pyNext_ascii_end hh ⟨o, ho, hc, hd⟩ (by simp) fin
    | false =>
      rw [ha, if_neg Bool.false_ne_true] at hc
      exact wpAny_pyNext_wide_end hh ⟨o, ho, hc, hd⟩ (by simp) fin
theorem pyIter_str {x : Str} {t : Tok} {Q : Value → Shared → Prop} (F : Fr h₀ L s.heap m) (N : News h₀ L s.heap news)
    (h : ∀ I o h', Fr h₀ L h' m → News h₀ L h' ([(I, o)] ++ news) → (∀ q ∈ news, @LT.lt Nat _ q.1 I) → stSt I x t 0 [(I, o)] → Q (.ref I) { s with heap := h' }) :
    wpAny (model prog w) A (pyIter (.str x t)) Q E s := by
  refine wpAny_pyIter_strU ?_
  exact h _ _ _ (F.push _) (N.push F _) (fun q hq => Heap.lt_size (N q hq).1) ⟨_, rfl, rfl, rfl⟩
end
theorem upd_mid {d : Addr} {o o' : Obj} {post : List (Addr × Obj)} : ∀ {pre : List (Addr × Obj)}, (∀ p ∈ pre, p.1 ≠ d) → (∀ p ∈ post, p.1 ≠ d) → Upd d o o' (pre ++ (d, o) :: post) (pre ++ (d, o') :: post)
  | [], _, h => .head h
  | p :: r, h1, h2 => .tail (h1 p (.head _)) (upd_mid (fun q hq => h1 q (.tail _ hq)) h2)
noncomputable def CEnd (h₀ : Heap) (C : Addr) (s : Shared) (own : List (Addr × Obj)) (dl : List (Addr × Obj)) (J : List (Addr × Obj) → Array GenState → Prop) (s₄ : Shared) : Prop :=
  ∃ h tk g mc nx, s₄ = { s with heap := h, toks := tk, gens := g } ∧ Fr h₀ C h mc ∧ News h₀ C h (own ++ (dl ++ nx)) ∧ J nx g
section
variable {prog : Program} {w : World} {A : Around} {E : Value → Shared → Prop} {s : Shared} {h₀ : Heap} {L I : Addr} {src : List (Addr × Obj)} {wr : List Addr} {n : Nat} {P : Nat → Value → List (Addr × Obj) → Prop} {st : Nat → List (Addr × Obj) → Prop}
  {target elt iter : PySem.Expr} {ifs : List PySem.Expr} {scope : Scope} {pos : Pos} {cl : List (Str × Addr)} {env : Env} {m : Str → Option Value} {news own : List (Addr × Obj)}
end
namespace seg_lc_block_all
noncomputable def body : (P_1 : Program → World → Around → (Value → Shared → Prop) → Shared → Heap → Addr → Addr → List (Addr × Obj) → List Addr → Nat → (Nat → Value → List (Addr × Obj) → Prop) → (Nat → List (Addr × Obj) → Prop) → Expr → Expr → Expr → List Expr → Scope → Pos → List (Str × Addr) → Env → (Str → Option Value) → List (Addr × Obj) → List (Addr × Obj) → (Addr → Nat → List Value → List (Addr × Obj) → Array GenState → Prop) → (Value → Addr → Result → Shared → Prop) → Prop) ×' ((∀ a b c d e f g h i j k l m n o p q r s t u v w x y z, P_1 a b c d e f g h i j k l m n o p q r s t u v w x y z) → (∀ (prog : Program) (w : World) (A : Around) (E : Value → Shared → Prop) (s : Shared) (h₀ : Heap) (L : Addr) (I : Addr) (src : List (Addr × Obj)) (wr : List Addr) (n : Nat) (P : Nat → Value → List (Addr × Obj) → Prop) (st : Nat → List (Addr × Obj) → Prop) (target : PySem.Expr) (elt : PySem.Expr) (iter : PySem.Expr) (ifs : List PySem.Expr) (scope : Scope) (pos : Pos) (cl : List (Str × Addr)) (env : Env) (m : Str → Option Value) (news : List (Addr × Obj)) (own : List (Addr × Obj)) (hI : ∀ C, It prog w h₀ C I src wr n P st) (hself : ItSelf prog w h₀ I st) (J : Addr → Nat → List Value → List (Addr × Obj) → Array GenState → Prop) (hh : A.handled = none) (hcell : ∀ y ∈ scope.names, y.2 ≠ .cell) (hkind : scope.kind = .function) (hn : n ≤ 100000) (h0 : st 0 own) (F : Fr h₀ L s.heap m) (N : News h₀ L s.heap (own ++ news)) (hwr : ∀ a ∈ wr, @LT.lt Nat _ a s.heap.objs.size ∧ a ≠ L) (j0 : ∀ D, (∀ q ∈ own ++ news, @LT.lt Nat _ q.1 D) → J D 0 [] news s.gens) (hJ : ∀ D i ys nx g, J D i ys nx g → (∀ p ∈ src, p ∈ nx) ∧ (∀ a ∈ wr, Off a nx) ∧ Off D nx ∧ Off L nx ∧ ys.length ≤ i) (RR : Value → Addr → Result → Shared → Prop) (turn : ∀ D C i v ex own' mc nx ys k oL h tk g, (∀ q ∈ own ++ news, @LT.lt Nat _ q.1 D) → @LT.lt Nat _ L D → @LT.lt Nat _ D C → i < n → P i v ex → st (i + 1) own' → J D i ys nx g → Fr h₀ C h mc →
      News h₀ C h (ex ++ (own' ++ ([(D, W.listOf (List.toArray ys) k), (L, oL)] ++ nx))) → (∀ p ∈ ex, ∀ q ∈ own' ++ ([(D, W.listOf (List.toArray ys) k), (L, oL)] ++ nx), @LT.lt Nat _ q.1 p.1) → (∀ q ∈ own', ∀ p ∈ nx, @Ne Nat q.1 p.1) →
      wpAny (model prog w) A (assign target (compEnvC scope cl C env) v) (fun _ s₂ =>
        wpAny (model prog w) A (forIn ifs true fun c r => if r = true then do let ok ← isTrue c (compEnvC scope cl C env) (eval c (compEnvC scope cl C env)); pure (ForInStep.yield ok) else pure (ForInStep.yield r)) (fun ok s₃ =>
          if ok = true then wpAny (model prog w) A (eval elt (compEnvC scope cl C env)) (fun y s₄ => CEnd h₀ C s own' [(D, W.listOf (List.toArray ys) k), (L, oL)] (J D (i + 1) (ys ++ [y])) s₄) Nev s₃
          else CEnd h₀ C s own' [(D, W.listOf (List.toArray ys) k), (L, oL)] (J D (i + 1) ys) s₃) Nev s₂) Nev { s with heap := h, toks := tk, gens := g }) (fin : ∀ D C h tk g mc ys k nx, (∀ q ∈ own ++ news, @LT.lt Nat _ q.1 D) → @LT.lt Nat _ L D → @LT.lt Nat _ D C → J D n ys nx g → h.Ns C mc → Fr h₀ L h m → News h₀ L h ((D, W.listOf (List.toArray ys) k) :: nx) → (∀ p ∈ nx, p.1 ≠ C) → h₀.get? C = none →
      RR (.ref D) C (.ok .next) { s with heap := h, toks := tk, gens := g }) (ht : ∀ v, letOwnedTupleGo target (.ref I) v = pure ()),
    wpAny (model prog w) A (newList []) (fun acc s₃ => wpAny (model prog w) A (newFunctionEnv scope env.globals cl [] env.qual none .none (some env)) (fun cenv s₄ =>
      codeAny (model prog w) A (.compStart (.ListComp elt [⟨target, iter, ifs, 0⟩] scope pos) 0 (.ref I) acc { cenv with scope := relabel scope env }) (RR acc cenv.locals) s₄) E s₃) E s)) := by
  refine' ⟨_, fun k_1 => ?main⟩
  case main =>
    intro prog w A E s h₀ L I src wr n P st target elt iter ifs scope pos cl env m news own hI hself J hh hcell hkind hn h0 F N hwr j0 hJ RR turn fin ht
    revert hI hself hh hcell hkind hn h0 F N hwr j0 hJ turn fin ht
    exact k_1 prog w A E s h₀ L I src wr n P st target elt iter ifs scope pos cl env m news own J RR
namespace sA
noncomputable abbrev tyC := (Program × World × Around × (Value → Shared → Prop) × Shared × Heap × Addr × Addr) × ((List (Addr × Obj)) × List Addr × Nat × (Nat → Value → List (Addr × Obj) → Prop) × (Nat → List (Addr × Obj) → Prop) × Expr × Expr × Expr) × (List Expr × Scope × Pos × (List (Str × Addr)) × Env × (Str → Option Value) × (List (Addr × Obj)) × (List (Addr × Obj))) × ((Addr → Nat → List Value → List (Addr × Obj) → Array GenState → Prop) × (Value → Addr → Result → Shared → Prop))
def prP := body.1
def prQ (x : tyC) : Prop := prP x.1.1 x.1.2.1 x.1.2.2.1 x.1.2.2.2.1 x.1.2.2.2.2.1 x.1.2.2.2.2.2.1 x.1.2.2.2.2.2.2.1 x.1.2.2.2.2.2.2.2 x.2.1.1 x.2.1.2.1 x.2.1.2.2.1 x.2.1.2.2.2.1 x.2.1.2.2.2.2.1 x.2.1.2.2.2.2.2.1 x.2.1.2.2.2.2.2.2.1 x.2.1.2.2.2.2.2.2.2 x.2.2.1.1 x.2.2.1.2.1 x.2.2.1.2.2.1 x.2.2.1.2.2.2.1 x.2.2.1.2.2.2.2.1 x.2.2.1.2.2.2.2.2.1 x.2.2.1.2.2.2.2.2.2.1 x.2.2.1.2.2.2.2.2.2.2 x.2.2.2.1 x.2.2.2.2
noncomputable def inI : tyC := ((default, aWorld 0, callerA, default, {}, default, default, default), (default, default, 0, default, default, .Constant .none 0 default, .Constant .none 0 default, .Constant .none 0 default), default, default)
def epC : tyC := eps inI prQ
@[irreducible] def prog := epC.1.1
@[irreducible] def w := epC.1.2.1
@[irreducible] def A := epC.1.2.2.1
@[irreducible] def s := epC.1.2.2.2.2.1
@[irreducible] def h₀ := epC.1.2.2.2.2.2.1
@[irreducible] def L := epC.1.2.2.2.2.2.2.1
@[irreducible] def I := epC.1.2.2.2.2.2.2.2
@[irreducible] def src := epC.2.1.1
@[irreducible] def wr := epC.2.1.2.1
@[irreducible] def n := epC.2.1.2.2.1
@[irreducible] def st := epC.2.1.2.2.2.2.1
@[irreducible] def target := epC.2.1.2.2.2.2.2.1
@[irreducible] def elt := epC.2.1.2.2.2.2.2.2.1
@[irreducible] def iter := epC.2.1.2.2.2.2.2.2.2
@[irreducible] def ifs := epC.2.2.1.1
@[irreducible] def scope := epC.2.2.1.2.1
@[irreducible] def pos := epC.2.2.1.2.2.1
@[irreducible] def cl := epC.2.2.1.2.2.2.1
@[irreducible] def env := epC.2.2.1.2.2.2.2.1
@[irreducible] def news := epC.2.2.1.2.2.2.2.2.2.1
@[irreducible] def own := epC.2.2.1.2.2.2.2.2.2.2
@[irreducible] def J := epC.2.2.2.1
@[irreducible] def RR := epC.2.2.2.2
namespace seg_sA_main
noncomputable def body : (P_1 : Heap → Nat → Heap → Nat → Obj → Array DictEntry → Nat → Prop) ×' ((∀ a b c d e f g, P_1 a b c d e f g) → (prP prog w A epC.1.2.2.2.1 s h₀ L I src wr n epC.2.1.2.2.2.1 st target elt iter ifs scope pos cl env epC.2.2.1.2.2.2.2.2.1 news own J RR)) := by
  refine' ⟨_, fun k_1 => ?main⟩
  case main =>
    intro hI hself hh hcell hkind hn h0 F N hwr j0 hJ turn fin ht
    have never : ∀ (R : Value → Shared → Prop), ∀ e s', Nev e s' → R e s' := fun _ _ _ h => h.elim
    refine wpAny_newObj_type (wpAny_newFunctionEnv hcell (by intro y hy; simp at hy) (fun h₁ hns₁ hsb₁ => ?_) hkind)
    dsimp only at hns₁ hsb₁ ⊢
    obtain ⟨D, hD⟩ : ∃ D, D = s.heap.objs.size := ⟨_, rfl⟩
    rw [← hD]
    have ND := News.push F N { cls := .type "list", data := .seq ([] : List Value).toArray }
    have FD := Fr.push F { cls := .type "list", data := .seq ([] : List Value).toArray }
    have hlt : ∀ q ∈ own ++ news, @LT.lt Nat _ q.1 D := fun q hq => hD ▸ Heap.lt_size (N q hq).1
    rw [← hD] at ND
    generalize hH2 : s.heap.push { cls := .type "list", data := .seq ([] : List Value).toArray } = H2 at hns₁ hsb₁ ND FD ⊢
    obtain ⟨C, hC⟩ : ∃ C, C = H2.objs.size := ⟨_, rfl⟩
    rw [← hC] at hns₁ hsb₁ ⊢
    have hDC : @LT.lt Nat _ D C := by rw [hC, ← hH2, Heap.size_push, hD]; exact Nat.lt_succ_self _
    have hLD : @LT.lt Nat _ L D := by rw [hD]; exact F.ns.lt
    have hLC : @LT.lt Nat _ L C := Nat.lt_trans hLD hDC
    have keep1 : ∀ b o, H2.get? b = some o → h₁.get? b = some o := fun b o e => hsb₁.extBut b o (Nat.ne_of_lt (hC ▸ Heap.lt_size e)) (Heap.get?_push_of_some _ e)
    have hC0 : h₀.get? C = none := Heap.get?_none_of_le (Nat.le_trans F.above (Nat.le_of_lt hLC))
    refine byC fun hGZ => ?_
    obtain ⟨oL, a1, a2, hoL, a3⟩ := FD.ns
    refine hGZ ?_; clear hGZ
    have hL0 : h₀.get? L = none := Heap.get?_none_of_le F.above
    have FC : Fr h₀ C h₁ (fun y => List.lookup y ([] : List (Str × Value)).reverse) := ⟨hns₁, fun b o e => keep1 b o (FD.keep b o e), Nat.le_trans F.above (Nat.le_of_lt hLC)⟩
    have neC : ∀ {b o}, H2.get? b = some o → b ≠ C := fun e => Nat.ne_of_lt (hC ▸ Heap.lt_size e)
    have NC : News h₀ C h₁ (own ++ ([(D, W.listOf ([] : List Value).toArray 0), (L, oL)] ++ news)) := by
      intro p hp
      rcases List.mem_append.mp hp with hp | hp
      · have := ND p (.tail _ (List.mem_append_left _ hp)); exact ⟨keep1 _ _ this.1, neC this.1, this.2.2⟩
      · rcases List.mem_cons.mp hp with rfl | hp
        · have := ND _ (.head _); exact ⟨keep1 _ _ this.1, neC this.1, this.2.2⟩
        · rcases List.mem_cons.mp hp with rfl | hp
          · exact ⟨keep1 _ _ hoL, neC hoL, hL0⟩
          · have := ND p (.tail _ (List.mem_append_right _ hp)); exact ⟨keep1 _ _ this.1, neC this.1, this.2.2⟩
    have hwD : ∀ a ∈ wr, @LT.lt Nat _ a D := fun a ha => hD ▸ (hwr a ha).1
    revert hI hself hh hcell hkind hn h0 F N hwr j0 hJ turn fin ht never hD hlt hH2 ND FD hsb₁ hns₁ hC hDC hLD hLC keep1 hC0 hoL a3 hL0 FC neC NC hwD
    exact k_1 h₁ D H2 C oL a1 a2
namespace sB
noncomputable abbrev tyC := Heap × Nat × Heap × Nat × Obj × Array DictEntry × Nat
def prP := body.1
def prQ (x : tyC) : Prop := prP x.1 x.2.1 x.2.2.1 x.2.2.2.1 x.2.2.2.2.1 x.2.2.2.2.2.1 x.2.2.2.2.2.2
noncomputable def inI : tyC := default
def epC : tyC := eps inI prQ
@[irreducible] def h₁ := epC.1
@[irreducible] def D := epC.2.1
@[irreducible] def C := epC.2.2.2.1
@[irreducible] def oL := epC.2.2.2.2.1
@[irreducible] def a1 := epC.2.2.2.2.2.1
@[irreducible] def a2 := epC.2.2.2.2.2.2
theorem sB_main : prP h₁ D epC.2.2.1 C oL a1 a2 := by
  intro hI hself hh hcell hkind hn h0 F N hwr j0 hJ turn fin ht never hD hlt hH2 ND FD hsb₁ hns₁ hC hDC hLD hLC keep1 hC0 hoL a3 hL0 FC neC NC hwD
  show codeAny (model prog w) A (.compStart (.ListComp elt [⟨target, iter, ifs, 0⟩] scope pos) 0 (.ref I) (.ref D) (compEnvC scope cl C env)) (RR (.ref D) C) { s with heap := h₁, toks := s.toks + ([] : List (Str × Value)).length }
  have loop : codeAny (model prog w) A (.compLoop (.ListComp elt [⟨target, iter, ifs, 0⟩] scope pos) 0 (.ref I) (.ref D) (compEnvC scope cl C env)) (RR (.ref D) C) { s with heap := h₁, toks := s.toks + ([] : List (Str × Value)).length } := by
    refine codeAny_compLoop_tests (fun k s' => ∃ i own' h tk g mc nx ys kk, k = n - i ∧ i ≤ n ∧ s' = { s with heap := h, toks := tk, gens := g } ∧ st i own' ∧ Fr h₀ C h mc ∧ News h₀ C h (own' ++ ([(D, W.listOf (List.toArray ys) kk), (L, oL)] ++ nx)) ∧ J D i ys nx g) ?_ n
      ⟨0, own, h₁, _, s.gens, _, news, [], 0, by (first | exact om30 | omega), Nat.zero_le _, rfl, h0, FC, NC, j0 D hlt⟩ ht
    rintro k s' ⟨i, own', h, tk, g, mc, nx, ys, kk, rfl, hi, rfl, hst, F', N', j⟩
    obtain ⟨hsrc, hoff, hoffD, hoffL, hys⟩ := hJ _ _ _ _ _ j
    have hsrc' : ∀ p ∈ src, p ∈ [(D, W.listOf (List.toArray ys) kk), (L, oL)] ++ nx := fun p hp => List.mem_append_right _ (hsrc p hp)
    have hoff' : ∀ a ∈ wr, Off a ([(D, W.listOf (List.toArray ys) kk), (L, oL)] ++ nx) := fun a ha => off_cons.mpr ⟨Nat.ne_of_gt (hwD a ha), off_cons.mpr ⟨fun e => (hwr a ha).2 e.symm, hoff a ha⟩⟩
    by_cases hltn : i < n
    · refine (hI C).item A _ i own' mc _ _ _ hh hltn hst F' N' hsrc' hoff' fun v own'' ex h' tk' hP hst' F'' N'' hl => ?_
      refine wpAny_mono (turn D C i v ex own'' mc nx ys kk oL h' tk' g hlt hLD hDC hltn hP hst' j F'' N'' hl fun q hq p hp e => hoff _ ((hI C).adr _ _ hst' q hq) p hp e.symm) (fun _ s₂ h₂ => ?_) (never _)
      refine wpAny_mono h₂ (fun ok s₃ h₃ => ?_) (never _)
      cases ok with
      | false =>
        rw [if_neg Bool.false_ne_true] at h₃
        rw [if_neg Bool.false_ne_true]
        obtain ⟨h9, tk9, g9, mc9, nx9, rfl, F9, N9, j9⟩ := h₃
        exact ⟨n - (i + 1), by (first | exact om31 hltn | omega), i + 1, own'', h9, tk9, g9, mc9, nx9, ys, kk, rfl, hltn, rfl, hst', F9, N9, j9⟩
      | true =>
        rw [if_pos rfl] at h₃
        rw [if_pos rfl]
        refine wpAny_mono h₃ (fun y s₄ h₄ => ?_) (never _)
        obtain ⟨h9, tk9, g9, mc9, nx9, rfl, F9, N9, j9⟩ := h₄
        obtain ⟨_, _, hoffD9, _, hys9⟩ := hJ _ _ _ _ _ j9
        refine append_K F9 N9 (upd_mid (fun p hp => (Nat.ne_of_lt (hwD _ ((hI C).adr _ _ hst' p hp)))) (off_cons.mpr ⟨Nat.ne_of_lt hLD, hoffD9⟩)) (fun h7 F7 N7 => ?_) (by rw [List.size_toArray, sizeLine_eq]; (first | exact om38 hn hys hltn | omega))
        rw [List.push_toArray] at N7
        exact ⟨n - (i + 1), by (first | exact om31 hltn | omega), i + 1, own'', h7, tk9, g9, mc9, nx9, ys ++ [y], kk + 1, rfl, hltn, rfl, hst', F7, N7, j9⟩
    · obtain rfl : i = n := by (first | exact om33 hi hltn | omega)
      refine (hI C).done A _ own' mc _ _ _ hh hst F' N' hsrc' hoff' fun h' tk' F'' N'' => ?_
      have hL' : h'.get? L = some oL := (N'' _ (.tail _ (.head _))).1
      have hDn := N'' _ (.head _)
      refine fin D C h' tk' g mc ys kk nx hlt hLD hDC j F''.ns ⟨⟨oL, a1, a2, hL', a3⟩, F''.keep, F.above⟩ (fun p hp => ?_) (fun p hp => (N'' p (.tail _ (.tail _ hp))).2.1) hC0
      rcases List.mem_cons.mp hp with rfl | hp
      · exact ⟨hDn.1, Nat.ne_of_gt hLD, hDn.2.2⟩
      · have q := N'' p (.tail _ (.tail _ hp))
        exact ⟨q.1, hoffL p hp, q.2.2⟩
  exact codeAny_compStart_list loop (hself A _ C 0 own _ _ _ h0 NC loop)
theorem all : ∀ x, prQ x := @sk tyC inI prQ (by with_unfolding_all exact @sB_main)
end sB
end seg_sA_main
theorem sA_main : prP prog w A epC.1.2.2.2.1 s h₀ L I src wr n epC.2.1.2.2.2.1 st target elt iter ifs scope pos cl env epC.2.2.1.2.2.2.2.2.1 news own J RR := @PSigma.snd _ _ seg_sA_main.body (fun a b c d e f g => @seg_sA_main.sB.all (a, b, c, d, e, f, g))
theorem all : ∀ x, prQ x := @sk tyC inI prQ (by with_unfolding_all exact @sA_main)
end sA
end seg_lc_block_all
theorem lc_block_all : ∀ (prog : Program) (w : World) (A : Around) (E : Value → Shared → Prop) (s : Shared) (h₀ : Heap) (L : Addr) (I : Addr) (src : List (Addr × Obj)) (wr : List Addr) (n : Nat) (P : Nat → Value → List (Addr × Obj) → Prop) (st : Nat → List (Addr × Obj) → Prop) (target : PySem.Expr) (elt : PySem.Expr) (iter : PySem.Expr) (ifs : List PySem.Expr) (scope : Scope) (pos : Pos) (cl : List (Str × Addr)) (env : Env) (m : Str → Option Value) (news : List (Addr × Obj)) (own : List (Addr × Obj)) (hI : ∀ C, It prog w h₀ C I src wr n P st) (hself : ItSelf prog w h₀ I st) (J : Addr → Nat → List Value → List (Addr × Obj) → Array GenState → Prop) (hh : A.handled = none) (hcell : ∀ y ∈ scope.names, y.2 ≠ .cell) (hkind : scope.kind = .function) (hn : n ≤ 100000) (h0 : st 0 own) (F : Fr h₀ L s.heap m) (N : News h₀ L s.heap (own ++ news)) (hwr : ∀ a ∈ wr, @LT.lt Nat _ a s.heap.objs.size ∧ a ≠ L) (j0 : ∀ D, (∀ q ∈ own ++ news, @LT.lt Nat _ q.1 D) → J D 0 [] news s.gens) (hJ : ∀ D i ys nx g, J D i ys nx g → (∀ p ∈ src, p ∈ nx) ∧ (∀ a ∈ wr, Off a nx) ∧ Off D nx ∧ Off L nx ∧ ys.length ≤ i) (RR : Value → Addr → Result → Shared → Prop) (turn : ∀ D C i v ex own' mc nx ys k oL h tk g, (∀ q ∈ own ++ news, @LT.lt Nat _ q.1 D) → @LT.lt Nat _ L D → @LT.lt Nat _ D C → i < n → P i v ex → st (i + 1) own' → J D i ys nx g → Fr h₀ C h mc →
      News h₀ C h (ex ++ (own' ++ ([(D, W.listOf (List.toArray ys) k), (L, oL)] ++ nx))) → (∀ p ∈ ex, ∀ q ∈ own' ++ ([(D, W.listOf (List.toArray ys) k), (L, oL)] ++ nx), @LT.lt Nat _ q.1 p.1) → (∀ q ∈ own', ∀ p ∈ nx, @Ne Nat q.1 p.1) →
      wpAny (model prog w) A (assign target (compEnvC scope cl C env) v) (fun _ s₂ =>
        wpAny (model prog w) A (forIn ifs true fun c r => if r = true then do let ok ← isTrue c (compEnvC scope cl C env) (eval c (compEnvC scope cl C env)); pure (ForInStep.yield ok) else pure (ForInStep.yield r)) (fun ok s₃ =>
          if ok = true then wpAny (model prog w) A (eval elt (compEnvC scope cl C env)) (fun y s₄ => CEnd h₀ C s own' [(D, W.listOf (List.toArray ys) k), (L, oL)] (J D (i + 1) (ys ++ [y])) s₄) Nev s₃
          else CEnd h₀ C s own' [(D, W.listOf (List.toArray ys) k), (L, oL)] (J D (i + 1) ys) s₃) Nev s₂) Nev { s with heap := h, toks := tk, gens := g }) (fin : ∀ D C h tk g mc ys k nx, (∀ q ∈ own ++ news, @LT.lt Nat _ q.1 D) → @LT.lt Nat _ L D → @LT.lt Nat _ D C → J D n ys nx g → h.Ns C mc → Fr h₀ L h m → News h₀ L h ((D, W.listOf (List.toArray ys) k) :: nx) → (∀ p ∈ nx, p.1 ≠ C) → h₀.get? C = none →
      RR (.ref D) C (.ok .next) { s with heap := h, toks := tk, gens := g }) (ht : ∀ v, letOwnedTupleGo target (.ref I) v = pure ()),
    wpAny (model prog w) A (newList []) (fun acc s₃ => wpAny (model prog w) A (newFunctionEnv scope env.globals cl [] env.qual none .none (some env)) (fun cenv s₄ =>
      codeAny (model prog w) A (.compStart (.ListComp elt [⟨target, iter, ifs, 0⟩] scope pos) 0 (.ref I) acc { cenv with scope := relabel scope env }) (RR acc cenv.locals) s₄) E s₃) E s := @PSigma.snd _ _ seg_lc_block_all.body (fun a b c d e f g h i j k l m n o p q r s t u v w x y z => @seg_lc_block_all.sA.all ((a, b, c, d, e, f, g, h), (i, j, k, l, m, n, o, p), (q, r, s, t, u, v, w, x), (y, z)))
section
variable {prog : Program} {w : World} {A : Around} {E : Value → Shared → Prop} {s : Shared} {h₀ : Heap} {L I : Addr} {src : List (Addr × Obj)} {wr : List Addr} {n : Nat} {P : Nat → Value → List (Addr × Obj) → Prop} {st : Nat → List (Addr × Obj) → Prop}
  {target elt iter : PySem.Expr} {ifs : List PySem.Expr} {scope : Scope} {pos : Pos} {cl : List (Str × Addr)} {env : Env} {m : Str → Option Value} {news own : List (Addr × Obj)}
theorem lc_block (hI : ∀ C, It prog w h₀ C I src wr n P st) (hself : ItSelf prog w h₀ I st) (J : Addr → Nat → List Value → List (Addr × Obj) → Array GenState → Prop) (hh : A.handled = none)
    (hcell : ∀ y ∈ scope.names, y.2 ≠ .cell) (hkind : scope.kind = .function) (hn : n ≤ 100000)
    (h0 : st 0 own) (F : Fr h₀ L s.heap m) (N : News h₀ L s.heap (own ++ news)) (hwr : ∀ a ∈ wr, @LT.lt Nat _ a s.heap.objs.size ∧ a ≠ L)
    (j0 : ∀ D, (∀ q ∈ own ++ news, @LT.lt Nat _ q.1 D) → J D 0 [] news s.gens)
    (hJ : ∀ D i ys nx g, J D i ys nx g → (∀ p ∈ src, p ∈ nx) ∧ (∀ a ∈ wr, Off a nx) ∧ Off D nx ∧ Off L nx ∧ ys.length ≤ i)
    {RR : Value → Addr → Result → Shared → Prop}
    (turn : ∀ D C i v ex own' mc nx ys k oL h tk g, (∀ q ∈ own ++ news, @LT.lt Nat _ q.1 D) → @LT.lt Nat _ L D → @LT.lt Nat _ D C → i < n → P i v ex → st (i + 1) own' → J D i ys nx g → Fr h₀ C h mc →
      News h₀ C h (ex ++ (own' ++ ([(D, W.listOf (List.toArray ys) k), (L, oL)] ++ nx))) → (∀ p ∈ ex, ∀ q ∈ own' ++ ([(D, W.listOf (List.toArray ys) k), (L, oL)] ++ nx), @LT.lt Nat _ q.1 p.1) → (∀ q ∈ own', ∀ p ∈ nx, @Ne Nat q.1 p.1) →
      wpAny (model prog w) A (assign target (compEnvC scope cl C env) v) (fun _ s₂ =>
        wpAny (model prog w) A (forIn ifs true fun c r => if r = true then do let ok ← isTrue c (compEnvC scope cl C env) (eval c (compEnvC scope cl C env)); pure (ForInStep.yield ok) else pure (ForInStep.yield r)) (fun ok s₃ =>
          if ok = true then wpAny (model prog w) A (eval elt (compEnvC scope cl C env)) (fun y s₄ => CEnd h₀ C s own' [(D, W.listOf (List.toArray ys) k), (L, oL)] (J D (i + 1) (ys ++ [y])) s₄) Nev s₃
          else CEnd h₀ C s own' [(D, W.listOf (List.toArray ys) k), (L, oL)] (J D (i + 1) ys) s₃) Nev s₂) Nev { s with heap := h, toks := tk, gens := g })
    (fin : ∀ D C h tk g mc ys k nx, (∀ q ∈ own ++ news, @LT.lt Nat _ q.1 D) → @LT.lt Nat _ L D → @LT.lt Nat _ D C → J D n ys nx g → h.Ns C mc → Fr h₀ L h m → News h₀ L h ((D, W.listOf (List.toArray ys) k) :: nx) → (∀ p ∈ nx, p.1 ≠ C) → h₀.get? C = none →
      RR (.ref D) C (.ok .next) { s with heap := h, toks := tk, gens := g })
    (ht : ∀ v, letOwnedTupleGo target (.ref I) v = pure () := by intro _; rfl) :
    wpAny (model prog w) A (newList []) (fun acc s₃ => wpAny (model prog w) A (newFunctionEnv scope env.globals cl [] env.qual none .none (some env)) (fun cenv s₄ =>
      codeAny (model prog w) A (.compStart (.ListComp elt [⟨target, iter, ifs, 0⟩] scope pos) 0 (.ref I) acc { cenv with scope := relabel scope env }) (RR acc cenv.locals) s₄) E s₃) E s := lc_block_all prog w A E s h₀ L I src wr n P st target elt iter ifs scope pos cl env m news own hI hself J hh hcell hkind hn h0 F N hwr j0 hJ RR turn fin ht
end
noncomputable def LcGo (prog : Program) (w : World) (A : Around) (elt target iter : PySem.Expr) (ifs : List PySem.Expr) (scope : Scope) (pos : Pos) (cl : List (Str × Addr)) (env : Env) (RR : Value → Addr → Result → Shared → Prop) (E : Value → Shared → Prop) (it : Value) (s : Shared) : Prop :=
  wpAny (model prog w) A (newList []) (fun acc s₃ => wpAny (model prog w) A (newFunctionEnv scope env.globals cl [] env.qual none .none (some env)) (fun cenv s₄ =>
      codeAny (model prog w) A (.compStart (.ListComp elt [⟨target, iter, ifs, 0⟩] scope pos) 0 it acc { cenv with scope := relabel scope env }) (RR acc cenv.locals) s₄) E s₃) E s
section
variable {prog : Program} {w : World} {A : Around} {E : Value → Shared → Prop} {s : Shared} {h₀ : Heap} {L I : Addr} {src : List (Addr × Obj)} {wr : List Addr} {n : Nat} {P : Nat → Value → List (Addr × Obj) → Prop} {st : Nat → List (Addr × Obj) → Prop}
  {target elt iter : PySem.Expr} {ifs : List PySem.Expr} {scope : Scope} {pos spos py : Pos} {cl : List (Str × Addr)} {env : Env} {m : Str → Option Value} {news own : List (Addr × Obj)} {y : Str}
theorem lc_eval {Q : Value → Shared → Prop} (hclos : closureFor scope env = pure cl) (hkind : scope.kind = .function) (hnames : ∀ x ∈ scope.names, x.2 = .local → scope.names.lookup x.1 = some .local)
    (h : wpAny (model prog w) A (eval iter env) (fun x s₁ => wpAny (model prog w) A (pyIter x) (fun it s₂ => LcGo prog w A elt target iter ifs scope pos cl env (compPost (model prog w) A E none Q) E it s₂) E s₁) E s)
    (hs : ∀ x, foldedSetIterable iter env x = pure x := by intro _; rfl) :
    wpAny (model prog w) A (eval (.ListComp elt [⟨target, iter, ifs, 0⟩] scope pos) env) Q E s := by
  rw [eval_ListComp]
  exact wpAny_comprehension_free (use := none) rfl hs hclos hkind hnames h
theorem lc_assign {Q : Flow → Shared → Prop} (hsw : swapsWith (.ListComp elt [⟨target, iter, ifs, 0⟩] scope pos) (some (.Name y py)) spos.line env = pure true)
    (hclos : closureFor scope env = pure cl) (hkind : scope.kind = .function) (hnames : ∀ x ∈ scope.names, x.2 = .local → scope.names.lookup x.1 = some .local)
    (h : wpAny (model prog w) A (eval iter env) (fun x s₁ => wpAny (model prog w) A (pyIter x) (fun it s₂ => LcGo prog w A elt target iter ifs scope pos cl env (compPost (model prog w) A E (some (assign (.Name y py) env)) (fun _ s' => Q .next s')) E it s₂) E s₁) E s)
    (hs : ∀ x, foldedSetIterable iter env x = pure x := by intro _; rfl) :
    wpAny (model prog w) A (exec (.Assign [.Name y py] (.ListComp elt [⟨target, iter, ifs, 0⟩] scope pos) spos) env) Q E s := by
  rw [exec_Assign_Name_used _ _ _ _ hsw]
  refine wpAny_bind (wpAny_standAt (wpAny_bind ?_))
  show wpAny _ A (do let _ ← comprehension (.ListComp elt [⟨target, iter, ifs, 0⟩] scope pos) scope env _ (newList []) false (eval iter env) (some (assign (.Name y py) env))) _ _ s
  exact wpAny_bind (wpAny_mono (wpAny_comprehension_free (use := some (assign (.Name y py) env)) (Q := fun _ s' => Q .next s') rfl hs hclos hkind hnames h) (fun _ s' hq => wpAny_pure (wpAny_pure hq)) fun _ _ e => e)
noncomputable def LcTurn (prog : Program) (w : World) (A : Around) (s : Shared) (h₀ : Heap) (L : Addr) (n : Nat) (P : Nat → Value → List (Addr × Obj) → Prop) (st : Nat → List (Addr × Obj) → Prop) (target elt : PySem.Expr) (ifs : List PySem.Expr) (scope : Scope) (cl : List (Str × Addr)) (env : Env) (all : List (Addr × Obj))
    (J : Addr → Nat → List Value → List (Addr × Obj) → Array GenState → Prop) : Prop :=
  ∀ D C i v ex own' mc nx ys k oL h tk g, (∀ q ∈ all, @LT.lt Nat _ q.1 D) → @LT.lt Nat _ L D → @LT.lt Nat _ D C → i < n → P i v ex → st (i + 1) own' → J D i ys nx g → Fr h₀ C h mc →
      News h₀ C h (ex ++ (own' ++ ([(D, W.listOf (List.toArray ys) k), (L, oL)] ++ nx))) → (∀ p ∈ ex, ∀ q ∈ own' ++ ([(D, W.listOf (List.toArray ys) k), (L, oL)] ++ nx), @LT.lt Nat _ q.1 p.1) → (∀ q ∈ own', ∀ p ∈ nx, @Ne Nat q.1 p.1) →
      wpAny (model prog w) A (assign target (compEnvC scope cl C env) v) (fun _ s₂ =>
        wpAny (model prog w) A (forIn ifs true fun c r => if r = true then do let ok ← isTrue c (compEnvC scope cl C env) (eval c (compEnvC scope cl C env)); pure (ForInStep.yield ok) else pure (ForInStep.yield r)) (fun ok s₃ =>
          if ok = true then wpAny (model prog w) A (eval elt (compEnvC scope cl C env)) (fun y s₄ => CEnd h₀ C s own' [(D, W.listOf (List.toArray ys) k), (L, oL)] (J D (i + 1) (ys ++ [y])) s₄) Nev s₃
          else CEnd h₀ C s own' [(D, W.listOf (List.toArray ys) k), (L, oL)] (J D (i + 1) ys) s₃) Nev s₂) Nev { s with heap := h, toks := tk, gens := g }
theorem lc_go {Q : Value → Shared → Prop} (hI : ∀ C, It prog w h₀ C I src wr n P st) (hself : ItSelf prog w h₀ I st) (J : Addr → Nat → List Value → List (Addr × Obj) → Array GenState → Prop) (hh : A.handled = none)
    (hcell : ∀ y ∈ scope.names, y.2 ≠ .cell) (hkind : scope.kind = .function) (hn : n ≤ 100000)
    (h0 : st 0 own) (F : Fr h₀ L s.heap m) (N : News h₀ L s.heap (own ++ news)) (hwr : ∀ a ∈ wr, @LT.lt Nat _ a s.heap.objs.size ∧ a ≠ L)
    (j0 : ∀ D, (∀ q ∈ own ++ news, @LT.lt Nat _ q.1 D) → J D 0 [] news s.gens)
    (hJ : ∀ D i ys nx g, J D i ys nx g → (∀ p ∈ src, p ∈ nx) ∧ (∀ a ∈ wr, Off a nx) ∧ Off D nx ∧ Off L nx ∧ ys.length ≤ i)
    (turn : LcTurn prog w A s h₀ L n P st target elt ifs scope cl env (own ++ news) J)
    (fin : ∀ D h tk g ys k nx, (∀ q ∈ own ++ news, @LT.lt Nat _ q.1 D) → J D n ys nx g → Fr h₀ L h m → News h₀ L h ((D, W.listOf (List.toArray ys) k) :: nx) → Q (.ref D) { s with heap := h, toks := tk, gens := g })
    (ht : ∀ v, letOwnedTupleGo target (.ref I) v = pure () := by intro _; rfl) :
    LcGo prog w A elt target iter ifs scope pos cl env (compPost (model prog w) A E none Q) E (.ref I) s := by
  refine lc_block hI hself J hh hcell hkind hn h0 F N hwr j0 hJ turn (fun D C h tk g mc ys k nx hlt hLD hDC j hns F' N' hC hC0 => ?_) ht
  refine ⟨mc, hns, fun h' hs => ?_⟩
  have hLC : C ≠ L := Nat.ne_of_gt (Nat.lt_trans hLD hDC)
  have N'' : News h₀ L h' ((D, W.listOf (List.toArray ys) k) :: nx) := fun p hp => by
    have q := N' p hp
    refine ⟨(hs.2 p.1 ?_).trans q.1, q.2⟩
    rcases List.mem_cons.mp hp with rfl | hp
    · exact Nat.ne_of_lt hDC
    · exact hC p hp
  exact fin D h' tk g ys k nx hlt j (F'.change hs hLC hC0) N''
theorem lc_goA {Q : Flow → Shared → Prop} (hI : ∀ C, It prog w h₀ C I src wr n P st) (hself : ItSelf prog w h₀ I st) (J : Addr → Nat → List Value → List (Addr × Obj) → Array GenState → Prop) (hh : A.handled = none)
    (hcell : ∀ y ∈ scope.names, y.2 ≠ .cell) (hkind : scope.kind = .function) (hn : n ≤ 100000)
    (hL : env.locals = L) (hy : env.kindOf y = some .local) (hp : (env.scope.kind == .class || (env.scope.kind == .module && env.locals != env.globals)) = false)
    (h0 : st 0 own) (F : Fr h₀ L s.heap m) (N : News h₀ L s.heap (own ++ news)) (hwr : ∀ a ∈ wr, @LT.lt Nat _ a s.heap.objs.size ∧ a ≠ L)
    (j0 : ∀ D, (∀ q ∈ own ++ news, @LT.lt Nat _ q.1 D) → J D 0 [] news s.gens)
    (hJ : ∀ D i ys nx g, J D i ys nx g → (∀ p ∈ src, p ∈ nx) ∧ (∀ a ∈ wr, Off a nx) ∧ Off D nx ∧ Off L nx ∧ ys.length ≤ i)
    (turn : LcTurn prog w A s h₀ L n P st target elt ifs scope cl env (own ++ news) J)
    (fin : ∀ D h tk g ys k nx, (∀ q ∈ own ++ news, @LT.lt Nat _ q.1 D) → J D n ys nx g → Fr h₀ L h (fun z => if z = y then some (.ref D) else m z) → News h₀ L h ((D, W.listOf (List.toArray ys) k) :: nx) → Q .next { s with heap := h, toks := tk, gens := g })
    (ht : ∀ v, letOwnedTupleGo target (.ref I) v = pure () := by intro _; rfl) :
    LcGo prog w A elt target iter ifs scope pos cl env (compPost (model prog w) A E (some (assign (.Name y py) env)) (fun _ s' => Q .next s')) E (.ref I) s := by
  refine lc_block hI hself J hh hcell hkind hn h0 F N hwr j0 hJ turn (fun D C h tk g mc ys k nx hlt hLD hDC j hns F' N' hC hC0 => ?_) ht
  have hLC : C ≠ L := Nat.ne_of_gt (Nat.lt_trans hLD hDC)
  show wpAny _ A (assign (.Name y py) env (.ref D)) _ _ _
  subst hL
  refine wpAny_assign_Name (wpAny_storeName_local hy F'.ns (fun h₂ hn₂ hs₂ => ?_) hp)
  have F2 := F'.set hn₂ hs₂
  have N2 := N'.set hs₂
  refine ⟨mc, hns.at' fun o e => (hs₂.2 C hLC).trans e, fun h' hs => ?_⟩
  have N'' : News h₀ env.locals h' ((D, W.listOf (List.toArray ys) k) :: nx) := fun p hp => by
    have q := N2 p hp
    refine ⟨(hs.2 p.1 ?_).trans q.1, q.2⟩
    rcases List.mem_cons.mp hp with rfl | hp
    · exact Nat.ne_of_lt hDC
    · exact hC p hp
  exact fin D h' _ g ys k nx hlt j (F2.change hs hLC hC0) N''
end
section
variable {prog : Program} {w : World} {A : Around} {E : Value → Shared → Prop} {s : Shared} {h₀ : Heap} {C : Addr} {mc : Str → Option Value} {nx : List (Addr × Obj)} {scope : Scope} {cl : List (Str × Addr)} {env : Env} {x : Str} {v : Value}
theorem stC {Q : Unit → Shared → Prop} (F : Fr h₀ C s.heap mc) (N : News h₀ C s.heap nx) (hl : (compEnvC scope cl C env).kindOf x = some .local)
    (h : ∀ h', Fr h₀ C h' (fun z => if z = x then some v else mc z) → News h₀ C h' nx → Q () { s with heap := h', toks := s.toks + 1 })
    (hp : ((compEnvC scope cl C env).scope.kind == .class || ((compEnvC scope cl C env).scope.kind == .module && (compEnvC scope cl C env).locals != (compEnvC scope cl C env).globals)) = false) :
    wpAny (model prog w) A (storeName (compEnvC scope cl C env) x v) Q E s :=
  wpAny_storeName_local (env := compEnvC scope cl C env) hl F.ns (fun h' hn hs => h h' (F.set hn hs) (N.set hs)) hp
theorem ldC {pos : Pos} {Q : Value → Shared → Prop} (F : Fr h₀ C s.heap mc) (hv : mc x = some v) (h : Q v s) (hk : (compEnvC scope cl C env).scope.kind = .function) (hl : (compEnvC scope cl C env).kindOf x = some .local) (hd : (x == ("__debug__" : Str)) = false) :
    wpAny (model prog w) A (eval (.Name x pos) (compEnvC scope cl C env)) Q E s := wpAny_Name (wpAny_loadName_local (env := compEnvC scope cl C env) hk hl F.ns hv h) hd
end
noncomputable def CKeep (h₀ : Heap) (C : Addr) (s : Shared) (ld : List (Addr × Obj)) (s₄ : Shared) : Prop := ∃ h tk mc, s₄ = { s with heap := h, toks := tk } ∧ Fr h₀ C h mc ∧ News h₀ C h ld
section
variable {prog : Program} {w : World} {A : Around} {E : Value → Shared → Prop} {s : Shared} {h₀ : Heap} {L I : Addr} {src : List (Addr × Obj)} {wr : List Addr} {n : Nat} {P : Nat → Value → List (Addr × Obj) → Prop} {st : Nat → List (Addr × Obj) → Prop}
  {target elt iter : PySem.Expr} {ifs : List PySem.Expr} {scope : Scope} {pos py : Pos} {cl : List (Str × Addr)} {env : Env} {m : Str → Option Value} {news own : List (Addr × Obj)} {y : Str}
theorem lc_const {Q : Value → Shared → Prop} (hI : ∀ C, It prog w h₀ C I src wr n P st) (hself : ItSelf prog w h₀ I st) (R : Nat → List Value → Prop) (hh : A.handled = none)
    (hcell : ∀ y ∈ scope.names, y.2 ≠ .cell) (hkind : scope.kind = .function) (hn : n ≤ 100000)
    (h0 : st 0 own) (F : Fr h₀ L s.heap m) (N : News h₀ L s.heap (own ++ news)) (hwr : ∀ a ∈ wr, a ∈ own.map (·.1)) (hsrc : ∀ p ∈ src, p ∈ news) (hoffw : ∀ a ∈ wr, Off a news)
    (r0 : R 0 []) (hR : ∀ i ys, R i ys → ys.length ≤ i)
    (turn : ∀ C i v ex own' mc ys dl h tk, i < n → P i v ex → st (i + 1) own' → R i ys → Fr h₀ C h mc → News h₀ C h (ex ++ (own' ++ (dl ++ news))) →
      wpAny (model prog w) A (assign target (compEnvC scope cl C env) v) (fun _ s₂ =>
        wpAny (model prog w) A (forIn ifs true fun c r => if r = true then do let ok ← isTrue c (compEnvC scope cl C env) (eval c (compEnvC scope cl C env)); pure (ForInStep.yield ok) else pure (ForInStep.yield r)) (fun ok s₃ =>
          if ok = true then wpAny (model prog w) A (eval elt (compEnvC scope cl C env)) (fun y s₄ => CKeep h₀ C s (own' ++ (dl ++ news)) s₄ ∧ R (i + 1) (ys ++ [y])) Nev s₃
          else CKeep h₀ C s (own' ++ (dl ++ news)) s₃ ∧ R (i + 1) ys) Nev s₂) Nev { s with heap := h, toks := tk })
    (fin : ∀ D h tk ys k, (∀ q ∈ own ++ news, @LT.lt Nat _ q.1 D) → R n ys → Fr h₀ L h m → News h₀ L h ((D, W.listOf (List.toArray ys) k) :: news) → Q (.ref D) { s with heap := h, toks := tk })
    (ht : ∀ v, letOwnedTupleGo target (.ref I) v = pure () := by intro _; rfl) :
    LcGo prog w A elt target iter ifs scope pos cl env (compPost (model prog w) A E none Q) E (.ref I) s := by
  have hlt0 : ∀ q ∈ own ++ news, @LT.lt Nat _ q.1 s.heap.objs.size := fun q hq => Heap.lt_size (N q hq).1
  refine lc_go hI hself (fun D i ys nx g => g = s.gens ∧ nx = news ∧ R i ys ∧ ∀ q ∈ own ++ news, @LT.lt Nat _ q.1 D) hh hcell hkind hn h0 F N ?_ ?_ ?_ ?_ ?_ ht
  · intro a ha
    obtain ⟨p, hp, rfl⟩ := List.mem_map.mp (hwr a ha)
    exact ⟨hlt0 p (List.mem_append_left _ hp), (N p (List.mem_append_left _ hp)).2.1⟩
  · exact fun D hD => ⟨rfl, rfl, r0, hD⟩
  · intro D i ys nx g pGZ5
    refine byC fun hGZ => ?_
    obtain ⟨_, rfl, hr, hD⟩ := pGZ5
    refine hGZ ?_; clear hGZ
    exact ⟨hsrc, hoffw, fun p hp => Nat.ne_of_lt (hD p (List.mem_append_right _ hp)), fun p hp => (N p (List.mem_append_right _ hp)).2.1, hR _ _ hr⟩
  · intro D C i v ex own' mc nx ys k oL h tk g hD hLD hDC hi hP hst pGZ20
    refine byC fun hGZ => ?_
    obtain ⟨rfl, rfl, hr, hD'⟩ := pGZ20
    refine hGZ ?_; clear hGZ
    intro F' N' _ _
    refine wpAny_mono (turn C i v ex own' mc ys _ h tk hi hP hst hr F' N') (fun _ s₂ h₂ => wpAny_mono h₂ (fun ok s₃ h₃ => ?_) fun _ _ x => x) fun _ _ x => x
    cases ok with
    | true =>
      rw [if_pos rfl] at h₃ ⊢
      refine wpAny_mono h₃ (fun y s₄ h₄ => ?_) fun _ _ x => x
      refine byC fun hGZ => ?_
      obtain ⟨⟨h9, tk9, mc9, rfl, F9, N9⟩, hr9⟩ := h₄
      refine hGZ ?_; clear hGZ
      exact ⟨h9, tk9, s.gens, mc9, _, rfl, F9, N9, rfl, rfl, hr9, hD'⟩
    | false =>
      rw [if_neg Bool.false_ne_true] at h₃ ⊢
      refine byC fun hGZ => ?_
      obtain ⟨⟨h9, tk9, mc9, rfl, F9, N9⟩, hr9⟩ := h₃
      refine hGZ ?_; clear hGZ
      exact ⟨h9, tk9, s.gens, mc9, _, rfl, F9, N9, rfl, rfl, hr9, hD'⟩
  · intro D h tk g ys k nx hD pGZ8
    refine byC fun hGZ => ?_
    obtain ⟨rfl, rfl, hr, _⟩ := pGZ8
    refine hGZ ?_; clear hGZ
    intro F' N'
    exact fin D h tk ys k hD hr F' N'
theorem lc_constA {Q : Flow → Shared → Prop} (hI : ∀ C, It prog w h₀ C I src wr n P st) (hself : ItSelf prog w h₀ I st) (R : Nat → List Value → Prop) (hh : A.handled = none)
    (hcell : ∀ y ∈ scope.names, y.2 ≠ .cell) (hkind : scope.kind = .function) (hn : n ≤ 100000)
    (hL : env.locals = L) (hy : env.kindOf y = some .local) (hp : (env.scope.kind == .class || (env.scope.kind == .module && env.locals != env.globals)) = false)
    (h0 : st 0 own) (F : Fr h₀ L s.heap m) (N : News h₀ L s.heap (own ++ news)) (hwr : ∀ a ∈ wr, a ∈ own.map (·.1)) (hsrc : ∀ p ∈ src, p ∈ news) (hoffw : ∀ a ∈ wr, Off a news)
    (r0 : R 0 []) (hR : ∀ i ys, R i ys → ys.length ≤ i)
    (turn : ∀ C i v ex own' mc ys dl h tk, i < n → P i v ex → st (i + 1) own' → R i ys → Fr h₀ C h mc → News h₀ C h (ex ++ (own' ++ (dl ++ news))) →
      wpAny (model prog w) A (assign target (compEnvC scope cl C env) v) (fun _ s₂ =>
        wpAny (model prog w) A (forIn ifs true fun c r => if r = true then do let ok ← isTrue c (compEnvC scope cl C env) (eval c (compEnvC scope cl C env)); pure (ForInStep.yield ok) else pure (ForInStep.yield r)) (fun ok s₃ =>
          if ok = true then wpAny (model prog w) A (eval elt (compEnvC scope cl C env)) (fun y s₄ => CKeep h₀ C s (own' ++ (dl ++ news)) s₄ ∧ R (i + 1) (ys ++ [y])) Nev s₃
          else CKeep h₀ C s (own' ++ (dl ++ news)) s₃ ∧ R (i + 1) ys) Nev s₂) Nev { s with heap := h, toks := tk })
    (fin : ∀ D h tk ys k, (∀ q ∈ own ++ news, @LT.lt Nat _ q.1 D) → R n ys → Fr h₀ L h (fun z => if z = y then some (.ref D) else m z) → News h₀ L h ((D, W.listOf (List.toArray ys) k) :: news) → Q .next { s with heap := h, toks := tk })
    (ht : ∀ v, letOwnedTupleGo target (.ref I) v = pure () := by intro _; rfl) :
    LcGo prog w A elt target iter ifs scope pos cl env (compPost (model prog w) A E (some (assign (.Name y py) env)) (fun _ s' => Q .next s')) E (.ref I) s := by
  have hlt0 : ∀ q ∈ own ++ news, @LT.lt Nat _ q.1 s.heap.objs.size := fun q hq => Heap.lt_size (N q hq).1
  refine lc_goA hI hself (fun D i ys nx g => g = s.gens ∧ nx = news ∧ R i ys ∧ ∀ q ∈ own ++ news, @LT.lt Nat _ q.1 D) hh hcell hkind hn hL hy hp h0 F N ?_ ?_ ?_ ?_ ?_ ht
  · intro a ha
    obtain ⟨p, hp, rfl⟩ := List.mem_map.mp (hwr a ha)
    exact ⟨hlt0 p (List.mem_append_left _ hp), (N p (List.mem_append_left _ hp)).2.1⟩
  · exact fun D hD => ⟨rfl, rfl, r0, hD⟩
  · intro D i ys nx g pGZ5
    refine byC fun hGZ => ?_
    obtain ⟨_, rfl, hr, hD⟩ := pGZ5
    refine hGZ ?_; clear hGZ
    exact ⟨hsrc, hoffw, fun p hp => Nat.ne_of_lt (hD p (List.mem_append_right _ hp)), fun p hp => (N p (List.mem_append_right _ hp)).2.1, hR _ _ hr⟩
  · intro D C i v ex own' mc nx ys k oL h tk g hD hLD hDC hi hP hst pGZ20
    refine byC fun hGZ => ?_
    obtain ⟨rfl, rfl, hr, hD'⟩ := pGZ20
    refine hGZ ?_; clear hGZ
    intro F' N' _ _
    refine wpAny_mono (turn C i v ex own' mc ys _ h tk hi hP hst hr F' N') (fun _ s₂ h₂ => wpAny_mono h₂ (fun ok s₃ h₃ => ?_) fun _ _ x => x) fun _ _ x => x
    cases ok with
    | true =>
      rw [if_pos rfl] at h₃ ⊢
      refine wpAny_mono h₃ (fun y s₄ h₄ => ?_) fun _ _ x => x
      refine byC fun hGZ => ?_
      obtain ⟨⟨h9, tk9, mc9, rfl, F9, N9⟩, hr9⟩ := h₄
      refine hGZ ?_; clear hGZ
      exact ⟨h9, tk9, s.gens, mc9, _, rfl, F9, N9, rfl, rfl, hr9, hD'⟩
    | false =>
      rw [if_neg Bool.false_ne_true] at h₃ ⊢
      refine byC fun hGZ => ?_
      obtain ⟨⟨h9, tk9, mc9, rfl, F9, N9⟩, hr9⟩ := h₃
      refine hGZ ?_; clear hGZ
      exact ⟨h9, tk9, s.gens, mc9, _, rfl, F9, N9, rfl, rfl, hr9, hD'⟩
  · intro D h tk g ys k nx hD pGZ8
    refine byC fun hGZ => ?_
    obtain ⟨rfl, rfl, hr, _⟩ := pGZ8
    refine hGZ ?_; clear hGZ
    intro F' N'
    exact fin D h tk ys k hD hr F' N'
end
end
section
@[reducible] noncomputable def Knows (m : Str → Option Value) : List (Str × Value) → Prop
  | [] => True
  | p :: r => m p.1 = some p.2 ∧ Knows m r
@[reducible] noncomputable def told (m : Str → Option Value) : List (Str × Value) → Str → Option Value
  | [], z => m z
  | p :: r, z => if z = p.1 then some p.2 else told m r z
theorem told_eq {m : Str → Option Value} : ∀ {ks : List (Str × Value)}, Knows m ks → told m ks = m
  | [], _ => rfl
  | p :: r, ⟨h1, h2⟩ => by
    funext z
    show (if z = p.1 then some p.2 else told m r z) = m z
    by_cases h : z = p.1
    · rw [if_pos h, h, h1]
    · rw [if_neg h, told_eq h2]
theorem fr_knows {h₀ h : Heap} {L : Addr} {m : Str → Option Value} (ks : List (Str × Value)) (F : Fr h₀ L h m) (hk : Knows m ks) : Fr h₀ L h (fun z => told m ks z) := by
  have e : (fun z => told m ks z) = m := told_eq hk
  rw [e]; exact F
end
section
theorem digs_get (n : Nat) : ∀ k x j, j < k → (digs n k x)[j]? = some (((x / 2 ^ (n * j)) % 2 ^ n : Nat) : Int)
  | k + 1, x, 0, _ => by simp [digs]
  | k + 1, x, j + 1, h => by
    simp only [digs, List.getElem?_cons_succ]
    rw [digs_get n k _ j (by (first | exact om62 h | omega)), Nat.div_div_eq_div_mul, ← Nat.pow_add]
    rw [show n + n * j = n * (j + 1) from by rw [Nat.mul_succ]; (first | exact om40 | omega)]
structure DivInv (a b n k i r : Nat) (qs : List Int) : Prop where
  rem : r = (a / 2 ^ (n * (k - i))) % b
  quo : bval n qs.reverse = (((a / 2 ^ (n * (k - i))) / b : Nat) : Int)
  dig : ∀ q ∈ qs, 0 ≤ q ∧ q < 2 ^ n
  len : qs.length = i
theorem div_start {a b n k : Nat} (h : a < 2 ^ (n * k)) : DivInv a b n k 0 0 [] where
  rem := by rw [Nat.sub_zero, Nat.div_eq_of_lt h, Nat.zero_mod]
  quo := by rw [Nat.sub_zero, Nat.div_eq_of_lt h, Nat.zero_div]; rfl
  dig := fun _ h => nomatch h
  len := rfl
theorem div_step {a b n k i r d : Nat} {qs : List Int} (hb : 0 < b) (_hbn : b < 2 ^ n) (hi : i < k) (h : DivInv a b n k i r qs) (hd : d = (a / 2 ^ (n * (k - 1 - i))) % 2 ^ n) :
    DivInv a b n k (i + 1) ((r * 2 ^ n + d) % b) (qs ++ [(((r * 2 ^ n + d) / b : Nat) : Int)]) ∧ r * 2 ^ n + d < b * 2 ^ n := by
  obtain ⟨h1, h2, h3, h4⟩ := h
  have hp : 0 < 2 ^ n := Nat.two_pow_pos n
  have hdl : d < 2 ^ n := by rw [hd]; exact Nat.mod_lt _ hp
  have hrb : r < b := by rw [h1]; exact Nat.mod_lt _ hb
  have hlt : r * 2 ^ n + d < b * 2 ^ n := by
    have : (r + 1) * 2 ^ n ≤ b * 2 ^ n := Nat.mul_le_mul_right _ hrb
    rw [Nat.add_mul, Nat.one_mul] at this
    omega
  have e1 : a / 2 ^ (n * (k - i)) = a / 2 ^ (n * (k - 1 - i)) / 2 ^ n := by
    rw [Nat.div_div_eq_div_mul, ← Nat.pow_add, ← Nat.mul_succ, show (k - 1 - i).succ = k - i from by (first | exact om63 hi | omega)]
  have e2 : k - (i + 1) = k - 1 - i := by (first | exact om64 | omega)
  generalize hX : a / 2 ^ (n * (k - 1 - i)) = X at *
  generalize hA : a / 2 ^ (n * (k - i)) = A at *
  have e3 : X = A * 2 ^ n + d := by
    rw [e1, hd]
    have := Nat.div_add_mod X (2 ^ n)
    rw [Nat.mul_comm] at this
    (first | exact om65 this | omega)
  have e4 : X = (r * 2 ^ n + d) + b * (A / b * 2 ^ n) := by
    have e5 := Nat.div_add_mod A b
    rw [← h1] at e5
    rw [e3]
    conv => lhs; rw [← e5]
    rw [Nat.add_mul, Nat.mul_assoc]
    (first | exact om66 | omega)
  refine ⟨⟨?_, ?_, ?_, ?_⟩, hlt⟩
  · rw [e2, hX, e4, Nat.add_mul_mod_self_left]
  · rw [e2, hX, e4, Nat.add_mul_div_left _ _ hb, List.reverse_append, List.reverse_singleton, List.singleton_append]
    simp only [bval]
    rw [h2, Int.natCast_add, Int.natCast_mul, Int.natCast_pow, Int.mul_comm]
    rfl
  · intro q hq
    rcases List.mem_append.mp hq with hq | hq
    · exact h3 q hq
    · rw [List.mem_singleton.mp hq]
      refine ⟨Int.natCast_nonneg _, ?_⟩
      have : (r * 2 ^ n + d) / b < 2 ^ n := Nat.div_lt_of_lt_mul hlt
      have e6 : ((2 ^ n : Nat) : Int) = (2 : Int) ^ n := by rw [Int.natCast_pow]; rfl
      (first | exact om67 this e6 | omega)
  · simp [h4]
theorem div_end {a b n k r : Nat} {qs : List Int} (h : DivInv a b n k k r qs) : r = a % b ∧ bval n qs.reverse = ((a / b : Nat) : Int) := by
  obtain ⟨h1, h2, _, _⟩ := h
  rw [Nat.sub_self, Nat.mul_zero, Nat.pow_zero, Nat.div_one] at h1 h2
  exact ⟨h1, h2⟩
end
section
noncomputable def rot (c : List Int) : List Int := c.getLast?.toList ++ c.dropLast
theorem rot_length (c : List Int) : (rot c).length = c.length := by
  rcases List.eq_nil_or_concat c with rfl | ⟨c, x, rfl⟩
  · rfl
  · simp [rot]
theorem rot_sum (c : List Int) : (rot c).sum = c.sum := by
  rcases List.eq_nil_or_concat c with rfl | ⟨c, x, rfl⟩
  · rfl
  · simp [rot]; (first | exact om68 | omega)
theorem rot_mem {c : List Int} {x : Int} (h : x ∈ rot c) : x ∈ c := by
  rcases List.eq_nil_or_concat c with rfl | ⟨c, y, rfl⟩
  · simp [rot] at h
  · simp [rot] at h ⊢; exact h.symm
theorem rot_bval (n : Nat) (c : List Int) : ∃ q, 2 ^ n * bval n c = bval n (rot c) + q * (2 ^ (n * c.length) - 1) := by
  rcases List.eq_nil_or_concat c with rfl | ⟨c, x, rfl⟩
  · exact ⟨0, by simp [rot, bval]⟩
  · refine ⟨x, ?_⟩
    have h1 : rot (c ++ [x]) = x :: c := by simp [rot]
    rw [List.concat_eq_append, h1, bval_append]
    simp only [bval, List.length_append, List.length_singleton]
    have e : (2 : Int) ^ (n * (c.length + 1)) = 2 ^ n * 2 ^ (n * c.length) := by rw [Nat.mul_succ, Nat.add_comm, Int.pow_add]
    rw [e]
    generalize (2 : Int) ^ n = X
    generalize (2 : Int) ^ (n * c.length) = Y
    generalize bval n c = B
    rw [Int.mul_add, Int.mul_sub, Int.mul_zero, Int.add_zero, Int.mul_one, ← Int.mul_assoc, Int.mul_comm x (X * Y)]
    (first | exact om69 | omega)
noncomputable def addl : List Int → List Int → List Int
  | a :: l, b :: r => (a + b) :: addl l r
  | _, _ => []
theorem addl_length : ∀ {l r : List Int}, l.length = r.length → (addl l r).length = r.length
  | [], [], _ => rfl
  | _ :: l, _ :: r, h => by simp only [addl, List.length_cons]; rw [addl_length (by simpa using h)]
theorem addl_sum : ∀ {l r : List Int}, l.length = r.length → (addl l r).sum = l.sum + r.sum
  | [], [], _ => rfl
  | a :: l, b :: r, h => by simp only [addl, List.sum_cons]; rw [addl_sum (by simpa using h)]; omega
theorem addl_bval (n : Nat) : ∀ {l r : List Int}, l.length = r.length → bval n (addl l r) = bval n l + bval n r
  | [], [], _ => rfl
  | a :: l, b :: r, h => by simp only [addl, bval]; rw [addl_bval n (by simpa using h), Int.mul_add]; omega
theorem map_mul_bval (n : Nat) (a : Int) : ∀ c : List Int, bval n (c.map (a * ·)) = a * bval n c
  | [] => by simp [bval]
  | x :: c => by simp only [List.map_cons, bval, map_mul_bval n a c, Int.mul_add]; rw [Int.mul_left_comm]
theorem map_mul_sum (a : Int) : ∀ c : List Int, (c.map (a * ·)).sum = a * c.sum
  | [] => by simp
  | x :: c => by simp only [List.map_cons, List.sum_cons, map_mul_sum a c, Int.mul_add]
noncomputable def conv : List Int → List Int → List Int
  | [], c => List.replicate c.length 0
  | a :: r, c => addl (c.map (a * ·)) (conv r (rot c))
theorem conv_length : ∀ (r c : List Int), (conv r c).length = c.length
  | [], c => by simp [conv]
  | a :: r, c => by
    have h := conv_length r (rot c)
    rw [rot_length] at h
    simp only [conv]
    rw [addl_length (by rw [List.length_map, h]), h]
theorem conv_sum : ∀ (r c : List Int), (conv r c).sum = r.sum * c.sum
  | [], c => by simp [conv]
  | a :: r, c => by
    simp only [conv]
    rw [addl_sum (by rw [List.length_map, conv_length, rot_length]), conv_sum r, rot_sum, map_mul_sum, List.sum_cons, Int.add_mul]
theorem bval_zeros (n : Nat) : ∀ k, bval n (List.replicate k 0) = 0
  | 0 => rfl
  | k + 1 => by simp [List.replicate_succ, bval, bval_zeros n k]
theorem conv_bval (n : Nat) : ∀ (r c : List Int), ∃ q, bval n r * bval n c = bval n (conv r c) + q * (2 ^ (n * c.length) - 1)
  | [], c => ⟨0, by simp [conv, bval, bval_zeros]⟩
  | a :: r, c => by
    obtain ⟨q1, h1⟩ := conv_bval n r (rot c)
    obtain ⟨q2, h2⟩ := rot_bval n c
    rw [rot_length] at h1
    refine ⟨q1 + bval n r * q2, ?_⟩
    simp only [conv, bval]
    rw [addl_bval n (by rw [List.length_map, conv_length, rot_length]), map_mul_bval]
    generalize hM : (2 : Int) ^ (n * c.length) - 1 = M at *
    have e1 : (a + 2 ^ n * bval n r) * bval n c = a * bval n c + bval n r * (2 ^ n * bval n c) := by
      rw [Int.add_mul, Int.mul_comm (2 ^ n) (bval n r), Int.mul_assoc]
    rw [e1, h2, Int.mul_add, h1, Int.add_mul, Int.mul_assoc]
    (first | exact om70 | omega)
theorem addl_le {A B : Int} : ∀ {l r : List Int}, (∀ x ∈ l, 0 ≤ x ∧ x ≤ A) → (∀ x ∈ r, 0 ≤ x ∧ x ≤ B) → ∀ x ∈ addl l r, 0 ≤ x ∧ x ≤ A + B
  | [], _, _, _ => by simp [addl]
  | _ :: _, [], _, _ => by simp [addl]
  | a :: l, b :: r, h1, h2 => by
    intro x hx
    simp only [addl] at hx
    rcases List.mem_cons.mp hx with rfl | hx
    · have := h1 a (.head _)
      have := h2 b (.head _)
      (first | exact om71 (by assumption) this | omega)
    · exact addl_le (fun y hy => h1 y (.tail _ hy)) (fun y hy => h2 y (.tail _ hy)) x hx
theorem conv_le {m : Int} (hm : 0 ≤ m) : ∀ (r c : List Int), (∀ x ∈ r, 0 ≤ x) → (∀ x ∈ c, 0 ≤ x ∧ x ≤ m) → ∀ x ∈ conv r c, 0 ≤ x ∧ x ≤ r.sum * m
  | [], c, _, _ => by
    intro x hx
    simp only [conv] at hx
    rw [List.eq_of_mem_replicate hx]
    simp
  | a :: r, c, h1, h2 => by
    intro x hx
    simp only [conv] at hx
    have ha := h1 a (.head _)
    have := addl_le (A := a * m) (B := r.sum * m) (fun y hy => ?_) (conv_le hm r (rot c) (fun y hy => h1 y (.tail _ hy)) fun y hy => h2 y (rot_mem hy)) x hx
    · rw [List.sum_cons, Int.add_mul]; exact this
    · obtain ⟨z, hz, rfl⟩ := List.mem_map.mp hy
      have hz := h2 z hz
      exact ⟨Int.mul_nonneg ha hz.1, Int.mul_le_mul_of_nonneg_left hz.2 ha⟩
theorem digs_bval (n : Nat) : ∀ l : List Int, (∀ a ∈ l, 0 ≤ a ∧ a < 2 ^ n) → digs n l.length (bval n l).toNat = l
  | [], _ => rfl
  | a :: l, h => by
    have ha := h a (.head _)
    have hl := bval_bound n l fun b hb => h b (.tail _ hb)
    have hp : (0 : Int) < 2 ^ n := Int.pow_pos (by decide)
    have e : (bval n (a :: l)).toNat = a.toNat + 2 ^ n * (bval n l).toNat := by
      have h1 : ((a.toNat + 2 ^ n * (bval n l).toNat : Nat) : Int) = bval n (a :: l) := by
        rw [Int.natCast_add, Int.natCast_mul, Int.toNat_of_nonneg ha.1, Int.toNat_of_nonneg hl.1, Int.natCast_pow]
        rfl
      (first | exact om72 h1 | omega)
    have ha2 : a.toNat < 2 ^ n := by
      have : ((a.toNat : Nat) : Int) < ((2 ^ n : Nat) : Int) := by rw [Int.toNat_of_nonneg ha.1, Int.natCast_pow]; exact ha.2
      (first | exact om73 this | omega)
    simp only [List.length_cons, digs]
    rw [e, Nat.add_mul_mod_self_left, Nat.mod_eq_of_lt ha2, Int.toNat_of_nonneg ha.1, Nat.add_mul_div_left _ _ (Nat.two_pow_pos n), Nat.div_eq_of_lt ha2, Nat.zero_add, digs_bval n l fun b hb => h b (.tail _ hb)]
theorem bval_lt (n : Nat) {l : List Int} (hl : l ≠ []) (h : ∀ a ∈ l, 0 ≤ a ∧ a ≤ 2 ^ n - 2) : 0 ≤ bval n l ∧ bval n l < 2 ^ (n * l.length) - 1 := by
  cases l with
  | nil => exact absurd rfl hl
  | cons a l =>
    have hp : (0 : Int) < 2 ^ n := Int.pow_pos (by decide)
    have ha := h a (.head _)
    have hl := bval_bound n l fun b hb => by have := h b (.tail _ hb); (first | exact om74 this | omega)
    simp only [bval, List.length_cons]
    have e : (2 : Int) ^ (n * (l.length + 1)) = 2 ^ n * 2 ^ (n * l.length) := by rw [Nat.mul_succ, Nat.add_comm, Int.pow_add]
    have h5 : 0 ≤ 2 ^ n * bval n l := Int.mul_nonneg (Int.le_of_lt hp) hl.1
    have h6 : 2 ^ n * (bval n l + 1) ≤ 2 ^ n * 2 ^ (n * l.length) := Int.mul_le_mul_of_nonneg_left (by (first | exact om75 hl | omega)) (Int.le_of_lt hp)
    rw [Int.mul_add, Int.mul_one] at h6
    rw [e]
    (first | exact om76 ha h5 h6 | omega)
theorem digs_mod_bval {n ring : Nat} {l : List Int} {P q : Int} (hl : l.length = ring) (hr : 0 < ring) (h : ∀ a ∈ l, 0 ≤ a ∧ a ≤ 2 ^ n - 2) (hP : P = bval n l + q * (2 ^ (n * ring) - 1)) :
    digs n ring (P % (2 ^ (n * ring) - 1)).toNat = l := by
  have h1 := bval_lt n (l := l) (by intro e; subst e; simp at hl; omega) h
  rw [hl] at h1
  rw [hP, Int.add_mul_emod_self_right, Int.emod_eq_of_lt h1.1 h1.2, ← hl]
  exact digs_bval n l fun a ha => by have := h a ha; (first | exact om74 this | omega)
end
section
theorem perm_sum {l l' : List Int} (h : l.Perm l') : l.sum = l'.sum := by
  induction h with
  | nil => rfl
  | cons x _ ih => rw [List.sum_cons, List.sum_cons, ih]
  | swap x y l => simp only [List.sum_cons]; omega
  | trans _ _ a b => exact a.trans b
theorem sum_at {f : Nat → Int} {l l' : List Nat} (h : l.isPerm l' = true) : (l.map f).sum = (l'.map f).sum := perm_sum ((List.isPerm_iff.mp h).map f)
theorem rot_get (c : List Int) (p : Nat) (hp : p < c.length) : (rot c).getD p 0 = c.getD ((p + (c.length - 1)) % c.length) 0 := by
  rcases List.eq_nil_or_concat c with rfl | ⟨l, x, rfl⟩
  · exact absurd hp (Nat.not_lt_zero _)
  · have h1 : rot (l ++ [x]) = x :: l := by simp [rot]
    rw [List.concat_eq_append] at hp ⊢
    rw [h1, List.length_append, List.length_singleton, Nat.add_sub_cancel]
    rw [List.length_append, List.length_singleton] at hp
    cases p with
    | zero => rw [Nat.zero_add, Nat.mod_eq_of_lt (Nat.lt_succ_self _)]; simp
    | succ q =>
      rw [show q + 1 + l.length = q + (l.length + 1) by (first | exact om77 | omega), Nat.add_mod_right, Nat.mod_eq_of_lt (by (first | exact om78 hp | omega))]
      simp [List.getD_eq_getElem?_getD, List.getElem?_append_left (show q < l.length by (first | exact om62 hp | omega))]
theorem addl_get : ∀ {l r : List Int} {p : Nat}, l.length = r.length → (addl l r).getD p 0 = l.getD p 0 + r.getD p 0
  | [], [], _, _ => rfl
  | a :: l, b :: r, 0, _ => rfl
  | a :: l, b :: r, p + 1, h => addl_get (l := l) (r := r) (p := p) (by simpa using h)
theorem conv_get : ∀ (r c : List Int) (p : Nat), p < c.length → (conv r c).getD p 0 = ((List.range r.length).map fun i => r.getD i 0 * c.getD ((p + i * (c.length - 1)) % c.length) 0).sum
  | [], c, p, hp => by simp [conv, List.getD_eq_getElem?_getD, List.getElem?_replicate, hp]
  | a :: r, c, p, hp => by
    rw [conv, addl_get (by rw [List.length_map, conv_length, rot_length]), conv_get r (rot c) p (by rw [rot_length]; exact hp), List.length_cons, List.range_succ_eq_map, List.map_cons, List.sum_cons, List.map_map, rot_length]
    congr 1
    · rw [Nat.zero_mul, Nat.add_zero, Nat.mod_eq_of_lt hp]
      simp [List.getD_eq_getElem?_getD, List.getElem?_eq_getElem hp]
    · congr 1
      refine List.map_congr_left fun i _ => ?_
      have h0 : 0 < c.length := by (first | exact om79 hp | omega)
      show _ = r.getD i 0 * _
      rw [rot_get c _ (Nat.mod_lt _ h0), Nat.mod_add_mod, Nat.succ_mul, Nat.add_assoc]
theorem get_ext {l r : List Int} (h : l.length = r.length) (hg : ∀ p, p < l.length → l.getD p 0 = r.getD p 0) : l = r := by
  refine List.ext_getElem h fun p h1 h2 => ?_
  have := hg p h1
  rwa [List.getD_eq_getElem?_getD, List.getD_eq_getElem?_getD, List.getElem?_eq_getElem h1, List.getElem?_eq_getElem h2] at this
theorem sum_get : ∀ l : List Int, ((List.range l.length).map fun i => l.getD i 0).sum = l.sum
  | [] => rfl
  | a :: l => by
    rw [List.length_cons, List.range_succ_eq_map, List.map_cons, List.sum_cons, List.map_map, List.sum_cons, ← sum_get l]
    rfl
theorem turn_perm : ∀ n ∈ [5, 7, 9], ∀ p < n, ((List.range n).map fun i => (p + i * (n - 1)) % n).isPerm (List.range n) = true := by decide +kernel
theorem sum_sub {f g : Nat → Int} : ∀ l : List Nat, (l.map fun i => f i - g i).sum = (l.map f).sum - (l.map g).sum
  | [] => rfl
  | a :: l => by simp only [List.map_cons, List.sum_cons, sum_sub l]; omega
theorem map_get {f : Int → Int} {l : List Int} {p : Nat} (hp : p < l.length) : (l.map f).getD p 0 = f (l.getD p 0) := by
  simp [List.getD_eq_getElem?_getD, List.getElem?_eq_getElem hp]
theorem turn_sum {c : List Int} {p : Nat} (hn : c.length ∈ [5, 7, 9]) (hp : p < c.length) : ((List.range c.length).map fun i => c.getD ((p + i * (c.length - 1)) % c.length) 0).sum = c.sum := by
  have h := sum_at (f := fun i => c.getD i 0) (turn_perm _ hn p hp)
  rw [List.map_map, sum_get] at h
  exact h
theorem conv_not0 {row c : List Int} (hn : c.length ∈ [5, 7, 9]) (hr : row.length = c.length) : conv (row.map (1 - ·)) c = (conv row c).map (c.sum - ·) := by
  refine get_ext (by rw [List.length_map, conv_length, conv_length]) fun p hp => ?_
  rw [conv_length] at hp
  rw [conv_get _ _ _ hp, map_get (by rw [conv_length]; exact hp), conv_get _ _ _ hp, ← turn_sum hn hp, List.length_map, hr, ← sum_sub]
  congr 1
  refine List.map_congr_left fun i hi => ?_
  rw [map_get (by rw [hr]; exact List.mem_range.mp hi), Int.sub_mul, Int.one_mul]
noncomputable def rowAt (seen : List Int) (ring : Nat) (term : Int) : Nat → List Int
  | 0 => List.replicate ring 0
  | i + 1 => (rowAt seen ring term i).set ((i * term) % ring).toNat (seen.getD i 0)
noncomputable abbrev rowOf (seen : List Int) (ring : Nat) (term : Int) : List Int := rowAt seen ring term ring
theorem rowAt_length (seen : List Int) (ring : Nat) (t : Int) : ∀ i, (rowAt seen ring t i).length = ring
  | 0 => by simp [rowAt]
  | i + 1 => by simp [rowAt, rowAt_length seen ring t i]
theorem rowAt_get {seen : List Int} {n u : Nat} {t : Int} (H : ∀ j < n, ∀ p < n, (((j : Int) * t) % n).toNat = p ↔ (p * u) % n = j) : ∀ i ≤ n, ∀ p < n, (rowAt seen n t i).getD p 0 = if (p * u) % n < i then seen.getD ((p * u) % n) 0 else 0
  | 0, _, p, hp => by simp [rowAt, List.getD_eq_getElem?_getD, List.getElem?_replicate, hp]
  | i + 1, hi, p, hp => by
    have ih := rowAt_get (seen := seen) H i (by (first | exact om80 hi | omega)) p hp
    have h := H i (by (first | exact om81 hi | omega)) p hp
    rw [rowAt, List.getD_eq_getElem?_getD, List.getElem?_set]
    by_cases hq : (((i : Int) * t) % n).toNat = p
    · rw [if_pos hq, rowAt_length, if_pos (by rw [hq]; exact hp), h.mp hq, if_pos (Nat.lt_succ_self i)]
      rfl
    · rw [if_neg hq, ← List.getD_eq_getElem?_getD, ih]
      have h2 : (p * u) % n ≠ i := fun e => hq (h.mpr e)
      by_cases h3 : (p * u) % n < i
      · rw [if_pos h3, if_pos (by (first | exact om82 h3 | omega))]
      · rw [if_neg h3, if_neg (by (first | exact om83 h2 h3 | omega))]
noncomputable def invT (n : Nat) (t : Int) : Nat := if t = 1 then 1 else if t = -1 then n - 1 else if t = 2 then (n + 1) / 2 else (n - 1) / 2
theorem inv_ok : ∀ n ∈ [(5 : Nat), 7, 9], ∀ t ∈ [(1 : Int), -1, 2, -2], ∀ j : Nat, j < n → ∀ p : Nat, p < n → ((((j : Int) * t) % n).toNat = p ↔ (p * invT n t) % n = j) := by decide +kernel
theorem term_perm : ∀ n ∈ [(5 : Nat), 7, 9], ∀ t ∈ [(1 : Int), -1, 2, -2], ((List.range n).map fun (i : Nat) => (((i : Int) * t) % n).toNat).isPerm (List.range n) = true := by decide +kernel
theorem term_at : ∀ n ∈ [(5 : Nat), 7, 9], ∀ t ∈ [(1 : Int), -1, 2, -2], ∀ p : Nat, p < n → ∀ i : Nat, i < n → (p + (((i : Int) * t) % n).toNat * (n - 1)) % n = (((p : Int) - t * i) % n).toNat := by decide +kernel
theorem rowOf_get {seen : List Int} {n : Nat} {t : Int} (hn : n ∈ [5, 7, 9]) (ht : t ∈ [(1 : Int), -1, 2, -2]) {p : Nat} (hp : p < n) : (rowOf seen n t).getD p 0 = seen.getD ((p * invT n t) % n) 0 := by
  rw [rowAt_get (inv_ok n hn t ht) n (Nat.le_refl n) p hp, if_pos (Nat.mod_lt _ (by (first | exact om79 hp | omega)))]
theorem rowOf_at {seen : List Int} {n : Nat} {t : Int} (hn : n ∈ [5, 7, 9]) (ht : t ∈ [(1 : Int), -1, 2, -2]) {i : Nat} (hi : i < n) : (rowOf seen n t).getD (((i : Int) * t) % n).toNat 0 = seen.getD i 0 := by
  have hp : (((i : Int) * t) % n).toNat < n := by
    have h1 := Int.emod_nonneg ((i : Int) * t) (b := n) (by (first | exact om84 hi | omega))
    have h2 := Int.emod_lt_of_pos ((i : Int) * t) (b := n) (by (first | exact om85 hi | omega))
    (first | exact om86 h1 h2 | omega)
  rw [rowOf_get hn ht hp, (inv_ok n hn t ht i hi _ hp).mp rfl]
theorem rowOf_sum0 {seen : List Int} {n : Nat} {t : Int} (hn : n ∈ [5, 7, 9]) (ht : t ∈ [(1 : Int), -1, 2, -2]) (hs : seen.length = n) : (rowOf seen n t).sum = seen.sum := by
  rw [← sum_get (rowOf seen n t), rowAt_length, ← sum_at (term_perm n hn t ht), List.map_map, ← sum_get seen, hs]
  congr 1
  exact List.map_congr_left fun i hi => rowOf_at hn ht (List.mem_range.mp hi)
noncomputable def cstep (kinds : List Int) (ring : Nat) (term : Int) (c : List Int) : List Int :=
  (List.range ring).map fun (p : Nat) => (((List.range ring).filter fun (i : Nat) => kinds.getD i 0 = 0).map fun (i : Nat) => c.getD (((p : Int) - term * (i : Int)) % (ring : Int)).toNat 0).sum
theorem sum_filter {p : Nat → Bool} {f : Nat → Int} : ∀ l : List Nat, ((l.filter p).map f).sum = (l.map fun x => if p x = true then f x else 0).sum
  | [] => rfl
  | x :: l => by
    rw [List.filter_cons]
    by_cases h : p x = true
    · rw [if_pos h, List.map_cons, List.map_cons, List.sum_cons, List.sum_cons, sum_filter l, if_pos h]
    · rw [if_neg h, List.map_cons, List.sum_cons, sum_filter l, if_neg h, Int.zero_add]
theorem conv_cstep0 {kinds c : List Int} {n : Nat} {t : Int} (hn : n ∈ [5, 7, 9]) (ht : t ∈ [(1 : Int), -1, 2, -2]) (hk : kinds.length = n) (hc : c.length = n) (hb : ∀ k ∈ kinds, k = 0 ∨ k = 1) :
    conv (rowOf (kinds.map (1 - ·)) n t) c = cstep kinds n t c := by
  have hl : (cstep kinds n t c).length = n := by rw [cstep, List.length_map, List.length_range]
  refine get_ext (by rw [conv_length, hc, hl]) fun p hp => ?_
  rw [conv_length] at hp
  rw [conv_get _ _ _ hp, rowAt_length, ← sum_at (term_perm n hn t ht), List.map_map, hc, cstep, List.getD_eq_getElem?_getD, List.getElem?_map, List.getElem?_range (by (first | exact om87 hc hp | omega))]
  show _ = List.sum _
  rw [sum_filter]
  congr 1
  refine List.map_congr_left fun i hi => ?_
  have hi := List.mem_range.mp hi
  show (rowOf _ n t).getD (((i : Int) * t) % n).toNat 0 * _ = _
  rw [rowOf_at hn ht hi, term_at n hn t ht p (by (first | exact om87 hc hp | omega)) i hi, map_get (by (first | exact om88 hk hi | omega))]
  have h2 : kinds.getD i 0 ∈ kinds := by
    rw [List.getD_eq_getElem?_getD, List.getElem?_eq_getElem (show i < kinds.length by (first | exact om88 hk hi | omega))]
    exact List.getElem_mem _
  rcases hb _ h2 with h3 | h3
  · rw [if_pos (decide_eq_true h3), h3, Int.sub_zero, Int.one_mul]
  · rw [if_neg (fun h => by have := of_decide_eq_true h; omega), h3, Int.sub_self, Int.zero_mul]
theorem one_at : ∀ n ∈ [(5 : Nat), 7, 9], ∀ p : Nat, p < n → ∀ i : Nat, i < n → ((1 : Int) :: List.replicate (n - 1) 0).getD ((p + i * (n - 1)) % n) 0 = if i = p then 1 else 0 := by decide +kernel
theorem sum_one {f : Nat → Int} {p : Nat} : ∀ k, p < k → ((List.range k).map fun i => f i * if i = p then 1 else 0).sum = f p
  | 0, h => absurd h (Nat.not_lt_zero _)
  | k + 1, h => by
    rw [List.range_succ, List.map_append, List.sum_append, List.map_singleton, List.sum_singleton]
    by_cases e : k = p
    · subst e
      have : ((List.range k).map fun i => f i * if i = k then 1 else 0) = List.replicate k 0 := by
        refine List.eq_replicate_iff.mpr ⟨by rw [List.length_map, List.length_range], fun x hx => ?_⟩
        obtain ⟨i, hi, rfl⟩ := List.mem_map.mp hx
        rw [if_neg (Nat.ne_of_lt (List.mem_range.mp hi)), Int.mul_zero]
      rw [this, if_pos rfl, Int.mul_one]
      simp
    · rw [sum_one k (by (first | exact om89 h e | omega)), if_neg e, Int.mul_zero, Int.add_zero]
theorem conv_one0 {row : List Int} {n : Nat} (hn : n ∈ [5, 7, 9]) (hk : row.length = n) : conv row (1 :: List.replicate (n - 1) 0) = row := by
  have h0 : 1 ≤ n := by
    rcases List.mem_cons.mp hn with h | h
    · (first | exact om90 h | omega)
    · rcases List.mem_cons.mp h with h | h
      · (first | exact om91 h | omega)
      · have := List.mem_singleton.mp h; (first | exact om92 this | omega)
  have hl : ((1 : Int) :: List.replicate (n - 1) 0).length = n := by rw [List.length_cons, List.length_replicate]; (first | exact om93 h0 | omega)
  refine get_ext (by rw [conv_length, hl, hk]) fun p hp => ?_
  rw [conv_length] at hp
  rw [conv_get _ _ _ hp, hl, hk]
  rw [hl] at hp
  refine Eq.trans ?_ (sum_one (f := fun i => row.getD i 0) n hp)
  congr 1
  exact List.map_congr_left fun i hi => by rw [one_at n hn p hp i (List.mem_range.mp hi)]
end
section
theorem cstep_length {kinds c : List Int} {ring : Nat} {t : Int} : (cstep kinds ring t c).length = ring := by simp [cstep]
theorem set_mem {l : List Int} {i : Nat} {v x : Int} (h : x ∈ l.set i v) : x ∈ l ∨ x = v := List.mem_or_eq_of_mem_set h
theorem rowAt_mem {seen : List Int} {ring : Nat} {t : Int} (h : ∀ x ∈ seen, 0 ≤ x ∧ x < 2) : ∀ i, ∀ x ∈ rowAt seen ring t i, 0 ≤ x ∧ x < 2
  | 0 => fun x hx => by rw [List.eq_of_mem_replicate hx]; decide
  | i + 1 => fun x hx => by
    rcases set_mem hx with hx | rfl
    · exact rowAt_mem h i x hx
    · rw [List.getD_eq_getElem?_getD]
      cases h9 : seen[i]? with
      | none => decide
      | some y => exact h y (List.mem_of_getElem? h9)
theorem rot_map (f : Int → Int) (c : List Int) : rot (c.map f) = (rot c).map f := by
  rcases List.eq_nil_or_concat c with rfl | ⟨c, x, rfl⟩
  · rfl
  · simp [rot]
theorem addl_map {a g s t : Int} : ∀ {l r : List Int}, l.length = r.length → addl (l.map fun x => a * (g * x + s)) (r.map fun x => g * x + t) = (addl (l.map (a * ·)) r).map fun x => g * x + (a * s + t)
  | [], [], _ => rfl
  | x :: l, y :: r, h => by
    simp only [List.map_cons, addl]
    rw [addl_map (by simpa using h), Int.mul_add, Int.mul_add, Int.mul_left_comm]
    congr 1
    (first | exact om94 | omega)
theorem conv_map {g s : Int} : ∀ (r c : List Int), conv r (c.map fun x => g * x + s) = (conv r c).map fun x => g * x + s * r.sum
  | [], c => by simp [conv]
  | a :: r, c => by
    simp only [conv]
    rw [rot_map, conv_map r (rot c), List.map_map, List.sum_cons, Int.mul_add, Int.mul_comm s a]
    exact addl_map (by rw [conv_length, rot_length])
noncomputable abbrev Ring (ring : Nat) : Prop := ring = 5 ∨ ring = 7 ∨ ring = 9
noncomputable abbrev Term (t : Int) : Prop := t = 1 ∨ t = -1 ∨ t = 2 ∨ t = -2
section
variable {ring : Nat} {kinds : List Int}
theorem ring_mem (hr : Ring ring) : ring ∈ [5, 7, 9] := by rcases hr with rfl | rfl | rfl <;> decide
theorem term_mem {t : Int} (ht : Term t) : t ∈ [(1 : Int), -1, 2, -2] := by rcases ht with rfl | rfl | rfl | rfl <;> decide
theorem conv_cstep {c : List Int} {t : Int} (hr : Ring ring) (hk : kinds.length = ring) (hc : c.length = ring) (hb : ∀ k ∈ kinds, k = 0 ∨ k = 1) (ht : Term t) :
    conv (rowOf (kinds.map (1 - ·)) ring t) c = cstep kinds ring t c := conv_cstep0 (ring_mem hr) (term_mem ht) hk hc hb
theorem rowOf_sum {seen : List Int} {t : Int} (hr : Ring ring) (hk : seen.length = ring) (ht : Term t) : (rowOf seen ring t).sum = seen.sum := rowOf_sum0 (ring_mem hr) (term_mem ht) hk
theorem conv_one {row : List Int} (hr : Ring ring) (hk : row.length = ring) : conv row (1 :: List.replicate (ring - 1) 0) = row := conv_one0 (ring_mem hr) hk
theorem conv_not {row c : List Int} (hr : Ring ring) (hk : row.length = ring) (hc : c.length = ring) : conv (row.map (1 - ·)) c = (conv row c).map (c.sum - ·) := conv_not0 (hc ▸ ring_mem hr) (hk.trans hc.symm)
end
noncomputable def counted (kinds : List Int) (ring : Nat) (terms : List Int) : List Int := terms.foldl (fun c t => cstep kinds ring t c) (1 :: List.replicate (ring - 1) 0)
noncomputable def convs (c : List Int) (rows : List (List Int)) : List Int := rows.foldl (fun c r => conv r c) c
theorem convs_length : ∀ (rows : List (List Int)) (c : List Int), (convs c rows).length = c.length
  | [], _ => rfl
  | r :: rows, c => by
    show (convs (conv r c) rows).length = _
    rw [convs_length rows, conv_length]
theorem convs_counted {ring : Nat} {kinds : List Int} (hr : Ring ring) (hk : kinds.length = ring) (hb : ∀ k ∈ kinds, k = 0 ∨ k = 1) : ∀ (terms c : List Int), (∀ t ∈ terms, Term t) → c.length = ring →
    convs c (terms.map (rowOf (kinds.map (1 - ·)) ring)) = terms.foldl (fun c t => cstep kinds ring t c) c
  | [], _, _, _ => rfl
  | t :: terms, c, ht, hc => by
    show convs (conv _ c) _ = List.foldl _ (cstep kinds ring t c) terms
    rw [conv_cstep hr hk hc hb (ht t (.head _))]
    exact convs_counted hr hk hb terms _ (fun u hu => ht u (.tail _ hu)) cstep_length
theorem convs_bval (n : Nat) {M : Int} : ∀ (rows : List (List Int)) (c : List Int) (v q : Int), M = 2 ^ (n * c.length) - 1 → v = bval n c + q * M → ∃ q', (rows.map (bval n)).foldl (· * ·) v = bval n (convs c rows) + q' * M
  | [], _, v, q, _, h => ⟨q, h⟩
  | r :: rows, c, v, q, hM, h => by
    obtain ⟨q1, h1⟩ := conv_bval n r c
    rw [← hM] at h1
    refine convs_bval n rows (conv r c) (v * bval n r) (q1 + bval n r * q) (by rw [conv_length]; exact hM) ?_
    rw [h, Int.mul_comm, Int.mul_add, h1, Int.add_mul, Int.mul_assoc]
    (first | exact om95 | omega)
theorem convs_le {b : Int} (hb : 0 ≤ b) : ∀ (rows : List (List Int)) (c : List Int) (m : Int), 0 ≤ m → (∀ r ∈ rows, (∀ x ∈ r, 0 ≤ x) ∧ r.sum ≤ b) → (∀ x ∈ c, 0 ≤ x ∧ x ≤ m) → ∀ x ∈ convs c rows, 0 ≤ x ∧ x ≤ b ^ rows.length * m
  | [], _, m, _, _, h2 => by simpa [convs] using h2
  | r :: rows, c, m, hm, h1, h2 => by
    have hr := h1 r (.head _)
    have h3 := conv_le hm r c hr.1 h2
    have h4 := convs_le hb rows (conv r c) (b * m) (Int.mul_nonneg hb hm) (fun r hr => h1 r (.tail _ hr)) (fun x hx => ?_)
    · rw [List.length_cons, Int.pow_succ, Int.mul_assoc]
      exact h4
    · have := h3 x hx
      exact ⟨this.1, Int.le_trans this.2 (Int.mul_le_mul_of_nonneg_right hr.2 hm)⟩
structure Even (ring : Nat) (a b : Int) (k : Nat) (P Q : List Int) (g s : Int) : Prop where
  lp : P.length = ring
  all : Q = P.map fun x => g * x + s
  sp : P.sum = a ^ k
  sq : Q.sum = b ^ k
  sh : (ring : Int) * s = b ^ k - g * a ^ k
theorem Even.step {ring : Nat} {a b : Int} {k : Nat} {P Q row : List Int} {g s : Int} (E : Even ring a b k P Q g s) (hr : Ring ring) (hl : row.length = ring) (ha : row.sum = a) (hab : a + b = ring) :
    Even ring a b (k + 1) (conv row P) (conv (row.map (1 - ·)) Q) (-g) (b ^ k - s * a) := by
  obtain ⟨lp, all, sp, sq, sh⟩ := E
  have lq : Q.length = ring := by rw [all, List.length_map, lp]
  have hnot := conv_not hr hl lq
  have hone : (row.map (1 - ·)).sum = b := by
    have : ∀ l : List Int, (l.map (1 - ·)).sum = l.length - l.sum := by
      intro l
      induction l with
      | nil => rfl
      | cons x l ih => simp only [List.map_cons, List.sum_cons, List.length_cons, ih]; (first | exact om96 | omega)
    rw [this, hl, ha]; (first | exact om97 hab | omega)
  refine ⟨by rw [conv_length, lp], ?_, ?_, ?_, ?_⟩
  · rw [hnot, sq]
    conv => lhs; rw [all]
    rw [conv_map, ha, List.map_map]
    refine List.map_congr_left fun x _ => ?_
    show b ^ k - (g * x + s * a) = -g * x + (b ^ k - s * a)
    rw [Int.neg_mul]; (first | exact om98 | omega)
  · rw [conv_sum, ha, sp, Int.pow_succ, Int.mul_comm]
  · rw [conv_sum, hone, sq, Int.pow_succ, Int.mul_comm]
  · rw [Int.mul_sub, ← Int.mul_assoc, sh, Int.pow_succ, Int.pow_succ, ← hab, Int.add_mul, Int.sub_mul, Int.neg_mul, Int.mul_comm a (b ^ k), Int.mul_comm b (b ^ k), Int.mul_assoc g]
    (first | exact om99 | omega)
theorem Even.steps {ring : Nat} {a b : Int} (hr : Ring ring) (hab : a + b = ring) : ∀ (rows : List (List Int)) (k : Nat) (P Q : List Int) (g s : Int), Even ring a b k P Q g s → (∀ r ∈ rows, r.length = ring ∧ r.sum = a) →
    ∃ s', Even ring a b (k + rows.length) (convs P rows) (convs Q (rows.map (List.map (1 - ·)))) (g * (-1) ^ rows.length) s'
  | [], k, P, Q, g, s, E, _ => ⟨s, by simpa [convs] using E⟩
  | r :: rows, k, P, Q, g, s, E, h => by
    have hr0 := h r (.head _)
    obtain ⟨s', E'⟩ := Even.steps hr hab rows (k + 1) _ _ _ _ (E.step hr hr0.1 hr0.2 hab) fun r hr => h r (.tail _ hr)
    refine ⟨s', ?_⟩
    have e1 : k + (r :: rows).length = k + 1 + rows.length := by rw [List.length_cons]; (first | exact om100 | omega)
    have e2 : g * (-1) ^ (r :: rows).length = -g * (-1) ^ rows.length := by
      rw [List.length_cons, Int.pow_succ, Int.mul_comm ((-1) ^ rows.length), ← Int.mul_assoc]
      congr 1
      (first | exact om101 | omega)
    rw [e1, e2]
    exact E'
end
section
theorem sum_nonneg {l : List Int} (h : ∀ x ∈ l, 0 ≤ x ∧ x < 2) : 0 ≤ l.sum ∧ l.sum ≤ l.length := by
  induction l with
  | nil => simp
  | cons x l ih =>
    have h1 := h x (.head _)
    have h2 := ih fun y hy => h y (.tail _ hy)
    simp only [List.sum_cons, List.length_cons]
    (first | exact om102 h1 h2 | omega)
theorem not_mem_bits {l : List Int} (h : ∀ x ∈ l, 0 ≤ x ∧ x < 2) : ∀ x ∈ l.map (1 - ·), 0 ≤ x ∧ x < 2 := by
  intro x hx
  obtain ⟨y, hy, rfl⟩ := List.mem_map.mp hx
  have := h y hy
  (first | exact om103 this | omega)
theorem fold_digs {ring n : Nat} {rows : List (List Int)} (hr : Ring ring) (hn : 13 ≤ n) (h : ∀ r ∈ rows, r.length = ring ∧ ∀ x ∈ r, 0 ≤ x ∧ x < 2) (h0 : rows ≠ []) (h5 : rows.length ≤ 5) :
    digs n ring ((rows.map (bval n)).foldl (· * ·) 1 % (2 ^ (n * ring) - 1)).toNat = convs (1 :: List.replicate (ring - 1) 0) rows := by
  have hring : 5 ≤ ring ∧ ring ≤ 9 := by rcases hr with rfl | rfl | rfl <;> decide
  have l0 : (1 :: List.replicate (ring - 1) (0 : Int)).length = ring := by simp; (first | exact om104 hring | omega)
  obtain ⟨q, hq⟩ := convs_bval n (M := 2 ^ (n * ring) - 1) rows (1 :: List.replicate (ring - 1) 0) 1 0 (by rw [l0]) (by simp [bval, bval_zeros])
  refine digs_mod_bval (by rw [convs_length, l0]) (by (first | exact om105 hring | omega)) ?_ hq
  cases rows with
  | nil => exact absurd rfl h0
  | cons r rows =>
    have hr0 := h r (.head _)
    have e : convs (1 :: List.replicate (ring - 1) 0) (r :: rows) = convs r rows := by
      show convs (conv r _) rows = _
      rw [conv_one hr hr0.1]
    rw [e]
    have h9 := convs_le (b := 9) (by decide) rows r 1 (by decide) (fun r' hr' => ?_) (fun x hx => by have := hr0.2 x hx; (first | exact om106 this | omega))
    · intro x hx
      have h1 := h9 x hx
      have h2 : (9 : Int) ^ rows.length ≤ 9 ^ 4 := by
        have h3 : rows.length ≤ 4 := by rw [List.length_cons] at h5; (first | exact om107 h5 | omega)
        have := Nat.pow_le_pow_right (n := 9) (by decide) h3
        exact_mod_cast this
      have h3 : (2 : Int) ^ 13 ≤ 2 ^ n := by
        have := Nat.pow_le_pow_right (n := 2) (by decide) hn
        exact_mod_cast this
      have h4 : (9 : Int) ^ 4 = 6561 := by decide
      have h5 : (2 : Int) ^ 13 = 8192 := by decide
      (first | exact om108 h1 h2 h3 | omega)
    · have h1 := h r' (.tail _ hr')
      have h2 := sum_nonneg h1.2
      exact ⟨fun x hx => (h1.2 x hx).1, by (first | exact om109 hring h1 h2 | omega)⟩
section
variable {ring n : Nat} {kinds terms : List Int}
theorem bits_of (hb : ∀ k ∈ kinds, k = 0 ∨ k = 1) : ∀ x ∈ kinds, 0 ≤ x ∧ x < 2 := fun x hx => by rcases hb x hx with rfl | rfl <;> decide
theorem rows_ok (hk : kinds.length = ring) (hb : ∀ k ∈ kinds, k = 0 ∨ k = 1) : ∀ r ∈ terms.map (rowOf (kinds.map (1 - ·)) ring), r.length = ring ∧ ∀ x ∈ r, 0 ≤ x ∧ x < 2 := by
  intro r hr
  obtain ⟨t, _, rfl⟩ := List.mem_map.mp hr
  exact ⟨rowAt_length _ _ _ _, rowAt_mem (not_mem_bits (bits_of hb)) _⟩
theorem others_ok {rows : List (List Int)} (h : ∀ r ∈ rows, r.length = ring ∧ ∀ x ∈ r, 0 ≤ x ∧ x < 2) : ∀ r ∈ rows.map (List.map (1 - ·)), r.length = ring ∧ ∀ x ∈ r, 0 ≤ x ∧ x < 2 := by
  intro r hr
  obtain ⟨t, ht, rfl⟩ := List.mem_map.mp hr
  exact ⟨by rw [List.length_map]; exact (h t ht).1, not_mem_bits (h t ht).2⟩
theorem folded_counts (hr : Ring ring) (hn : 13 ≤ n) (hk : kinds.length = ring) (hb : ∀ k ∈ kinds, k = 0 ∨ k = 1) (ht : ∀ t ∈ terms, Term t) (h0 : terms ≠ []) (h5 : terms.length ≤ 5) :
    digs n ring (((terms.map (rowOf (kinds.map (1 - ·)) ring)).map (bval n)).foldl (· * ·) 1 % (2 ^ (n * ring) - 1)).toNat = counted kinds ring terms := by
  rw [fold_digs hr hn (rows_ok hk hb) (by simpa using h0) (by simpa using h5), convs_counted hr hk hb terms _ ht (by rcases hr with rfl | rfl | rfl <;> rfl)]
  rfl
theorem sum_not : ∀ l : List Int, (l.map (1 - ·)).sum = l.length - l.sum
  | [] => rfl
  | x :: l => by simp only [List.map_cons, List.sum_cons, List.length_cons, sum_not l]; omega
theorem folded_others (hr : Ring ring) (hn : 13 ≤ n) (hk : kinds.length = ring) (hb : ∀ k ∈ kinds, k = 0 ∨ k = 1) (ht : ∀ t ∈ terms, Term t) (h35 : terms.length = 3 ∨ terms.length = 5) :
    ∃ share : Int, kinds.sum ^ terms.length + ((ring : Int) - kinds.sum) ^ terms.length = ring * share ∧
    digs n ring ((((terms.map (rowOf (kinds.map (1 - ·)) ring)).map (List.map (1 - ·))).map (bval n)).foldl (· * ·) 1 % (2 ^ (n * ring) - 1)).toNat = (counted kinds ring terms).map (share - ·) := by
  have h0 : terms ≠ [] := by rintro rfl; simp at h35
  have hs : ∀ r ∈ terms.map (rowOf (kinds.map (1 - ·)) ring), r.length = ring ∧ r.sum = ring - kinds.sum := by
    intro r hr9
    obtain ⟨t, ht9, rfl⟩ := List.mem_map.mp hr9
    refine ⟨rowAt_length _ _ _ _, ?_⟩
    rw [rowOf_sum hr (by rw [List.length_map, hk]) (ht t ht9), sum_not, hk]
  have hring : 5 ≤ ring ∧ ring ≤ 9 := by rcases hr with rfl | rfl | rfl <;> decide
  have l0 : (1 :: List.replicate (ring - 1) (0 : Int)).length = ring := by simp; (first | exact om104 hring | omega)
  have E0 : Even ring (ring - kinds.sum) kinds.sum 0 (1 :: List.replicate (ring - 1) 0) (1 :: List.replicate (ring - 1) 0) 1 0 := by
    refine ⟨l0, ?_, ?_, ?_, ?_⟩ <;> simp
  obtain ⟨s, E⟩ := E0.steps hr (by (first | exact om110 | omega)) _ _ _ _ _ _ hs
  obtain ⟨_, all, _, _, sh⟩ := E
  rw [List.length_map, Nat.zero_add] at sh
  rw [List.length_map] at all
  have hg : (1 : Int) * (-1) ^ terms.length = -1 := by rcases h35 with h | h <;> rw [h] <;> decide
  rw [hg] at all sh
  refine ⟨s, by rw [sh, Int.neg_mul, Int.one_mul]; (first | exact om111 | omega), ?_⟩
  rw [fold_digs hr hn (others_ok (rows_ok hk hb)) (by simpa using h0) (by simp; (first | exact om112 h35 | omega)), all, convs_counted hr hk hb terms _ ht l0]
  refine List.map_congr_left fun x _ => ?_
  (first | exact om113 | omega)
end
end
section
open PySem.StrLaws Builtin Builtin.Str in
theorem occ_go (x : Str) (c : Nat) : ∀ (n i : Nat) (found : Array Nat) (free : Nat), i + n = x.length + 1 → found.size ≤ i → free ≤ i →
    (forIn (List.range' i n) (found, free) (occBody x ⟨#[c]⟩ x.length (x.length + 1))).run.fst.size = found.size + (x.cps.toList.drop i).count c
  | 0, i, found, free, h, _, _ => by
    rw [List.drop_of_length_le (by show x.cps.toList.length ≤ i; have : x.length = x.cps.toList.length := by simp [Str.length]
                                   (first | exact om114 h this | omega))]
    simp
  | n + 1, i, found, free, h, h1, h2 => by
    rw [List.range'_succ, List.forIn_cons]
    unfold occBody
    have hl : x.length = x.cps.toList.length := by simp [Str.length]
    have e1 : (⟨#[c]⟩ : Str).length = 1 := rfl
    have key := subAt_one x c i
    by_cases hc : x.cps.toList[i]? = some c
    · have k := key.mpr hc
      rw [if_pos ⟨⟨⟨by show found.size < _; (first | exact om115 h h1 | omega), h2⟩, k.1⟩, k.2⟩]
      have hlt : i < x.cps.toList.length := by rw [e1] at k; (first | exact om116 hl k | omega)
      have ih := occ_go x c n (i + 1) (found.push i) (i + 1) (by (first | exact om117 h | omega)) (by simp; (first | exact om118 h1 | omega)) (Nat.le_refl _)
      rw [List.drop_eq_getElem_cons hlt]
      have hg : x.cps.toList[i] = c := by rw [List.getElem?_eq_getElem hlt] at hc; exact Option.some.inj hc
      rw [hg, List.count_cons_self]
      rw [Array.size_push] at ih
      refine ih.trans ?_
      (first | exact om77 | omega)
    · rw [if_neg (fun h => hc (key.mp ⟨h.1.2, h.2⟩))]
      have ih := occ_go x c n (i + 1) found free (by (first | exact om117 h | omega)) (by (first | exact om119 h1 | omega)) (by (first | exact om119 h2 | omega))
      refine ih.trans ?_
      by_cases hlt : i < x.cps.toList.length
      · rw [List.drop_eq_getElem_cons hlt, List.count_cons]
        have hg : x.cps.toList[i] ≠ c := by rw [List.getElem?_eq_getElem hlt] at hc; exact fun e => hc (by rw [e])
        rw [if_neg (by simpa using hg)]
        rfl
      · rw [List.drop_of_length_le (by (first | exact om120 hlt | omega)), List.drop_of_length_le (by (first | exact om121 hlt | omega))]
noncomputable def cc (x : Str) : Nat := x.cps.toList.count 44
theorem count_cc (x : Str) : Txt.count x (Str.ofString ",") = (cc x : Int) := by
  unfold Txt.count
  rw [PySem.StrLaws.occ_eq]
  have h := occ_go x 44 (x.length + 1) 0 #[] 0 (by (first | exact om122 | omega)) (Nat.le_refl _) (Nat.le_refl _)
  have e : (Str.ofString "," : Str) = ⟨#[44]⟩ := by decide +kernel
  rw [e]
  rw [Array.length_toList, Nat.sub_zero, h]
  simp [cc]
theorem cc_append (x y : Str) : cc (x ++ y) = cc x + cc y := by
  show List.count 44 (x.cps ++ y.cps).toList = _
  rw [Array.toList_append, List.count_append]
  rfl
theorem count_takeWhile_space {l : List Nat} (hf : Unicode.isSpace 44 = false) : (l.takeWhile Unicode.isSpace).count 44 = 0 := by
  rw [List.count_eq_zero]
  intro h
  have : ∀ {l : List Nat}, 44 ∈ l.takeWhile Unicode.isSpace → Unicode.isSpace 44 = true := by
    intro l
    induction l with
    | nil => intro h; simp at h
    | cons a l ih =>
      intro h
      rw [List.takeWhile_cons] at h
      split at h
      · rcases List.mem_cons.mp h with rfl | h
        · assumption
        · exact ih h
      · simp at h
  rw [this h] at hf
  cases hf
theorem count_drop_take {l : List Nat} (hf : Unicode.isSpace 44 = false) : (l.drop (l.takeWhile Unicode.isSpace).length).count 44 = l.count 44 := by
  have h := List.take_append_drop (l.takeWhile Unicode.isSpace).length l
  have h1 : l.take (l.takeWhile Unicode.isSpace).length = l.takeWhile Unicode.isSpace := by
    conv => lhs; rw [← List.takeWhile_append_dropWhile (p := Unicode.isSpace) (l := l)]
    rw [List.takeWhile_append_dropWhile]
    have := List.takeWhile_append_dropWhile (p := Unicode.isSpace) (l := l)
    conv => lhs; arg 2; rw [← this]
    exact List.take_left
  conv => rhs; rw [← h, List.count_append, h1, count_takeWhile_space hf, Nat.zero_add]
theorem count_rev {l : List Nat} (hf : Unicode.isSpace 44 = false) : (l.take (l.length - (l.reverse.takeWhile Unicode.isSpace).length)).count 44 = l.count 44 := by
  have h := count_drop_take (l := l.reverse) hf
  rw [List.drop_reverse, List.count_reverse, List.count_reverse] at h
  exact h
theorem cc_strip (x : Str) : cc (Txt.strip x) = cc x := by
  have hf : Unicode.isSpace 44 = false := by decide +kernel
  unfold Txt.strip Txt.stripBy
  split
  · rfl
  · unfold PySem.stripped Builtin.Str.strSub stripLo stripHi cc
    rw [if_pos rfl, if_pos rfl]
    rw [Array.toList_extract, List.extract_eq_take_drop]
    have e : x.length = x.cps.toList.length := by simp [Str.length]
    generalize hl : x.cps.toList = l at *
    have h1 := count_rev (l := l.drop (l.takeWhile Unicode.isSpace).length) hf
    rw [count_drop_take hf, List.length_drop] at h1
    rw [← h1, e]
    congr 2
    (first | exact om123 | omega)
end
local macro_rules | `(tactic| k_all) => `(tactic| first
  | exact List.forall_mem_nil _
  | exact allLt_off (by with_reducible assumption)
  | (refine List.forall_mem_cons.mpr ⟨by k_ne, ?_⟩; k_all)
  | (refine List.forall_mem_append.mpr ⟨?_, ?_⟩ <;> k_all)
  | (intro p9 hp9; (repeat ((with_reducible rename AllLt _ _ => h9); (try have q9 := allLt_mem h9 p9 hp9); clear h9)); (repeat ((with_reducible rename Off _ _ => h9); (try have q9 := h9 p9 hp9); clear h9)); (repeat ((with_reducible rename AllGe _ _ => h9); (try have q9 := h9 p9 hp9); clear h9)); refine neN ?_; omega))
local macro_rules | `(tactic| k_lt $h:ident) => `(tactic| (replace $h := allLt_of $h; (repeat (have h9 := allLt_hd $h; replace $h := allLt_tl $h))))
local macro_rules | `(tactic| k_ne) => `(tactic| (refine neN ?_; (try dsimp only); first | exact Nat.ne_of_gt (by with_reducible assumption) | exact Nat.ne_of_lt (by with_reducible assumption) | omega))
local macro_rules | `(tactic| k_mem) => `(tactic| first | with_reducible assumption | exact List.Mem.head _ | (refine' List.mem_cons_of_mem _ ?_; k_mem) | (refine' List.mem_append_right _ ?_; k_mem) | (refine' List.mem_append_left _ ?_; k_mem))
local macro_rules | `(tactic| walk_at $s:str) => `(tactic| k_extra $s)
theorem rules_P3 : True := by
  k_with_none
  k_with "call builtin:len" => ((k_here; (with_reducible show wpAny _ _ (call (Value.builtin "len") [Value.ref _]) _ _ _); k_dflt (refine kst_len (by k_asm) (by k_mem) (by exact IntsAre.length (by assumption)) (by omega) ?_); (try dsimp only)))
  k_with "truthy ref" => ((k_here; (with_reducible show wpAny _ _ (truthy (Value.ref _)) _ _ _); k_dflt (refine kgr_truthy (by k_asm) (by k_mem) (by exact rfl) (by exact rfl) (by (have := IntsAre.length (by assumption); omega)) ?_); (try dsimp only)))
  k_with "call builtin:list.append" => ((k_here; (with_reducible show wpAny _ _ (call (Value.builtin _) [Value.ref _, _]) _ _ _); k_dflt (refine append_K (by k_asm) (by k_asm) (by k_upd) ?_ (by (simp only [List.size_toArray]; rw [sizeLine_eq]; omega)); k_whole); intro h'r9 F'r9 N'r9; (try k_sweep)))
  exact trivial
section
theorem fill_P3 : hd.heap_1 = hd.heap_1 ∧ PySem.Challenge.rw_wv0034_01 = PySem.Challenge.rw_wv0034_01 := by
  w_top off
  k_fill
  exact ⟨rfl, rfl⟩

theorem i2d_inner : ∀ (k : Nat) (w : World) (A : Around) (h₀ : Heap) (L : Addr) (m : Str → Option Value) (rest : List (Addr × Obj)) (s : Shared)
  (Q E : Value → Shared → Prop) (x lo hi n : Int) (t1 t2 t3 tn t : Tok) (f c D a1 a2 a3 : Addr) (oc o1 o2 o3 : Obj) (vs : Array Value) (ds : List Value) (ns : List Int) (nD : Nat) (qual : Str) (dc pm ct : Value),
  Site w A h₀ L → Fr h₀ L s.heap m →
  News h₀ L s.heap ((f, fnMade (Str.ofString "inner") qual i2dP.val i2dB.val i2dS.val [(Str.ofString "n", a1), (Str.ofString "inner", a3), (Str.ofString "a_digits", a2)] dc pm c ct) :: (c, oc) :: (D, W.listOf ds.toArray nD) :: (a3, o3) :: (a2, o2) :: (a1, o1) :: rest) →
  Off D rest → @Ne Nat a1 D → @Ne Nat a2 D → @Ne Nat a3 D → @Ne Nat c D → @Ne Nat f D →
  oc.data = .fields vs → vs[1]? = some (.str qual t) → o1.data = .cell (some (.int n tn)) → o2.data = .cell (some (.ref D)) → o3.data = .cell (some (.ref f)) →
  A.depth + 2 * k + 20 < recursionLimit → A.units + 20 * k + 100 < cLine →
  IntsAre ds ns →
  0 ≤ x → 0 < n → 0 ≤ lo → lo < hi → hi ≤ (ns.length : Int) → (ns.length : Int) ≤ 100000 → hi - lo ≤ 2 ^ k →
  x.toNat < 2 ^ (n.toNat * (hi - lo).toNat) → n * (hi - lo) ≤ 1000000 →
  (∀ ds' nD' h' tk', Fr h₀ L h' m → News h₀ L h' ((f, fnMade (Str.ofString "inner") qual i2dP.val i2dB.val i2dS.val [(Str.ofString "n", a1), (Str.ofString "inner", a3), (Str.ofString "a_digits", a2)] dc pm c ct) :: (c, oc) :: (D, W.listOf ds'.toArray nD') :: (a3, o3) :: (a2, o2) :: (a1, o1) :: rest) → IntsAre ds' (put ns lo.toNat (digs n.toNat (hi - lo).toNat x.toNat)) → Q .none { s with heap := h', toks := tk' }) →
  wpAny (model Prog w) A (call (.ref f) [.int x t1, .int lo t2, .int hi t3]) Q E s := by
  intro k
  induction k using Nat.strongRecOn with
  | ind k ih =>
  intro w A h₀ L m rest s Q E x lo hi n t1 t2 t3 tn t f c D a1 a2 a3 oc o1 o2 o3 vs ds ns nD qual dc pm ct hS F N hR h1 h2 h3 h4 h5 d1 d2 d3 d4 d5 hd hu hI hx hn hlo hlh hhi hlen hk hxb hnb hret
  refine byC fun hGZ => ?_
  obtain ⟨p, loose, mean, mg, mb, A₀, base, outer, env, B, X, T, hA, hf, hke, hh, c1, c2⟩ := hS
  refine hGZ ?_; clear hGZ
  dsimp only [i2dP, i2dB, i2dS] at N hret ih
  refine wpAny_call ?_
  k_dflt (refine' code_nest ?k1 ?k2 ?k3 ?k4 ?k5 ?kA ?kF ?kK ?k6 ?k7 ?k8 ?k9 ?kB ?_ ?c2 ?c3 ?c4 ?c5; (case kA => exact hA); (case kF => exact hf); (case kK => exact hke); (case k1 => k_asm); (case k2 => k_asm); (case k3 => k_asm); (case k4 => k_asm); (case k5 => k_asm); (case k6 => k_mem); (case k7 => exact codeRec_news (by k_asm) (by k_mem) (by assumption) (by assumption)); (case k8 => ktr_room); (case k9 => exact BindsTo.of_eq rfl); (case c5 => decide); (case kB => exact locs rfl); (case c2 => exact rfl); (case c3 => exact rfl); (case c4 => exact rfl); k_whole; intro g' L' h' FG' F' N' B' X' T'; (try dsimp only); (try k_lift B'); (try k_fold))
  have c1' : CodeHd g' 34 30 := c1.keeps FG'.keep
  have c2' : CodeHd g' 41 37 := c2.keeps FG'.keep
  dsimp only [fnMade] at N'
  generalize hfd : fnX _ _ _ _ _ _ _ _ _ _ _ _ _ = fd at N'
  k_steps
  · subst hfd
    refine hret _ _ _ _ (by assumption) (by assumption) ?_
    have e1 : hi - lo = 1 := by (first | exact om345 (by assumption) | omega)
    have e2 : (hi - lo).toNat = 1 := by (first | exact om346 (by assumption) | omega)
    rw [e2, Nat.mul_one] at hxb
    rw [e2]
    simp only [digs]
    rw [put_one (by (first | exact om347 hlo hhi (by assumption) | omega)), Nat.mod_eq_of_lt hxb, Int.toNat_of_nonneg hx]
    assumption
  · have hlt : lo + 1 < hi := by (first | exact om348 hlh (by assumption) | omega)
    refine byC fun hGZ => ?_
    obtain ⟨j, rfl⟩ : ∃ j, k = j + 1 := ⟨k - 1, by rcases k with _ | k <;> (try simp at hk) <;> (first | exact om349 | omega)⟩
    obtain ⟨b1, b2, b3, b4⟩ := mid_spec j hlt hk hlo
    refine hGZ ?_; clear hGZ
    generalize hmid : (lo + hi).fdiv (2 ^ Int.toNat 1) = mid at *
    refine mul_int ?_ (IntMulOk.of_left (intBits_le_64 (by (first | exact om350 b1 | omega)) (by (first | exact om351 hlo hhi hlen b2 | omega))))
    have s1 : 0 ≤ (mid - lo) * n := Int.mul_nonneg (by (first | exact om352 b1 | omega)) (by (first | exact om353 hn | omega))
    have s2 : (mid - lo) * n ≤ 1000000 := by
      have : (mid - lo) * n ≤ (hi - lo) * n := Int.mul_le_mul_of_nonneg_right (by (first | exact om354 b2 | omega)) (by (first | exact om353 hn | omega))
      rw [Int.mul_comm n] at hnb
      (first | exact om355 hnb this | omega)
    generalize hsh : (mid - lo) * n = sh at *
    k_steps
    have hxb2 : Builtin.Int.intBits x ≤ 1000000 := by
      have e := bits_nat hxb
      rw [Int.toNat_of_nonneg hx] at e
      refine Nat.le_trans e ?_
      have e3 : ((n.toNat * (hi - lo).toNat : Nat) : Int) = n * (hi - lo) := by
        rw [Int.natCast_mul, Int.toNat_of_nonneg (by (first | exact om353 hn | omega)), Int.toNat_of_nonneg (by (first | exact om356 hlt | omega))]
      (first | exact om357 hnb e3 | omega)
    have hup : Builtin.Int.intBits (x.fdiv (2 ^ sh.toNat)) ≤ 1000000 := by
      refine PySem.intBits_le_of_natAbs ?_ hxb2
      rw [high_part hx, Int.natAbs_natCast]
      exact Nat.le_trans (Nat.div_le_self _ _) (by (first | exact om358 | omega))
    refine lshift_int s1 (by have : (2 : Int) ^ 27 = 134217728 := by decide
                             (first | exact om359 s2 hup | omega)) ?_
    dsimp only
    refine xor_int ?_
    rw [low_part hx s1]
    rename Fr g' _ _ _ => F9
    rw [high_part hx] at F9
    k_steps
    have hlt2 : x.toNat % 2 ^ sh.toNat < 2 ^ sh.toNat := Nat.mod_lt _ (Nat.two_pow_pos _)
    have en : n.toNat * (mid - lo).toNat = sh.toNat := by
      apply Int.natCast_inj.mp
      rw [Int.natCast_mul, Int.toNat_of_nonneg (by (first | exact om353 hn | omega)), Int.toNat_of_nonneg (by (first | exact om352 b1 | omega)), Int.toNat_of_nonneg s1, ← hsh, Int.mul_comm]
    have el : put ns lo.toNat (digs n.toNat (mid - lo).toNat (x.toNat % 2 ^ sh.toNat)) = put ns lo.toNat (digs n.toNat (mid - lo).toNat x.toNat) := by
      rw [← en, digs_mod _ _ _ _ (Nat.le_refl _)]
    refine ih j (by (first | exact om360 | omega)) w _ g' L' _ rest _ _ _ _ lo mid n _ _ _ tn t f c D a1 a2 a3 oc o1 o2 o3 vs ds ns nD qual dc pm ct (site_in B' X' T' hh rfl rfl c1' c2') (by assumption) (by subst hfd; assumption) hR h1 h2 h3 h4 h5 d1 d2 d3 d4 d5
      (by simp only [depth_deeper]; (first | exact om361 hd | omega)) (by simp only [units_deeper]; (first | exact om362 hu | omega)) hI (by (first | exact om53 | omega)) hn hlo b1 (by (first | exact om363 hhi b2 | omega)) hlen b3 (by rw [en, Int.toNat_natCast]; exact hlt2) (by rw [Int.mul_comm, hsh]; (first | exact om364 s2 | omega)) ?_
    intro ds' nD' h8 tk8 F8 N8 I8
    dsimp only [fnMade] at N8
    rw [hfd] at N8
    rw [Int.toNat_natCast, el] at I8
    k_steps
    have hdl : (digs n.toNat (mid - lo).toNat x.toNat).length = (mid - lo).toNat := digs_length _ _ _
    have hpl : (put ns lo.toNat (digs n.toNat (mid - lo).toNat x.toNat)).length = ns.length := put_length (by rw [hdl]; (first | exact om365 hlo hhi b1 b2 | omega))
    have en2 : n.toNat * (hi - lo).toNat = sh.toNat + n.toNat * (hi - mid).toNat := by
      rw [← en, ← Nat.mul_add]; congr 1; (first | exact om366 b1 b2 | omega)
    have hq : x.toNat / 2 ^ sh.toNat < 2 ^ (n.toNat * (hi - mid).toNat) := by
      rw [Nat.div_lt_iff_lt_mul (Nat.two_pow_pos _), ← Nat.pow_add, Nat.add_comm, ← en2]; exact hxb
    refine ih j (by (first | exact om360 | omega)) w _ g' L' _ rest _ _ _ _ mid hi n _ _ _ tn t f c D a1 a2 a3 oc o1 o2 o3 vs ds' _ nD' qual dc pm ct (site_in B' X' T' hh rfl rfl c1' c2') (by assumption) (by subst hfd; assumption) hR h1 h2 h3 h4 h5 d1 d2 d3 d4 d5
      (by simp only [depth_deeper]; (first | exact om361 hd | omega)) (by simp only [units_deeper]; (first | exact om362 hu | omega)) I8 (Int.natCast_nonneg _) hn (by (first | exact om367 hlo b1 | omega)) b2 (by (first | exact om368 hhi hpl | omega)) (by (first | exact om369 hlen hpl | omega)) b4 (by rw [Int.toNat_natCast]; exact hq) (by
        have : n * (hi - mid) ≤ n * (hi - lo) := Int.mul_le_mul_of_nonneg_left (by (first | exact om370 b1 | omega)) (by (first | exact om353 hn | omega))
        (first | exact om355 hnb this | omega)) ?_
    intro ds2 nD2 h9 tk9 F9 N9 I9
    dsimp only [fnMade] at N9
    rw [hfd] at N9
    k_steps
    subst hfd
    refine hret _ _ _ _ (by assumption) (by assumption) ?_
    have ea : (hi - lo).toNat = (mid - lo).toNat + (hi - mid).toNat := by (first | exact om366 b1 b2 | omega)
    rw [ea, digs_append, en, ← put_put (by rw [digs_length, digs_length, ← tnA hlo (Int.le_of_lt b1), ← tnA (Int.le_trans hlo (Int.le_of_lt b1)) (Int.le_of_lt b2)]; exact Int.toNat_le.mpr hhi), digs_length]
    rw [Int.toNat_natCast, show mid.toNat = lo.toNat + (mid - lo).toNat from by exact tnA hlo (Int.le_of_lt b1)] at I9
    exact I9
end
noncomputable section
namespace seg_int2digits
noncomputable def body : (P_1 : World → Around → Heap → Addr → (Str → Option Value) → List (Addr × Obj) → Shared → (Value → Shared → Prop) → (Value → Shared → Prop) → Int → Int → Tok → Tok → Obj → Obj → Addr → Nat → Prop) ×' ((∀ a b c d e f g h i j k l m n o p q, P_1 a b c d e f g h i j k l m n o p q) → (∀ (w : World) (A : Around) (h₀ : Heap) (L : Addr) (m : Str → Option Value) (news : List (Addr × Obj)) (s : Shared)
  (Q E : Value → Shared → Prop) (x n : Int) (t1 t2 : Tok) (o1 k1 : Obj) (c1 : Addr),
  Site w A h₀ L → Fr h₀ L s.heap m → News h₀ L s.heap ((30, o1) :: (c1, k1) :: news) → Off 30 news → TabSt 30 32 4 q30 o1 c1 k1 →
  A.depth + 60 < recursionLimit → A.units + 600 < cLine →
  0 ≤ x → 0 < n → n ≤ 4000 → ∀ k : Nat, (((Builtin.Int.intBits x : Nat) : Int) + n - 1).fdiv n = (k : Int) → k ≤ 100000 → n * (k : Int) ≤ 1000000 →
  (∀ r ds nD o1' k1' c1' h' tk', Fr h₀ L h' m → News h₀ L h' ((r, W.listOf ds.toArray nD) :: (30, o1') :: (c1', k1') :: news) → TabSt 30 32 4 q30 o1' c1' k1' → (c1' = c1 ∨ ∀ q ∈ news, q.1 < c1') → (∀ q ∈ news, q.1 < r) → @Ne Nat c1' r → @LT.lt Nat _ 30 r →
     IntsAre ds (digs n.toNat k x.toNat) → Q (.ref r) { s with heap := h', toks := tk' }) →
  wpAny (model Prog w) A (call (.ref 35) [.int x t1, .int n t2]) Q E s)) := by
  refine' ⟨_, fun k_1 => ?main⟩
  case main =>
    unfold Site Prog
    intro w A h₀ L m news s Q E x n t1 t2 o1 k1 c1 hS F N hR hT hd hu hx hn hn2 k hk hk2 hnk hret
    revert hS F N hR hT hd hu hx hn hn2 hk hk2 hnk hret
    exact k_1 w A h₀ L m news s Q E x n t1 t2 o1 k1 c1 k
namespace sA
noncomputable abbrev tyC := (World × Around × Heap × Addr × (Str → Option Value) × (List (Addr × Obj)) × Shared × (Value → Shared → Prop)) × ((Value → Shared → Prop) × Int × Int × Tok × Tok × Obj × Obj × Addr) × Nat
def prP := body.1
def prQ (x : tyC) : Prop := prP x.1.1 x.1.2.1 x.1.2.2.1 x.1.2.2.2.1 x.1.2.2.2.2.1 x.1.2.2.2.2.2.1 x.1.2.2.2.2.2.2.1 x.1.2.2.2.2.2.2.2 x.2.1.1 x.2.1.2.1 x.2.1.2.2.1 x.2.1.2.2.2.1 x.2.1.2.2.2.2.1 x.2.1.2.2.2.2.2.1 x.2.1.2.2.2.2.2.2.1 x.2.1.2.2.2.2.2.2.2 x.2.2
noncomputable def inI : tyC := ((aWorld 0, callerA, default, default, default, default, {}, default), default, 0)
def epC : tyC := eps inI prQ
@[irreducible] def w := epC.1.1
@[irreducible] def news := epC.1.2.2.2.2.2.1
@[irreducible] def x := epC.2.1.2.1
@[irreducible] def n := epC.2.1.2.2.1
@[irreducible] def o1 := epC.2.1.2.2.2.2.2.1
@[irreducible] def k1 := epC.2.1.2.2.2.2.2.2.1
@[irreducible] def c1 := epC.2.1.2.2.2.2.2.2.2
@[irreducible] def k := epC.2.2
theorem sA_main : prP w epC.1.2.1 epC.1.2.2.1 epC.1.2.2.2.1 epC.1.2.2.2.2.1 news epC.1.2.2.2.2.2.2.1 epC.1.2.2.2.2.2.2.2 epC.2.1.1 x n epC.2.1.2.2.2.1 epC.2.1.2.2.2.2.1 o1 k1 c1 k := by
  intro hS F N hR hT hd hu hx hn hn2 hk hk2 hnk hret
  refine byC fun hGZ => ?_
  obtain ⟨p, loose, mean, mg, mb, A₀, base, outer, env, B, X, T, hA, hf, hke, hh, C1, C2⟩ := hS
  refine hGZ ?_; clear hGZ
  refine wpAny_call ?_
  k_dflt (refine' code_defC ?k1 ?k2 ?k3 ?k4 ?k5 ?kA ?kF ?kK ?k6 ?k7 ?k8 ?k9 ?kB ?kD ?_ ?c2 ?c3 ?c4; (case kA => exact hA); (case kF => exact hf); (case kK => exact hke); (case k1 => k_asm); (case k2 => k_asm); (case k3 => k_asm); (case k4 => k_asm); (case k5 => k_asm); (case k6 => k_is); (case k7 => k_is); (case k8 => ktr_room); (case k9 => exact BindsTo.of_eq rfl); (case kB => exact rfl); (case kD => decide +kernel); (case c2 => exact rfl); (case c3 => exact rfl); (case c4 => exact rfl); k_whole; intro g' L' h' tk' cells' FG' F' N' Y' B' X' T' l1; (try k_lt l1); k_cells Y'; (try simp only [List.cons_append, List.nil_append] at N'); (try dsimp only); (try k_lift B'); (try k_fold))
  have C1' : CodeHd g' 34 30 := C1.keeps FG'.keep
  have C2' : CodeHd g' 41 37 := C2.keeps FG'.keep
  k_steps
  k_dflt (refine' nestDef_K ?d0 ?k0 ?a0 ?_; (case d0 => exact rfl); (case k0 => exact rfl); (case a0 => exact rfl))
  rename News _ _ _ _ => N9
  have N9' := news_pull (x := ((30 : Addr), o1)) (y := (c1, k1)) N9 (by repeat (first | exact Pull.head | apply Pull.tail))
  k_dflt (refine' nest_any ?F N9' T' C1' ?cd ?S ?off ?cl ?_; (case F => k_asm); (case cd => exact rfl); (case S => exact hT); (case off => k_all); (case cl => exact rfl))
  intro f' c1' o1' k1' vs' t' ctv dc h' tk F' N' S' d1 d2 l1 l2 l3 l4
  clear N9 N9'
  have l2' := l2
  k_lt l2'
  have l1' : @Eq Nat c1' c1 ∨ AllLt c1' _ := l1.imp id allLt_of
  simp only [AllLt] at l1'
  k_steps
  · rename (0 ≤ _ → ((_ : Nat) : Int) = _) => e3
    rename (List.length _ = _) => e1
    rename IntsAre _ _ => i1
    rw [hk] at e3
    have e3' := e3 (Int.natCast_nonneg _)
    have e5 : _ = k := Int.natCast_inj.mp (e3'.trans (show ((0 + 1 : Nat) : Int) * (k : Int) = (k : Int) from by omega))
    have e6 := e1.trans e5
    have hbits : (((Builtin.Int.intBits x : Nat) : Int) + n - 1) / n = k := by rw [← Int.fdiv_eq_ediv_of_nonneg _ (Int.le_of_lt hn)]; exact hk
    have hb0 : 1 ≤ Builtin.Int.intBits x := by
      unfold Builtin.Int.intBits
      rw [if_neg (by simpa using (by assumption : x ≠ 0))]; (first | exact om373 | omega)
    have hk1 : 1 ≤ k := by
      have : 1 ≤ (((Builtin.Int.intBits x : Nat) : Int) + n - 1) / n := Int.le_ediv_of_mul_le hn (by (first | exact om374 hb0 | omega))
      (first | exact om375 hbits this | omega)
    have hge : ((Builtin.Int.intBits x : Nat) : Int) ≤ n * k := by
      have h1 := Int.lt_mul_ediv_self_add (x := (((Builtin.Int.intBits x : Nat) : Int) + n - 1)) hn
      rw [hbits] at h1
      (first | exact om376 h1 | omega)
    refine' i2d_inner 17 w _ g' L' _ ((30, o1') :: news) _ _ _ x 0 _ n _ _ _ _ _ f' c1' _ (L' + 1) (L' + 1 + 1) (L' + 1 + 1 + 1) k1' _ _ _ vs' _ _ 0 _ _ _ _ (site_in B' X' T' hh rfl rfl C1' C2') ?F (news_sub ?N ?hs) ?hR ?g1 ?g2 ?g3 ?g4 ?g5 d1 d2 ?d3 ?d4 ?d5 ?u1 ?u2 i1 hx hn ?v1 ?v2 ?v3 ?v4 ?v5 ?v6 ?v7 ?h
    case F => assumption
    case N => assumption
    case hs => (repeat (refine' List.forall_mem_cons.mpr ⟨by k_mem, ?_⟩)); (intro p hp; repeat (first | exact hp | apply List.mem_cons_of_mem))
    case hR => exact off_cons.mpr ⟨by k_ne, off_of_lt (by assumption)⟩
    case g1 => k_ne
    case g2 => k_ne
    case g3 => k_ne
    case g4 => k_ne
    case g5 => k_ne
    case d3 => assumption
    case d4 => assumption
    case d5 => assumption
    case u1 => simp only [depth_deeper]; (first | exact om377 hd | omega)
    case u2 => simp only [units_deeper]; (first | exact om378 hu | omega)
    case v1 => exact Int.le_refl _
    case v2 => omega
    case v3 => (first | exact om379 | omega)
    case v4 => omega
    case v5 => have : (2 : Int) ^ 17 = 131072 := by decide
               omega
    case v6 =>
      rw [e6, Int.sub_zero, Int.toNat_natCast]
      have q := PySem.intBits_le_iff.mp (Nat.le_refl (Builtin.Int.intBits x))
      rw [show x.natAbs = x.toNat from by (first | exact om380 hx | omega)] at q
      refine Nat.lt_of_lt_of_le q (Nat.pow_le_pow_right (by decide) ?_)
      have : ((n.toNat * k : Nat) : Int) = n * k := by rw [Int.natCast_mul, Int.toNat_of_nonneg (by (first | exact om353 hn | omega))]
      (first | exact om381 hge this | omega)
    case v7 => rw [e6, Int.sub_zero]; exact hnk
    intro ds' nD' h8 tk8 F8 N8 I8
    k_steps
    refine hret _ ds' nD' o1' k1' c1' _ _ (by assumption) (news_sub (by assumption) ?_) S' (l1.imp id fun h q hq => h q ?_) ?_ ?_ ?_ ?_
    · (repeat (refine' List.forall_mem_cons.mpr ⟨by k_mem, ?_⟩)); (intro p hp; repeat (first | exact hp | apply List.mem_cons_of_mem))
    · exact allLt_mem (by assumption)
    · k_ne
    · (first | exact om294 (by assumption) | omega)
    · rw [e6, Int.sub_zero, Int.toNat_natCast, show Int.toNat 0 = 0 from rfl, put_all (by rw [digs_length]; exact e6)] at I8
      exact I8
    · repeat (first | assumption | apply List.mem_cons_of_mem)
  · rename (0 ≤ _ → ((_ : Nat) : Int) = _) => e3
    rename (List.length _ = _) => e1
    rename IntsAre _ _ => i1
    rw [hk] at e3
    have e3' := e3 (Int.natCast_nonneg _)
    have e5 : _ = k := Int.natCast_inj.mp (e3'.trans (show ((0 + 1 : Nat) : Int) * (k : Int) = (k : Int) from by omega))
    have hx0 : x = 0 := by assumption
    have hk0 : k = 0 := by
      have hbits : (((Builtin.Int.intBits x : Nat) : Int) + n - 1) / n = k := by rw [← Int.fdiv_eq_ediv_of_nonneg _ (Int.le_of_lt hn)]; exact hk
      rw [hx0, show Builtin.Int.intBits 0 = 0 from by decide] at hbits
      rw [Int.ediv_eq_zero_of_lt (by (first | exact om382 hn | omega)) (by (first | exact om383 | omega))] at hbits
      (first | exact om384 hbits | omega)
    refine' hret _ ?ds 0 o1' k1' c1' _ _ (by assumption) (news_sub (by assumption) ?sub) S' (l1.imp id fun h q hq => h q ?mem) ?lt ?ne ?gt ?iis
    case sub => (repeat (refine' List.forall_mem_cons.mpr ⟨by k_mem, ?_⟩)); (intro p hp; repeat (first | exact hp | apply List.mem_cons_of_mem))
    case lt => exact allLt_mem (by assumption)
    case ne => k_ne
    case gt => (first | exact om294 (by assumption) | omega)
    case iis =>
      rw [hk0]
      have : (List.replicate ((((Builtin.Int.intBits x : Nat) : Int) + n - 1).fdiv n).toNat [(0 : Int)]).flatten = [] := by rw [hk, hk0]; rfl
      rw [this] at i1
      exact i1
    case mem => repeat (first | assumption | apply List.mem_cons_of_mem)
theorem all : ∀ x, prQ x := @sk tyC inI prQ (by with_unfolding_all exact @sA_main)
end sA
end seg_int2digits
theorem int2digits : ∀ (w : World) (A : Around) (h₀ : Heap) (L : Addr) (m : Str → Option Value) (news : List (Addr × Obj)) (s : Shared)
  (Q E : Value → Shared → Prop) (x n : Int) (t1 t2 : Tok) (o1 k1 : Obj) (c1 : Addr),
  Site w A h₀ L → Fr h₀ L s.heap m → News h₀ L s.heap ((30, o1) :: (c1, k1) :: news) → Off 30 news → TabSt 30 32 4 q30 o1 c1 k1 →
  A.depth + 60 < recursionLimit → A.units + 600 < cLine →
  0 ≤ x → 0 < n → n ≤ 4000 → ∀ k : Nat, (((Builtin.Int.intBits x : Nat) : Int) + n - 1).fdiv n = (k : Int) → k ≤ 100000 → n * (k : Int) ≤ 1000000 →
  (∀ r ds nD o1' k1' c1' h' tk', Fr h₀ L h' m → News h₀ L h' ((r, W.listOf ds.toArray nD) :: (30, o1') :: (c1', k1') :: news) → TabSt 30 32 4 q30 o1' c1' k1' → (c1' = c1 ∨ ∀ q ∈ news, q.1 < c1') → (∀ q ∈ news, q.1 < r) → @Ne Nat c1' r → @LT.lt Nat _ 30 r →
     IntsAre ds (digs n.toNat k x.toNat) → Q (.ref r) { s with heap := h', toks := tk' }) →
  wpAny (model Prog w) A (call (.ref 35) [.int x t1, .int n t2]) Q E s := @PSigma.snd _ _ seg_int2digits.body (fun a b c d e f g h i j k l m n o p q => @seg_int2digits.sA.all ((a, b, c, d, e, f, g, h), (i, j, k, l, m, n, o, p), q))
end
section
theorem d2i_inner : ∀ (k : Nat) (w : World) (A : Around) (h₀ : Heap) (L : Addr) (m : Str → Option Value) (rest : List (Addr × Obj)) (s : Shared)
  (Q E : Value → Shared → Prop) (lo hi n : Int) (t2 t3 tn t : Tok) (f c D a1 a2 a3 : Addr) (oc o1 o2 o3 : Obj) (vs : Array Value) (ds : List Value) (ns : List Int) (nD : Nat) (qual : Str) (dc pm ct : Value),
  Site w A h₀ L → Fr h₀ L s.heap m →
  News h₀ L s.heap ((f, fnMade (Str.ofString "inner") qual d2iP.val d2iB.val d2iS.val [(Str.ofString "n", a2), (Str.ofString "inner", a3), (Str.ofString "digits", a1)] dc pm c ct) :: (c, oc) :: (D, W.listOf ds.toArray nD) :: (a3, o3) :: (a2, o2) :: (a1, o1) :: rest) →
  oc.data = .fields vs → vs[1]? = some (.str qual t) → o2.data = .cell (some (.int n tn)) → o1.data = .cell (some (.ref D)) → o3.data = .cell (some (.ref f)) →
  A.depth + 2 * k + 20 < recursionLimit → A.units + 20 * k + 100 < cLine →
  IntsAre ds ns → (∀ a ∈ ns, 0 ≤ a ∧ a < 2 ^ n.toNat) →
  0 < n → 0 ≤ lo → lo < hi → hi ≤ (ns.length : Int) → (ns.length : Int) ≤ 100000 → hi - lo ≤ 2 ^ k →
  n * (hi - lo) ≤ 1000000 →
  (∀ h' tk' t', Fr h₀ L h' m → News h₀ L h' ((f, fnMade (Str.ofString "inner") qual d2iP.val d2iB.val d2iS.val [(Str.ofString "n", a2), (Str.ofString "inner", a3), (Str.ofString "digits", a1)] dc pm c ct) :: (c, oc) :: (D, W.listOf ds.toArray nD) :: (a3, o3) :: (a2, o2) :: (a1, o1) :: rest) → Q (.int (bval n.toNat (cut ns lo.toNat hi.toNat)) t') { s with heap := h', toks := tk' }) →
  wpAny (model Prog w) A (call (.ref f) [.int lo t2, .int hi t3]) Q E s := by
  intro k
  induction k using Nat.strongRecOn with
  | ind k ih =>
  intro w A h₀ L m rest s Q E lo hi n t2 t3 tn t f c D a1 a2 a3 oc o1 o2 o3 vs ds ns nD qual dc pm ct hS F N d1 d2 d3 d4 d5 hd hu hI hdig hn hlo hlh hhi hlen hk hnb hret
  refine byC fun hGZ => ?_
  obtain ⟨p, loose, mean, mg, mb, A₀, base, outer, env, B, X, T, hA, hf, hke, hh, c1, c2⟩ := hS
  refine hGZ ?_; clear hGZ
  dsimp only [d2iP, d2iB, d2iS] at N hret ih
  refine wpAny_call ?_
  k_dflt (refine' code_nest ?k1 ?k2 ?k3 ?k4 ?k5 ?kA ?kF ?kK ?k6 ?k7 ?k8 ?k9 ?kB ?_ ?c2 ?c3 ?c4 ?c5; (case kA => exact hA); (case kF => exact hf); (case kK => exact hke); (case k1 => k_asm); (case k2 => k_asm); (case k3 => k_asm); (case k4 => k_asm); (case k5 => k_asm); (case k6 => k_mem); (case k7 => exact codeRec_news (by k_asm) (by k_mem) (by assumption) (by assumption)); (case k8 => ktr_room); (case k9 => exact BindsTo.of_eq rfl); (case c5 => decide); (case kB => exact locs rfl); (case c2 => exact rfl); (case c3 => exact rfl); (case c4 => exact rfl); k_whole; intro g' L' h' FG' F' N' B' X' T'; (try dsimp only); (try k_lift B'); (try k_fold))
  have c1' : CodeHd g' 34 30 := c1.keeps FG'.keep
  have c2' : CodeHd g' 41 37 := c2.keeps FG'.keep
  dsimp only [fnMade] at N'
  generalize hfd : fnX _ _ _ _ _ _ _ _ _ _ _ _ _ = fd at N'
  k_steps
  · subst hfd
    rw [show hi.toNat = lo.toNat + 1 from by (first | exact om385 hlo (by assumption) | omega), cut_one (by (first | exact om347 hlo hhi (by assumption) | omega))] at hret
    simp only [bval, Int.mul_zero, Int.add_zero] at hret
    exact hret _ _ _ (by assumption) (by assumption)
  · have hlt : lo + 1 < hi := by (first | exact om348 hlh (by assumption) | omega)
    refine byC fun hGZ => ?_
    obtain ⟨j, rfl⟩ : ∃ j, k = j + 1 := ⟨k - 1, by rcases k with _ | k <;> (try simp at hk) <;> (first | exact om349 | omega)⟩
    obtain ⟨b1, b2, b3, b4⟩ := mid_spec j hlt hk hlo
    refine hGZ ?_; clear hGZ
    generalize hmid : (lo + hi).fdiv (2 ^ Int.toNat 1) = mid at *
    refine mul_int ?_ (IntMulOk.of_left (intBits_le_64 (by (first | exact om350 b1 | omega)) (by (first | exact om351 hlo hhi hlen b2 | omega))))
    have s1 : 0 ≤ (mid - lo) * n := Int.mul_nonneg (by (first | exact om352 b1 | omega)) (by (first | exact om353 hn | omega))
    have s2 : (mid - lo) * n ≤ 1000000 := by
      have : (mid - lo) * n ≤ (hi - lo) * n := Int.mul_le_mul_of_nonneg_right (by (first | exact om354 b2 | omega)) (by (first | exact om353 hn | omega))
      rw [Int.mul_comm n] at hnb
      (first | exact om355 hnb this | omega)
    generalize hsh : (mid - lo) * n = sh at *
    k_steps
    have en : n.toNat * (mid - lo).toNat = sh.toNat := by
      apply Int.natCast_inj.mp
      rw [Int.natCast_mul, Int.toNat_of_nonneg (by (first | exact om353 hn | omega)), Int.toNat_of_nonneg (by (first | exact om352 b1 | omega)), Int.toNat_of_nonneg s1, ← hsh, Int.mul_comm]
    refine ih j (by (first | exact om360 | omega)) w _ g' L' _ rest _ _ _ mid hi n _ _ tn t f c D a1 a2 a3 oc o1 o2 o3 vs ds ns nD qual dc pm ct (site_in B' X' T' hh rfl rfl c1' c2') (by assumption) (by subst hfd; assumption) d1 d2 d3 d4 d5
      (by simp only [depth_deeper]; (first | exact om361 hd | omega)) (by simp only [units_deeper]; (first | exact om362 hu | omega)) hI hdig hn (by (first | exact om367 hlo b1 | omega)) b2 hhi hlen b4 (by
        have : n * (hi - mid) ≤ n * (hi - lo) := Int.mul_le_mul_of_nonneg_left (by (first | exact om370 b1 | omega)) (by (first | exact om353 hn | omega))
        (first | exact om355 hnb this | omega)) ?_
    intro h8 tk8 t8 F8 N8
    dsimp only [fnMade] at N8
    rw [hfd] at N8
    k_steps
    have hcl : (cut ns mid.toNat hi.toNat).length = (hi - mid).toNat := by rw [cut_length (by (first | exact om187 hhi | omega))]; (first | exact om386 hlo b1 | omega)
    have hbb := bval_bound n.toNat (cut ns mid.toNat hi.toNat) fun a ha => hdig a (cut_mem ha)
    have hbits : Builtin.Int.intBits (bval n.toNat (cut ns mid.toNat hi.toNat)) ≤ 1000000 := by
      refine Nat.le_trans ((PySem.intBits_le_iff (m := n.toNat * (cut ns mid.toNat hi.toNat).length)).mpr ?_) ?_
      · have := hbb.2
        have e2 : ((2 ^ (n.toNat * (cut ns mid.toNat hi.toNat).length) : Nat) : Int) = 2 ^ (n.toNat * (cut ns mid.toNat hi.toNat).length) := by rw [Int.natCast_pow]; rfl
        (first | exact om387 hbb e2 | omega)
      · rw [hcl]
        have e3 : ((n.toNat * (hi - mid).toNat : Nat) : Int) = n * (hi - mid) := by
          rw [Int.natCast_mul, Int.toNat_of_nonneg (by (first | exact om353 hn | omega)), Int.toNat_of_nonneg (by (first | exact om352 b2 | omega))]
        have : n * (hi - mid) ≤ n * (hi - lo) := Int.mul_le_mul_of_nonneg_left (by (first | exact om370 b1 | omega)) (by (first | exact om353 hn | omega))
        (first | exact om388 hnb e3 this | omega)
    refine lshift_int s1 (by have : (2 : Int) ^ 27 = 134217728 := by decide
                             (first | exact om359 s2 hbits | omega)) ?_
    dsimp only
    k_steps
    refine ih j (by (first | exact om360 | omega)) w _ g' L' _ rest _ _ _ lo mid n _ _ tn t f c D a1 a2 a3 oc o1 o2 o3 vs ds ns nD qual dc pm ct (site_in B' X' T' hh rfl rfl c1' c2') (by assumption) (by subst hfd; assumption) d1 d2 d3 d4 d5
      (by simp only [depth_deeper]; (first | exact om361 hd | omega)) (by simp only [units_deeper]; (first | exact om362 hu | omega)) hI hdig hn hlo b1 (by (first | exact om363 hhi b2 | omega)) hlen b3 (by
        have : n * (mid - lo) ≤ n * (hi - lo) := Int.mul_le_mul_of_nonneg_left (by (first | exact om354 b2 | omega)) (by (first | exact om353 hn | omega))
        (first | exact om355 hnb this | omega)) ?_
    intro h9 tk9 t9 F9 N9
    dsimp only [fnMade] at N9
    rw [hfd] at N9
    k_steps
    have hcl2 : (cut ns lo.toNat mid.toNat).length = (mid - lo).toNat := by rw [cut_length (by (first | exact om389 hhi b2 | omega))]; (first | exact om390 hlo | omega)
    have ea : bval n.toNat (cut ns mid.toNat hi.toNat) * 2 ^ sh.toNat + bval n.toNat (cut ns lo.toNat mid.toNat) = bval n.toNat (cut ns lo.toNat hi.toNat) := by
      rw [cut_split (ns := ns) (show lo.toNat ≤ mid.toNat from by (first | exact om391 b1 | omega)) (show mid.toNat ≤ hi.toNat from by (first | exact om392 b2 | omega)), bval_append, hcl2, en, Int.mul_comm, Int.add_comm]
    rw [ea]
    subst hfd
    exact hret _ _ _ (by assumption) (by assumption)
end
noncomputable section
namespace seg_digits2int
noncomputable def body : (P_1 : World → Around → Heap → Addr → (Str → Option Value) → List (Addr × Obj) → Shared → (Value → Shared → Prop) → (Value → Shared → Prop) → Int → Tok → Obj → Obj → Addr → Addr → List Value → List Int → Nat → Prop) ×' ((∀ a b c d e f g h i j k l m n o p q r, P_1 a b c d e f g h i j k l m n o p q r) → (∀ (w : World) (A : Around) (h₀ : Heap) (L : Addr) (m : Str → Option Value) (news : List (Addr × Obj)) (s : Shared)
  (Q E : Value → Shared → Prop) (n : Int) (t2 : Tok) (o2 k2 : Obj) (c2 Dd : Addr) (ds : List Value) (ns : List Int) (nD : Nat),
  Site w A h₀ L → Fr h₀ L s.heap m → News h₀ L s.heap ((37, o2) :: (c2, k2) :: news) → Off 37 news → TabSt 37 47 4 q37 o2 c2 k2 →
  (Dd, W.listOf ds.toArray nD) ∈ news → IntsAre ds ns →
  A.depth + 60 < recursionLimit → A.units + 600 < cLine →
  0 < n → n ≤ 4000 → (∀ a ∈ ns, 0 ≤ a ∧ a < 2 ^ n.toNat) → (ns.length : Int) ≤ 100000 → n * (ns.length : Int) ≤ 1000000 →
  (∀ o2' k2' c2' h' tk' t', Fr h₀ L h' m → News h₀ L h' ((37, o2') :: (c2', k2') :: news) → TabSt 37 47 4 q37 o2' c2' k2' → (c2' = c2 ∨ ∀ q ∈ news, q.1 < c2') → Q (.int (bval n.toNat ns) t') { s with heap := h', toks := tk' }) →
  wpAny (model Prog w) A (call (.ref 42) [.ref Dd, .int n t2]) Q E s)) := by
  refine' ⟨_, fun k_1 => ?main⟩
  case main =>
    unfold Site Prog
    intro w A h₀ L m news s Q E n t2 o2 k2 c2 Dd ds ns nD hS F N hR hT hD hI hd hu hn hn2 hdig hlen hnl hret
    revert hS F N hR hT hD hI hd hu hn hn2 hdig hlen hnl hret
    exact k_1 w A h₀ L m news s Q E n t2 o2 k2 c2 Dd ds ns nD
namespace sA
noncomputable abbrev tyC := (World × Around × Heap × Addr × (Str → Option Value) × (List (Addr × Obj)) × Shared × (Value → Shared → Prop)) × ((Value → Shared → Prop) × Int × Tok × Obj × Obj × Addr × Addr × List Value) × (List Int × Nat)
def prP := body.1
def prQ (x : tyC) : Prop := prP x.1.1 x.1.2.1 x.1.2.2.1 x.1.2.2.2.1 x.1.2.2.2.2.1 x.1.2.2.2.2.2.1 x.1.2.2.2.2.2.2.1 x.1.2.2.2.2.2.2.2 x.2.1.1 x.2.1.2.1 x.2.1.2.2.1 x.2.1.2.2.2.1 x.2.1.2.2.2.2.1 x.2.1.2.2.2.2.2.1 x.2.1.2.2.2.2.2.2.1 x.2.1.2.2.2.2.2.2.2 x.2.2.1 x.2.2.2
noncomputable def inI : tyC := ((aWorld 0, callerA, default, default, default, default, {}, default), default, default)
def epC : tyC := eps inI prQ
@[irreducible] def w := epC.1.1
@[irreducible] def news := epC.1.2.2.2.2.2.1
@[irreducible] def n := epC.2.1.2.1
@[irreducible] def o2 := epC.2.1.2.2.2.1
@[irreducible] def k2 := epC.2.1.2.2.2.2.1
@[irreducible] def c2 := epC.2.1.2.2.2.2.2.1
@[irreducible] def Dd := epC.2.1.2.2.2.2.2.2.1
@[irreducible] def ds := epC.2.1.2.2.2.2.2.2.2
@[irreducible] def ns := epC.2.2.1
@[irreducible] def nD := epC.2.2.2
theorem sA_main : prP w epC.1.2.1 epC.1.2.2.1 epC.1.2.2.2.1 epC.1.2.2.2.2.1 news epC.1.2.2.2.2.2.2.1 epC.1.2.2.2.2.2.2.2 epC.2.1.1 n epC.2.1.2.2.1 o2 k2 c2 Dd ds ns nD := by
  intro hS F N hR hT hD hI hd hu hn hn2 hdig hlen hnl hret
  refine byC fun hGZ => ?_
  obtain ⟨p, loose, mean, mg, mb, A₀, base, outer, env, B, X, T, hA, hf, hke, hh, C1, C2⟩ := hS
  refine hGZ ?_; clear hGZ
  refine wpAny_call ?_
  k_dflt (refine' code_defC ?k1 ?k2 ?k3 ?k4 ?k5 ?kA ?kF ?kK ?k6 ?k7 ?k8 ?k9 ?kB ?kD ?_ ?c2 ?c3 ?c4; (case kA => exact hA); (case kF => exact hf); (case kK => exact hke); (case k1 => k_asm); (case k2 => k_asm); (case k3 => k_asm); (case k4 => k_asm); (case k5 => k_asm); (case k6 => k_is); (case k7 => k_is); (case k8 => ktr_room); (case k9 => exact BindsTo.of_eq rfl); (case kB => exact rfl); (case kD => decide +kernel); (case c2 => exact rfl); (case c3 => exact rfl); (case c4 => exact rfl); k_whole; intro g' L' h' tk' cells' FG' F' N' Y' B' X' T' l1; (try k_lt l1); k_cells Y'; (try simp only [List.cons_append, List.nil_append] at N'); (try dsimp only); (try k_lift B'); (try k_fold))
  have C1' : CodeHd g' 34 30 := C1.keeps FG'.keep
  have C2' : CodeHd g' 41 37 := C2.keeps FG'.keep
  k_steps
  k_dflt (refine' nestDef_K ?d0 ?k0 ?a0 ?_; (case d0 => exact rfl); (case k0 => exact rfl); (case a0 => exact rfl))
  rename News _ _ _ _ => N9
  have N9' := news_pull (x := ((37 : Addr), o2)) (y := (c2, k2)) N9 (by repeat (first | exact Pull.head | apply Pull.tail))
  k_dflt (refine' nest_any ?F N9' T' C2' ?cd ?S ?off ?cl ?_; (case F => k_asm); (case cd => exact rfl); (case S => exact hT); (case off => k_all); (case cl => exact rfl))
  intro f' c1' o1' k1' vs' t' ctv dc h' tk F' N' S' d1 d2 l1 l2 l3 l4
  clear N9 N9'
  have l2' := l2
  k_lt l2'
  have l1' : @Eq Nat c1' c2 ∨ AllLt c1' _ := l1.imp id allLt_of
  simp only [AllLt] at l1'
  k_steps
  · have hne : ds = [] := by simpa using (by assumption : ds.isEmpty = true)
    have hns : ns = [] := List.eq_nil_of_length_eq_zero (by rw [← hI.length, hne]; rfl)
    rw [hns] at hret
    refine hret o1' k1' c1' _ _ _ (by assumption) (news_sub (by assumption) ?_) S' (l1.imp id fun h q hq => h q ?_)
    · (repeat (refine' List.forall_mem_cons.mpr ⟨by k_mem, ?_⟩)); (intro p hp; repeat (first | exact hp | apply List.mem_cons_of_mem))
    · repeat (first | assumption | apply List.mem_cons_of_mem)
  · have hne : ds ≠ [] := by
      have : ds.isEmpty = false := by assumption
      intro q; rw [q] at this; cases this
    have hlp : 0 < ns.length := by rw [← hI.length]; exact List.length_pos_iff.mpr hne
    refine' d2i_inner 17 w _ g' L' _ ((37, o1') :: news) _ _ _ 0 _ n _ _ _ _ f' c1' Dd (L' + 1) (L' + 1 + 1) (L' + 1 + 1 + 1) k1' _ _ _ vs' ds ns nD _ _ _ _ (site_in B' X' T' hh rfl rfl C1' C2') ?F (news_sub ?N ?hs) d1 d2 ?d3 ?d4 ?d5 ?u1 ?u2 hI hdig hn ?v1 ?v2 ?v3 ?v4 ?v5 ?v7 ?h
    case F => assumption
    case N => assumption
    case hs => (repeat (refine' List.forall_mem_cons.mpr ⟨by k_mem, ?_⟩)); (intro p hp; repeat (first | exact hp | apply List.mem_cons_of_mem))
    case d3 => assumption
    case d4 => assumption
    case d5 => assumption
    case u1 => simp only [depth_deeper]; (first | exact om377 hd | omega)
    case u2 => simp only [units_deeper]; (first | exact om378 hu | omega)
    case v1 => exact Int.le_refl _
    case v2 => (first | exact om241 hlp | omega)
    case v3 => (first | exact om379 | omega)
    case v4 => (first | exact om393 hlen | omega)
    case v5 => have : (2 : Int) ^ 17 = 131072 := by decide
               (first | exact om394 hlen | omega)
    case v7 => rw [Int.sub_zero]; exact hnl
    intro h8 tk8 t8 F8 N8
    rw [show Int.toNat 0 = 0 from rfl, Int.toNat_natCast, cut_all]
    k_steps
    refine hret o1' k1' c1' _ _ _ (by assumption) (news_sub (by assumption) ?_) S' (l1.imp id fun h q hq => h q ?_)
    · (repeat (refine' List.forall_mem_cons.mpr ⟨by k_mem, ?_⟩)); (intro p hp; repeat (first | exact hp | apply List.mem_cons_of_mem))
    · repeat (first | assumption | apply List.mem_cons_of_mem)
theorem all : ∀ x, prQ x := @sk tyC inI prQ (by with_unfolding_all exact @sA_main)
end sA
end seg_digits2int
theorem digits2int : ∀ (w : World) (A : Around) (h₀ : Heap) (L : Addr) (m : Str → Option Value) (news : List (Addr × Obj)) (s : Shared)
  (Q E : Value → Shared → Prop) (n : Int) (t2 : Tok) (o2 k2 : Obj) (c2 Dd : Addr) (ds : List Value) (ns : List Int) (nD : Nat),
  Site w A h₀ L → Fr h₀ L s.heap m → News h₀ L s.heap ((37, o2) :: (c2, k2) :: news) → Off 37 news → TabSt 37 47 4 q37 o2 c2 k2 →
  (Dd, W.listOf ds.toArray nD) ∈ news → IntsAre ds ns →
  A.depth + 60 < recursionLimit → A.units + 600 < cLine →
  0 < n → n ≤ 4000 → (∀ a ∈ ns, 0 ≤ a ∧ a < 2 ^ n.toNat) → (ns.length : Int) ≤ 100000 → n * (ns.length : Int) ≤ 1000000 →
  (∀ o2' k2' c2' h' tk' t', Fr h₀ L h' m → News h₀ L h' ((37, o2') :: (c2', k2') :: news) → TabSt 37 47 4 q37 o2' c2' k2' → (c2' = c2 ∨ ∀ q ∈ news, q.1 < c2') → Q (.int (bval n.toNat ns) t') { s with heap := h', toks := tk' }) →
  wpAny (model Prog w) A (call (.ref 42) [.ref Dd, .int n t2]) Q E s := @PSigma.snd _ _ seg_digits2int.body (fun a b c d e f g h i j k l m n o p q r => @seg_digits2int.sA.all ((a, b, c, d, e, f, g, h), (i, j, k, l, m, n, o, p), (q, r)))
end
theorem rules_P7 : True := by
  k_with_none
  k_with "call builtin:len" => ((k_here; (with_reducible show wpAny _ _ (call (Value.builtin "len") [Value.ref _]) _ _ _); k_dflt (refine kst_len (by k_asm) (by k_mem) (by exact IntsAre.length (by assumption)) (by omega) ?_); (try dsimp only)))
  k_with "truthy ref" => ((k_here; (with_reducible show wpAny _ _ (truthy (Value.ref _)) _ _ _); k_dflt (refine kgr_truthy (by k_asm) (by k_mem) (by exact rfl) (by exact rfl) (by (have := IntsAre.length (by assumption); omega)) ?_); (try dsimp only)))
  k_with "call builtin:list.append" => ((k_here; (with_reducible show wpAny _ _ (call (Value.builtin _) [Value.ref _, _]) _ _ _); k_dflt (refine append_K (by k_asm) (by k_asm) (by k_upd) ?_ (by (simp only [List.size_toArray]; rw [sizeLine_eq]; omega)); k_whole); intro h'r9 F'r9 N'r9; (try k_sweep)))
  k_with "call builtin:divmod" => ((k_here; (with_reducible show wpAny _ _ (call (Value.builtin _) [Value.int _ _, Value.int _ _]) _ _ _); refine divmod_M (by assumption) (by assumption) (by assumption) (by assumption) ?_; intro r'r9 h'r9 tk'r9 u1'r9 u2'r9 F'r9 N'r9 l1r9))
  exact trivial
section
theorem divmod_M {prog : Program} {w : World} {A : Around} {E : Value → Shared → Prop} {s : Shared} {a b : Int} {t u : Tok} {Q : Value → Shared → Prop} {h₀ : Heap} {L : Addr} {m : Str → Option Value} {news : List (Addr × Obj)} (F : Fr h₀ L s.heap m) (N : News h₀ L s.heap news) (hb : b ≠ 0)
    (hp : Builtin.divisionGoesByPylong a b = false)
    (h : ∀ r h' tk u1 u2, Fr h₀ L h' m → News h₀ L h' ((r, { cls := .type "tuple", data := .seq #[.int (a.fdiv b) u1, .int (a.fmod b) u2] }) :: news) → (∀ q ∈ news, q.1 < r) →
      Q (.ref r) { s with toks := tk, heap := h' }) :
    wpAny (model prog w) A (call (.builtin "divmod") [.int a t, .int b u]) Q E s :=
  divmod_N F N hb (fun h' F' N' => h _ h' _ _ _ F' N' fun q hq => Heap.lt_size (N q hq).1) (.inl hp)
theorem div2n1n : ∀ (w : World) (A : Around) (h₀ : Heap) (L : Addr) (m : Str → Option Value) (news : List (Addr × Obj)) (s : Shared)
  (Q E : Value → Shared → Prop) (x y n : Int) (t1 t2 t3 : Tok),
  Site w A h₀ L → Fr h₀ L s.heap m → News h₀ L s.heap news →
  A.depth + 10 < recursionLimit → A.units + 80 < cLine →
  y ≠ 0 → Builtin.divisionGoesByPylong x y = false → (Builtin.Int.intBits x : Int) - n ≤ 4000 →
  (∀ r u1 u2 h' tk', Fr h₀ L h' m → News h₀ L h' ((r, { cls := .type "tuple", data := .seq #[.int (Int.fdiv x y) u1, .int (Int.fmod x y) u2] }) :: news) → (∀ q ∈ news, q.1 < r) → Q (.ref r) { s with heap := h', toks := tk' }) →
  wpAny (model Prog w) A (call (.ref 21) [.int x t1, .int y t2, .int n t3]) Q E s := by
  unfold Site Prog
  intro w A h₀ L m news s Q E x y n t1 t2 t3 hS F N hd hu hy hpy hn hret
  obtain ⟨p, loose, mean, mg, mb, A₀, base, outer, env, B, X, T, hA, hf, hke, hh, C1, C2⟩ := hS
  refine wpAny_call ?_
  k_dflt (refine' code_def ?k1 ?k2 ?k3 ?k4 ?k5 ?kA ?kF ?kK ?k6 ?k7 ?k8 ?k9 ?kB ?_ ?c2 ?c3 ?c4 ?c5; (case kA => exact hA); (case kF => exact hf); (case kK => exact hke); (case k1 => k_asm); (case k2 => k_asm); (case k3 => k_asm); (case k4 => k_asm); (case k5 => k_asm); (case k6 => k_is); (case k7 => k_is); (case k8 => ktr_room); (case k9 => exact BindsTo.of_eq rfl); (case c5 => decide); (case kB => exact locs rfl); (case c2 => exact rfl); (case c3 => exact rfl); (case c4 => exact rfl); k_whole; intro g' L' h' FG' F' N' B' X' T'; (try dsimp only); (try k_fold))
  k_steps
  all_goals exact hret _ _ _ _ _ (by assumption) (by assumption) (by assumption)
end
theorem rules_P8 : True := by
  k_with_none
  k_with "call builtin:len" => ((k_here; (with_reducible show wpAny _ _ (call (Value.builtin "len") [Value.ref _]) _ _ _); k_dflt (refine kst_len (by k_asm) (by k_mem) (by exact IntsAre.length (by assumption)) (by omega) ?_); (try dsimp only)))
  k_with "truthy ref" => ((k_here; (with_reducible show wpAny _ _ (truthy (Value.ref _)) _ _ _); k_dflt (refine kgr_truthy (by k_asm) (by k_mem) (by exact rfl) (by exact rfl) (by (have := IntsAre.length (by assumption); omega)) ?_); (try dsimp only)))
  k_with "call builtin:list.append" => ((k_here; (with_reducible show wpAny _ _ (call (Value.builtin _) [Value.ref _, _]) _ _ _); k_dflt (refine append_K (by k_asm) (by k_asm) (by k_upd) ?_ (by (simp only [List.size_toArray]; rw [sizeLine_eq]; omega)); k_whole); intro h'r9 F'r9 N'r9; (try k_sweep)))
  k_with "exec For Name Call cons nil" => ((k_here; (with_reducible show wpAny _ _ (exec (Stmt.For _ _ _ [] _) _) _ _ _); k_dflt (refine wpAny_For ?_)))
  k_with "call type:reversed" => ((k_here; (with_reducible show wpAny _ _ (call (Value.type "reversed") [Value.ref _]) _ _ _); k_dflt (refine call_reversed (by k_asm) (by k_asm) (by k_mem) ?_); intro I'r9 o'r9 h'r9 F'r9 N'r9 l1r9 hrvr9; k_lt l1r9; simp only [List.cons_append, List.nil_append] at N'r9))
  k_with "pyIter ref" => ((k_here; (with_reducible rename rvSt _ _ _ _ _ => hrv9); refine pyIter_rev (by k_asm) (by k_mem) hrv9 ?_))
  k_with "binaryOp LShift int int" => ((k_here; (k_dflt (refine lshift_int (by omega) (by (have h27 : (2 : Int) ^ 27 = 134217728 := by decide); omega) ?_))))
  exact trivial
noncomputable section
noncomputable def JDiv (g0 : Array GenState) (m0 : Str → Option Value) (D : Addr) (rest : List (Addr × Obj)) (a b n k i : Nat) (m : Str → Option Value) (nx : List (Addr × Obj)) (g : Array GenState) : Prop :=
  g = g0 ∧ ∃ (u : Str → Option Value) (r : Nat) (t : Tok) (qs : List Int) (vq : List Value) (nq : Nat),
      m = (fun z => if z = Str.ofString "a_digit" then u z else if z = Str.ofString "q_digit" then u z else if z = Str.ofString "r" then some (Value.int ((r : Nat) : Int) t) else m0 z) ∧
      nx = (D, W.listOf (List.toArray vq) nq) :: rest ∧ IntsAre vq qs ∧ DivInv a b n k i r qs
namespace seg_divmod_pos
noncomputable def body : (P_1 : World → Heap → Addr → (Str → Option Value) → List (Addr × Obj) → Shared → (Value → Shared → Prop) → (Value → Shared → Prop) → Int → Int → Tok → Tok → Obj → Obj → Obj → Obj → Addr → Addr → Nat → Option (List Code) → Nat → Program → List Str → (ExcName → Option Value) → (Str → Option Value) → (Str → Option Value) → Around → Heap → List Env → Env → Heap → Addr → Heap → Prop) ×' ((∀ a b c d e f g h i j k l m n o p q r s t u v w x y z a1 b1 c1 d1 e1 f1 g1, P_1 a b c d e f g h i j k l m n o p q r s t u v w x y z a1 b1 c1 d1 e1 f1 g1) → (∀ (w : World) (A : Around) (h₀ : Heap) (L : Addr) (m : Str → Option Value) (news : List (Addr × Obj)) (s : Shared)
  (Q E : Value → Shared → Prop) (a b : Int) (t1 t2 : Tok) (o1 k1 o2 k2 : Obj) (c1 c2 : Addr),
  Site w A h₀ L → Fr h₀ L s.heap m → News h₀ L s.heap ((30, o1) :: (c1, k1) :: (37, o2) :: (c2, k2) :: news) → Off 30 news → Off 37 news → @Ne Nat c1 37 → @Ne Nat c2 30 → TabSt 30 32 4 q30 o1 c1 k1 → TabSt 37 47 4 q37 o2 c2 k2 →
  A.depth + 100 < recursionLimit → A.units + 1000 < cLine →
  0 ≤ a → 0 < b → Builtin.Int.intBits a ≤ 50000 → Builtin.Int.intBits b ≤ 4000 →
  (∀ r u1 u2 o1' k1' c1' o2' k2' c2' h' tk', Fr h₀ L h' m → News h₀ L h' ((r, { cls := .type "tuple", data := .seq #[.int (Int.fdiv a b) u1, .int (Int.fmod a b) u2] }) :: (30, o1') :: (c1', k1') :: (37, o2') :: (c2', k2') :: news) → TabSt 30 32 4 q30 o1' c1' k1' → TabSt 37 47 4 q37 o2' c2' k2' →
     (c1' = c1 ∨ ∀ q ∈ news, q.1 < c1') → (c2' = c2 ∨ ∀ q ∈ news, q.1 < c2') → @Ne Nat c1' 37 → @Ne Nat c2' 30 → (∀ q ∈ (30, o1') :: (c1', k1') :: (37, o2') :: (c2', k2') :: news, @LT.lt Nat _ q.1 r) → Q (.ref r) { s with heap := h', toks := tk' }) →
  wpAny (model Prog w) A (call (.ref 49) [.int a t1, .int b t2]) Q E s)) := by
  refine' ⟨_, fun k_1 => ?main⟩
  case main =>
    unfold Site Prog
    intro w A h₀ L m news s Q E a b t1 t2 o1 k1 o2 k2 c1 c2 hS F N hR1 hR2 hn1 hn2 hT1 hT2 hd hu ha hb hba hbb hret
    refine byC fun hGZ => ?_
    obtain ⟨hd0, dp, fr, gd, un⟩ := A
    obtain ⟨p, loose, mean, mg, mb, A₀, base, outer, env, B, X, T, hA, hf, hke, hh, C1, C2⟩ := hS
    dsimp only at hA hh hd hu
    subst hA
    subst hh
    refine hGZ ?_; clear hGZ
    refine wpAny_call ?_
    k_dflt (refine' code_def ?k1 ?k2 ?k3 ?k4 ?k5 ?kA ?kF ?kK ?k6 ?k7 ?k8 ?k9 ?kB ?_ ?c2 ?c3 ?c4 ?c5; (case kA => exact rfl); (case kF => exact hf); (case kK => exact hke); (case k1 => k_asm); (case k2 => k_asm); (case k3 => k_asm); (case k4 => k_asm); (case k5 => k_asm); (case k6 => k_is); (case k7 => k_is); (case k8 => ktr_room); (case k9 => exact BindsTo.of_eq rfl); (case c5 => decide); (case kB => exact locs rfl); (case c2 => exact rfl); (case c3 => exact rfl); (case c4 => exact rfl); k_whole; intro g' L' h' FG' F' N' B' X' T'; (try dsimp only); (try k_fold))
    have C1' : CodeHd g' 34 30 := C1.keeps FG'.keep
    have C2' : CodeHd g' 41 37 := C2.keeps FG'.keep
    revert F N hR1 hR2 hn1 hn2 hT1 hT2 ha hb hba hbb hret hd hu B X T hf hke C1 C2 FG' F' N' B' X' T' qk ek C1' C2'
    exact k_1 w h₀ L m news s Q E a b t1 t2 o1 k1 o2 k2 c1 c2 dp gd un p loose mean mg mb A₀ base outer env g' L' h'
namespace sA
noncomputable abbrev tyC := (World × Heap × Addr × (Str → Option Value) × (List (Addr × Obj)) × Shared × (Value → Shared → Prop) × (Value → Shared → Prop)) × (Int × Int × Tok × Tok × Obj × Obj × Obj × Obj) × (Addr × Addr × Nat × Option (List Code) × Nat × Program × List Str × (ExcName → Option Value)) × ((Str → Option Value) × (Str → Option Value) × Around × Heap × List Env × Env × Heap × Addr) × Heap
def prP := body.1
def prQ (x : tyC) : Prop := prP x.1.1 x.1.2.1 x.1.2.2.1 x.1.2.2.2.1 x.1.2.2.2.2.1 x.1.2.2.2.2.2.1 x.1.2.2.2.2.2.2.1 x.1.2.2.2.2.2.2.2 x.2.1.1 x.2.1.2.1 x.2.1.2.2.1 x.2.1.2.2.2.1 x.2.1.2.2.2.2.1 x.2.1.2.2.2.2.2.1 x.2.1.2.2.2.2.2.2.1 x.2.1.2.2.2.2.2.2.2 x.2.2.1.1 x.2.2.1.2.1 x.2.2.1.2.2.1 x.2.2.1.2.2.2.1 x.2.2.1.2.2.2.2.1 x.2.2.1.2.2.2.2.2.1 x.2.2.1.2.2.2.2.2.2.1 x.2.2.1.2.2.2.2.2.2.2 x.2.2.2.1.1 x.2.2.2.1.2.1 x.2.2.2.1.2.2.1 x.2.2.2.1.2.2.2.1 x.2.2.2.1.2.2.2.2.1 x.2.2.2.1.2.2.2.2.2.1 x.2.2.2.1.2.2.2.2.2.2.1 x.2.2.2.1.2.2.2.2.2.2.2 x.2.2.2.2
noncomputable def inI : tyC := ((aWorld 0, default, default, default, default, {}, default, default), default, default, (default, default, callerA, default, default, default, default, default), default)
def epC : tyC := eps inI prQ
@[irreducible] def w := epC.1.1
@[irreducible] def m := epC.1.2.2.2.1
@[irreducible] def news := epC.1.2.2.2.2.1
@[irreducible] def s := epC.1.2.2.2.2.2.1
@[irreducible] def a := epC.2.1.1
@[irreducible] def b := epC.2.1.2.1
@[irreducible] def o1 := epC.2.1.2.2.2.2.1
@[irreducible] def k1 := epC.2.1.2.2.2.2.2.1
@[irreducible] def o2 := epC.2.1.2.2.2.2.2.2.1
@[irreducible] def k2 := epC.2.1.2.2.2.2.2.2.2
@[irreducible] def c1 := epC.2.2.1.1
@[irreducible] def c2 := epC.2.2.1.2.1
@[irreducible] def p := epC.2.2.1.2.2.2.2.2.1
@[irreducible] def g' := epC.2.2.2.1.2.2.2.2.2.2.1
@[irreducible] def L' := epC.2.2.2.1.2.2.2.2.2.2.2
namespace seg_sA_main
noncomputable def body : (P_1 : Nat → Nat → Addr → List Value → Nat → Obj → Obj → Addr → Heap → Nat → Heap → Nat → Nat → Obj → Heap → Addr → Nat → Heap → Nat → Obj → (Str → Option Value) → Nat → Tok → List Int → List Value → Nat → Tok → Nat → Prop) ×' (P_2 : Nat → Nat → Addr → List Value → Nat → Obj → Obj → Addr → Heap → Nat → Heap → Nat → Nat → Obj → Heap → Addr → Heap → Nat → (Str → Option Value) → Nat → Tok → List Int → List Value → Nat → Prop) ×' ((∀ a b c d e f g h i j k l m n o p q r s t u v w x y z a1 b1, P_1 a b c d e f g h i j k l m n o p q r s t u v w x y z a1 b1) → (∀ a b c d e f g h i j k l m n o p q r s t u v w x, P_2 a b c d e f g h i j k l m n o p q r s t u v w x) → (prP w epC.1.2.1 epC.1.2.2.1 m news s epC.1.2.2.2.2.2.2.1 epC.1.2.2.2.2.2.2.2 a b epC.2.1.2.2.1 epC.2.1.2.2.2.1 o1 k1 o2 k2 c1 c2 epC.2.2.1.2.2.1 epC.2.2.1.2.2.2.1 epC.2.2.1.2.2.2.2.1 p epC.2.2.1.2.2.2.2.2.2.1 epC.2.2.1.2.2.2.2.2.2.2 epC.2.2.2.1.1 epC.2.2.2.1.2.1 epC.2.2.2.1.2.2.1 epC.2.2.2.1.2.2.2.1 epC.2.2.2.1.2.2.2.2.1 epC.2.2.2.1.2.2.2.2.2.1 g' L' epC.2.2.2.2)) := by
  refine' ⟨_, _, fun k_1 k_2 => ?main⟩
  case main =>
    intro F N hR1 hR2 hn1 hn2 hT1 hT2 ha hb hba hbb hret hd hu B X T hf hke C1 C2 FG' F' N' B' X' T' qk ek C1' C2'
    have hb0 : 1 ≤ Builtin.Int.intBits b := by
      unfold Builtin.Int.intBits
      rw [if_neg (by simp; (first | exact om395 hb | omega))]; (first | exact om373 | omega)
    obtain ⟨n, hn⟩ : ∃ n, n = Builtin.Int.intBits b := ⟨_, rfl⟩
    obtain ⟨k, hk⟩ : ∃ k : Nat, (((Builtin.Int.intBits a : Nat) : Int) + (n : Int) - 1).fdiv n = (k : Int) := by
      rw [Int.fdiv_eq_ediv_of_nonneg _ (by (first | exact om53 | omega))]
      exact ⟨_, (Int.toNat_of_nonneg (Int.ediv_nonneg (by (first | exact om396 hb0 hn | omega)) (by (first | exact om53 | omega)))).symm⟩
    have hnk : (n : Int) * (k : Int) ≤ 60000 := by
      rw [← hk, Int.fdiv_eq_ediv_of_nonneg _ (by (first | exact om53 | omega))]
      have := Int.mul_ediv_self_le (x := ((Builtin.Int.intBits a : Nat) : Int) + (n : Int) - 1) (k := (n : Int)) (by (first | exact om397 hb0 hn | omega))
      (first | exact om398 hba hbb hn this | omega)
    have hk2 : k ≤ 100000 := by
      have : (1 : Int) * (k : Int) ≤ (n : Int) * (k : Int) := Int.mul_le_mul_of_nonneg_right (by (first | exact om399 hb0 hn | omega)) (by (first | exact om53 | omega))
      (first | exact om400 hnk this | omega)
    k_steps
    rw [← hn]
    rename Fr g' _ _ _ => F0
    rw [← hn] at F0
    refine int2digits w _ g' L' _ ((37, o2) :: (c2, k2) :: news) _ _ _ a n _ _ o1 k1 c1 (site_in B' X' T' rfl rfl rfl C1' C2') (by assumption) (by assumption) (off_cons.mpr ⟨by decide, off_cons.mpr ⟨hn2, hR1⟩⟩) hT1 (by simp only [depth_deeper]; (first | exact om401 hd | omega)) (by simp only [units_deeper]; (first | exact om402 hu | omega)) ha (by (first | exact om403 hb0 hn | omega)) (by (first | exact om404 hbb hn | omega)) k hk hk2 (by (first | exact om405 hnk | omega)) ?_
    intro Da ds nD o1' k1' c1' h8 tk8 F8 N8 S8 e8 l8 n8 g8 I8
    k_lt l8
    have e8' : @Eq Nat c1' c1 ∨ AllLt c1' _ := e8.imp id allLt_of
    simp only [AllLt] at e8'
    k_steps
    rename rvSt _ _ _ _ _ => hrv
    rename Fr _ _ _ _ => F9
    rename News _ _ _ _ => N9
    have hdl : ds.length = k := by rw [I8.length, digs_length]
    have hgen : ∀ g, g = s.gens → g = s.gens := fun _ h => h
    obtain ⟨Dq, eq⟩ : ∃ d, d = adrAt (led N9) 1 := ⟨_, rfl⟩
    dsimp only [adrAt, led] at eq
    subst eq
    refine' loop_it (it_rev (l := Da) (vs := ds) (nn := nD)) (JDiv s.gens (frm F9) Dq ((Da, W.listOf ds.toArray nD) :: (30, o1') :: (c1', k1') :: (37, o2) :: (c2, k2) :: news) a.toNat b.toNat n k) ?hh hrv F9 N9 ?j0 ?hJ ?turn ?fin
    case j0 =>
      refine ⟨rfl, frm F9, 0, tokOf (frm F9 (Str.ofString "r")), [], [], 0, ?_, rfl, .nil, div_start ?_⟩
      · exact ov3 rfl
      · have q := PySem.intBits_le_iff.mp (Nat.le_refl (Builtin.Int.intBits a))
        rw [show a.natAbs = a.toNat from by (first | exact om380 ha | omega)] at q
        refine Nat.lt_of_lt_of_le q (Nat.pow_le_pow_right (by decide) ?_)
        have h1 := Int.lt_mul_ediv_self_add (x := (((Builtin.Int.intBits a : Nat) : Int) + (n : Int) - 1)) (k := (n : Int)) (by (first | exact om403 hb0 hn | omega))
        rw [← Int.fdiv_eq_ediv_of_nonneg _ (by (first | exact om53 | omega)), hk] at h1
        have : ((n * k : Nat) : Int) = (n : Int) * k := Int.natCast_mul _ _
        omega
    case hh => exact rfl
    case hJ =>
      intro i m nx g pGZ4
      refine byC fun hGZ => ?_
      obtain ⟨_, u, r, t, qs, vq, nq, _, rfl, _, _⟩ := pGZ4
      refine hGZ ?_; clear hGZ
      refine ⟨fun p hp => ?_, fun x hx => ?_⟩
      · rw [List.mem_singleton.mp hp]; exact .tail _ (.head _)
      · rw [List.mem_singleton.mp hx]; k_all
    case turn =>
      intro i v ex own m9 nx h9 tk9 g9 hi pGZ10 pGZ11 pGZ12
      refine byC fun hGZ => ?_
      obtain ⟨hv, rfl⟩ := pGZ10
      obtain ⟨o9, rfl, _, _⟩ := pGZ11
      obtain ⟨rfl, u, r, t, qs, vq, nq, rfl, rfl, hq, hD⟩ := pGZ12
      refine hGZ ?_; clear hGZ
      intro F9 N9 _ hap
      refine wpAny_assign_Name ?_
      simp only [List.nil_append, List.cons_append] at N9
      dsimp only [frm] at F9
      have hv' : ∃ tv d, v = .int ((d : Nat) : Int) tv ∧ d = (a.toNat / 2 ^ (n * (k - 1 - i))) % 2 ^ n := by
        have q1 : (digs n k a.toNat)[k - 1 - i]? = some (((a.toNat / 2 ^ (n * (k - 1 - i))) % 2 ^ n : Nat) : Int) := digs_get n k a.toNat (k - 1 - i) (by (first | exact om406 hdl hi | omega))
        rw [Int.toNat_natCast] at I8
        obtain ⟨tv, q2⟩ := I8.get (k - 1 - i) _ q1
        rw [hdl] at hv
        rw [q2] at hv
        exact ⟨tv, _, (Option.some.inj hv).symm, rfl⟩
      refine byC fun hGZ => ?_
      obtain ⟨tv, d, rfl, hdd⟩ := hv'
      refine hGZ ?_; clear hGZ
      rename_i _ tnz1 tnz2 tnz3 tnz4 _ _ tnz5 tnz6 tnz7 tnz8 tnz9 tnz10 tnz11 tnz12 tnz13 tnz14 tnz15 tnz16 tnz17 tnz18 tnz19 tnz20 tnz21 tnz22 tnz23 tnz24
      revert F N hR1 hR2 hn1 hn2 hT1 hT2 ha hb hba hbb hret hd hu B X T hf hke C1 C2 FG' B' X' T' qk ek C1' C2' hb0 hn hk hnk hk2 S8 e8 n8 g8 I8 tnz1 tnz2 l8 e8' hrv tnz6 tnz7 tnz8 tnz9 tnz10 l1r9 hdl hgen tnz11 tnz12 tnz13 tnz14 tnz15 tnz16 tnz17 tnz18 tnz19 tnz20 tnz21 hi tnz22 tnz23 hq hD F9 N9 tnz24 hap hdd hv
      exact k_1 n k Da ds nD o1' k1' c1' tnz3 tnz4 tnz5 tk I'r9 o'r9 h'r9 Dq i h9 tk9 o9 u r t qs vq nq tv d
    case fin =>
      intro m9 nx h9 tk9 g9 pGZ5
      refine byC fun hGZ => ?_
      obtain ⟨rfl, u, r, t, qs, vq, nq, rfl, rfl, hq, hD⟩ := pGZ5
      refine hGZ ?_; clear hGZ
      intro F9 N9
      rename_i _ fnz1 fnz2 fnz3 fnz4 _ _ fnz5 fnz6 fnz7 fnz8 fnz9 fnz10 fnz11 fnz12 fnz13 fnz14 fnz15 fnz16 fnz17 fnz18 fnz19 fnz20 fnz21
      revert F N hR1 hR2 hn1 hn2 hT1 hT2 ha hb hba hbb hret hd hu B X T hf hke C1 C2 FG' B' X' T' qk ek C1' C2' hb0 hn hk hnk hk2 S8 e8 n8 g8 I8 fnz1 fnz2 l8 e8' hrv fnz6 fnz7 fnz8 fnz9 fnz10 l1r9 hdl hgen fnz11 fnz12 fnz13 fnz14 fnz15 fnz16 fnz17 fnz18 fnz19 fnz20 fnz21 hq hD F9 N9
      exact k_2 n k Da ds nD o1' k1' c1' fnz3 fnz4 fnz5 tk I'r9 o'r9 h'r9 Dq h9 tk9 u r t qs vq nq
namespace tn
noncomputable abbrev tyC := (Nat × Nat × Addr × List Value × Nat × Obj × Obj × Addr) × (Heap × Nat × Heap × Nat × Nat × Obj × Heap × Addr) × (Nat × Heap × Nat × Obj × (Str → Option Value) × Nat × Tok × List Int) × (List Value × Nat × Tok × Nat)
def prP := body.1
def prQ (x : tyC) : Prop := prP x.1.1 x.1.2.1 x.1.2.2.1 x.1.2.2.2.1 x.1.2.2.2.2.1 x.1.2.2.2.2.2.1 x.1.2.2.2.2.2.2.1 x.1.2.2.2.2.2.2.2 x.2.1.1 x.2.1.2.1 x.2.1.2.2.1 x.2.1.2.2.2.1 x.2.1.2.2.2.2.1 x.2.1.2.2.2.2.2.1 x.2.1.2.2.2.2.2.2.1 x.2.1.2.2.2.2.2.2.2 x.2.2.1.1 x.2.2.1.2.1 x.2.2.1.2.2.1 x.2.2.1.2.2.2.1 x.2.2.1.2.2.2.2.1 x.2.2.1.2.2.2.2.2.1 x.2.2.1.2.2.2.2.2.2.1 x.2.2.1.2.2.2.2.2.2.2 x.2.2.2.1 x.2.2.2.2.1 x.2.2.2.2.2.1 x.2.2.2.2.2.2
noncomputable def inI : tyC := default
def epC : tyC := eps inI prQ
@[irreducible] def n := epC.1.1
@[irreducible] def i := epC.2.2.1.1
@[irreducible] def r := epC.2.2.1.2.2.2.2.2.1
@[irreducible] def qs := epC.2.2.1.2.2.2.2.2.2.2
@[irreducible] def vq := epC.2.2.2.1
@[irreducible] def nq := epC.2.2.2.2.1
@[irreducible] def d := epC.2.2.2.2.2.2
theorem tn_main : prP n epC.1.2.1 epC.1.2.2.1 epC.1.2.2.2.1 epC.1.2.2.2.2.1 epC.1.2.2.2.2.2.1 epC.1.2.2.2.2.2.2.1 epC.1.2.2.2.2.2.2.2 epC.2.1.1 epC.2.1.2.1 epC.2.1.2.2.1 epC.2.1.2.2.2.1 epC.2.1.2.2.2.2.1 epC.2.1.2.2.2.2.2.1 epC.2.1.2.2.2.2.2.2.1 epC.2.1.2.2.2.2.2.2.2 i epC.2.2.1.2.1 epC.2.2.1.2.2.1 epC.2.2.1.2.2.2.1 epC.2.2.1.2.2.2.2.1 r epC.2.2.1.2.2.2.2.2.2.1 qs vq nq epC.2.2.2.2.2.1 d := by
  intro F N hR1 hR2 hn1 hn2 hT1 hT2 ha hb hba hbb hret hd hu B X T hf hke C1 C2 FG' B' X' T' qk ek C1' C2' hb0 hn hk hnk hk2 S8 e8 n8 g8 I8 tnz1 tnz2 l8 e8' hrv tnz6 tnz7 tnz8 tnz9 tnz10 l1r9 hdl hgen tnz11 tnz12 tnz13 tnz14 tnz15 tnz16 tnz17 tnz18 tnz19 tnz20 tnz21 hi tnz22 tnz23 hq hD F9 N9 tnz24 hap hdd hv
  have hvl : vq.length = i := by rw [hq.length, hD.len]
  have hrb : r < b.toNat := by rw [hD.rem]; exact Nat.mod_lt _ (by (first | exact om407 hb | omega))
  have hbn : b.toNat < 2 ^ n := by
    have := PySem.intBits_le_iff.mp (Nat.le_of_eq hn.symm)
    (first | exact om408 this | omega)
  have hrn : Builtin.Int.intBits (r : Int) ≤ n := bits_nat (by (first | exact om409 hrb hbn | omega))
  obtain ⟨hD', hlt⟩ := div_step (by (first | exact om410 hrb | omega)) hbn (by (first | exact om87 hdl hi | omega)) hD hdd
  k_steps
  have ex : (r : Int) * 2 ^ n + (d : Int) = ((r * 2 ^ n + d : Nat) : Int) := by
    rw [Int.natCast_add, Int.natCast_mul, Int.natCast_pow]; rfl
  rw [Int.toNat_natCast, ex]
  have hxb : Builtin.Int.intBits ((r * 2 ^ n + d : Nat) : Int) ≤ n + n := by
    refine bits_nat (Nat.lt_of_lt_of_le hlt ?_)
    rw [Nat.pow_add]
    exact Nat.mul_le_mul_right _ (by (first | exact om411 hbn | omega))
  refine div2n1n w _ g' L' _ _ _ _ _ _ b n _ _ _ (site_in B' X' T' rfl rfl rfl C1' C2') (by assumption) (by assumption) (by simp only [depth_deeper]; (first | exact om412 hd | omega)) (by simp only [units_deeper]; (first | exact om413 hu | omega)) (by (first | exact om414 hb | omega)) (PyProof.noPylong_of_log2 ?_) (by (first | exact om415 hbb hn hxb | omega)) ?_
  · have h0 : b.natAbs ≠ 0 := by (first | exact om416 hb | omega)
    refine (Nat.log2_lt h0).mpr (Nat.lt_of_lt_of_le (PySem.intBits_le_iff.mp (Nat.le_of_eq hn.symm)) (Nat.pow_le_pow_right (by decide) (by (first | exact om417 hbb hn | omega))))
  intro rt u1 u2 h7 tk7 F7 N7 l7
  have eq1 : (((r * 2 ^ n + d : Nat) : Int)).fdiv b = (((r * 2 ^ n + d) / b.toNat : Nat) : Int) := by
    rw [Int.fdiv_eq_ediv_of_nonneg _ (by (first | exact om353 hb | omega)), Int.natCast_ediv, Int.toNat_of_nonneg (by (first | exact om353 hb | omega))]
  have eq2 : (((r * 2 ^ n + d : Nat) : Int)).fmod b = (((r * 2 ^ n + d) % b.toNat : Nat) : Int) := by
    rw [Int.fmod_eq_emod_of_nonneg _ (by (first | exact om353 hb | omega)), Int.natCast_emod, Int.toNat_of_nonneg (by (first | exact om353 hb | omega))]
  rw [eq1, eq2] at N7
  k_lt l7
  k_steps
  rename Fr _ _ _ _ => F5
  rename News _ _ _ _ => N5
  rw [List.push_toArray] at N5
  refine ⟨_, _, _, frm F5, _, rfl, F5, news_sub N5 ?_, rfl, frm F5, (r * 2 ^ n + d) % b.toNat, tokOf (frm F5 (Str.ofString "r")), qs ++ [(((r * 2 ^ n + d) / b.toNat : Nat) : Int)], vq ++ [Value.int (((r * 2 ^ n + d) / b.toNat : Nat) : Int) u1], nq + 1, ov3' rfl ?_, rfl, ints_snoc hq, hD'⟩
  · (repeat (refine' List.forall_mem_cons.mpr ⟨by k_mem, ?_⟩)); (intro p hp; repeat (first | exact hp | apply List.mem_cons_of_mem))
  · intro z h1 h2 h3
    dsimp only [frm]
    simp [h1, h2, h3]
theorem all : ∀ x, prQ x := @sk tyC inI prQ (by with_unfolding_all exact @tn_main)
end tn
namespace fn
noncomputable abbrev tyC := (Nat × Nat × Addr × List Value × Nat × Obj × Obj × Addr) × (Heap × Nat × Heap × Nat × Nat × Obj × Heap × Addr) × (Heap × Nat × (Str → Option Value) × Nat × Tok × List Int × List Value × Nat)
def prP := body.2.1
def prQ (x : tyC) : Prop := prP x.1.1 x.1.2.1 x.1.2.2.1 x.1.2.2.2.1 x.1.2.2.2.2.1 x.1.2.2.2.2.2.1 x.1.2.2.2.2.2.2.1 x.1.2.2.2.2.2.2.2 x.2.1.1 x.2.1.2.1 x.2.1.2.2.1 x.2.1.2.2.2.1 x.2.1.2.2.2.2.1 x.2.1.2.2.2.2.2.1 x.2.1.2.2.2.2.2.2.1 x.2.1.2.2.2.2.2.2.2 x.2.2.1 x.2.2.2.1 x.2.2.2.2.1 x.2.2.2.2.2.1 x.2.2.2.2.2.2.1 x.2.2.2.2.2.2.2.1 x.2.2.2.2.2.2.2.2.1 x.2.2.2.2.2.2.2.2.2
noncomputable def inI : tyC := default
def epC : tyC := eps inI prQ
@[irreducible] def n := epC.1.1
@[irreducible] def k := epC.1.2.1
@[irreducible] def o1' := epC.1.2.2.2.2.2.1
@[irreducible] def k1' := epC.1.2.2.2.2.2.2.1
@[irreducible] def c1' := epC.1.2.2.2.2.2.2.2
@[irreducible] def Dq := epC.2.1.2.2.2.2.2.2.2
@[irreducible] def r := epC.2.2.2.2.2.1
@[irreducible] def qs := epC.2.2.2.2.2.2.2.1
@[irreducible] def vq := epC.2.2.2.2.2.2.2.2.1
@[irreducible] def nq := epC.2.2.2.2.2.2.2.2.2
theorem fn_main : prP n k epC.1.2.2.1 epC.1.2.2.2.1 epC.1.2.2.2.2.1 o1' k1' c1' epC.2.1.1 epC.2.1.2.1 epC.2.1.2.2.1 epC.2.1.2.2.2.1 epC.2.1.2.2.2.2.1 epC.2.1.2.2.2.2.2.1 epC.2.1.2.2.2.2.2.2.1 Dq epC.2.2.1 epC.2.2.2.1 epC.2.2.2.2.1 r epC.2.2.2.2.2.2.1 qs vq nq := by
  intro F N hR1 hR2 hn1 hn2 hT1 hT2 ha hb hba hbb hret hd hu B X T hf hke C1 C2 FG' B' X' T' qk ek C1' C2' hb0 hn hk hnk hk2 S8 e8 n8 g8 I8 fnz1 fnz2 l8 e8' hrv fnz6 fnz7 fnz8 fnz9 fnz10 l1r9 hdl hgen fnz11 fnz12 fnz13 fnz14 fnz15 fnz16 fnz17 fnz18 fnz19 fnz20 fnz21 hq hD F9 N9
  rw [hdl] at hD
  obtain ⟨e1, e2⟩ := div_end hD
  dsimp only [frm] at F9
  dsimp only
  have hvl : vq.length = k := by rw [hq.length, hD.len]
  k_steps
  dsimp only
  k_dflt (refine' kl_reverse (l := vq.reverse) ?F ?N ?e ?U ?z ?_; (case F => k_asm); (case N => k_asm); (case U => (refine' Upd.head ?_; refine List.forall_mem_cons.mpr ⟨by k_ne, ?_⟩; k_all)); (case e => simp); (case z => (rw [sizeLine_eq]; simp; (first | exact om418 hk2 hvl | omega))))
  intro h7 F7 N7
  k_steps
  rename News _ _ _ _ => N6
  have N6' := news_pull (x := ((37 : Addr), o2)) (y := (c2, k2)) N6 (by repeat (first | exact Pull.head | apply Pull.tail))
  refine digits2int w _ g' L' _ _ _ _ _ n _ o2 k2 c2 Dq vq.reverse qs.reverse nq (site_in B' X' T' rfl rfl rfl C1' C2') (by assumption) N6' (by k_all) hT2 (by k_mem) (ints_rev hq) (by simp only [depth_deeper]; (first | exact om401 hd | omega)) (by simp only [units_deeper]; (first | exact om402 hu | omega)) (by (first | exact om403 hb0 hn | omega)) (by (first | exact om404 hbb hn | omega)) (fun x hx => by rw [Int.toNat_natCast]; exact hD.dig x (List.mem_reverse.mp hx)) (by rw [List.length_reverse, hD.len]; (first | exact om419 hk2 | omega)) (by rw [List.length_reverse, hD.len]; (first | exact om405 hnk | omega)) ?_
  intro o2' k2' c2' h6 tk6 t6 F6 N6' S6 e6
  have e6' : @Eq Nat c2' c2 ∨ AllLt c2' _ := e6.imp id allLt_of
  simp only [AllLt] at e6'
  rw [Int.toNat_natCast, e2]
  k_steps
  have eq1 : a.fdiv b = ((a.toNat / b.toNat : Nat) : Int) := by
    rw [Int.fdiv_eq_ediv_of_nonneg _ (by (first | exact om353 hb | omega)), Int.natCast_ediv, Int.toNat_of_nonneg ha, Int.toNat_of_nonneg (by (first | exact om353 hb | omega))]
  have eq2 : a.fmod b = ((r : Nat) : Int) := by
    rw [e1, Int.fmod_eq_emod_of_nonneg _ (by (first | exact om353 hb | omega)), Int.natCast_emod, Int.toNat_of_nonneg ha, Int.toNat_of_nonneg (by (first | exact om353 hb | omega))]
  rw [eq1, eq2] at hret
  refine' hret _ _ _ o1' k1' c1' o2' k2' c2' _ _ (by assumption) (news_sub (by assumption) ?sub) S8 S6 (e8.imp id fun h q hq => h q (.tail _ (.tail _ hq))) ?g1 ?g2 ?g3 ?g4
  case sub => (repeat (refine' List.forall_mem_cons.mpr ⟨by k_mem, ?_⟩)); (intro p hp; repeat (first | exact hp | apply List.mem_cons_of_mem))
  case g1 => exact e6.imp id fun h q hq => h q (by repeat (first | exact hq | apply List.mem_cons_of_mem))
  case g2 => k_ne
  case g3 => k_ne
  case g4 =>
    intro q hq
    rcases List.mem_cons.mp hq with rfl | hq
    · dsimp only; (first | exact om294 (by assumption) | omega)
    · rcases List.mem_cons.mp hq with rfl | hq
      · dsimp only; (first | exact om295 (by assumption) | omega)
      · rcases List.mem_cons.mp hq with rfl | hq
        · dsimp only; (first | exact om296 (by assumption) | omega)
        · rcases List.mem_cons.mp hq with rfl | hq
          · dsimp only; (first | exact om295 (by assumption) | omega)
          · exact allLt_mem (by assumption) q hq
theorem all : ∀ x, prQ x := @sk tyC inI prQ (by with_unfolding_all exact @fn_main)
end fn
end seg_sA_main
theorem sA_main : prP w epC.1.2.1 epC.1.2.2.1 m news s epC.1.2.2.2.2.2.2.1 epC.1.2.2.2.2.2.2.2 a b epC.2.1.2.2.1 epC.2.1.2.2.2.1 o1 k1 o2 k2 c1 c2 epC.2.2.1.2.2.1 epC.2.2.1.2.2.2.1 epC.2.2.1.2.2.2.2.1 p epC.2.2.1.2.2.2.2.2.2.1 epC.2.2.1.2.2.2.2.2.2.2 epC.2.2.2.1.1 epC.2.2.2.1.2.1 epC.2.2.2.1.2.2.1 epC.2.2.2.1.2.2.2.1 epC.2.2.2.1.2.2.2.2.1 epC.2.2.2.1.2.2.2.2.2.1 g' L' epC.2.2.2.2 := @PSigma.snd _ _ (@PSigma.snd _ _ seg_sA_main.body) (fun a b c d e f g h i j k l m n o p q r s t u v w x y z a1 b1 => @seg_sA_main.tn.all ((a, b, c, d, e, f, g, h), (i, j, k, l, m, n, o, p), (q, r, s, t, u, v, w, x), (y, z, a1, b1))) (fun a b c d e f g h i j k l m n o p q r s t u v w x => @seg_sA_main.fn.all ((a, b, c, d, e, f, g, h), (i, j, k, l, m, n, o, p), (q, r, s, t, u, v, w, x)))
theorem all : ∀ x, prQ x := @sk tyC inI prQ (by with_unfolding_all exact @sA_main)
end sA
end seg_divmod_pos
theorem divmod_pos : ∀ (w : World) (A : Around) (h₀ : Heap) (L : Addr) (m : Str → Option Value) (news : List (Addr × Obj)) (s : Shared)
  (Q E : Value → Shared → Prop) (a b : Int) (t1 t2 : Tok) (o1 k1 o2 k2 : Obj) (c1 c2 : Addr),
  Site w A h₀ L → Fr h₀ L s.heap m → News h₀ L s.heap ((30, o1) :: (c1, k1) :: (37, o2) :: (c2, k2) :: news) → Off 30 news → Off 37 news → @Ne Nat c1 37 → @Ne Nat c2 30 → TabSt 30 32 4 q30 o1 c1 k1 → TabSt 37 47 4 q37 o2 c2 k2 →
  A.depth + 100 < recursionLimit → A.units + 1000 < cLine →
  0 ≤ a → 0 < b → Builtin.Int.intBits a ≤ 50000 → Builtin.Int.intBits b ≤ 4000 →
  (∀ r u1 u2 o1' k1' c1' o2' k2' c2' h' tk', Fr h₀ L h' m → News h₀ L h' ((r, { cls := .type "tuple", data := .seq #[.int (Int.fdiv a b) u1, .int (Int.fmod a b) u2] }) :: (30, o1') :: (c1', k1') :: (37, o2') :: (c2', k2') :: news) → TabSt 30 32 4 q30 o1' c1' k1' → TabSt 37 47 4 q37 o2' c2' k2' →
     (c1' = c1 ∨ ∀ q ∈ news, q.1 < c1') → (c2' = c2 ∨ ∀ q ∈ news, q.1 < c2') → @Ne Nat c1' 37 → @Ne Nat c2' 30 → (∀ q ∈ (30, o1') :: (c1', k1') :: (37, o2') :: (c2', k2') :: news, @LT.lt Nat _ q.1 r) → Q (.ref r) { s with heap := h', toks := tk' }) →
  wpAny (model Prog w) A (call (.ref 49) [.int a t1, .int b t2]) Q E s := @PSigma.snd _ _ seg_divmod_pos.body (fun a b c d e f g h i j k l m n o p q r s t u v w x y z a1 b1 c1 d1 e1 f1 g1 => @seg_divmod_pos.sA.all ((a, b, c, d, e, f, g, h), (i, j, k, l, m, n, o, p), (q, r, s, t, u, v, w, x), (y, z, a1, b1, c1, d1, e1, f1), g1))
end
theorem rules_P9 : True := by
  k_with_none
  k_with "call builtin:len" => ((k_here; (with_reducible show wpAny _ _ (call (Value.builtin "len") [Value.ref _]) _ _ _); k_dflt (refine kst_len (by k_asm) (by k_mem) (by exact IntsAre.length (by assumption)) (by omega) ?_); (try dsimp only)))
  k_with "truthy ref" => ((k_here; (with_reducible show wpAny _ _ (truthy (Value.ref _)) _ _ _); k_dflt (refine kgr_truthy (by k_asm) (by k_mem) (by exact rfl) (by exact rfl) (by (have := IntsAre.length (by assumption); omega)) ?_); (try dsimp only)))
  k_with "call builtin:list.append" => ((k_here; (with_reducible show wpAny _ _ (call (Value.builtin _) [Value.ref _, _]) _ _ _); k_dflt (refine append_K (by k_asm) (by k_asm) (by k_upd) ?_ (by (simp only [List.size_toArray]; rw [sizeLine_eq]; omega)); k_whole); intro h'r9 F'r9 N'r9; (try k_sweep)))
  exact trivial
noncomputable section
theorem neg_fdiv {a b : Int} (hb : b < 0) : (-a).fdiv (-b) = a.fdiv b ∧ -((-a).fmod (-b)) = a.fmod b := by
  have h : (-a).fdiv (-b) = a.fdiv b := Int.neg_fdiv_neg ..
  refine ⟨h, ?_⟩
  have h1 := Int.mul_fdiv_add_fmod (-a) (-b)
  have h2 := Int.mul_fdiv_add_fmod a b
  rw [h] at h1
  rw [Int.neg_mul] at h1
  (first | exact om420 h1 h2 | omega)
theorem not_fdiv {a b : Int} (hb : 0 < b) : -((-a - 1).fdiv b) - 1 = a.fdiv b ∧ b + (-((-a - 1).fmod b) - 1) = a.fmod b := by
  have e1 := Int.mul_ediv_add_emod (-a - 1) b
  have e2 := Int.emod_nonneg (-a - 1) (by (first | exact om414 hb | omega) : b ≠ 0)
  have e3 := Int.emod_lt_of_pos (-a - 1) hb
  rw [Int.fdiv_eq_ediv_of_nonneg _ (by (first | exact om353 hb | omega)), Int.fdiv_eq_ediv_of_nonneg _ (by (first | exact om353 hb | omega)), Int.fmod_eq_emod_of_nonneg _ (by (first | exact om353 hb | omega)), Int.fmod_eq_emod_of_nonneg _ (by (first | exact om353 hb | omega))]
  have key : a / b = -((-a - 1) / b) - 1 ∧ a % b = b + (-((-a - 1) % b) - 1) := by
    have := (Int.ediv_emod_unique (a := a) (b := b) (r := b + (-((-a - 1) % b) - 1)) (q := -((-a - 1) / b) - 1) hb).mpr ⟨by rw [Int.mul_sub, Int.mul_neg]; (first | exact om421 e1 | omega), by (first | exact om422 e3 | omega), by (first | exact om423 e2 | omega)⟩
    exact this
  exact ⟨key.1.symm, key.2.symm⟩
namespace seg_int_divmod
noncomputable def body : (P_1 : Nat → World → Heap → Addr → (Str → Option Value) → List (Addr × Obj) → Shared → (Value → Shared → Prop) → (Value → Shared → Prop) → Int → Int → Tok → Tok → Obj → Obj → Obj → Obj → Addr → Addr → Nat → Option (List Code) → Nat → Program → List Str → (ExcName → Option Value) → (Str → Option Value) → (Str → Option Value) → Around → Heap → List Env → Env → Heap → Addr → Heap → Prop) ×' ((∀ a b c d e f g h i j k l m n o p q r s t u v w x y z a1 b1 c1 d1 e1 f1 g1 h1, P_1 a b c d e f g h i j k l m n o p q r s t u v w x y z a1 b1 c1 d1 e1 f1 g1 h1) → (∀ (k : Nat) (w : World) (A : Around) (h₀ : Heap) (L : Addr) (m : Str → Option Value) (news : List (Addr × Obj)) (s : Shared)
  (Q E : Value → Shared → Prop) (a b : Int) (t1 t2 : Tok) (o1 k1 o2 k2 : Obj) (c1 c2 : Addr),
  Site w A h₀ L → Fr h₀ L s.heap m → News h₀ L s.heap ((30, o1) :: (c1, k1) :: (37, o2) :: (c2, k2) :: news) → Off 30 news → Off 37 news → @Ne Nat c1 37 → @Ne Nat c2 30 → TabSt 30 32 4 q30 o1 c1 k1 → TabSt 37 47 4 q37 o2 c2 k2 →
  A.depth + 110 + 5 * k < recursionLimit → A.units + 1100 + 20 * k < cLine →
  b ≠ 0 → (if b < 0 then 2 else 0) + (if a < 0 then 1 else 0) ≤ k → Builtin.Int.intBits a ≤ 50000 → Builtin.Int.intBits b ≤ 4000 →
  (∀ r u1 u2 o1' k1' c1' o2' k2' c2' h' tk', Fr h₀ L h' m → News h₀ L h' ((r, { cls := .type "tuple", data := .seq #[.int (Int.fdiv a b) u1, .int (Int.fmod a b) u2] }) :: (30, o1') :: (c1', k1') :: (37, o2') :: (c2', k2') :: news) → TabSt 30 32 4 q30 o1' c1' k1' → TabSt 37 47 4 q37 o2' c2' k2' →
     (c1' = c1 ∨ ∀ q ∈ news, q.1 < c1') → (c2' = c2 ∨ ∀ q ∈ news, q.1 < c2') → @Ne Nat c1' 37 → @Ne Nat c2' 30 → (∀ q ∈ (30, o1') :: (c1', k1') :: (37, o2') :: (c2', k2') :: news, @LT.lt Nat _ q.1 r) → Q (.ref r) { s with heap := h', toks := tk' }) →
  wpAny (model Prog w) A (call (.ref 56) [.int a t1, .int b t2]) Q E s)) := by
  refine' ⟨_, fun k_1 => ?main⟩
  case main =>
    unfold Prog
    intro k
    induction k using Nat.strongRecOn with
    | ind k ih =>
    intro w A h₀ L m news s Q E a b t1 t2 o1 k1 o2 k2 c1 c2 hS F N hR1 hR2 hn1 hn2 hT1 hT2 hd hu hb hrk hba hbb hret
    unfold Site at hS
    refine byC fun hGZ => ?_
    obtain ⟨hd0, dp, fr, gd, un⟩ := A
    obtain ⟨p, loose, mean, mg, mb, A₀, base, outer, env, B, X, T, hA, hf, hke, hh, C1, C2⟩ := hS
    dsimp only at hA hh hd hu
    subst hA
    subst hh
    refine hGZ ?_; clear hGZ
    refine wpAny_call ?_
    k_dflt (refine' code_def ?k1 ?k2 ?k3 ?k4 ?k5 ?kA ?kF ?kK ?k6 ?k7 ?k8 ?k9 ?kB ?_ ?c2 ?c3 ?c4 ?c5; (case kA => exact rfl); (case kF => exact hf); (case kK => exact hke); (case k1 => k_asm); (case k2 => k_asm); (case k3 => k_asm); (case k4 => k_asm); (case k5 => k_asm); (case k6 => k_is); (case k7 => k_is); (case k8 => ktr_room); (case k9 => exact BindsTo.of_eq rfl); (case c5 => decide); (case kB => exact locs rfl); (case c2 => exact rfl); (case c3 => exact rfl); (case c4 => exact rfl); k_whole; intro g' L' h' FG' F' N' B' X' T'; (try dsimp only); (try k_fold))
    have C1' : CodeHd g' 34 30 := C1.keeps FG'.keep
    have C2' : CodeHd g' 41 37 := C2.keeps FG'.keep
    revert ih F N hR1 hR2 hn1 hn2 hT1 hT2 hb hrk hba hbb hret hd hu B X T hf hke C1 C2 FG' F' N' B' X' T' qk ek C1' C2'
    exact k_1 k w h₀ L m news s Q E a b t1 t2 o1 k1 o2 k2 c1 c2 dp gd un p loose mean mg mb A₀ base outer env g' L' h'
namespace sA
noncomputable abbrev tyC := (Nat × World × Heap × Addr × (Str → Option Value) × (List (Addr × Obj)) × Shared × (Value → Shared → Prop)) × ((Value → Shared → Prop) × Int × Int × Tok × Tok × Obj × Obj × Obj) × (Obj × Addr × Addr × Nat × Option (List Code) × Nat × Program × List Str) × ((ExcName → Option Value) × (Str → Option Value) × (Str → Option Value) × Around × Heap × List Env × Env × Heap) × (Addr × Heap)
def prP := body.1
def prQ (x : tyC) : Prop := prP x.1.1 x.1.2.1 x.1.2.2.1 x.1.2.2.2.1 x.1.2.2.2.2.1 x.1.2.2.2.2.2.1 x.1.2.2.2.2.2.2.1 x.1.2.2.2.2.2.2.2 x.2.1.1 x.2.1.2.1 x.2.1.2.2.1 x.2.1.2.2.2.1 x.2.1.2.2.2.2.1 x.2.1.2.2.2.2.2.1 x.2.1.2.2.2.2.2.2.1 x.2.1.2.2.2.2.2.2.2 x.2.2.1.1 x.2.2.1.2.1 x.2.2.1.2.2.1 x.2.2.1.2.2.2.1 x.2.2.1.2.2.2.2.1 x.2.2.1.2.2.2.2.2.1 x.2.2.1.2.2.2.2.2.2.1 x.2.2.1.2.2.2.2.2.2.2 x.2.2.2.1.1 x.2.2.2.1.2.1 x.2.2.2.1.2.2.1 x.2.2.2.1.2.2.2.1 x.2.2.2.1.2.2.2.2.1 x.2.2.2.1.2.2.2.2.2.1 x.2.2.2.1.2.2.2.2.2.2.1 x.2.2.2.1.2.2.2.2.2.2.2 x.2.2.2.2.1 x.2.2.2.2.2
noncomputable def inI : tyC := ((0, aWorld 0, default, default, default, default, {}, default), default, default, (default, default, default, callerA, default, default, default, default), default)
def epC : tyC := eps inI prQ
@[irreducible] def k := epC.1.1
@[irreducible] def w := epC.1.2.1
@[irreducible] def news := epC.1.2.2.2.2.2.1
@[irreducible] def a := epC.2.1.2.1
@[irreducible] def b := epC.2.1.2.2.1
@[irreducible] def o1 := epC.2.1.2.2.2.2.2.1
@[irreducible] def k1 := epC.2.1.2.2.2.2.2.2.1
@[irreducible] def o2 := epC.2.1.2.2.2.2.2.2.2
@[irreducible] def k2 := epC.2.2.1.1
@[irreducible] def c1 := epC.2.2.1.2.1
@[irreducible] def c2 := epC.2.2.1.2.2.1
@[irreducible] def p := epC.2.2.1.2.2.2.2.2.2.1
@[irreducible] def g' := epC.2.2.2.1.2.2.2.2.2.2.2
@[irreducible] def L' := epC.2.2.2.2.1
theorem sA_main : prP k w epC.1.2.2.1 epC.1.2.2.2.1 epC.1.2.2.2.2.1 news epC.1.2.2.2.2.2.2.1 epC.1.2.2.2.2.2.2.2 epC.2.1.1 a b epC.2.1.2.2.2.1 epC.2.1.2.2.2.2.1 o1 k1 o2 k2 c1 c2 epC.2.2.1.2.2.2.1 epC.2.2.1.2.2.2.2.1 epC.2.2.1.2.2.2.2.2.1 p epC.2.2.1.2.2.2.2.2.2.2 epC.2.2.2.1.1 epC.2.2.2.1.2.1 epC.2.2.2.1.2.2.1 epC.2.2.2.1.2.2.2.1 epC.2.2.2.1.2.2.2.2.1 epC.2.2.2.1.2.2.2.2.2.1 epC.2.2.2.1.2.2.2.2.2.2.1 g' L' epC.2.2.2.2.2 := by
  intro ih F N hR1 hR2 hn1 hn2 hT1 hT2 hb hrk hba hbb hret hd hu B X T hf hke C1 C2 FG' F' N' B' X' T' qk ek C1' C2'
  k_steps
  · exfalso; omega
  · have hb0 : b < 0 := by (first | exact om424 (by assumption) | omega)
    rw [if_pos hb0] at hrk
    refine ih (k - 1) (by (first | exact om425 hrk | omega)) w _ g' L' _ news _ _ _ (-a) (-b) _ _ o1 k1 o2 k2 c1 c2 (site_in B' X' T' rfl rfl rfl C1' C2') (by assumption) (by assumption) hR1 hR2 hn1 hn2 hT1 hT2 (by simp only [depth_deeper]; (first | exact om426 hrk hd | omega)) (by simp only [units_deeper]; (first | exact om427 hrk hu | omega)) (by (first | exact om428 (by assumption) | omega)) ?_ ?_ ?_ ?_
    · rw [if_neg (by (first | exact om429 (by assumption) | omega))]
      by_cases h0 : -a < 0
      · rw [if_pos h0]; split at hrk <;> (first | exact om430 hrk | omega)
      · rw [if_neg h0]; (first | exact om431 | omega)
    · exact PySem.intBits_le_of_natAbs (x := -a) (y := a) (by (first | exact om432 | omega)) hba
    · exact PySem.intBits_le_of_natAbs (x := -b) (y := b) (by (first | exact om432 | omega)) hbb
    intro r u1 u2 o1' k1' c1' o2' k2' c2' h7 tk7 F7 N7 S1' S2' e1' e2' g1' g2' l7
    k_lt l7
    k_steps
    obtain ⟨q1, q2⟩ := neg_fdiv (a := a) hb0
    rw [← q1, ← q2] at hret
    refine' hret _ _ _ o1' k1' c1' o2' k2' c2' _ _ (by assumption) (news_sub (by assumption) ?sub) S1' S2' e1' e2' g1' g2' ?g4
    case sub => (repeat (refine' List.forall_mem_cons.mpr ⟨by k_mem, ?_⟩)); (intro p hp; repeat (first | exact hp | apply List.mem_cons_of_mem))
    case g4 =>
      intro q hq
      rcases List.mem_cons.mp hq with rfl | hq
      · dsimp only; (first | exact om294 (by assumption) | omega)
      · rcases List.mem_cons.mp hq with rfl | hq
        · dsimp only; (first | exact om295 (by assumption) | omega)
        · rcases List.mem_cons.mp hq with rfl | hq
          · dsimp only; (first | exact om296 (by assumption) | omega)
          · rcases List.mem_cons.mp hq with rfl | hq
            · dsimp only; (first | exact om295 (by assumption) | omega)
            · exact allLt_mem (by assumption) q hq
  · have hb0 : 0 < b := by (first | exact om433 (by assumption) (by assumption) | omega)
    have ha0 : a < 0 := by (first | exact om424 (by assumption) | omega)
    rw [if_neg (by (first | exact om434 (by assumption) | omega)), if_pos ha0] at hrk
    have en : ∀ x : Int, Builtin.bitNot x = -x - 1 := fun x => by unfold Builtin.bitNot; (first | exact om435 | omega)
    rw [en]
    refine ih (k - 1) (by (first | exact om436 hrk | omega)) w _ g' L' _ news _ _ _ (-a - 1) b _ _ o1 k1 o2 k2 c1 c2 (site_in B' X' T' rfl rfl rfl C1' C2') (by assumption) (by assumption) hR1 hR2 hn1 hn2 hT1 hT2 (by simp only [depth_deeper]; (first | exact om437 hrk hd | omega)) (by simp only [units_deeper]; (first | exact om438 hrk hu | omega)) (by (first | exact om439 (by assumption) | omega)) ?_ ?_ hbb ?_
    · rw [if_neg (by (first | exact om434 (by assumption) | omega)), if_neg (by (first | exact om440 (by assumption) | omega))]; (first | exact om431 | omega)
    · exact PySem.intBits_le_of_natAbs (x := -a - 1) (y := a) (by (first | exact om441 (by assumption) | omega)) hba
    intro r u1 u2 o1' k1' c1' o2' k2' c2' h7 tk7 F7 N7 S1' S2' e1' e2' g1' g2' l7
    k_lt l7
    k_steps
    rename News _ _ _ _ => N6
    rw [en, en] at N6
    obtain ⟨q1, q2⟩ := not_fdiv (a := a) hb0
    rw [← q1, ← q2] at hret
    refine' hret _ _ _ o1' k1' c1' o2' k2' c2' _ _ (by assumption) (news_sub (by assumption) ?sub) S1' S2' e1' e2' g1' g2' ?g4
    case sub => (repeat (refine' List.forall_mem_cons.mpr ⟨by k_mem, ?_⟩)); (intro p hp; repeat (first | exact hp | apply List.mem_cons_of_mem))
    case g4 =>
      intro q hq
      rcases List.mem_cons.mp hq with rfl | hq
      · dsimp only; (first | exact om294 (by assumption) | omega)
      · rcases List.mem_cons.mp hq with rfl | hq
        · dsimp only; (first | exact om295 (by assumption) | omega)
        · rcases List.mem_cons.mp hq with rfl | hq
          · dsimp only; (first | exact om296 (by assumption) | omega)
          · rcases List.mem_cons.mp hq with rfl | hq
            · dsimp only; (first | exact om295 (by assumption) | omega)
            · exact allLt_mem (by assumption) q hq
  · have hb0 : 0 < b := by (first | exact om433 (by assumption) (by assumption) | omega)
    have ha0 : 0 ≤ a := by (first | exact om442 (by assumption) | omega)
    refine divmod_pos w _ g' L' _ news _ _ _ a b _ _ o1 k1 o2 k2 c1 c2 (site_in B' X' T' rfl rfl rfl C1' C2') (by assumption) (by assumption) hR1 hR2 hn1 hn2 hT1 hT2 (by simp only [depth_deeper]; (first | exact om443 hd | omega)) (by simp only [units_deeper]; (first | exact om444 hu | omega)) ha0 hb0 (by (first | exact om445 hba | omega)) hbb ?_
    intro r u1 u2 o1' k1' c1' o2' k2' c2' h7 tk7 F7 N7 S1' S2' e1' e2' g1' g2' l7
    k_steps
    exact hret _ _ _ o1' k1' c1' o2' k2' c2' _ _ (by assumption) (by assumption) S1' S2' e1' e2' g1' g2' l7
theorem all : ∀ x, prQ x := @sk tyC inI prQ (by with_unfolding_all exact @sA_main)
end sA
end seg_int_divmod
theorem int_divmod : ∀ (k : Nat) (w : World) (A : Around) (h₀ : Heap) (L : Addr) (m : Str → Option Value) (news : List (Addr × Obj)) (s : Shared)
  (Q E : Value → Shared → Prop) (a b : Int) (t1 t2 : Tok) (o1 k1 o2 k2 : Obj) (c1 c2 : Addr),
  Site w A h₀ L → Fr h₀ L s.heap m → News h₀ L s.heap ((30, o1) :: (c1, k1) :: (37, o2) :: (c2, k2) :: news) → Off 30 news → Off 37 news → @Ne Nat c1 37 → @Ne Nat c2 30 → TabSt 30 32 4 q30 o1 c1 k1 → TabSt 37 47 4 q37 o2 c2 k2 →
  A.depth + 110 + 5 * k < recursionLimit → A.units + 1100 + 20 * k < cLine →
  b ≠ 0 → (if b < 0 then 2 else 0) + (if a < 0 then 1 else 0) ≤ k → Builtin.Int.intBits a ≤ 50000 → Builtin.Int.intBits b ≤ 4000 →
  (∀ r u1 u2 o1' k1' c1' o2' k2' c2' h' tk', Fr h₀ L h' m → News h₀ L h' ((r, { cls := .type "tuple", data := .seq #[.int (Int.fdiv a b) u1, .int (Int.fmod a b) u2] }) :: (30, o1') :: (c1', k1') :: (37, o2') :: (c2', k2') :: news) → TabSt 30 32 4 q30 o1' c1' k1' → TabSt 37 47 4 q37 o2' c2' k2' →
     (c1' = c1 ∨ ∀ q ∈ news, q.1 < c1') → (c2' = c2 ∨ ∀ q ∈ news, q.1 < c2') → @Ne Nat c1' 37 → @Ne Nat c2' 30 → (∀ q ∈ (30, o1') :: (c1', k1') :: (37, o2') :: (c2', k2') :: news, @LT.lt Nat _ q.1 r) → Q (.ref r) { s with heap := h', toks := tk' }) →
  wpAny (model Prog w) A (call (.ref 56) [.int a t1, .int b t2]) Q E s := @PSigma.snd _ _ seg_int_divmod.body (fun a b c d e f g h i j k l m n o p q r s t u v w x y z a1 b1 c1 d1 e1 f1 g1 h1 => @seg_int_divmod.sA.all ((a, b, c, d, e, f, g, h), (i, j, k, l, m, n, o, p), (q, r, s, t, u, v, w, x), (y, z, a1, b1, c1, d1, e1, f1), (g1, h1)))
end
theorem rules_P10 : True := by
  k_with_none
  k_with "call builtin:len" => ((k_here; (with_reducible show wpAny _ _ (call (Value.builtin "len") [Value.ref _]) _ _ _); k_dflt (refine kst_len (by k_asm) (by k_mem) (by exact IntsAre.length (by assumption)) (by omega) ?_); (try dsimp only)))
  k_with "truthy ref" => ((k_here; (with_reducible show wpAny _ _ (truthy (Value.ref _)) _ _ _); k_dflt (refine kgr_truthy (by k_asm) (by k_mem) (by exact rfl) (by exact rfl) (by (have := IntsAre.length (by assumption); omega)) ?_); (try dsimp only)))
  k_with "call builtin:list.append" => ((k_here; (with_reducible show wpAny _ _ (call (Value.builtin _) [Value.ref _, _]) _ _ _); k_dflt (refine append_K (by k_asm) (by k_asm) (by k_upd) ?_ (by (simp only [List.size_toArray]; rw [sizeLine_eq]; omega)); k_whole); intro h'r9 F'r9 N'r9; (try k_sweep)))
  k_with "exec While Compare cons nil" => ((k_here; (with_reducible show wpAny _ _ (exec (Stmt.While _ _ [] _) _) _ _ _); k_dflt (refine wpAny_While ?_)))
  exact trivial
section
structure BisL (ns : List Int) (x lo hi r : Int) : Prop where
  h1 : lo ≤ r
  h2 : r ≤ hi
  h3 : ∀ j : Nat, lo ≤ (j : Int) → (j : Int) < r → ns.getD j 0 < x
  h4 : ∀ j : Nat, r ≤ (j : Int) → (j : Int) < hi → x ≤ ns.getD j 0
noncomputable def JBis (m0 : Str → Option Value) (news : List (Addr × Obj)) (ns : List Int) (x lo0 hi0 : Int) (k : Nat) (m : Str → Option Value) (nx : List (Addr × Obj)) : Prop :=
  nx = news ∧ ∃ (u : Str → Option Value) (lo hi : Int) (t1 t2 : Tok),
    m = (fun z => if z = Str.ofString "mid" then u z else if z = Str.ofString "lo" then some (.int lo t1) else if z = Str.ofString "hi" then some (.int hi t2) else m0 z) ∧
    lo0 ≤ lo ∧ lo ≤ hi ∧ hi ≤ hi0 ∧ (∀ j : Nat, lo0 ≤ (j : Int) → (j : Int) < lo → ns.getD j 0 < x) ∧ (∀ j : Nat, hi ≤ (j : Int) → (j : Int) < hi0 → x ≤ ns.getD j 0) ∧ k = (hi - lo).toNat
@[reducible] noncomputable def ifThen : Stmt → List Stmt
  | .If _ b _ _ => b
  | _ => []
@[reducible] noncomputable def loTest : Stmt → PySem.Expr
  | .While t _ _ _ => t
  | _ => .Name (Str.ofString "") default
@[reducible] noncomputable def loBody : Stmt → List Stmt
  | .While _ b _ _ => b
  | _ => []
@[reducible] noncomputable def bLT : Lit PySem.Expr (loTest (nth (ifThen (nth (sBody (nth PySem.Challenge.pw_wv0034_01.main.body 10)) 2)) 0)) := by
  apply Lit.mk; case eq => dsimp only [nth, ifThen, loTest, sBody, PySem.Challenge.pw_wv0034_01]
@[reducible] noncomputable def bLB : Lit (List Stmt) (loBody (nth (ifThen (nth (sBody (nth PySem.Challenge.pw_wv0034_01.main.body 10)) 2)) 0)) := by
  apply Lit.mk; case eq => dsimp only [nth, ifThen, loBody, sBody, PySem.Challenge.pw_wv0034_01]
@[reducible] noncomputable def bLS : Lit Scope (sScope (nth PySem.Challenge.pw_wv0034_01.main.body 10)) := by
  apply Lit.mk; case eq => dsimp only [nth, sScope, PySem.Challenge.pw_wv0034_01]
noncomputable abbrev bLE (L : Addr) : Env := envOf (Str.ofString "bisect_left") bLS.val L 74 (.ref 73)
theorem bisL_turn : ∀ (w : World) (A : Around) (g : Heap) (L : Addr) (m0 : Str → Option Value) (news : List (Addr × Obj)) (s : Shared) (Q : Flow → Shared → Prop) (l : Addr) (vs : List Value) (ns : List Int) (nn : Nat) (x lo hi : Int) (t1 : Tok)
  (k : Nat) (m9 : Str → Option Value) (nx : List (Addr × Obj)) (h9 : Heap) (tk9 : Nat),
  (hd.heap_1 w.params).In g → m0 (Str.ofString "a") = some (.ref l) → m0 (Str.ofString "x") = some (.int x t1) → (l, W.listOf vs.toArray nn) ∈ news → IntsAre vs ns → A.units + 50 < cLine → (ns.length : Int) ≤ 100000 → (∀ i j : Nat, i ≤ j → j < ns.length → ns.getD i 0 ≤ ns.getD j 0) → 0 ≤ lo → hi ≤ (ns.length : Int) →
  (∀ (u : Str → Option Value) (lo9 : Int) (t8 : Tok) (h : Heap) (tk : Nat) (v : Option Value), lo ≤ lo9 → lo9 ≤ hi → (∀ j : Nat, lo ≤ (j : Int) → (j : Int) < lo9 → ns.getD j 0 < x) → (∀ j : Nat, lo9 ≤ (j : Int) → (j : Int) < hi → x ≤ ns.getD j 0) →
    Fr g L h (fun z => if z = Str.ofString "mid" then u z else if z = Str.ofString "lo" then some (.int lo9 t8) else if z = Str.ofString "hi" then v else m0 z) → News g L h news → Q .next { s with heap := h, toks := tk }) →
  JBis m0 news ns x lo hi k m9 nx → Fr g L h9 m9 → News g L h9 nx →
  wpAny (model Prog w) A (isTrue bLT.val (bLE L) (eval bLT.val (bLE L))) (fun b s₂ => if b = true then wpAny (model Prog w) A (execs bLB.val (bLE L)) (WEnd g L s k (JBis m0 news ns x lo hi) Q) Nev s₂ else Q .next s₂) Nev { s with heap := h9, toks := tk9 } := by
  unfold Prog
  intro w A g L m0 news s Q l vs ns nn x lo hi t1 k m9 nx h9 tk9 X ha hx hl hI hu hlen hsort hlo hhi hQ pGZ32
  refine byC fun hGZ => ?_
  obtain ⟨rfl, u, lo9, hi9, t8, t9, rfl, b1, b2, b3, b4, b5, rfl⟩ := pGZ32
  refine hGZ ?_; clear hGZ
  intro F9 N9
  have F8 := fr_knows [(Str.ofString "a", _), (Str.ofString "x", _)] F9 ⟨ha, hx, trivial⟩
  dsimp only [told] at F8
  by_cases hlt : lo9 < hi9
  · have hm : lo9 ≤ (lo9 + hi9).fdiv 2 ∧ (lo9 + hi9).fdiv 2 < hi9 := by
      rw [Int.fdiv_eq_ediv_of_nonneg _ (by decide)]; (first | exact om511 hlt | omega)
    obtain ⟨hm1, hm2⟩ := hm
    clear F9
    dsimp only [bLE, bLT, bLB, bLS]
    k_steps
    · rename Fr g _ _ _ => F5
      refine ⟨(hi9 - ((lo9 + hi9).fdiv 2 + 1)).toNat, _, _, frm F5, _, by (first | exact om512 hm1 hm2 | omega), rfl, F5, by assumption, rfl, frm F5, (lo9 + hi9).fdiv 2 + 1, hi9, tokOf (frm F5 (Str.ofString "lo")), tokOf (frm F5 (Str.ofString "hi")), ov12 rfl rfl (fun z h1 h2 h3 => ?_), by (first | exact om513 b1 hm1 | omega), by (first | exact om514 hm2 | omega), by (first | exact om515 b3 | omega), fun j h1 h2 => ?_, b5, rfl⟩
      · dsimp only [frm]
        simp only [if_neg h1, if_neg h2, if_neg h3]
        by_cases ea : z = Str.ofString "a"
        · rw [if_pos ea, ea, ha]
        · by_cases ex : z = Str.ofString "x"
          · rw [if_neg ea, if_pos ex, ex, hx]
          · rw [if_neg ea, if_neg ex]
      · exact Int.lt_of_le_of_lt (hsort j ((lo9 + hi9).fdiv 2).toNat (by (first | exact om516 h2 | omega)) (by (first | exact om517 hlo hhi b1 b3 hm1 hm2 | omega))) (by assumption)
    · rename Fr g _ _ _ => F5
      refine ⟨((lo9 + hi9).fdiv 2 - lo9).toNat, _, _, frm F5, _, by (first | exact om518 hm1 hm2 | omega), rfl, F5, by assumption, rfl, frm F5, lo9, (lo9 + hi9).fdiv 2, tokOf (frm F5 (Str.ofString "lo")), tokOf (frm F5 (Str.ofString "hi")), ov12 rfl rfl (fun z h1 h2 h3 => ?_), by (first | exact om515 b1 | omega), by (first | exact om515 hm1 | omega), by (first | exact om519 b3 hm2 | omega), b4, fun j h1 h2 => ?_, rfl⟩
      · dsimp only [frm]
        simp only [if_neg h1, if_neg h2, if_neg h3]
        by_cases ea : z = Str.ofString "a"
        · rw [if_pos ea, ea, ha]
        · by_cases ex : z = Str.ofString "x"
          · rw [if_neg ea, if_pos ex, ex, hx]
          · rw [if_neg ea, if_neg ex]
      · exact Int.le_trans (Int.not_lt.mp (by assumption)) (hsort ((lo9 + hi9).fdiv 2).toNat j (by (first | exact om187 h1 | omega)) (by (first | exact om520 hhi h2 | omega)))
  · have e9 : lo9 = hi9 := by (first | exact om521 b2 hlt | omega)
    dsimp only [bLE, bLT, bLB, bLS]
    k_steps
    exact hQ u lo9 t8 h9 _ _ b1 (by (first | exact om522 b2 b3 | omega)) b4 (fun j h1 h2 => b5 j (by (first | exact om523 hlt h1 | omega)) h2) F9 (by assumption)
theorem bisect_left : ∀ (w : World) (A : Around) (h₀ : Heap) (L : Addr) (m : Str → Option Value) (news : List (Addr × Obj)) (s : Shared)
  (Q E : Value → Shared → Prop) (l : Addr) (vs : List Value) (ns : List Int) (nn : Nat) (x lo hi : Int) (t1 t2 t3 : Tok) (args : List Value),
  Site w A h₀ L → Fr h₀ L s.heap m → News h₀ L s.heap news → (l, W.listOf vs.toArray nn) ∈ news → IntsAre vs ns →
  A.depth + 10 < recursionLimit → A.units + 100 < cLine →
  (ns.length : Int) ≤ 100000 → (∀ i j : Nat, i ≤ j → j < ns.length → ns.getD i 0 ≤ ns.getD j 0) → 0 ≤ lo → lo ≤ hi → hi ≤ (ns.length : Int) →
  ((args = [.ref l, .int x t1] ∧ lo = 0 ∧ hi = (ns.length : Int)) ∨ (args = [.ref l, .int x t1, .int lo t2] ∧ hi = (ns.length : Int)) ∨ args = [.ref l, .int x t1, .int lo t2, .int hi t3]) →
  (∀ r t h' tk', BisL ns x lo hi r → Fr h₀ L h' m → News h₀ L h' news → Q (.int r t) { s with heap := h', toks := tk' }) →
  wpAny (model Prog w) A (call (.ref 74) args) Q E s := by
  unfold Site Prog
  intro w A h₀ L m news s Q E l vs ns nn x lo hi t1 t2 t3 args hS F N hl hI hd hu hlen hsort hlo hlh hhi hargs hret
  refine byC fun hGZ => ?_
  obtain ⟨hd0, dp, fr, gd, un⟩ := A
  obtain ⟨p, loose, mean, mg, mb, A₀, base, outer, env, B, X, T, hA, hf, hke, hh, C1, C2⟩ := hS
  dsimp only at hA hh hd hu
  subst hA
  subst hh
  refine hGZ ?_; clear hGZ
  refine byC fun hGZ => ?_
  obtain ⟨kk, hkk⟩ : ∃ kk, kk = (hi - lo).toNat := ⟨_, rfl⟩
  have hargs : ∃ lo' hi', lo' = lo ∧ hi' = hi ∧ ((args = [.ref l, .int x t1] ∧ lo' = 0 ∧ hi' = (ns.length : Int)) ∨ (args = [.ref l, .int x t1, .int lo' t2] ∧ hi' = (ns.length : Int)) ∨ args = [.ref l, .int x t1, .int lo' t2, .int hi' t3]) := ⟨lo, hi, rfl, rfl, hargs⟩
  obtain ⟨lo', hi', el, eh, hargs⟩ := hargs
  refine hGZ ?_; clear hGZ
  rcases hargs with ⟨rfl, e1, e2⟩ | ⟨rfl, e2⟩ | rfl
  all_goals (
    refine wpAny_call ?_
    k_dflt (refine' code_def ?k1 ?k2 ?k3 ?k4 ?k5 ?kA ?kF ?kK ?k6 ?k7 ?k8 ?k9 ?kB ?_ ?c2 ?c3 ?c4 ?c5; (case kA => exact rfl); (case kF => exact hf); (case kK => exact hke); (case k1 => k_asm); (case k2 => k_asm); (case k3 => k_asm); (case k4 => k_asm); (case k5 => k_asm); (case k6 => k_is); (case k7 => k_is); (case k8 => ktr_room); (case k9 => exact kp_binds (X.keeps F.keep) (fun _ => rfl)); (case c5 => decide); (case kB => exact locs rfl); (case c2 => exact rfl); (case c3 => exact rfl); (case c4 => exact rfl); k_whole; intro g' L' h' FG' F' N' B' X' T'; (try dsimp only); (try k_lift B'); (try k_fold))
    k_steps)
  all_goals (
    rename Fr g' _ _ _ => F9
    rename News g' _ _ _ => N9
    refine' loop_while (JBis (frm F9) news ns x lo hi) F9 N9 (n := kk) ?j0 ?turn
    case j0 => exact ⟨rfl, frm F9, lo, hi, tokOf (frm F9 (Str.ofString "lo")), tokOf (frm F9 (Str.ofString "hi")), ov12 (by first | rfl | (rw [← el]; rfl) | (rw [← el, e1]; rfl)) (by first | rfl | (rw [← eh]; rfl) | (rw [← eh, e2]; rfl)) (fun _ _ _ _ => rfl), Int.le_refl _, hlh, Int.le_refl _, (fun j a b => by omega), (fun j a b => by omega), hkk⟩
    case turn =>
      intro k m9 nx h9 tk9 j9 F8 N8
      refine bisL_turn w _ g' L' (frm F9) news _ _ l vs ns nn x lo hi t1 k m9 nx h9 tk9 X' rfl rfl hl hI ?hub hlen hsort hlo hhi ?hex j9 F8 N8
      case hub => (try simp only [units_deeper]); (try dsimp only); (first | exact om524 hu | omega)
      case hex =>
        intro u lo9 t8 h tk v c1 c2 c3 c4 F7 N7
        dsimp only [frm] at F7
        k_steps
        exact hret lo9 _ _ _ ⟨c1, c2, c3, c4⟩ (by assumption) (by assumption))
end
section
structure BisR (ns : List Int) (x lo hi r : Int) : Prop where
  h1 : lo ≤ r
  h2 : r ≤ hi
  h3 : ∀ j : Nat, lo ≤ (j : Int) → (j : Int) < r → ns.getD j 0 ≤ x
  h4 : ∀ j : Nat, r ≤ (j : Int) → (j : Int) < hi → x < ns.getD j 0
noncomputable def JBisR (m0 : Str → Option Value) (news : List (Addr × Obj)) (ns : List Int) (x lo0 hi0 : Int) (k : Nat) (m : Str → Option Value) (nx : List (Addr × Obj)) : Prop :=
  nx = news ∧ ∃ (u : Str → Option Value) (lo hi : Int) (t1 t2 : Tok),
    m = (fun z => if z = Str.ofString "mid" then u z else if z = Str.ofString "lo" then some (.int lo t1) else if z = Str.ofString "hi" then some (.int hi t2) else m0 z) ∧
    lo0 ≤ lo ∧ lo ≤ hi ∧ hi ≤ hi0 ∧ (∀ j : Nat, lo0 ≤ (j : Int) → (j : Int) < lo → ns.getD j 0 ≤ x) ∧ (∀ j : Nat, hi ≤ (j : Int) → (j : Int) < hi0 → x < ns.getD j 0) ∧ k = (hi - lo).toNat
@[reducible] noncomputable def bRT : Lit PySem.Expr (loTest (nth (ifThen (nth (sBody (nth PySem.Challenge.pw_wv0034_01.main.body 9)) 2)) 0)) := by
  apply Lit.mk; case eq => dsimp only [nth, ifThen, loTest, sBody, PySem.Challenge.pw_wv0034_01]
@[reducible] noncomputable def bRB : Lit (List Stmt) (loBody (nth (ifThen (nth (sBody (nth PySem.Challenge.pw_wv0034_01.main.body 9)) 2)) 0)) := by
  apply Lit.mk; case eq => dsimp only [nth, ifThen, loBody, sBody, PySem.Challenge.pw_wv0034_01]
@[reducible] noncomputable def bRS : Lit Scope (sScope (nth PySem.Challenge.pw_wv0034_01.main.body 9)) := by
  apply Lit.mk; case eq => dsimp only [nth, sScope, PySem.Challenge.pw_wv0034_01]
noncomputable abbrev bRE (L : Addr) : Env := envOf (Str.ofString "bisect_right") bRS.val L 65 (.ref 64)
theorem bisR_turn : ∀ (w : World) (A : Around) (g : Heap) (L : Addr) (m0 : Str → Option Value) (news : List (Addr × Obj)) (s : Shared) (Q : Flow → Shared → Prop) (l : Addr) (vs : List Value) (ns : List Int) (nn : Nat) (x lo hi : Int) (t1 : Tok)
  (k : Nat) (m9 : Str → Option Value) (nx : List (Addr × Obj)) (h9 : Heap) (tk9 : Nat),
  (hd.heap_1 w.params).In g → m0 (Str.ofString "a") = some (.ref l) → m0 (Str.ofString "x") = some (.int x t1) → (l, W.listOf vs.toArray nn) ∈ news → IntsAre vs ns → A.units + 50 < cLine → (ns.length : Int) ≤ 100000 → (∀ i j : Nat, i ≤ j → j < ns.length → ns.getD i 0 ≤ ns.getD j 0) → 0 ≤ lo → hi ≤ (ns.length : Int) →
  (∀ (u : Str → Option Value) (lo9 : Int) (t8 : Tok) (h : Heap) (tk : Nat) (v : Option Value), lo ≤ lo9 → lo9 ≤ hi → (∀ j : Nat, lo ≤ (j : Int) → (j : Int) < lo9 → ns.getD j 0 ≤ x) → (∀ j : Nat, lo9 ≤ (j : Int) → (j : Int) < hi → x < ns.getD j 0) →
    Fr g L h (fun z => if z = Str.ofString "mid" then u z else if z = Str.ofString "lo" then some (.int lo9 t8) else if z = Str.ofString "hi" then v else m0 z) → News g L h news → Q .next { s with heap := h, toks := tk }) →
  JBisR m0 news ns x lo hi k m9 nx → Fr g L h9 m9 → News g L h9 nx →
  wpAny (model Prog w) A (isTrue bRT.val (bRE L) (eval bRT.val (bRE L))) (fun b s₂ => if b = true then wpAny (model Prog w) A (execs bRB.val (bRE L)) (WEnd g L s k (JBisR m0 news ns x lo hi) Q) Nev s₂ else Q .next s₂) Nev { s with heap := h9, toks := tk9 } := by
  unfold Prog
  intro w A g L m0 news s Q l vs ns nn x lo hi t1 k m9 nx h9 tk9 X ha hx hl hI hu hlen hsort hlo hhi hQ pGZ32
  refine byC fun hGZ => ?_
  obtain ⟨rfl, u, lo9, hi9, t8, t9, rfl, b1, b2, b3, b4, b5, rfl⟩ := pGZ32
  refine hGZ ?_; clear hGZ
  intro F9 N9
  have F8 := fr_knows [(Str.ofString "a", _), (Str.ofString "x", _)] F9 ⟨ha, hx, trivial⟩
  dsimp only [told] at F8
  by_cases hlt : lo9 < hi9
  · have hm : lo9 ≤ (lo9 + hi9).fdiv 2 ∧ (lo9 + hi9).fdiv 2 < hi9 := by
      rw [Int.fdiv_eq_ediv_of_nonneg _ (by decide)]; (first | exact om511 hlt | omega)
    obtain ⟨hm1, hm2⟩ := hm
    clear F9
    dsimp only [bRE, bRT, bRB, bRS]
    k_steps
    · rename Fr g _ _ _ => F5
      refine ⟨((lo9 + hi9).fdiv 2 - lo9).toNat, _, _, frm F5, _, by (first | exact om518 hm1 hm2 | omega), rfl, F5, by assumption, rfl, frm F5, lo9, (lo9 + hi9).fdiv 2, tokOf (frm F5 (Str.ofString "lo")), tokOf (frm F5 (Str.ofString "hi")), ov12 rfl rfl (fun z h1 h2 h3 => ?_), by (first | exact om515 b1 | omega), by (first | exact om515 hm1 | omega), by (first | exact om519 b3 hm2 | omega), b4, fun j h1 h2 => ?_, rfl⟩
      · dsimp only [frm]
        simp only [if_neg h1, if_neg h2, if_neg h3]
        by_cases ea : z = Str.ofString "a"
        · rw [if_pos ea, ea, ha]
        · by_cases ex : z = Str.ofString "x"
          · rw [if_neg ea, if_pos ex, ex, hx]
          · rw [if_neg ea, if_neg ex]
      · exact Int.lt_of_lt_of_le (by assumption) (hsort ((lo9 + hi9).fdiv 2).toNat j (by (first | exact om187 h1 | omega)) (by (first | exact om520 hhi h2 | omega)))
    · rename Fr g _ _ _ => F5
      refine ⟨(hi9 - ((lo9 + hi9).fdiv 2 + 1)).toNat, _, _, frm F5, _, by (first | exact om512 hm1 hm2 | omega), rfl, F5, by assumption, rfl, frm F5, (lo9 + hi9).fdiv 2 + 1, hi9, tokOf (frm F5 (Str.ofString "lo")), tokOf (frm F5 (Str.ofString "hi")), ov12 rfl rfl (fun z h1 h2 h3 => ?_), by (first | exact om513 b1 hm1 | omega), by (first | exact om514 hm2 | omega), by (first | exact om515 b3 | omega), fun j h1 h2 => ?_, b5, rfl⟩
      · dsimp only [frm]
        simp only [if_neg h1, if_neg h2, if_neg h3]
        by_cases ea : z = Str.ofString "a"
        · rw [if_pos ea, ea, ha]
        · by_cases ex : z = Str.ofString "x"
          · rw [if_neg ea, if_pos ex, ex, hx]
          · rw [if_neg ea, if_neg ex]
      · exact Int.le_trans (hsort j ((lo9 + hi9).fdiv 2).toNat (by (first | exact om516 h2 | omega)) (by (first | exact om517 hlo hhi b1 b3 hm1 hm2 | omega))) (Int.not_lt.mp (by assumption))
  · have e9 : lo9 = hi9 := by (first | exact om521 b2 hlt | omega)
    dsimp only [bRE, bRT, bRB, bRS]
    k_steps
    exact hQ u lo9 t8 h9 _ _ b1 (by (first | exact om522 b2 b3 | omega)) b4 (fun j h1 h2 => b5 j (by (first | exact om523 hlt h1 | omega)) h2) F9 (by assumption)
theorem bisect_right : ∀ (w : World) (A : Around) (h₀ : Heap) (L : Addr) (m : Str → Option Value) (news : List (Addr × Obj)) (s : Shared)
  (Q E : Value → Shared → Prop) (l : Addr) (vs : List Value) (ns : List Int) (nn : Nat) (x lo hi : Int) (t1 t2 t3 : Tok) (args : List Value),
  Site w A h₀ L → Fr h₀ L s.heap m → News h₀ L s.heap news → (l, W.listOf vs.toArray nn) ∈ news → IntsAre vs ns →
  A.depth + 10 < recursionLimit → A.units + 100 < cLine →
  (ns.length : Int) ≤ 100000 → (∀ i j : Nat, i ≤ j → j < ns.length → ns.getD i 0 ≤ ns.getD j 0) → 0 ≤ lo → lo ≤ hi → hi ≤ (ns.length : Int) →
  ((args = [.ref l, .int x t1] ∧ lo = 0 ∧ hi = (ns.length : Int)) ∨ (args = [.ref l, .int x t1, .int lo t2] ∧ hi = (ns.length : Int)) ∨ args = [.ref l, .int x t1, .int lo t2, .int hi t3]) →
  (∀ r t h' tk', BisR ns x lo hi r → Fr h₀ L h' m → News h₀ L h' news → Q (.int r t) { s with heap := h', toks := tk' }) →
  wpAny (model Prog w) A (call (.ref 65) args) Q E s := by
  unfold Site Prog
  intro w A h₀ L m news s Q E l vs ns nn x lo hi t1 t2 t3 args hS F N hl hI hd hu hlen hsort hlo hlh hhi hargs hret
  refine byC fun hGZ => ?_
  obtain ⟨hd0, dp, fr, gd, un⟩ := A
  obtain ⟨p, loose, mean, mg, mb, A₀, base, outer, env, B, X, T, hA, hf, hke, hh, C1, C2⟩ := hS
  dsimp only at hA hh hd hu
  subst hA
  subst hh
  refine hGZ ?_; clear hGZ
  refine byC fun hGZ => ?_
  obtain ⟨kk, hkk⟩ : ∃ kk, kk = (hi - lo).toNat := ⟨_, rfl⟩
  have hargs : ∃ lo' hi', lo' = lo ∧ hi' = hi ∧ ((args = [.ref l, .int x t1] ∧ lo' = 0 ∧ hi' = (ns.length : Int)) ∨ (args = [.ref l, .int x t1, .int lo' t2] ∧ hi' = (ns.length : Int)) ∨ args = [.ref l, .int x t1, .int lo' t2, .int hi' t3]) := ⟨lo, hi, rfl, rfl, hargs⟩
  obtain ⟨lo', hi', el, eh, hargs⟩ := hargs
  refine hGZ ?_; clear hGZ
  rcases hargs with ⟨rfl, e1, e2⟩ | ⟨rfl, e2⟩ | rfl
  all_goals (
    refine wpAny_call ?_
    k_dflt (refine' code_def ?k1 ?k2 ?k3 ?k4 ?k5 ?kA ?kF ?kK ?k6 ?k7 ?k8 ?k9 ?kB ?_ ?c2 ?c3 ?c4 ?c5; (case kA => exact rfl); (case kF => exact hf); (case kK => exact hke); (case k1 => k_asm); (case k2 => k_asm); (case k3 => k_asm); (case k4 => k_asm); (case k5 => k_asm); (case k6 => k_is); (case k7 => k_is); (case k8 => ktr_room); (case k9 => exact kp_binds (X.keeps F.keep) (fun _ => rfl)); (case c5 => decide); (case kB => exact locs rfl); (case c2 => exact rfl); (case c3 => exact rfl); (case c4 => exact rfl); k_whole; intro g' L' h' FG' F' N' B' X' T'; (try dsimp only); (try k_lift B'); (try k_fold))
    k_steps)
  all_goals (
    rename Fr g' _ _ _ => F9
    rename News g' _ _ _ => N9
    refine' loop_while (JBisR (frm F9) news ns x lo hi) F9 N9 (n := kk) ?j0 ?turn
    case j0 => exact ⟨rfl, frm F9, lo, hi, tokOf (frm F9 (Str.ofString "lo")), tokOf (frm F9 (Str.ofString "hi")), ov12 (by first | rfl | (rw [← el]; rfl) | (rw [← el, e1]; rfl)) (by first | rfl | (rw [← eh]; rfl) | (rw [← eh, e2]; rfl)) (fun _ _ _ _ => rfl), Int.le_refl _, hlh, Int.le_refl _, (fun j a b => by omega), (fun j a b => by omega), hkk⟩
    case turn =>
      intro k m9 nx h9 tk9 j9 F8 N8
      refine bisR_turn w _ g' L' (frm F9) news _ _ l vs ns nn x lo hi t1 k m9 nx h9 tk9 X' rfl rfl hl hI ?hub hlen hsort hlo hhi ?hex j9 F8 N8
      case hub => (try simp only [units_deeper]); (try dsimp only); (first | exact om524 hu | omega)
      case hex =>
        intro u lo9 t8 h tk v c1 c2 c3 c4 F7 N7
        dsimp only [frm] at F7
        k_steps
        exact hret lo9 _ _ _ ⟨c1, c2, c3, c4⟩ (by assumption) (by assumption))
end
theorem rules_P12 : True := by
  k_with_none
  k_with "call builtin:len" => ((k_here; (with_reducible show wpAny _ _ (call (Value.builtin "len") [Value.ref _]) _ _ _); k_dflt (refine kst_len (by k_asm) (by k_mem) (by exact IntsAre.length (by assumption)) (by omega) ?_); (try dsimp only)))
  k_with "truthy ref" => ((k_here; (with_reducible show wpAny _ _ (truthy (Value.ref _)) _ _ _); k_dflt (refine kgr_truthy (by k_asm) (by k_mem) (by exact rfl) (by exact rfl) (by (have := IntsAre.length (by assumption); omega)) ?_); (try dsimp only)))
  k_with "call builtin:list.append" => ((k_here; (with_reducible show wpAny _ _ (call (Value.builtin _) [Value.ref _, _]) _ _ _); k_dflt (refine append_K (by k_asm) (by k_asm) (by k_upd) ?_ (by (simp only [List.size_toArray]; rw [sizeLine_eq]; omega)); k_whole); intro h'r9 F'r9 N'r9; (try k_sweep)))
  k_with "exec For Name Name cons nil" => ((k_here; (with_reducible show wpAny _ _ (exec (Stmt.For _ _ _ [] _) _) _ _ _); k_dflt (refine wpAny_For ?_)))
  k_with "pyIter str" => ((k_here; (with_reducible show wpAny _ _ (pyIter (Value.str _ _)) _ _ _); k_dflt (refine pyIter_str (by k_asm) (by k_asm) ?_); intro I'r9 o'r9 h'r9 F'r9 N'r9 l1r9 hstr9; k_lt l1r9; simp only [List.cons_append, List.nil_append] at N'r9))
  k_with "inplaceOp Add str str" => ((k_here; k_dflt (refine SB.iadd ?_ (by (rw [sizeLine_eq]; omega))); intro t9r9 k9r9))
  k_with "eval ListComp" => ((k_here; k_dflt (refine lc_eval (by exact rfl) (by exact rfl) (by decide) ?_)))
  k_with "pyIter ref" => ((k_here; (with_reducible show wpAny _ _ (pyIter (Value.ref _)) _ _ _); k_dflt (refine pyIter_list (by k_asm) (by k_asm) (by k_mem) ?_); intro I'r9 o'r9 h'r9 F'r9 N'r9 l1r9 hlir9; k_lt l1r9; simp only [List.cons_append, List.nil_append] at N'r9))
  k_with "eval Name" => ((k_here; (with_reducible show wpAny _ _ (eval _ (compEnvC _ _ _ _)) _ _ _); k_dflt (refine ldC (by k_asm) (by exact rfl) ?_ (by exact rfl) (by exact rfl) (by decide))))
  exact trivial
section
structure PS where
  res : List Str
  part : Str
  esc : Bool
  quo : Bool
noncomputable def PS.ini : PS := ⟨[], Str.ofString "", false, false⟩
noncomputable def PS.step (s : PS) (cur : Str) : PS :=
  if s.esc = true then ⟨s.res, s.part ++ cur, false, s.quo⟩
  else if s.quo = true then
    (if (cur == Str.ofString "\\") = true then ⟨s.res, s.part, true, s.quo⟩
     else if (cur == Str.ofString "\"") = true then ⟨s.res, s.part ++ cur, s.esc, false⟩
     else ⟨s.res, s.part ++ cur, s.esc, s.quo⟩)
  else if (cur == Str.ofString ",") = true then ⟨s.res ++ [s.part], Str.ofString "", s.esc, s.quo⟩
  else if (cur == Str.ofString "\"") = true then ⟨s.res, s.part ++ cur, s.esc, true⟩
  else ⟨s.res, s.part ++ cur, s.esc, s.quo⟩
noncomputable def PS.run (l : List Nat) : PS := l.foldl (fun s c => PS.step s ⟨#[c]⟩) PS.ini
theorem PS.run_snoc (l : List Nat) (c : Nat) : PS.run (l ++ [c]) = PS.step (PS.run l) ⟨#[c]⟩ := by simp [PS.run]
theorem PS.len (l : List Nat) : (PS.run l).part.length ≤ l.length ∧ (PS.run l).res.length ≤ l.length := by
  suffices h : ∀ (l : List Nat) (s : PS) (k : Nat), s.part.length ≤ k → s.res.length ≤ k → (l.foldl (fun s c => PS.step s ⟨#[c]⟩) s).part.length ≤ k + l.length ∧ (l.foldl (fun s c => PS.step s ⟨#[c]⟩) s).res.length ≤ k + l.length by
    have := h l PS.ini 0 (Nat.le_refl _) (Nat.le_refl _)
    rw [Nat.zero_add] at this
    exact this
  intro l
  induction l with
  | nil => intro s k h1 h2; exact ⟨h1, h2⟩
  | cons c r ih =>
    intro s k h1 h2
    have hc : (⟨#[c]⟩ : Str).length = 1 := rfl
    have h0 : (Str.ofString "").length = 0 := rfl
    have key : (PS.step s ⟨#[c]⟩).part.length ≤ k + 1 ∧ (PS.step s ⟨#[c]⟩).res.length ≤ k + 1 := by
      unfold PS.step
      (repeat' split) <;> (simp only [Str.length_append, List.length_append, List.length_singleton, hc, h0]) <;> (first | exact om192 h1 h2 | exact om193 h1 h2 | exact om194 h2 | omega)
    have := ih (PS.step s ⟨#[c]⟩) (k + 1) key.1 key.2
    rw [List.foldl_cons, List.length_cons]
    (first | exact om195 this | omega)
theorem PS.len2 (l : List Nat) : ∀ p ∈ (PS.run l).res, p.length ≤ l.length := by
  suffices h : ∀ (l : List Nat) (s : PS) (k : Nat), s.part.length ≤ k → (∀ p ∈ s.res, p.length ≤ k) → ∀ p ∈ (l.foldl (fun s c => PS.step s ⟨#[c]⟩) s).res, p.length ≤ k + l.length by
    have := h l PS.ini 0 (Nat.le_refl _) (fun _ h => nomatch h)
    rw [Nat.zero_add] at this
    exact this
  intro l
  induction l with
  | nil => intro s k _ h2; exact h2
  | cons c r ih =>
    intro s k h1 h2
    have hc : (⟨#[c]⟩ : Str).length = 1 := rfl
    have h0 : (Str.ofString "").length = 0 := rfl
    have key : (PS.step s ⟨#[c]⟩).part.length ≤ k + 1 := by
      unfold PS.step
      (repeat' split) <;> (simp only [Str.length_append, hc, h0]) <;> (first | exact om196 h1 | exact om141 h1 | exact om197 | omega)
    have key2 : ∀ p ∈ (PS.step s ⟨#[c]⟩).res, p.length ≤ k + 1 := by
      have h2' : ∀ p ∈ s.res, p.length ≤ k + 1 := fun p hp => Nat.le_succ_of_le (h2 p hp)
      unfold PS.step
      (repeat' split) <;> try exact h2'
      intro p hp
      rcases List.mem_append.mp hp with hp | hp
      · exact h2' p hp
      · rw [List.mem_singleton.mp hp]; (first | exact om141 h1 | omega)
    have := ih (PS.step s ⟨#[c]⟩) (k + 1) key key2
    rw [List.foldl_cons, List.length_cons]
    intro p hp
    have := this p hp
    (first | exact om198 this | omega)
noncomputable def PS.fin (s : PS) : List Str := if s.part.length = 0 then s.res else s.res ++ [s.part]
noncomputable def parsed (x : Str) : List Str := ((PS.run x.cps.toList).fin).map Txt.strip
noncomputable def JParse (g0 : Array GenState) (m0 : Str → Option Value) (D : Addr) (rest : List (Addr × Obj)) (x : Str) (i : Nat) (m : Str → Option Value) (nx : List (Addr × Obj)) (g : Array GenState) : Prop :=
  g = g0 ∧ ∃ (u : Str → Option Value) (res : List Str) (part : Str) (esc quo : Bool) (vq : List Value) (nq : Nat) (tp : Tok),
    m = (fun z => if z = Str.ofString "cur" then u z else if z = Str.ofString "part" then some (.str part tp) else if z = Str.ofString "escape" then some (.bool esc) else if z = Str.ofString "quote" then some (.bool quo) else m0 z) ∧
    nx = (D, W.listOf (List.toArray vq) nq) :: rest ∧ StrsAre vq res ∧ PS.run (x.cps.toList.take i) = ⟨res, part, esc, quo⟩
theorem parse_http : ∀ (w : World) (A : Around) (h₀ : Heap) (L : Addr) (m : Str → Option Value) (news : List (Addr × Obj)) (s : Shared)
  (Q E : Value → Shared → Prop) (x : Str) (t : Tok),
  Site w A h₀ L → Fr h₀ L s.heap m → News h₀ L s.heap news →
  A.depth + 10 < recursionLimit → A.units + 100 < cLine →
  x.length ≤ 10000 →
  (∀ r vs nn h' tk', Fr h₀ L h' m → News h₀ L h' ((r, W.listOf vs.toArray nn) :: news) → StrsAre vs (parsed x) → (∀ q ∈ news, @LT.lt Nat _ q.1 r) → Q (.ref r) { s with heap := h', toks := tk' }) →
  wpAny (model Prog w) A (call (.ref 86) [.str x t]) Q E s := by
  unfold Site Prog
  intro w A h₀ L m news s Q E x t hS F N hd hu hlen hret
  refine byC fun hGZ => ?_
  obtain ⟨hd0, dp, fr, gd, un⟩ := A
  obtain ⟨p, loose, mean, mg, mb, A₀, base, outer, env, B, X, T, hA, hf, hke, hh, C1, C2⟩ := hS
  dsimp only at hA hh hd hu
  subst hA
  subst hh
  refine hGZ ?_; clear hGZ
  refine wpAny_call ?_
  k_dflt (refine' code_def ?k1 ?k2 ?k3 ?k4 ?k5 ?kA ?kF ?kK ?k6 ?k7 ?k8 ?k9 ?kB ?_ ?c2 ?c3 ?c4 ?c5; (case kA => exact rfl); (case kF => exact hf); (case kK => exact hke); (case k1 => k_asm); (case k2 => k_asm); (case k3 => k_asm); (case k4 => k_asm); (case k5 => k_asm); (case k6 => k_is); (case k7 => k_is); (case k8 => ktr_room); (case k9 => exact BindsTo.of_eq rfl); (case c5 => decide); (case kB => exact locs rfl); (case c2 => exact rfl); (case c3 => exact rfl); (case c4 => exact rfl); k_whole; intro g' L' h' FG' F' N' B' X' T'; (try dsimp only); (try k_fold))
  have C1' : CodeHd g' 34 30 := C1.keeps FG'.keep
  have C2' : CodeHd g' 41 37 := C2.keeps FG'.keep
  k_steps
  rename stSt _ _ _ _ _ => hst
  rename Fr _ _ _ _ => F9
  rename News _ _ _ _ => N9
  obtain ⟨Dq, eq⟩ : ∃ d, d = adrAt (led N9) 1 := ⟨_, rfl⟩
  dsimp only [adrAt, led] at eq
  subst eq
  refine' loop_it (it_str (x := x) (t := t)) (JParse s.gens (frm F9) Dq news x) ?hh hst F9 N9 ?j0 ?hJ ?turn ?fin
  case hh => exact rfl
  case j0 => exact ⟨rfl, frm F9, [], Str.ofString "", false, false, [], 0, tokOf (frm F9 (Str.ofString "part")), ov13 rfl rfl rfl (fun _ _ _ _ _ => rfl), rfl, .nil, rfl⟩
  case hJ =>
    intro i m nx g pGZ4
    refine byC fun hGZ => ?_
    obtain ⟨_, u, res, part, esc, quo, vq, nq, tp, _, rfl, _, _⟩ := pGZ4
    refine hGZ ?_; clear hGZ
    refine ⟨(fun p hp => nomatch hp), fun y hy => ?_⟩
    rw [List.mem_singleton.mp hy]; k_all
  case turn =>
    intro i v ex own m9 nx h9 tk9 g9 hi pGZ10 pGZ11 pGZ12
    refine byC fun hGZ => ?_
    obtain ⟨⟨c, uc, hc, rfl⟩, rfl⟩ := pGZ10
    obtain ⟨o9, rfl, _, _⟩ := pGZ11
    obtain ⟨rfl, u, res, part, esc, quo, vq, nq, tp, rfl, rfl, hq, hps⟩ := pGZ12
    refine hGZ ?_; clear hGZ
    intro F9 N9 _ hap
    refine wpAny_assign_Name ?_
    simp only [List.nil_append, List.cons_append] at N9
    dsimp only [frm] at F9
    have hvl : vq.length = res.length := hq.length
    have hxs : x.cps.size ≤ 10000 := hlen
    have hc1 : (⟨#[c]⟩ : Str).length = 1 := rfl
    have hl := PS.len (x.cps.toList.take i)
    rw [hps, List.length_take] at hl
    obtain ⟨hpl, hrl⟩ := hl
    dsimp only at hpl hrl
    have hrun : PS.run (x.cps.toList.take (i + 1)) = PS.step ⟨res, part, esc, quo⟩ ⟨#[c]⟩ := by
      rw [← hps, ← PS.run_snoc, List.take_add_one]
      congr 2
      rw [Array.getElem?_toList, hc]; rfl
    k_steps
    all_goals (
      rename Fr g' _ _ _ => F5
      rename News g' _ _ _ => N5
      first
      | (have hst : PS.step ⟨res, part, esc, quo⟩ ⟨#[c]⟩ = ⟨res, strOf (frm F5 (Str.ofString "part")), boolOf (frm F5 (Str.ofString "escape")), boolOf (frm F5 (Str.ofString "quote"))⟩ := by
            unfold PS.step
            simp only [*, if_true, if_false, Bool.false_eq_true]
            rfl
         refine ⟨_, _, _, frm F5, _, rfl, F5, news_sub N5 (fun _ h => h), rfl, frm F5, res, strOf (frm F5 (Str.ofString "part")), boolOf (frm F5 (Str.ofString "escape")), boolOf (frm F5 (Str.ofString "quote")), vq, nq, tokOf (frm F5 (Str.ofString "part")), ov13 rfl rfl rfl (fun z h1 h2 h3 h4 => by dsimp only [frm]; simp [h1, h2, h3, h4]), rfl, hq, hrun.trans hst⟩)
      | (rw [List.push_toArray] at N5
         have hst : PS.step ⟨res, part, esc, quo⟩ ⟨#[c]⟩ = ⟨res ++ [part], strOf (frm F5 (Str.ofString "part")), boolOf (frm F5 (Str.ofString "escape")), boolOf (frm F5 (Str.ofString "quote"))⟩ := by
            unfold PS.step
            simp only [*, if_true, if_false, Bool.false_eq_true]
            rfl
         refine ⟨_, _, _, frm F5, _, rfl, F5, news_sub N5 (fun _ h => h), rfl, frm F5, res ++ [part], strOf (frm F5 (Str.ofString "part")), boolOf (frm F5 (Str.ofString "escape")), boolOf (frm F5 (Str.ofString "quote")), vq ++ [Value.str part tp], nq + 1, tokOf (frm F5 (Str.ofString "part")), ov13 rfl rfl rfl (fun z h1 h2 h3 h4 => by dsimp only [frm]; simp [h1, h2, h3, h4]), rfl, PySem.W.KStt.strs_snoc hq, hrun.trans hst⟩))
  case fin =>
    intro m9 nx h9 tk9 g9 pGZ5
    refine byC fun hGZ => ?_
    obtain ⟨rfl, u, res, part, esc, quo, vq, nq, tp, rfl, rfl, hq, hps⟩ := pGZ5
    refine hGZ ?_; clear hGZ
    intro F9 N9
    have hvl : vq.length = res.length := hq.length
    have hxs : x.cps.size ≤ 10000 := hlen
    have hl := PS.len (x.cps.toList.take x.cps.size)
    have hl2 := PS.len2 (x.cps.toList.take x.cps.size)
    rw [hps, List.length_take] at hl hl2
    obtain ⟨hpl, hrl⟩ := hl
    dsimp only at hpl hrl hl2
    have hps' : PS.run x.cps.toList = ⟨res, part, esc, quo⟩ := by rw [← hps, List.take_of_length_le (by simp)]
    dsimp only [frm] at F9
    dsimp only
    k_steps
    all_goals (
      rename liSt _ _ _ _ => hli
      rename Fr _ _ _ _ => F5
      rename News _ _ _ _ => N5)
    · have hcond : ¬ part.length = 0 := by (first | exact om199 (by assumption) | omega)
      rw [List.push_toArray] at N5
      refine byC fun hGZ => ?_
      obtain ⟨vs, rs, nn, e1, e2, e3⟩ : ∃ vs rs nn, vs = vq ++ [Value.str part tp] ∧ rs = res ++ [part] ∧ nn = nq + 1 := ⟨_, _, _, rfl, rfl, rfl⟩
      refine hGZ ?_; clear hGZ
      have hq2 : StrsAre vs rs := by rw [e1, e2]; exact PySem.W.KStt.strs_snoc hq
      have hfin : (PS.run x.cps.toList).fin = rs := by
        rw [hps', e2]; unfold PS.fin; rw [if_neg hcond]
      have hrs : rs.length ≤ 20000 := by rw [e2, List.length_append, List.length_singleton]; (first | exact om200 hxs hrl | omega)
      have hbd : ∀ p ∈ rs, p.length ≤ 10000 := by
        intro p hp
        rw [e2] at hp
        rcases List.mem_append.mp hp with hp | hp
        · have := hl2 p hp; (first | exact om201 hxs this | omega)
        · rw [List.mem_singleton.mp hp]; (first | exact om201 hxs hpl | omega)
      rw [← e1, ← e3] at N5
      refine lc_const (own := _) (news := _) (fun C => it_list (l := Dq) (vs := vs) (nn := nn)) self_list (fun i ys => StrsAre ys ((rs.take i).map Txt.strip)) rfl (by decide) rfl (by have := hq2.length; (first | exact om202 hrs this | omega)) hli F5 N5 (fun a ha => by rw [List.mem_singleton.mp ha]; exact .head _) (fun p hp => by rw [List.mem_singleton.mp hp]; exact .head _) (fun a ha => by rw [List.mem_singleton.mp ha]; k_all) .nil (fun i ys h => ?_) ?turn ?fin
      · have := h.length; simp at this; (first | exact om203 this | omega)
      case turn =>
        rintro C i v ex own' mc ys dl h tk hi ⟨hv, rfl⟩ _ hr F7 N7
        refine wpAny_assign_Name (stC F7 N7 rfl (fun h6 F6 N6 => ?_) rfl)
        refine wpAny_tests_nil ?_
        rw [if_pos rfl]
        have hi' : i < rs.length := by have := hq2.length; (first | exact om204 hi this | omega)
        obtain ⟨tv, hv'⟩ := hq2.at (j := i) (y := rs[i]) (by simp [hi'])
        have hvv : v = .str rs[i] tv := by rw [hv'] at hv; exact (Option.some.inj hv).symm
        subst hvv
        have hbl := hbd rs[i] (List.getElem_mem hi')
        k_steps
        · exact ⟨_, _, _, rfl, F6, N6⟩
        rw [List.take_add_one, List.getElem?_eq_getElem hi', List.map_append]
        exact PySem.W.KStt.strs_snoc hr
      case fin =>
        rintro D h tk ys kk hD hr F7 N7
        rw [hq2.length, List.take_length, ← hfin] at hr
        k_steps
        exact hret D ys kk _ _ (by assumption) (news_sub (by assumption) (fun p hp => by
          rcases List.mem_cons.mp hp with rfl | hp
          · exact .head _
          · exact .tail _ (.tail _ hp))) hr (fun q hq => hD q (.tail _ (.tail _ hq)))
    · have hcond : part.length = 0 := by (first | exact om205 (by assumption) | omega)
      refine byC fun hGZ => ?_
      obtain ⟨vs, rs, nn, e1, e2, e3⟩ : ∃ vs rs nn, vs = vq ∧ rs = res ∧ nn = nq := ⟨_, _, _, rfl, rfl, rfl⟩
      refine hGZ ?_; clear hGZ
      have hq2 : StrsAre vs rs := by rw [e1, e2]; exact hq
      have hfin : (PS.run x.cps.toList).fin = rs := by
        rw [hps', e2]; unfold PS.fin; rw [if_pos hcond]
      have hrs : rs.length ≤ 20000 := by rw [e2]; (first | exact om206 hxs hrl | omega)
      have hbd : ∀ p ∈ rs, p.length ≤ 10000 := by
        intro p hp
        rw [e2] at hp
        have := hl2 p hp; (first | exact om201 hxs this | omega)
      rw [← e1, ← e3] at N5
      refine lc_const (own := _) (news := _) (fun C => it_list (l := Dq) (vs := vs) (nn := nn)) self_list (fun i ys => StrsAre ys ((rs.take i).map Txt.strip)) rfl (by decide) rfl (by have := hq2.length; (first | exact om202 hrs this | omega)) hli F5 N5 (fun a ha => by rw [List.mem_singleton.mp ha]; exact .head _) (fun p hp => by rw [List.mem_singleton.mp hp]; exact .head _) (fun a ha => by rw [List.mem_singleton.mp ha]; k_all) .nil (fun i ys h => ?_) ?turn ?fin
      · have := h.length; simp at this; (first | exact om203 this | omega)
      case turn =>
        rintro C i v ex own' mc ys dl h tk hi ⟨hv, rfl⟩ _ hr F7 N7
        refine wpAny_assign_Name (stC F7 N7 rfl (fun h6 F6 N6 => ?_) rfl)
        refine wpAny_tests_nil ?_
        rw [if_pos rfl]
        have hi' : i < rs.length := by have := hq2.length; (first | exact om204 hi this | omega)
        obtain ⟨tv, hv'⟩ := hq2.at (j := i) (y := rs[i]) (by simp [hi'])
        have hvv : v = .str rs[i] tv := by rw [hv'] at hv; exact (Option.some.inj hv).symm
        subst hvv
        have hbl := hbd rs[i] (List.getElem_mem hi')
        k_steps
        · exact ⟨_, _, _, rfl, F6, N6⟩
        rw [List.take_add_one, List.getElem?_eq_getElem hi', List.map_append]
        exact PySem.W.KStt.strs_snoc hr
      case fin =>
        rintro D h tk ys kk hD hr F7 N7
        rw [hq2.length, List.take_length, ← hfin] at hr
        k_steps
        exact hret D ys kk _ _ (by assumption) (news_sub (by assumption) (fun p hp => by
          rcases List.mem_cons.mp hp with rfl | hp
          · exact .head _
          · exact .tail _ (.tail _ hp))) hr (fun q hq => hD q (.tail _ (.tail _ hq)))
end
section
section
variable {M : Model} {A : Around} {R : GenEnd} {Y : Protocol} {n : Nat} {s₀ : Shared} {c : Code} {fs : List Frame} {s : Shared} {env : Env}
  {K : Flow → Sem Fin} {H : Value → Sem Fin} {gd : Bool → Bool} {lv : List Value → List Value}
theorem seg_If {test : PySem.Expr} {body orelse : List Stmt} {pos : Pos}
    (h : wpAny M (A.over c fs) (isTrue test env (eval test env)) (fun b s' => if b = true then Seg M A R Y n s₀ c ((execs body env).wrap K H gd lv) fs s' else Seg M A R Y n s₀ c ((execs orelse env).wrap K H gd lv) fs s') (fun x s' => Seg M A R Y n s₀ c (H x) fs s') s) :
    Seg M A R Y n s₀ c ((exec (.If test body orelse pos) env).wrap K H gd lv) fs s := by
  rw [exec_If]
  refine seg_at ?_
  show Seg M A R Y n s₀ c ((isTrue test env (eval test env) >>= fun b => if b = true then execs body env else execs orelse env).wrap K H gd lv) fs s
  rw [Sem.bind_eq_wrap', Sem.wrap_wrap]
  refine seg_wrap (wpAny_mono h (fun b s' hb => ?_) fun _ _ x => x)
  cases b with
  | true => rw [if_pos rfl] at hb ⊢; exact hb
  | false => rw [if_neg Bool.false_ne_true] at hb ⊢; exact hb
noncomputable abbrev behind (env : Env) (K : Flow → Sem Fin) (H : Value → Sem Fin) (gd : Bool → Bool) (lv : List Value → List Value) : Result → Sem Fin := fun r =>
  ((match r with | .ok f => (.pure f : Sem Flow) | .error e => .raise e).onRaise fun (x : Value) => do
        if (← field x 1) == Value.none then unsupported "frame.own-activation:exception-without-traceback"
        setFlight x env.frame).wrap K H gd lv
theorem seg_For {target iter : PySem.Expr} {body orelse : List Stmt} {pos : Pos}
    (h : wpAny M (A.over c fs) (eval iter env) (fun x s₁ => wpAny M (A.over c fs) (pyIter x) (fun it s₂ => ∀ p lv', Seg M A R Y n s₀ (.forLoop target it body orelse env) (M.den (.forLoop target it body orelse env))
      (.ret (behind env K H gd lv) none (gd false) lv' c p [] :: fs) s₂) (fun x s' => Seg M A R Y n s₀ c (H x) fs s') s₁) (fun x s' => Seg M A R Y n s₀ c (H x) fs s') s)
    (hs : ∀ x, foldedSetIterable iter env x = pure x := by intro _; rfl) :
    Seg M A R Y n s₀ c ((exec (.For target iter body orelse pos) env).wrap K H gd lv) fs s := by
  rw [exec_For]
  refine seg_at ?_
  show Seg M A R Y n s₀ c ((eval iter env >>= fun x => foldedSetIterable iter env x >>= fun x => standAt iter.pos >>= fun _ => holding [x] (pyIter x) >>= fun it => runOwn (.forLoop target it body orelse env) env).wrap K H gd lv) fs s
  rw [Sem.bind_eq_wrap', Sem.wrap_wrap]
  refine seg_wrap (wpAny_mono h (fun x s₁ h₁ => ?_) fun _ _ x => x)
  rw [hs x]
  show Seg M A R Y n s₀ c ((standAt iter.pos >>= fun _ => holding [x] (pyIter x) >>= fun it => runOwn (.forLoop target it body orelse env) env).wrap K H gd lv) fs s₁
  refine seg_at ?_
  show Seg M A R Y n s₀ c ((holding [x] (pyIter x) >>= fun it => runOwn (.forLoop target it body orelse env) env).wrap K H gd lv) fs s₁
  rw [Sem.bind_eq_wrap', Sem.wrap_wrap]
  refine seg_wrap (wpAny_holding (wpAny_mono h₁ (fun it s₂ h₂ => ?_) fun _ _ x => x))
  exact seg_call fun p => h₂ p _
end
section
variable {prog : Program} {w : World} {A : Around} {R : GenEnd} {Y : Protocol} {n : Nat} {s₀ : Shared} {fs : List Frame} {s : Shared} {env : Env}
theorem seg_forLoop {target : PySem.Expr} {it : Value} {body : List Stmt}
    (h : wpAny (model prog w) (A.over (.forLoop target it body [] env) fs) (pyNext it) (fun r s' => match r with
        | none => ∀ c, Seg (model prog w) A R Y n s₀ c (.pure (.done .next)) fs s'
        | some v => wpAny (model prog w) (A.over (.forLoop target it body [] env) fs) (assign target env v) (fun _ s₂ =>
          Seg (model prog w) A R Y n s₀ (.forLoop target it body [] env) ((execs body env).wrap (fun f => match f with
            | .next | .cont => .pure (.again (.forLoop target it body [] env))
            | .brk => .pure (.done .next)
            | .ret v => .pure (.done (.ret v))) (fun e => (do noteFrame e env; theTreesLotGoes e : Sem Unit).wrap (fun _ => .raise e) .raise id id) id id) fs s₂)
          (fun _ _ => False) s') (fun _ _ => False) s)
    (ht : ∀ v, letOwnedTupleGo target it v = pure () := by intro _; rfl) :
    Seg (model prog w) A R Y n s₀ (.forLoop target it body [] env) ((model prog w).den (.forLoop target it body [] env)) fs s := by
  show Seg _ A R Y n s₀ _ ((forTurn target it body [] env).onRaise (fun x => do noteFrame x env; theTreesLotGoes x)) fs s
  rw [Sem.onRaise_eq_wrap]
  refine seg_at ?_
  show Seg _ A R Y n s₀ _ (((pyNext it).onRaise (fun _ => standAt { target.pos with line := 0 }) >>= fun r => (match r with
      | none => again (.block [] env)
      | some v => letOwnedTupleGo target it v >>= fun _ => assign target env v >>= fun _ => execs body env >>= fun f => (match f with
        | .next | .cont => again (.forLoop target it body [] env)
        | .brk => pure (.done .next)
        | .ret v => pure (.done (.ret v)) : Sem Fin) : Sem Fin)).wrap .pure (fun e => (do noteFrame e env; theTreesLotGoes e : Sem Unit).bind fun _ => .raise e) id id) fs s
  rw [Sem.bind_eq_wrap', Sem.wrap_wrap]
  refine seg_wrap (wpAny_mono (wpAny_onRaise (E := fun _ _ => False) (wpAny_mono h (fun r s' hr => hr) fun _ _ x => x.elim)) (fun r s' hr => ?_) fun _ _ x => x.elim)
  cases r with
  | none => exact seg_again (c' := .block [] env) rfl (hr _)
  | some v =>
    simp only [ht]
    show Seg _ A R Y n s₀ _ ((assign target env v >>= fun _ => execs body env >>= fun f => match f with
      | .next | .cont => again (.forLoop target it body [] env)
      | .brk => pure (.done .next)
      | .ret v => pure (.done (.ret v))).wrap _ _ _ _) fs s'
    rw [Sem.bind_eq_wrap', Sem.wrap_wrap]
    refine seg_wrap (wpAny_mono hr (fun _ s₂ h₂ => ?_) fun _ _ x => x.elim)
    rw [Sem.bind_eq_wrap', Sem.wrap_wrap]
    rw [Sem.wrap_congr (execs body env) _ _ (K' := fun f => match f with
            | .next | .cont => .pure (.again (.forLoop target it body [] env))
            | .brk => .pure (.done .next)
            | .ret v => .pure (.done (.ret v))) (H' := (fun e => (do noteFrame e env; theTreesLotGoes e : Sem Unit).wrap (fun _ => .raise e) .raise id id))
        (fun f => by cases f <;> rfl)
        (fun e => by first | exact Sem.bind_eq_wrap _ _ | (show (do noteFrame e env; theTreesLotGoes e : Sem Unit).bind (fun _ => .raise e) = _; rw [Sem.bind_eq_wrap]))]
    exact h₂
end
end
theorem rules_P13 : True := by
  k_with_none
  k_with "call builtin:len" => ((k_here; (with_reducible show wpAny _ _ (call (Value.builtin "len") [Value.ref _]) _ _ _); k_dflt (refine kst_len (by k_asm) (by k_mem) (by exact IntsAre.length (by assumption)) (by omega) ?_); (try dsimp only)))
  k_with "truthy ref" => ((k_here; (with_reducible show wpAny _ _ (truthy (Value.ref _)) _ _ _); k_dflt (refine kgr_truthy (by k_asm) (by k_mem) (by exact rfl) (by exact rfl) (by (have := IntsAre.length (by assumption); omega)) ?_); (try dsimp only)))
  k_with "call builtin:list.append" => ((k_here; (with_reducible show wpAny _ _ (call (Value.builtin _) [Value.ref _, _]) _ _ _); k_dflt (refine append_K (by k_asm) (by k_asm) (by k_upd) ?_ (by (simp only [List.size_toArray]; rw [sizeLine_eq]; omega)); k_whole); intro h'r9 F'r9 N'r9; (try k_sweep)))
  exact trivial
section
@[reducible] noncomputable def forBody : Stmt → List Stmt
  | .For _ _ b _ _ => b
  | _ => []
@[reducible] noncomputable def forTarget : Stmt → PySem.Expr
  | .For t _ _ _ _ => t
  | _ => .Name (Str.ofString "") default
@[reducible] noncomputable def ifElse : Stmt → List Stmt
  | .If _ b _ _ => b
  | _ => []
@[reducible] noncomputable def gB : Lit (List Stmt) (forBody (nth (sBody (nth PySem.Challenge.pw_wv0034_01.main.body 13)) 1)) := by
  apply Lit.mk; case eq => dsimp only [nth, sBody, forBody, PySem.Challenge.pw_wv0034_01]
@[reducible] noncomputable def gF : Lit (List Stmt) (sBody (nth PySem.Challenge.pw_wv0034_01.main.body 13)) := by
  apply Lit.mk; case eq => dsimp only [nth, sBody, PySem.Challenge.pw_wv0034_01]
@[reducible] noncomputable def gT : Lit PySem.Expr (forTarget (nth (sBody (nth PySem.Challenge.pw_wv0034_01.main.body 13)) 1)) := by
  apply Lit.mk; case eq => dsimp only [nth, sBody, forTarget, PySem.Challenge.pw_wv0034_01]
@[reducible] noncomputable def gS : Lit Scope (sScope (nth PySem.Challenge.pw_wv0034_01.main.body 13)) := by
  apply Lit.mk; case eq => dsimp only [nth, sScope, PySem.Challenge.pw_wv0034_01]
@[reducible] noncomputable def whTest : Stmt → PySem.Expr
  | .While t _ _ _ => t
  | _ => .Name (Str.ofString "") default
@[reducible] noncomputable def whBody : Stmt → List Stmt
  | .While _ b _ _ => b
  | _ => []
@[reducible] noncomputable def wT : Lit PySem.Expr (whTest (nth (ifElse (nth gB.val 1)) 1)) := by
  apply Lit.mk; case eq => dsimp only [nth, ifElse, whTest, gB]
@[reducible] noncomputable def wB : Lit (List Stmt) (whBody (nth (ifElse (nth gB.val 1)) 1)) := by
  apply Lit.mk; case eq => dsimp only [nth, ifElse, whBody, gB]
noncomputable def go : List Int → Option Int → Nat → Option Int
  | [], _, _ => none
  | x :: r, last, j => if x = 127 then none else if x = 0 then last else match j with
    | 0 => some x
    | j + 1 => go r (some x) j
noncomputable abbrev gEnv (Lg : Addr) : Env := envOf (Str.ofString "_grouping_intervals") gS.val Lg 81 (.ref 80)
noncomputable def YG (h₀ : Heap) (Lg I l : Addr) (lo : Obj) (N : Nat) (out : Nat → Option Int) : Protocol := fun n s₀ v s' kap =>
  ∃ h tk x t oL oI, v = .int x t ∧ out (N - 1 - n) = some x ∧ s' = { s₀ with heap := h, toks := tk } ∧ (∀ b o, b ≠ Lg → b ≠ I → s₀.heap.get? b = some o → h.get? b = some o) ∧ h.get? Lg = some oL ∧ h.get? I = some oI ∧
    (n ≠ 0 → ∀ s'', (∀ b o, h₀.get? b = some o → s''.heap.get? b = some o) → s''.heap.get? Lg = some oL → s''.heap.get? I = some oI → s''.heap.get? l = some lo → kap (.send .none) s'')
noncomputable def RG (Lg I : Addr) (N : Nat) (out : Nat → Option Int) : GenEnd := fun n s₀ r s' => r = .ok (.ret .none) ∧ out (N - n) = none ∧ ∃ h tk, s' = { s₀ with heap := h, toks := tk } ∧ ∀ b o, b ≠ Lg → b ≠ I → s₀.heap.get? b = some o → h.get? b = some o
noncomputable def allBut (h₀ h : Heap) (Lg I : Addr) : List (Addr × Obj) := (List.range h.objs.size).filterMap fun b => if b = Lg ∨ b = I ∨ (h₀.get? b).isSome = true then none else (h.get? b).map fun o => (b, o)
theorem mem_allBut {h₀ h : Heap} {Lg I b : Addr} {o : Obj} : (b, o) ∈ allBut h₀ h Lg I ↔ (b ≠ Lg ∧ b ≠ I ∧ h₀.get? b = none ∧ h.get? b = some o) := by
  unfold allBut
  simp only [List.mem_filterMap, List.mem_range]
  constructor
  · rintro ⟨c, hc, e⟩
    split at e
    · cases e
    · rename_i hn
      cases hg : h.get? c with
      | none => rw [hg] at e; cases e
      | some o' =>
        rw [hg] at e
        cases e
        refine ⟨fun e => hn (.inl e), fun e => hn (.inr (.inl e)), ?_, hg⟩
        cases h0 : h₀.get? b with
        | none => rfl
        | some x => exact absurd (.inr (.inr (by rw [h0]; rfl))) hn
  · rintro ⟨h1, h2, h3, h4⟩
    refine ⟨b, Heap.lt_size h4, ?_⟩
    rw [if_neg (by rw [h3]; simp [h1, h2]), h4]; rfl
section
variable {w : World} {A : Around} {h₀ : Heap} {Lg I l : Addr} {lo : Obj} {N : Nat} {out : Nat → Option Int} {fs : List Frame}
structure GAt (h₀ : Heap) (Lg I l : Addr) (lo : Obj) (oI : Obj) (m : Str → Option Value) (nx : List (Addr × Obj)) (s₀ s : Shared) : Prop where
  F : Fr h₀ Lg s.heap m
  N : News h₀ Lg s.heap ((I, oI) :: nx)
  hl : (l, lo) ∈ nx
  all : ∀ b o, b ≠ Lg → b ≠ I → s₀.heap.get? b = some o → (h₀.get? b = some o ∨ (b, o) ∈ nx)
  st : ∃ h tk, s = { s₀ with heap := h, toks := tk }
  off : Off I nx
theorem GAt.yields {oI : Obj} {m : Str → Option Value} {nx : List (Addr × Obj)} {s₀ s : Shared} (G : GAt h₀ Lg I l lo oI m nx s₀ s) {n : Nat} {x : Int} {t : Tok} {kap : Resume → Shared → Prop} (ho : out (N - 1 - n) = some x)
    (hk : n ≠ 0 → ∀ s'', (∃ nx', GAt h₀ Lg I l lo oI m nx' s'' s'') → kap (.send .none) s'') (hlg : l ≠ Lg) (hli : l ≠ I) (hl0 : h₀.get? l = none) : YG h₀ Lg I l lo N out n s₀ (.int x t) s kap := by
  obtain ⟨F, Ns, hl, hall, ⟨h, tk, rfl⟩, _⟩ := G
  obtain ⟨oL, a1, a2, hoL, a3⟩ := F.ns
  refine ⟨h, tk, x, t, oL, oI, rfl, ho, rfl, fun b o h1 h2 e => ?_, hoL, (Ns _ (.head _)).1, fun hn s'' k1 k2 k3 k4 => hk hn s'' ?_⟩
  · rcases hall b o h1 h2 e with q | q
    · exact F.keep b o q
    · exact (Ns _ (.tail _ q)).1
  · refine ⟨allBut h₀ s''.heap Lg I, ⟨⟨oL, a1, a2, k2, a3⟩, k1, F.above⟩, ?_, mem_allBut.mpr ⟨hlg, hli, hl0, k4⟩, fun b o h1 h2 e => ?_, ⟨_, _, rfl⟩, fun q hq => by obtain ⟨b, o⟩ := q; exact (mem_allBut.mp hq).2.1⟩
    · intro p hp
      rcases List.mem_cons.mp hp with rfl | hp
      · exact ⟨k3, (Ns _ (.head _)).2⟩
      · obtain ⟨b, o⟩ := p
        obtain ⟨h1, h2, h3, h4⟩ := mem_allBut.mp hp
        exact ⟨h4, h1, h3⟩
    · cases h0 : h₀.get? b with
      | none => exact .inr (mem_allBut.mpr ⟨h1, h2, h0, e⟩)
      | some o' =>
        have := k1 b o' h0
        rw [e] at this
        exact .inl this.symm
theorem g_while (hlg : l ≠ Lg) (hli : l ≠ I) (hl0 : h₀.get? l = none) (hfs : splitAtGen fs = none) (hfg : fs.any Frame.guarded = false) (X : (hd.heap_1 w.params).In h₀) {v : Int} :
    ∀ (n : Nat) (s₀ s : Shared) (m : Str → Option Value) (nx : List (Addr × Obj)) (oI : Obj) (t : Tok), n ≠ 0 → n ≤ N → GAt h₀ Lg I l lo oI m nx s₀ s → m (Str.ofString "last_interval") = some (.int v t) → (∀ j, N - n ≤ j → out j = some v) →
      Seg (model PySem.Challenge.rw_wv0034_01.row.prog w) A (RG Lg I N out) (YG h₀ Lg I l lo N out) n s₀ (.whileLoop wT.val wB.val [] (gEnv Lg)) ((model PySem.Challenge.rw_wv0034_01.row.prog w).den (.whileLoop wT.val wB.val [] (gEnv Lg))) fs s := by
  intro n
  induction n with
  | zero => intro _ _ _ _ _ _ h; exact absurd rfl h
  | succ n ih =>
    intro s₀ s m nx oI t _ hnN G hm hout
    refine seg_whileLoop ?_
    dsimp only [wT, wB]
    have F := G.F
    have Ns := G.N
    k_steps
    refine seg_execs_cons (seg_Expr_Yield hfs rfl hfg ?_)
    refine ld F hm ?_ rfl rfl (by decide)
    intro kap hkap
    refine G.yields (hout _ (by (first | exact om207 | omega))) (fun hn0 s'' hG => ?_) hlg hli hl0
    obtain ⟨nx', G'⟩ := hG
    refine hkap .none s'' ?_
    show Seg _ _ _ _ _ _ _ (.pure (.again (.whileLoop wT.val wB.val [] (gEnv Lg)))) fs s''
    exact seg_again rfl (ih s'' s'' m nx' oI t hn0 (by (first | exact om80 hnN | omega)) G' hm fun j hj => hout j (by (first | exact om208 hj | omega)))
theorem GAt.move {oI : Obj} {m : Str → Option Value} {nx : List (Addr × Obj)} {s₀ s : Shared} (G : GAt h₀ Lg I l lo oI m nx s₀ s) {oI' : Obj} {m' : Str → Option Value} {h : Heap} {tk : Nat} (F' : Fr h₀ Lg h m') (N' : News h₀ Lg h ((I, oI') :: nx)) :
    GAt h₀ Lg I l lo oI' m' nx s₀ { s with heap := h, toks := tk } := by
  obtain ⟨_, _, hl, hall, ⟨h9, tk9, rfl⟩, ho⟩ := G
  exact ⟨F', N', hl, hall, ⟨h, tk, rfl⟩, ho⟩
theorem GAt.ends {oI : Obj} {m : Str → Option Value} {nx : List (Addr × Obj)} {s₀ s : Shared} (G : GAt h₀ Lg I l lo oI m nx s₀ s) {n : Nat} (ho : out (N - n) = none) : RG Lg I N out n s₀ (.ok (.ret .none)) s := by
  obtain ⟨F, Ns, hl, hall, ⟨h, tk, rfl⟩, _⟩ := G
  refine ⟨rfl, ho, h, tk, rfl, fun b o h1 h2 e => ?_⟩
  rcases hall b o h1 h2 e with q | q
  · exact F.keep b o q
  · exact (Ns _ (.tail _ q)).1
theorem GAt.ends2 {oI : Obj} {m : Str → Option Value} {nx : List (Addr × Obj)} {s₀ s : Shared} (G : GAt h₀ Lg I l lo oI m nx s₀ s) {m' : Str → Option Value} {h : Heap} {tk : Nat} (F' : Fr h₀ Lg h m') (N' : News h₀ Lg h nx) {n : Nat} (ho : out (N - n) = none) :
    RG Lg I N out n s₀ (.ok (.ret .none)) { s with heap := h, toks := tk } := by
  obtain ⟨_, _, hl, hall, ⟨h9, tk9, rfl⟩, _⟩ := G
  refine ⟨rfl, ho, h, tk, rfl, fun b o h1 h2 e => ?_⟩
  rcases hall b o h1 h2 e with q | q
  · exact F'.keep b o q
  · exact (N' _ q).1
theorem g_head {dp un : Nat} {fr : Option (List Env)} {gd' : Option (List Code)} {kk : Result → Sem Fin} {lv' : List Value} {cc : Code} {pp : Pos} (hlg : l ≠ Lg) (hli : l ≠ I) (hl0 : h₀.get? l = none) (X : (hd.heap_1 w.params).In h₀) {p : Program} {loose : List Str} {mean : ExcName → Option Value} {mg mb : Str → Option Value} (T : Top p loose mean mg mb h₀)
    {vs : List Value} {ns : List Int} {nn : Nat} (hlo : lo = W.listOf vs.toArray nn) (hI : IntsAre vs ns)
    (hend : ∀ (n : Nat) (s₀ s : Shared) (f : Flow), (f = .next ∨ f = .ret .none) → RG Lg I N out n s₀ (.ok (.ret .none)) s → ∀ c, Seg (model PySem.Challenge.rw_wv0034_01.row.prog w) { handled := none, depth := dp, frames := fr, guards := gd', units := un } (RG Lg I N out) (YG h₀ Lg I l lo N out) n s₀ c (.pure (.done f)) [.ret kk none false lv' cc pp []] s) :
    ∀ (n : Nat) (s₀ s : Shared) (m : Str → Option Value) (nx : List (Addr × Obj)) (oI : Obj) (i : Nat) (last : Option Int) (u : Str → Option Value) (tl : Tok), n ≠ 0 → n ≤ N → GAt h₀ Lg I l lo oI m nx s₀ s → liSt I l i [(I, oI)] →
      m = (fun z => if z = Str.ofString "interval" then u z else if z = Str.ofString "last_interval" then some (match last with | none => .none | some v => .int v tl) else if z = Str.ofString "grouping" then some (.ref l) else none) →
      i ≤ ns.length → (last = none → (ns.drop i).head? ≠ some 0) → (∀ j, go (ns.drop i) last j = out (N - n + j)) →
      Seg (model PySem.Challenge.rw_wv0034_01.row.prog w) { handled := none, depth := dp, frames := fr, guards := gd', units := un } (RG Lg I N out) (YG h₀ Lg I l lo N out) n s₀ (.forLoop gT.val (.ref I) gB.val [] (gEnv Lg)) ((model PySem.Challenge.rw_wv0034_01.row.prog w).den (.forLoop gT.val (.ref I) gB.val [] (gEnv Lg))) [.ret kk none false lv' cc pp []] s := by
  intro n
  induction n with
  | zero => intro _ _ _ _ _ _ _ _ _ h; exact absurd rfl h
  | succ n ih =>
    intro s₀ s m nx oI i last u tl _ hnN G hst hm hil hz hout
    have WI := it_list (prog := PySem.Challenge.rw_wv0034_01.row.prog) (w := w) (h₀ := h₀) (L := Lg) (I := I) (l := l) (vs := vs) (nn := nn)
    have hlen := hI.length
    have hsrc : ∀ p ∈ [(l, W.listOf vs.toArray nn)], p ∈ nx := fun p hp => by rw [List.mem_singleton.mp hp, ← hlo]; exact G.hl
    have hoff : ∀ a ∈ [I], Off a nx := fun a ha => by rw [List.mem_singleton.mp ha]; exact G.off
    refine seg_forLoop ?_
    by_cases hi : i < ns.length
    · refine WI.item _ _ i [(I, oI)] m nx s _ rfl (by (first | exact om88 hlen hi | omega)) hst G.F G.N hsrc hoff fun v own' ex h' tk' hP hst' F' N' _ => ?_
      refine byC fun hGZ => ?_
      obtain ⟨hv, rfl⟩ := hP
      obtain ⟨o', rfl, hc', hd'⟩ := hst'
      obtain ⟨tx, hvx⟩ := hI.get i ns[i] (by simp [hi])
      refine hGZ ?_; clear hGZ
      rw [hvx] at hv
      have hv := (Option.some.inj hv).symm
      subst hv
      simp only [List.nil_append, List.cons_append] at N'
      have hdrop : ns.drop i = ns[i] :: ns.drop (i + 1) := List.drop_eq_getElem_cons hi
      rw [hdrop] at hz hout
      obtain ⟨x, hx⟩ : ∃ x, x = ns[i] := ⟨_, rfl⟩
      rw [← hx] at hz hout hvx ⊢
      have G1 := G.move (oI' := o') (tk := tk') F' N'
      refine wpAny_assign_Name (stN F' N' (fun h2 F2 N2 => ?_) rfl rfl)
      have G2 := G1.move (tk := tk' + 1) F2 N2
      rw [hm] at F2
      dsimp only [gB, gT]
      refine seg_execs_cons (seg_If ?_)
      k_steps
      · have hx127 : x = 127 := by assumption
        refine seg_execs_cons (seg_wrap (wpAny_Return_none ?_))
        refine hend (n + 1) s₀ _ (.ret .none) (.inr rfl) ((G2.move (tk := _) G2.F G2.N).ends ?_) _
        have q := hout 0
        simp only [Nat.add_zero] at q
        rw [← q]
        simp [go, hx127]
      · have hx127 : x ≠ 127 := by assumption
        refine seg_execs_nil ?_
        refine seg_execs_cons (seg_If ?_)
        k_steps
        · have hx0 : x = 0 := by assumption
          cases last with
          | none => exact absurd (by simp [hx0]) (hz rfl)
          | some v =>
            refine seg_execs_cons (seg_If ?_)
            dsimp only at F2
            k_steps
            refine seg_execs_nil ?_
            refine seg_execs_cons ?_
            refine seg_While (fun p9 => ?_)
            refine g_while hlg hli hl0 rfl rfl X (v := v) (n + 1) s₀ _ _ nx _ tl (by (first | exact om209 | omega)) hnN (G2.move (tk := _) G2.F G2.N) ?_ (fun j hj => ?_)
            · rw [hm]; rfl
            · have q := hout (j - (N - (n + 1)))
              rw [show N - (n + 1) + (j - (N - (n + 1))) = j from by (first | exact om210 hj | omega)] at q
              rw [← q]
              simp [go, hx0]
        · have hx0 : x ≠ 0 := by assumption
          refine seg_execs_nil ?_
          refine seg_execs_cons (seg_Expr_Yield rfl rfl rfl ?_)
          refine ld F2 rfl ?_ rfl rfl (by decide)
          intro kap hkap
          refine (G2.move (tk := _) G2.F G2.N).yields ?_ (fun hn0 s'' hG => ?_) hlg hli hl0
          · have q := hout 0
            simp only [Nat.add_zero] at q
            rw [show N - 1 - n = N - (n + 1) from by (first | exact om211 | omega), ← q]
            simp [go, hx127, hx0]
          · obtain ⟨nx', G'⟩ := hG
            refine hkap .none s'' ?_
            have F3 := G'.F
            have N3 := G'.N
            rw [hm] at F3
            show Seg _ _ _ _ _ _ _ ((execs _ _).wrap _ _ _ _) _ s''
            refine seg_execs_cons (seg_wrap ?_)
            clear F2 N2 F' N'
            k_steps
            refine seg_execs_nil ?_
            refine seg_again (c' := .forLoop gT.val (.ref I) gB.val [] (gEnv Lg)) rfl ?_
            rename Fr h₀ Lg _ _ => F5
            rename News h₀ Lg _ _ => N5
            refine ih s'' _ _ nx' o' (i + 1) (some x) (frm F5) tx hn0 (by (first | exact om80 hnN | omega)) (G'.move (tk := _) F5 N5) ⟨o', rfl, hc', hd'⟩ (ov12 rfl rfl (fun z h1 h2 h3 => ?_)) hi (fun h => nomatch h) (fun j => ?_)
            · simp [h1, h2, h3]
            · have q := hout (j + 1)
              rw [show N - (n + 1) + (j + 1) = N - n + j from by (first | exact om212 hnN | omega)] at q
              rw [← q]
              simp [go, hx127, hx0]
    · obtain rfl : i = vs.length := by (first | exact om213 hil hlen hi | omega)
      refine WI.done _ _ [(I, oI)] m nx s _ rfl hst G.F G.N hsrc hoff fun h' tk' F' N' => ?_
      intro c9
      refine hend (n + 1) s₀ _ .next (.inl rfl) (G.ends2 (tk := tk') F' N' ?_) c9
      have q := hout 0
      simp only [Nat.add_zero] at q
      rw [← q, List.drop_of_length_le (by (first | exact om214 hlen | omega))]
      rfl
theorem g_first {dp un : Nat} {fr : Option (List Env)} {gd' : Option (List Code)} (hlg : l ≠ Lg) (hl0 : h₀.get? l = none) (X : (hd.heap_1 w.params).In h₀) {p : Program} {loose : List Str} {mean : ExcName → Option Value} {mg mb : Str → Option Value} (T : Top p loose mean mg mb h₀)
    {vs : List Value} {ns : List Int} {nn : Nat} (hlo : lo = W.listOf vs.toArray nn) (hI : IntsAre vs ns) (hN : N ≠ 0) (hz : ns.head? ≠ some 0) (hout : ∀ j, go ns none j = out j)
    {s₀ : Shared} {m : Str → Option Value} (F : Fr h₀ Lg s₀.heap m) (hm : m = fun z => if z = Str.ofString "grouping" then some (.ref l) else none) (hl : s₀.heap.get? l = some lo) (hII : I = s₀.heap.objs.size) :
      Seg (model PySem.Challenge.rw_wv0034_01.row.prog w) { handled := none, depth := dp, frames := fr, guards := gd', units := un } (RG Lg I N out) (YG h₀ Lg I l lo N out) N s₀ (.func gF.val (gEnv Lg)) ((model PySem.Challenge.rw_wv0034_01.row.prog w).den (.func gF.val (gEnv Lg))) [] s₀ := by
  have hli : l ≠ I := by rw [hII]; exact Nat.ne_of_lt (Heap.lt_size hl)
  have hIL : I ≠ Lg := by rw [hII]; exact Nat.ne_of_gt F.ns.lt
  refine seg_func ?_
  dsimp only [gF]
  refine seg_execs_cons (seg_wrap ?_)
  refine wpAny_Assign_Name ?_
  refine wpAny_Constant_none ?_
  refine wpAny_storeName_local (env := gEnv Lg) rfl F.ns (fun h1 hn1 hs1 => ?_) rfl
  have F1 := F.set hn1 hs1
  refine seg_execs_cons (seg_For ?_)
  refine ld F1 (by rw [hm]; rfl) ?_ rfl rfl (by decide)
  have hl1 : h1.get? l = some lo := (hs1.2 l hlg).trans hl
  have hN1 : News h₀ Lg h1 [(l, lo)] := fun p hp => by rw [List.mem_singleton.mp hp]; exact ⟨hl1, hlg, hl0⟩
  refine wpAny_pyIter_list (l := l) (items := vs.toArray) ⟨lo, hl1, by rw [hlo], nn, by rw [hlo]⟩ ?_
  intro p9 lv9
  dsimp only
  rw [hs1.1, ← hII]
  have hI0 : h₀.get? I = none := by rw [hII]; exact Heap.get?_none_of_le (Nat.le_trans F.above (Nat.le_of_lt F.ns.lt))
  have keep : ∀ b o, b ≠ Lg → s₀.heap.get? b = some o → h1.get? b = some o := fun b o h e => (hs1.2 b h).trans e
  have G : GAt h₀ Lg I l lo { cls := .type "list_iterator", data := .fields #[.ref l, .int 0 0] } (fun z => if z = Str.ofString "last_interval" then some Value.none else m z) (allBut h₀ s₀.heap Lg I) s₀ { s₀ with heap := h1.push { cls := .type "list_iterator", data := .fields #[.ref l, .int 0 0] }, toks := s₀.toks + 1 } := by
    refine ⟨F1.push _, fun p hp => ?_, mem_allBut.mpr ⟨hlg, hli, hl0, hl⟩, fun b o h1 h2 e => ?_, ⟨_, _, rfl⟩, fun q hq => ?_⟩
    · rcases List.mem_cons.mp hp with rfl | hp
      · refine ⟨?_, hIL, hI0⟩
        show Heap.get? _ I = _
        rw [hII, ← hs1.1]
        exact Heap.get?_push_size _ rfl
      · obtain ⟨b, o⟩ := p
        obtain ⟨q1, q2, q3, q4⟩ := mem_allBut.mp hp
        exact ⟨Heap.get?_push_of_some _ (keep b o q1 q4), q1, q3⟩
    · cases h0 : h₀.get? b with
      | none => exact .inr (mem_allBut.mpr ⟨h1, h2, h0, e⟩)
      | some o' =>
        have := F.keep b o' h0
        rw [e] at this
        exact .inl this.symm
    · obtain ⟨b, o⟩ := q; exact (mem_allBut.mp hq).2.1
  refine g_head hlg hli hl0 X T hlo hI ?_ N s₀ _ _ _ _ 0 none (fun z => (if z = Str.ofString "last_interval" then some Value.none else m z)) 0 hN (Nat.le_refl _) G ⟨_, rfl, rfl, rfl⟩ ?_ (Nat.zero_le _) (fun _ => by simpa using hz) (fun j => by rw [List.drop_zero, Nat.sub_self, Nat.zero_add]; exact hout j)
  · intro n s₁ s₂ f hf hR c
    refine seg_leaf (.ok f) ?_
    rcases hf with rfl | rfl
    · exact seg_end (.ok (.ret .none)) hR
    · exact seg_end (.ok (.ret .none)) hR
  · funext z
    by_cases h1 : z = Str.ofString "interval"
    · rw [if_pos h1]
    · rw [if_neg h1]
      by_cases h2 : z = Str.ofString "last_interval"
      · rw [if_pos h2, if_pos h2]
      · rw [if_neg h2, if_neg h2, hm]
end
end
section
noncomputable def Apart (own nx : List (Addr × Obj)) : Prop := ∀ q ∈ own, Off q.1 nx
structure ItT (prog : Program) (w : World) (A : Around) (h₀ : Heap) (target : PySem.Expr) (I : Addr) (src : List (Addr × Obj)) (n : Nat) (P : Nat → Value → List (Addr × Obj) → Prop) (st : Nat → List (Addr × Obj) → Array GenState → Prop) (G : Array GenState → Prop) : Prop where
  item : ∀ (L : Addr) (E : Value → Shared → Prop) (i : Nat) (own : List (Addr × Obj)) (m : Str → Option Value) (nx : List (Addr × Obj)) (s : Shared) (Q : Value → Shared → Prop), i < n → st i own s.gens →
    Fr h₀ L s.heap m → News h₀ L s.heap (own ++ nx) → (∀ p ∈ src, p ∈ nx) → Apart own nx →
    (∀ v own' ex h' tk' g', P i v ex → st (i + 1) own' g' → Apart own' nx → Fr h₀ L h' m → News h₀ L h' (ex ++ (own' ++ nx)) → (∀ p ∈ ex, ∀ q ∈ own' ++ nx, @LT.lt Nat _ q.1 p.1) → Q v { s with heap := h', toks := tk', gens := g' }) →
    wpAny (model prog w) A (pyNext (.ref I)) (fun r s₁ => match r with | none => False | some v => wpAny (model prog w) A (letOwnedTupleGo target (.ref I) v) (fun _ s₂ => Q v s₂) E s₁) E s
  done : ∀ (L : Addr) (E : Value → Shared → Prop) (own : List (Addr × Obj)) (m : Str → Option Value) (nx : List (Addr × Obj)) (s : Shared) (Q : Option Value → Shared → Prop), st n own s.gens →
    Fr h₀ L s.heap m → News h₀ L s.heap (own ++ nx) → (∀ p ∈ src, p ∈ nx) → Apart own nx →
    (∀ h' tk' g', G g' → Fr h₀ L h' m → News h₀ L h' nx → Q none { s with heap := h', toks := tk', gens := g' }) →
    wpAny (model prog w) A (pyNext (.ref I)) Q E s
noncomputable def TurnEndT (h₀ : Heap) (L : Addr) (s : Shared) (own : List (Addr × Obj)) (J : (Str → Option Value) → List (Addr × Obj) → Prop) (Q : Flow → Shared → Prop) (g : Array GenState) (f : Flow) (s₃ : Shared) : Prop :=
  match f with
  | .ret v => Q (.ret v) s₃
  | .brk => Q .next s₃
  | _ => ∃ h tk m nx, s₃ = { s with heap := h, toks := tk, gens := g } ∧ Fr h₀ L h m ∧ News h₀ L h (own ++ nx) ∧ Apart own nx ∧ J m nx
section
variable {prog : Program} {w : World} {A : Around} {E : Value → Shared → Prop} {s : Shared} {h₀ : Heap} {L I : Addr} {src : List (Addr × Obj)} {n : Nat} {P : Nat → Value → List (Addr × Obj) → Prop} {st : Nat → List (Addr × Obj) → Array GenState → Prop}
  {target : PySem.Expr} {body : List Stmt} {env : Env} {Q : Flow → Shared → Prop}
theorem loop_t {GG : Array GenState → Prop} (hI : ItT prog w A h₀ target I src n P st GG) (J : Nat → (Str → Option Value) → List (Addr × Obj) → Prop) {own : List (Addr × Obj)} {m : Str → Option Value} {news : List (Addr × Obj)}
    (h0 : st 0 own s.gens) (F : Fr h₀ L s.heap m) (N : News h₀ L s.heap (own ++ news)) (ha : Apart own news) (j0 : J 0 m news)
    (hJ : ∀ i m nx, J i m nx → (∀ p ∈ src, p ∈ nx))
    (turn : ∀ i v ex own m nx h tk g, i < n → P i v ex → st (i + 1) own g → J i m nx → Fr h₀ L h m → News h₀ L h (ex ++ (own ++ nx)) → (∀ p ∈ ex, ∀ q ∈ own ++ nx, @LT.lt Nat _ q.1 p.1) → Apart own nx →
      wpAny (model prog w) A (assign target env v) (fun _ s₂ => wpAny (model prog w) A (execs body env) (TurnEndT h₀ L s own (J (i + 1)) Q g) Nev s₂) Nev { s with heap := h, toks := tk, gens := g })
    (fin : ∀ m nx h tk g, GG g → J n m nx → Fr h₀ L h m → News h₀ L h nx → Q .next { s with heap := h, toks := tk, gens := g }) :
    codeAny (model prog w) A (.forLoop target (.ref I) body [] env) (fun r s' => match r with | .ok f => Q f s' | .error e => cameBackBy (model prog w) A env E e s') s := by
  have never : ∀ (R : Value → Shared → Prop), ∀ e s', Nev e s' → R e s' := fun _ _ _ h => h.elim
  refine codeAny_forLoop_any (fun k s' => ∃ i own h tk g m nx, k = n - i ∧ i ≤ n ∧ s' = { s with heap := h, toks := tk, gens := g } ∧ st i own g ∧ Fr h₀ L h m ∧ News h₀ L h (own ++ nx) ∧ Apart own nx ∧ J i m nx) ?_ n
    ⟨0, own, s.heap, s.toks, s.gens, m, news, by (first | exact om30 | omega), Nat.zero_le _, rfl, h0, F, N, ha, j0⟩
  intro k s' pGZ2
  refine byC fun hGZ => ?_
  obtain ⟨i, own, h, tk, g, m, nx, rfl, hi, rfl, hst, F, N, ha, j⟩ := pGZ2
  refine hGZ ?_; clear hGZ
  by_cases hlt : i < n
  · refine wpAny_mono (hI.item L Nev i own m nx _ (fun v s₂ => wpAny (model prog w) A (assign target env v) (fun _ s₂ => wpAny (model prog w) A (execs body env) (fun f s₃ => match f with
          | .next | .cont => ∃ m, m < n - i ∧ (fun k s' => ∃ i own h tk g m nx, k = n - i ∧ i ≤ n ∧ s' = { s with heap := h, toks := tk, gens := g } ∧ st i own g ∧ Fr h₀ L h m ∧ News h₀ L h (own ++ nx) ∧ Apart own nx ∧ J i m nx) m s₃
          | .brk => Q .next s₃
          | .ret v => Q (.ret v) s₃) (notedBy (model prog w) A env fun e s' => cameBackBy (model prog w) A env E e s') s₂) (notedBy (model prog w) A env fun e s' => cameBackBy (model prog w) A env E e s') s₂)
        hlt hst F N (hJ _ _ _ j) ha fun v own' ex h' tk' g' hP hst' ha' F' N' hl => ?_) (fun r s₁ h₁ => ?_) (never _)
    · refine wpAny_mono (turn i v ex own' m nx h' tk' g' hlt hP hst' j F' N' hl ha') (fun _ s₂ h₂ => ?_) (never _)
      refine wpAny_mono h₂ (fun f s₃ h₃ => ?_) (never _)
      have fin' : TurnEndT h₀ L s own' (J (i + 1)) Q g' .next s₃ → ∃ k', k' < n - i ∧ ∃ i own h tk g m nx, k' = n - i ∧ i ≤ n ∧ s₃ = { s with heap := h, toks := tk, gens := g } ∧ st i own g ∧ Fr h₀ L h m ∧ News h₀ L h (own ++ nx) ∧ Apart own nx ∧ J i m nx := by
        rintro ⟨h9, tk9, m9, nx9, rfl, F9, N9, a9, j9⟩
        exact ⟨n - (i + 1), by (first | exact om31 hlt | omega), i + 1, own', h9, tk9, g', m9, nx9, rfl, hlt, rfl, hst', F9, N9, a9, j9⟩
      cases f with
      | next => exact fin' h₃
      | cont => exact fin' h₃
      | brk => exact h₃
      | ret v => exact h₃
    · cases r with
      | none => exact h₁.elim
      | some v => exact wpAny_mono h₁ (fun _ _ x => x) (never _)
  · obtain rfl : i = n := by (first | exact om33 hi hlt | omega)
    refine hI.done L _ own m nx _ _ hst F N (hJ _ _ _ j) ha fun h' tk' g' hg F' N' => ?_
    exact wpAny_execs_nil (fin m nx h' tk' g' hg j F' N')
end
section
variable {prog : Program} {w : World} {A : Around} {E : Value → Shared → Prop} {s : Shared}
theorem pyNext_genR {a : Addr} {g n : Nat} {gs : GenState} {R : GenEnd} {Y : Protocol} {Q : Option Value → Shared → Prop} (hh : A.handled = none)
    (hl : s.heap.NoLimit) (hroom : A.depth < recursionLimit)
    (hg : s.heap.IsGen a g) (hgs : s.gens[g]? = some gs)
    (hgo : gs.Goes (model prog w) A.in1 R Y n (.send .none) (s.setGen g .running))
    (hY : ∀ v s₁ gs', gs'.bare = true → Y (n - 1) (s.setGen g .running) v s₁ (fun r' s'' => match n with
        | 0 => False
        | m + 1 => gs'.Goes (model prog w) A.in1 R Y m r' s'') → Q (some v) (s₁.setGen g gs'))
    (hP : ∀ r s₁, R n (s.setGen g .running) r s₁ → r = .ok (.ret .none) ∧ ∀ h', (∀ b o, s₁.heap.get? b = some o → h'.get? b = some o) → Q none { s₁.setGen g .finished with heap := h' }) :
    wpAny (model prog w) A (pyNext (.ref a)) Q E s := by
  unfold pyNext
  refine wpAny_bind (wpAny_attempt (wpAny_callSpecial?_slot (name := Str.ofString "__next__") hg.typeIs slot_gen_next
    (wpAny_call_entry slot_gen_next hg.typeIs entry_gen_next ?_ (args_gen_next _))))
  show wpAny _ A.in1 (Builtin.Generator.genWake (.ref a) (.send .none)) _ _ s
  unfold Builtin.Generator.genWake
  refine wpAny_bind (wpAny_holding (wpAny_genNumber hg (wpAny_bind (wpAny_genState hgs ?_))))
  cases gs with
  | running => exact hgo.elim
  | finished => exact hgo.elim
  | _ =>
    refine wpAny_bind (wpAny_roomToWake hl hroom ?_)
    show wpAny _ A.in1 (.resume g (.send .none) [] _) _ _ s
    refine wpAny_resumeQ hgs hgo (fun x s₁ hx => ?_) (fun v s₁ gs' hb hv => ?_)
    · obtain ⟨rfl, hp⟩ := hP _ _ hx
      show wpAny _ A.in1 (newExc (.type "StopIteration") [] >>= _) _ _ _
      refine wpAny_bind ?_
      simp only [newExc, newTuple]
      refine wpAny_bind (wpAny_newObj_type ?_ (by size_fits))
      refine wpAny_bind (m := firstArgMember _ _) (wpAny_of_eq (a := Value.none) (by first | rfl | (simp only [firstArgMember]; rfl)) ?_)
      refine wpAny_newObj_type ?_ (by size_fits)
      simp only [raiseNew]
      refine wpAny_bind (wpAny_bind (wpAny_handled ?_))
      first | rw [show A.in1.handled = none from hh] | rw [hh]
      refine wpAny_throw ?_
      refine wpAny_bind (wpAny_isInstance (T := "StopIteration") (b := true) ⟨_, Heap.get?_push_size _ rfl, rfl⟩ isSubtype_stop ?_)
      exact wpAny_pure (hp _ fun b o hb => Heap.get?_push_of_some _ (Heap.get?_push_of_some _ hb))
    · exact wpAny_pure ⟨v, rfl, wpAny_pure (hY v s₁ gs' hb hv)⟩
theorem nextOf_genR {a : Addr} {g n : Nat} {gs : GenState} {R : GenEnd} {Y : Protocol} {Q : Value → Shared → Prop} (hh : A.handled = none)
    (hl : s.heap.NoLimit) (hroom : A.depth < recursionLimit)
    (hg : s.heap.IsGen a g) (hgs : s.gens[g]? = some gs)
    (hgo : gs.Goes (model prog w) A.in1 R Y n (.send .none) (s.setGen g .running))
    (hY : ∀ v s₁ gs', gs'.bare = true → Y (n - 1) (s.setGen g .running) v s₁ (fun r' s'' => match n with
        | 0 => False
        | m + 1 => gs'.Goes (model prog w) A.in1 R Y m r' s'') → Q v (s₁.setGen g gs'))
    (hP : ∀ r s₁, R n (s.setGen g .running) r s₁ → False) :
    wpAny (model prog w) A (Builtin.SmallTypes.nextOf (.ref a)) Q E s := by
  unfold Builtin.SmallTypes.nextOf
  refine wpAny_bind (wpAny_callSpecial?_slot (name := Str.ofString "__next__") hg.typeIs slot_gen_next
    (wpAny_call_entry slot_gen_next hg.typeIs entry_gen_next ?_ (args_gen_next _)))
  show wpAny _ A.in1 (Builtin.Generator.genWake (.ref a) (.send .none)) _ _ s
  unfold Builtin.Generator.genWake
  refine wpAny_bind (wpAny_holding (wpAny_genNumber hg (wpAny_bind (wpAny_genState hgs ?_))))
  cases gs with
  | running => exact hgo.elim
  | finished => exact hgo.elim
  | _ =>
    refine wpAny_bind (wpAny_roomToWake hl hroom ?_)
    show wpAny _ A.in1 (.resume g (.send .none) [] _) _ _ s
    refine wpAny_resumeQ hgs hgo (fun x s₁ hx => (hP _ _ hx).elim) (fun v s₁ gs' hb hv => ?_)
    exact wpAny_pure ⟨v, rfl, wpAny_pure (hY v s₁ gs' hb hv)⟩
end
section
noncomputable def GenObjIs (o : Obj) (gi : Nat) : Prop := o.cls = .type "generator" ∧ (∃ nm qn, o.data = .fields #[.int gi 0, nm, qn]) ∧ o.slots = #[]
theorem GenObjIs.isGen {o : Obj} {gi : Nat} {h : Heap} {a : Addr} (x : GenObjIs o gi) (ho : h.get? a = some o) : h.IsGen a gi := by
  obtain ⟨h1, ⟨nm, qn, h2⟩, h3⟩ := x
  exact ⟨o, nm, qn, ho, h1, h2, h3⟩
noncomputable abbrev ruGoes (w : World) (A : Around) (h₀ : Heap) (Lg I l : Addr) (lo : Obj) (N : Nat) (out : Nat → Option Int) (gs : GenState) (n : Nat) (s : Shared) : Prop :=
  gs.Goes (model PySem.Challenge.rw_wv0034_01.row.prog w) A.in1 (RG Lg I N out) (YG h₀ Lg I l lo N out) n (.send .none) s
noncomputable def ruSt (w : World) (A : Around) (h₀ : Heap) (G Lg l : Addr) (lo : Obj) (gi N : Nat) (out : Nat → Option Int) : Nat → List (Addr × Obj) → Array GenState → Prop
  | 0, own, g => AllBare g ∧ G ≠ Lg ∧ h₀.objs.size ≤ Lg ∧ ∃ oG oL, own = [(G, oG), (Lg, oL)] ∧ GenObjIs oG gi ∧ (∀ h : Heap, h.get? Lg = some oL → h.Ns Lg (fun z => if z = Str.ofString "grouping" then some (.ref l) else none)) ∧ g[gi]? = some (.fresh (.func gF.val (gEnv Lg)))
  | i + 1, own, g => AllBare g ∧ G ≠ Lg ∧ ∃ oG oL I oI gs, own = [(G, oG), (Lg, oL), (I, oI)] ∧ G ≠ I ∧ Lg ≠ I ∧ GenObjIs oG gi ∧ g[gi]? = some gs ∧
      ∀ s'' : Shared, (∀ b o, h₀.get? b = some o → s''.heap.get? b = some o) → s''.heap.get? Lg = some oL → s''.heap.get? I = some oI → s''.heap.get? l = some lo → ruGoes w A h₀ Lg I l lo N out gs (N - (i + 1)) s''
theorem setGen_bare {s : Shared} {g : Nat} {x : GenState} (h : AllBare s.gens) (hx : x.bare = true) : AllBare (s.setGen g x).gens := by
  intro y hy
  have hy : y ∈ s.gens.setIfInBounds g x := hy
  rcases Array.mem_or_eq_of_mem_setIfInBounds hy with h1 | h1
  · exact h _ h1
  · exact h1 ▸ hx
variable {w : World} {A : Around} {E : Value → Shared → Prop} {s : Shared} {h₀ : Heap} {L G Lg l : Addr} {lo : Obj} {gi N : Nat} {out : Nat → Option Int} {m : Str → Option Value} {own nx : List (Addr × Obj)}
theorem ru_itemZ {Z : Prop} (hh : A.handled = none) (hroom : A.depth < recursionLimit) (X : (hd.heap_1 w.params).In h₀) {p : Program} {loose : List Str} {mean : ExcName → Option Value} {mg mb : Str → Option Value} (T : Top p loose mean mg mb h₀)
    {vs : List Value} {ns : List Int} {nn : Nat} (hlo : lo = W.listOf vs.toArray nn) (hI : IntsAre vs ns) (hz : ns.head? ≠ some 0) (hout : ∀ j, go ns none j = out j)
    {i : Nat} {x : Int} (hi : i + 1 < N) (hx : out i = some x) {Q : Option Value → Shared → Prop}
    (hpull : ∀ (n : Nat) (gs : GenState) (R : GenEnd) (Y : Protocol), s.heap.NoLimit → s.heap.IsGen G gi → s.gens[gi]? = some gs → gs.Goes (model PySem.Challenge.rw_wv0034_01.row.prog w) A.in1 R Y n (.send .none) (s.setGen gi .running) →
      (∀ v s₁ gs', gs'.bare = true → Y (n - 1) (s.setGen gi .running) v s₁ (fun r' s'' => match n with | 0 => False | m + 1 => gs'.Goes (model PySem.Challenge.rw_wv0034_01.row.prog w) A.in1 R Y m r' s'') → Q (some v) (s₁.setGen gi gs')) →
      (∀ r s₁, R n (s.setGen gi .running) r s₁ → False) → Z)
    (hst : ruSt w A h₀ G Lg l lo gi N out i own s.gens) (F : Fr h₀ L s.heap m) (Ns : News h₀ L s.heap (own ++ nx)) (hl : (l, lo) ∈ nx) (ha : Apart own nx)
    (h : ∀ t own' h' tk' g', ruSt w A h₀ G Lg l lo gi N out (i + 1) own' g' → Apart own' nx → Fr h₀ L h' m → News h₀ L h' (own' ++ nx) → Q (some (.int x t)) { s with heap := h', toks := tk', gens := g' }) :
    Z := by
  obtain ⟨hd0, dp, fr, gd, un⟩ := A
  dsimp only at hh hroom
  subst hh
  have hlN := Ns _ (List.mem_append_right _ hl)
  obtain ⟨oL0, a1, a2, hoL0, a3⟩ := F.ns
  have fin : ∀ (I : Addr) (hI0 : h₀.get? I = none) (hIL : I ≠ L) (hIG : G ≠ I) (hIg : Lg ≠ I) (hIx : Off I nx) (hGg : G ≠ Lg) (oG : Obj) (hoG : GenObjIs oG gi) (hsG : s.heap.get? G = some oG) (hG0 : h₀.get? G = none) (hGL : G ≠ L) (hgL : Lg ≠ L) (hg0 : h₀.get? Lg = none) (hax : Off G nx) (hgx : Off Lg nx)
      (gs0 : GenState) (hgs0 : s.gens[gi]? = some gs0) (hb : AllBare s.gens), ∀ v s₁ gs', gs'.bare = true → YG h₀ Lg I l lo N out (N - i - 1) (s.setGen gi .running) v s₁ (fun r' s'' => match N - i with
        | 0 => False
        | k + 1 => gs'.Goes (model PySem.Challenge.rw_wv0034_01.row.prog w) (Around.in1 ⟨none, dp, fr, gd, un⟩) (RG Lg I N out) (YG h₀ Lg I l lo N out) k r' s'') → Q (some v) (s₁.setGen gi gs') := by
    intro I hI0 hIL hIG hIg hIx hGg oG hoG hsG hG0 hGL hgL hg0 hax hgx gs0 hgs0 hb v s₁ gs' hbs hY
    obtain ⟨h1, tk1, x1, t1, oL1, oI1, rfl, hx1, rfl, hk1, hoL1, hoI1, hc1⟩ := hY
    rw [show N - 1 - (N - i - 1) = i from by (first | exact om215 hi | omega), hx] at hx1
    cases hx1
    have keep : ∀ b o, b ≠ Lg → b ≠ I → s.heap.get? b = some o → h1.get? b = some o := hk1
    refine h t1 [(G, oG), (Lg, oL1), (I, oI1)] h1 tk1 _ ⟨setGen_bare (setGen_bare hb rfl) hbs, hGg, oG, oL1, I, oI1, gs', rfl, hIG, hIg, hoG, setGen_self (gs := .running) (setGen_self hgs0), ?_⟩ ?_ ?_ ?_
    · intro s'' k1 k2 k3 k4
      have q := hc1 (by (first | exact om216 hi | omega)) s'' k1 k2 k3 k4
      rw [show N - i = (N - (i + 1)) + 1 from by (first | exact om217 hi | omega)] at q
      exact q
    · intro q hq
      rcases List.mem_cons.mp hq with rfl | hq
      · exact hax
      · rcases List.mem_cons.mp hq with rfl | hq
        · exact hgx
        · rw [List.mem_singleton.mp hq]; exact hIx
    · refine ⟨⟨oL0, a1, a2, keep L _ (fun e => hgL e.symm) (fun e => hIL e.symm) hoL0, a3⟩, fun b o e => keep b o ?_ ?_ (F.keep b o e), F.above⟩
      · rintro rfl; rw [hg0] at e; cases e
      · rintro rfl; rw [hI0] at e; cases e
    · intro p hp
      rcases List.mem_cons.mp hp with rfl | hp
      · exact ⟨keep _ _ hGg hIG hsG, hGL, hG0⟩
      · rcases List.mem_cons.mp hp with rfl | hp
        · exact ⟨hoL1, hgL, hg0⟩
        · rcases List.mem_cons.mp hp with rfl | hp
          · exact ⟨hoI1, hIL, hI0⟩
          · have q := Ns _ (List.mem_append_right _ hp)
            exact ⟨keep _ _ (hgx p hp) (hIx p hp) q.1, q.2⟩
  have lim := T.nolimit.keeps F.keep
  cases i with
  | zero =>
    obtain ⟨hb, hGg, habove, oG, oL, rfl, hoG, hns, hgs⟩ := hst
    have NG := Ns _ (.head _)
    have NL := Ns _ (.tail _ (.head _))
    have F' : Fr h₀ Lg s.heap (fun z => if z = Str.ofString "grouping" then some (.ref l) else none) := ⟨hns _ NL.1, F.keep, habove⟩
    refine hpull N _ (RG Lg s.heap.objs.size N out) (YG h₀ Lg s.heap.objs.size l lo N out) lim (hoG.isGen NG.1) hgs ⟨rfl, ?_⟩ ?_ ?_
    · exact g_first (s₀ := s.setGen gi .running) (fun e => ha _ (.tail _ (.head _)) _ hl e) hlN.2.2 X T hlo hI (by (first | exact om218 hi | omega)) hz hout F' rfl hlN.1 rfl
    · exact fin s.heap.objs.size (Heap.get?_none_of_le (Nat.le_trans F.above (Nat.le_of_lt F.ns.lt))) (Nat.ne_of_gt F.ns.lt) (Nat.ne_of_lt (Heap.lt_size NG.1)) (Nat.ne_of_lt (Heap.lt_size NL.1))
        (fun p hp => Nat.ne_of_lt (Heap.lt_size (Ns p (List.mem_append_right _ hp)).1)) hGg oG hoG NG.1 NG.2.2 NG.2.1 NL.2.1 NL.2.2 (ha _ (.head _)) (ha _ (.tail _ (.head _))) _ hgs hb
    · rintro r s₁ ⟨rfl, hn, _⟩
      rw [Nat.sub_self, hx] at hn; cases hn
  | succ i =>
    obtain ⟨hb, hGg, oG, oL, I, oI, gs, rfl, hGI, hLI, hoG, hgs, hgo⟩ := hst
    have NG := Ns _ (.head _)
    have NL := Ns _ (.tail _ (.head _))
    have NI := Ns _ (.tail _ (.tail _ (.head _)))
    refine hpull (N - (i + 1)) _ (RG Lg I N out) (YG h₀ Lg I l lo N out) lim (hoG.isGen NG.1) hgs (hgo _ F.keep NL.1 NI.1 hlN.1) ?_ ?_
    · exact fin I NI.2.2 NI.2.1 hGI hLI (ha _ (.tail _ (.tail _ (.head _)))) hGg oG hoG NG.1 NG.2.2 NG.2.1 NL.2.1 NL.2.2 (ha _ (.head _)) (ha _ (.tail _ (.head _))) _ hgs hb
    · rintro r s₁ ⟨rfl, hn, _⟩
      rw [show N - (N - (i + 1)) = i + 1 from by (first | exact om219 hi | omega), hx] at hn; cases hn
theorem ru_item (hh : A.handled = none) (hroom : A.depth < recursionLimit) (X : (hd.heap_1 w.params).In h₀) {p : Program} {loose : List Str} {mean : ExcName → Option Value} {mg mb : Str → Option Value} (T : Top p loose mean mg mb h₀)
    {vs : List Value} {ns : List Int} {nn : Nat} (hlo : lo = W.listOf vs.toArray nn) (hI : IntsAre vs ns) (hz : ns.head? ≠ some 0) (hout : ∀ j, go ns none j = out j)
    {i : Nat} {x : Int} (hi : i + 1 < N) (hx : out i = some x) {Q : Option Value → Shared → Prop} (hst : ruSt w A h₀ G Lg l lo gi N out i own s.gens) (F : Fr h₀ L s.heap m) (Ns : News h₀ L s.heap (own ++ nx)) (hl : (l, lo) ∈ nx) (ha : Apart own nx)
    (h : ∀ t own' h' tk' g', ruSt w A h₀ G Lg l lo gi N out (i + 1) own' g' → Apart own' nx → Fr h₀ L h' m → News h₀ L h' (own' ++ nx) → Q (some (.int x t)) { s with heap := h', toks := tk', gens := g' }) :
    wpAny (model PySem.Challenge.rw_wv0034_01.row.prog w) A (pyNext (.ref G)) Q E s :=
  ru_itemZ hh hroom X T hlo hI hz hout hi hx (Q := Q) (fun n gs R Y h1 h2 h3 h4 h5 h6 => pyNext_genR hh h1 hroom h2 h3 h4 h5 fun r s₁ hr => (h6 r s₁ hr).elim) hst F Ns hl ha h
theorem ru_item_nextOf (hh : A.handled = none) (hroom : A.depth < recursionLimit) (X : (hd.heap_1 w.params).In h₀) {p : Program} {loose : List Str} {mean : ExcName → Option Value} {mg mb : Str → Option Value} (T : Top p loose mean mg mb h₀)
    {vs : List Value} {ns : List Int} {nn : Nat} (hlo : lo = W.listOf vs.toArray nn) (hI : IntsAre vs ns) (hz : ns.head? ≠ some 0) (hout : ∀ j, go ns none j = out j)
    {i : Nat} {x : Int} (hi : i + 1 < N) (hx : out i = some x) {Q : Value → Shared → Prop} (hst : ruSt w A h₀ G Lg l lo gi N out i own s.gens) (F : Fr h₀ L s.heap m) (Ns : News h₀ L s.heap (own ++ nx)) (hl : (l, lo) ∈ nx) (ha : Apart own nx)
    (h : ∀ t own' h' tk' g', ruSt w A h₀ G Lg l lo gi N out (i + 1) own' g' → Apart own' nx → Fr h₀ L h' m → News h₀ L h' (own' ++ nx) → Q (.int x t) { s with heap := h', toks := tk', gens := g' }) :
    wpAny (model PySem.Challenge.rw_wv0034_01.row.prog w) A (Builtin.SmallTypes.nextOf (.ref G)) Q E s :=
  ru_itemZ hh hroom X T hlo hI hz hout hi hx (Q := fun r s' => match r with | none => False | some v => Q v s') (fun n gs R Y h1 h2 h3 h4 h5 h6 => nextOf_genR hh h1 hroom h2 h3 h4 h5 fun r s₁ hr => (h6 r s₁ hr).elim) hst F Ns hl ha h
theorem ru_done (hh : A.handled = none) (hroom : A.depth < recursionLimit) (X : (hd.heap_1 w.params).In h₀) {p : Program} {loose : List Str} {mean : ExcName → Option Value} {mg mb : Str → Option Value} (T : Top p loose mean mg mb h₀)
    {vs : List Value} {ns : List Int} {nn : Nat} (hlo : lo = W.listOf vs.toArray nn) (hI : IntsAre vs ns) (hz : ns.head? ≠ some 0) (hout : ∀ j, go ns none j = out j)
    {i : Nat} (hi : i < N) (hx : out i = none) {Q : Option Value → Shared → Prop} (hst : ruSt w A h₀ G Lg l lo gi N out i own s.gens) (F : Fr h₀ L s.heap m) (Ns : News h₀ L s.heap (own ++ nx)) (hl : (l, lo) ∈ nx) (ha : Apart own nx)
    (h : ∀ h' tk' g', AllBare g' → Fr h₀ L h' m → News h₀ L h' nx → Q none { s with heap := h', toks := tk', gens := g' }) :
    wpAny (model PySem.Challenge.rw_wv0034_01.row.prog w) A (pyNext (.ref G)) Q E s := by
  refine byC fun hGZ => ?_
  obtain ⟨hd0, dp, fr, gd, un⟩ := A
  dsimp only at hh hroom
  subst hh
  have hlN := Ns _ (List.mem_append_right _ hl)
  obtain ⟨oL0, a1, a2, hoL0, a3⟩ := F.ns
  refine hGZ ?_; clear hGZ
  have fin : ∀ (I : Addr) (hI0 : h₀.get? I = none) (hIL : I ≠ L) (hIx : Off I nx) (hgL : Lg ≠ L) (hg0 : h₀.get? Lg = none) (hgx : Off Lg nx) (hb : AllBare s.gens), ∀ r s₁, RG Lg I N out (N - i) (s.setGen gi .running) r s₁ →
      r = .ok (.ret .none) ∧ ∀ h', (∀ b o, s₁.heap.get? b = some o → h'.get? b = some o) → Q none { s₁.setGen gi .finished with heap := h' } := by
    intro I hI0 hIL hIx hgL hg0 hgx hb r s₁ pGZ10
    refine byC fun hGZ => ?_
    obtain ⟨rfl, _, h1, tk1, rfl, hk⟩ := pGZ10
    refine hGZ ?_; clear hGZ
    refine ⟨rfl, fun h' hk' => ?_⟩
    have keep : ∀ b o, b ≠ Lg → b ≠ I → s.heap.get? b = some o → h'.get? b = some o := fun b o e1 e2 e => hk' b o (hk b o e1 e2 e)
    refine h h' tk1 _ (setGen_bare (s := { s.setGen gi .running with heap := h1, toks := tk1 }) (setGen_bare hb rfl) rfl) ?_ ?_
    · refine ⟨⟨oL0, a1, a2, keep L _ (fun e => hgL e.symm) (fun e => hIL e.symm) hoL0, a3⟩, fun b o e => keep b o ?_ ?_ (F.keep b o e), F.above⟩
      · rintro rfl; rw [hg0] at e; cases e
      · rintro rfl; rw [hI0] at e; cases e
    · intro p hp
      have q := Ns _ (List.mem_append_right _ hp)
      exact ⟨keep _ _ (hgx p hp) (hIx p hp) q.1, q.2⟩
  have noY : ∀ (I : Addr) (v : Value) (s₁ : Shared) (gs' : GenState) (kap : Resume → Shared → Prop), gs'.bare = true → YG h₀ Lg I l lo N out (N - i - 1) (s.setGen gi .running) v s₁ kap → Q (some v) (s₁.setGen gi gs') := by
    rintro I v s₁ gs' kap _ ⟨h1, tk1, x1, t1, oL1, oI1, _, hx1, _⟩
    rw [show N - 1 - (N - i - 1) = i from by (first | exact om220 hi | omega), hx] at hx1
    cases hx1
  have lim := T.nolimit.keeps F.keep
  cases i with
  | zero =>
    refine byC fun hGZ => ?_
    obtain ⟨hb, hGg, habove, oG, oL, rfl, hoG, hns, hgs⟩ := hst
    refine hGZ ?_; clear hGZ
    have NG := Ns _ (.head _)
    have NL := Ns _ (.tail _ (.head _))
    have F' : Fr h₀ Lg s.heap (fun z => if z = Str.ofString "grouping" then some (.ref l) else none) := ⟨hns _ NL.1, F.keep, habove⟩
    refine pyNext_genR (n := N) (R := RG Lg s.heap.objs.size N out) (Y := YG h₀ Lg s.heap.objs.size l lo N out) rfl lim hroom (hoG.isGen NG.1) hgs ⟨rfl, ?_⟩ ?_ ?_
    · exact g_first (s₀ := s.setGen gi .running) (fun e => ha _ (.tail _ (.head _)) _ hl e) hlN.2.2 X T hlo hI (by (first | exact om221 hi | omega)) hz hout F' rfl hlN.1 rfl
    · exact fun v s₁ gs' hb' hY => noY _ v s₁ gs' _ hb' hY
    · exact fin s.heap.objs.size (Heap.get?_none_of_le (Nat.le_trans F.above (Nat.le_of_lt F.ns.lt))) (Nat.ne_of_gt F.ns.lt)
        (fun p hp => Nat.ne_of_lt (Heap.lt_size (Ns p (List.mem_append_right _ hp)).1)) NL.2.1 NL.2.2 (ha _ (.tail _ (.head _))) hb
  | succ i =>
    refine byC fun hGZ => ?_
    obtain ⟨hb, hGg, oG, oL, I, oI, gs, rfl, hGI, hLI, hoG, hgs, hgo⟩ := hst
    refine hGZ ?_; clear hGZ
    have NG := Ns _ (.head _)
    have NL := Ns _ (.tail _ (.head _))
    have NI := Ns _ (.tail _ (.tail _ (.head _)))
    refine pyNext_genR (n := N - (i + 1)) (R := RG Lg I N out) (Y := YG h₀ Lg I l lo N out) rfl lim hroom (hoG.isGen NG.1) hgs (hgo _ F.keep NL.1 NI.1 hlN.1) ?_ ?_
    · exact fun v s₁ gs' hb' hY => noY _ v s₁ gs' _ hb' hY
    · exact fin I NI.2.2 NI.2.1 (ha _ (.tail _ (.tail _ (.head _)))) NL.2.1 NL.2.2 (ha _ (.tail _ (.head _))) hb
theorem ru_self {i : Nat} {Q : Value → Shared → Prop} (hst : ruSt w A h₀ G Lg l lo gi N out i own s.gens) (Ns : News h₀ L s.heap (own ++ nx)) (h : Q (.ref G) s) {A' : Around} : wpAny (model PySem.Challenge.rw_wv0034_01.row.prog w) A' (pyIter (.ref G)) Q E s := by
  cases i with
  | zero =>
    refine byC fun hGZ => ?_
    obtain ⟨_, _, _, oG, oL, rfl, hoG, _⟩ := hst
    refine hGZ ?_; clear hGZ
    exact wpAny_pyIter_gen (hoG.isGen (Ns _ (.head _)).1) h
  | succ i =>
    refine byC fun hGZ => ?_
    obtain ⟨_, _, oG, oL, I, oI, gs, rfl, _, _, hoG, _⟩ := hst
    refine hGZ ?_; clear hGZ
    exact wpAny_pyIter_gen (hoG.isGen (Ns _ (.head _)).1) h
theorem ruSt.bare {i : Nat} {g : Array GenState} (hst : ruSt w A h₀ G Lg l lo gi N out i own g) : AllBare g := by
  cases i <;> exact hst.1
theorem it_ruler {x : Str} {px : Pos} (hh : A.handled = none) (hroom : A.depth < recursionLimit) (X : (hd.heap_1 w.params).In h₀) {p : Program} {loose : List Str} {mean : ExcName → Option Value} {mg mb : Str → Option Value} (T : Top p loose mean mg mb h₀)
    {vs : List Value} {ns : List Int} {nn : Nat} (hlo : lo = W.listOf vs.toArray nn) (hI : IntsAre vs ns) (hz : ns.head? ≠ some 0) (hout : ∀ j, go ns none j = out j) {K : Nat} (hK : K < N) (hK0 : out K = none) (hK1 : ∀ i, i < K → ∃ y, out i = some y) :
    ItT PySem.Challenge.rw_wv0034_01.row.prog w A h₀ (.Name x px) G [(l, lo)] K (fun i v ex => (∃ y t, v = .int y t ∧ out i = some y) ∧ ex = []) (ruSt w A h₀ G Lg l lo gi N out) AllBare where
  item := by
    intro L E i own m nx s Q hi hst F Ns hsrc ha k
    obtain ⟨y, hy⟩ := hK1 i hi
    refine ru_item hh hroom X T hlo hI hz hout (by (first | exact om222 hK hi | omega)) hy hst F Ns (hsrc _ (.head _)) ha fun t own' h' tk' g' hst' ha' F' N' => ?_
    exact wpAny_pure (k _ own' [] h' tk' g' ⟨⟨y, t, rfl, hy⟩, rfl⟩ hst' ha' F' N' (fun _ h => nomatch h))
  done := by
    intro L E own m nx s Q hst F Ns hsrc ha k
    exact ru_done hh hroom X T hlo hI hz hout hK hK0 hst F Ns (hsrc _ (.head _)) ha k
theorem code_gen {prog : Program} {K : Frag} {R : Result → Shared → Prop} {p : Program} {loose : List Str} {mean : ExcName → Option Value} {mg mb : Str → Option Value} {name qual : Str} {params : Arguments} {body : List Stmt} {scope : Scope} {dV kV doc pm cdv ct oc : Value} {an od : Option Addr} {osl : Array (Option Value)} {f : Addr} {args : Args} {binds : List (Str × Value)}
    (F : Fr h₀ L s.heap m) (X₀ : K.In h₀) (T : Top p loose mean mg mb h₀)
    (ho : K.lookup f = some ⟨oc, od, .func (fnOf name qual params body scope dV kV doc pm an cdv ct), osl⟩) (hcd : codeIn K cdv qual = true) (hroom : A.depth < recursionLimit)
    (hbind : BindsTo s (fnOf name qual params body scope dV kV doc pm an cdv ct) args binds) (hloc : ∀ y ∈ binds, scope.names.lookup y.1 = some .local)
    (hco : scope.isCoroutine = false) (hgen : scope.isGenerator = true) (hk : scope.kind = .function) (hcell : ∀ x ∈ scope.names, x.2 ≠ .cell)
    (h : ∀ h₁, h₁.Ns s.heap.objs.size (fun y => binds.reverse.lookup y) → Heap.SameBut s.heap.objs.size (s.heap.push { cls := .type "frame", data := .dict #[] }) h₁ →
      R (.ok (.ret (.ref h₁.objs.size))) { s with gens := s.gens.push (.fresh (.func body (envOf qual scope s.heap.objs.size f cdv))), toks := s.toks + List.length binds + 1 + 1, heap := h₁.push { cls := .type "generator", data := .fields #[.int s.gens.size 0, .str name (s.toks + binds.length), .str qual (s.toks + binds.length + 1)] } }) :
    codeAny (model prog w) A (.call (.ref f) args) R s := by
  have X := X₀.keeps F.keep
  refine codeAny_call_generator (fd := fnOf name qual params body scope dV kV doc pm an cdv ct) (body := body) hroom (X _ _ ho) rfl hco hgen rfl (codeRec_of X hcd) (hbind _ _ _ _ ?_)
  refine wpAny_newFunctionEnv hcell hloc (fun h₁ hns hsb => ⟨(T.nolimit.keeps F.keep).fresh _ hsb, ?_⟩) hk
  exact h h₁ hns hsb
theorem call_ruler {dp un : Nat} {fr : Option (List Env)} {gd' : Option (List Code)} (hroom : dp < recursionLimit) (X : (hd.heap_1 w.params).In h₀) {p : Program} {loose : List Str} {mean : ExcName → Option Value} {mg mb : Str → Option Value} (T : Top p loose mean mg mb h₀)
    {news : List (Addr × Obj)} (hb : AllBare s.gens) (F : Fr h₀ L s.heap m) (Ns : News h₀ L s.heap news) {Q : Value → Shared → Prop}
    (h : ∀ G Lg own h' tk' g', (∀ lo N out, ruSt w ⟨none, dp, fr, gd', un⟩ h₀ G Lg l lo s.gens.size N out 0 own g') → Fr h₀ L h' m → News h₀ L h' (own ++ news) → (∀ q ∈ news, @LT.lt Nat _ q.1 Lg) → @LT.lt Nat _ Lg G → Apart own news → Q (.ref G) { s with heap := h', toks := tk', gens := g' }) :
    wpAny (model PySem.Challenge.rw_wv0034_01.row.prog w) ⟨none, dp, fr, gd', un⟩ (call (.ref 81) [.ref l]) Q E s := by
  refine wpAny_call ?_
  k_dflt (refine' code_gen F X T ?k6 ?k7 ?k8 ?k9 ?kB ?c2 ?c3 ?c4 ?c5 ?_; (case k6 => k_is); (case k7 => k_is); (case k8 => exact hroom); (case k9 => exact BindsTo.of_eq rfl); (case c5 => decide); (case kB => exact locs rfl); (case c2 => exact rfl); (case c3 => exact rfl); (case c4 => exact rfl))
  intro h1 hns hsb
  refine byC fun hGZ => ?_
  obtain ⟨Lg, hLg⟩ : ∃ Lg, Lg = s.heap.objs.size := ⟨_, rfl⟩
  have keep1 : ∀ b o, s.heap.get? b = some o → h1.get? b = some o := fun b o e => hsb.extBut b o (Nat.ne_of_lt (Heap.lt_size e)) (Heap.get?_push_of_some _ e)
  have hLG : @LT.lt Nat _ s.heap.objs.size h1.objs.size := by rw [hsb.1, Heap.size_push]; exact Nat.lt_succ_self _
  obtain ⟨oL, es, ep, hoL, r0, r1⟩ := hns
  refine hGZ ?_; clear hGZ
  have F1 : Fr h₀ L h1 m := by
    obtain ⟨oL0, a1, a2, hoL0, a3⟩ := F.ns
    exact ⟨⟨oL0, a1, a2, keep1 _ _ hoL0, a3⟩, fun b o e => keep1 b o (F.keep b o e), F.above⟩
  have N1 : News h₀ L h1 ((s.heap.objs.size, oL) :: news) := by
    intro p hp
    rcases List.mem_cons.mp hp with rfl | hp
    · exact ⟨hoL, Nat.ne_of_gt F.ns.lt, Heap.get?_none_of_le (Nat.le_trans F.above (Nat.le_of_lt F.ns.lt))⟩
    · exact ⟨keep1 _ _ (Ns p hp).1, (Ns p hp).2⟩
  refine h h1.objs.size s.heap.objs.size [(h1.objs.size, _), (s.heap.objs.size, oL)] _ _ _ (fun lo N out => ⟨hb.push rfl, Nat.ne_of_gt hLG, Nat.le_trans F.above (Nat.le_of_lt F.ns.lt), _, oL, rfl, ⟨rfl, ⟨_, _, rfl⟩, rfl⟩, fun h2 e => ⟨oL, es, ep, e, r0, ?_⟩, ?_⟩) (F1.push _) (News.push F1 N1 _) (fun q hq => Heap.lt_size (Ns q hq).1) hLG ?_
  · refine ⟨r1.1, fun z => (r1.2 z).trans ?_⟩
    show List.lookup z [(Str.ofString "grouping", Value.ref l)] = if z = Str.ofString "grouping" then some (.ref l) else none
    by_cases e9 : z = Str.ofString "grouping"
    · rw [if_pos e9, e9]; simp
    · rw [if_neg e9, List.lookup_cons, beq_eq_false_iff_ne.mpr e9]; rfl
  · simp
  · intro q hq
    rcases List.mem_cons.mp hq with rfl | hq
    · exact fun p hp => Nat.ne_of_lt (Nat.lt_trans (Heap.lt_size (Ns p hp).1) hLG)
    · rw [List.mem_singleton.mp hq]; exact fun p hp => Nat.ne_of_lt (Heap.lt_size (Ns p hp).1)
end
end
noncomputable section
noncomputable def zpSt (w : World) (A : Around) (h₀ : Heap) (z TI TO i1 l1 G Lg l : Addr) (lo : Obj) (gi N : Nat) (out : Nat → Option Int) (i : Nat) (own : List (Addr × Obj)) (g : Array GenState) : Prop :=
  ∃ o1 a b rown, own = (z, { cls := .type "zip", dict := none, data := .fields #[.none, .bool false, .bool false, .ref TI, .ref TO], slots := #[] }) :: (TI, { cls := .type "tuple", data := .seq #[.ref i1, .ref G] }) :: (TO, { cls := .type "tuple", data := .seq #[a, b] }) :: (i1, o1) :: rown ∧
    o1.cls = .type "list_iterator" ∧ o1.data = .fields #[.ref l1, .int i 0] ∧ ruSt w A.in1 h₀ G Lg l lo gi N out i rown g ∧ Off z rown ∧ Off TI rown ∧ Off TO rown ∧ Off i1 rown ∧ z ≠ TI ∧ z ≠ TO ∧ z ≠ i1 ∧ TI ≠ TO ∧ TI ≠ i1 ∧ TO ≠ i1
section
variable {w : World} {A : Around} {E : Value → Shared → Prop} {s : Shared} {h₀ : Heap} {L G Lg l z TI TO i1 l1 : Addr} {lo : Obj} {gi N : Nat} {out : Nat → Option Int} {m : Str → Option Value} {own nx : List (Addr × Obj)}
theorem news_same {h h' : Heap} {d : Addr} {ns : List (Addr × Obj)} (N : News h₀ L h ns) (ho : Off d ns) (hs : Heap.SameBut d h h') : News h₀ L h' ns := fun p hp => ⟨hs.extBut _ _ (ho p hp) (N p hp).1, (N p hp).2⟩
theorem news_upd {h h' : Heap} {d : Addr} {o o' : Obj} {ns ns' : List (Addr × Obj)} (N : News h₀ L h ns) (U : Upd d o o' ns ns') (hs : Heap.SameBut d h h') (ho : h'.get? d = some o') : News h₀ L h' ns' := by
  obtain ⟨pre, post, rfl, rfl, h1, h2⟩ := U.split
  exact News.setAt N h1 h2 hs ho
theorem news_lt {h : Heap} {ns : List (Addr × Obj)} (N : News h₀ L h ns) : ∀ p ∈ ns, @LT.lt Nat _ p.1 h.objs.size := fun p hp => Heap.lt_size (N p hp).1
theorem off_app {d : Addr} {a b : List (Addr × Obj)} (h1 : Off d a) (h2 : Off d b) : Off d (a ++ b) := fun p hp => (List.mem_append.mp hp).elim (h1 p) (h2 p)
end
namespace seg_zip_turn_all
noncomputable def body : (P_1 : World → Around → (Value → Shared → Prop) → Shared → Heap → Addr → Addr → Addr → Addr → Addr → Addr → Addr → Addr → Addr → Obj → Nat → Nat → (Nat → Option Int) → (Str → Option Value) → List (Addr × Obj) → Program → List Str → (ExcName → Option Value) → (Str → Option Value) → (Str → Option Value) → List Value → List Int → Nat → List Value → Nat → Nat → Int → Value → (Value → Shared → Prop) → List Expr → Nat → Pos → Obj → Value → Value → List (Addr × Obj) → Prop) ×' ((∀ a b c d e f g h i j k l m n o p q r s t u v w x y z a1 b1 c1 d1 e1 f1 g1 h1 i1 j1 k1 l1 m1 n1 o1, P_1 a b c d e f g h i j k l m n o p q r s t u v w x y z a1 b1 c1 d1 e1 f1 g1 h1 i1 j1 k1 l1 m1 n1 o1) → (∀ (w : World) (A : Around) (E : Value → Shared → Prop) (s : Shared) (h₀ : Heap) (L : Addr) (G : Addr) (Lg : Addr) (l : Addr) (z : Addr) (TI : Addr) (TO : Addr) (i1 : Addr) (l1 : Addr) (lo : Obj) (gi : Nat) (N : Nat) (out : Nat → Option Int) (m : Str → Option Value) (own : List (Addr × Obj)) (nx : List (Addr × Obj)) (hh : A.handled = none) (hroom : A.depth < recursionLimit) (X : (hd.heap_1 w.params).In h₀) (p : Program) (loose : List Str) (mean : ExcName → Option Value) (mg mb : Str → Option Value) (T : Top p loose mean mg mb h₀) (vs : List Value) (ns : List Int) (nn : Nat) (hlo : lo = W.listOf vs.toArray nn) (hI : IntsAre vs ns) (hz : ns.head? ≠ some 0) (hout : ∀ j, go ns none j = out j) (ws : List Value) (kk i : Nat) (x : Int) (v : Value) (hi : i + 1 < N) (hx : out i = some x) (hv : ws[i]? = some v) (Q : Value → Shared → Prop) (hst : zpSt w A h₀ z TI TO i1 l1 G Lg l lo gi N out i own s.gens) (F : Fr h₀ L s.heap m) (Ns : News h₀ L s.heap (own ++ nx)) (hl : (l, lo) ∈ nx) (hl1 : (l1, W.listOf ws.toArray kk) ∈ nx) (ha : Apart own nx) (elts : List PySem.Expr) (xc : Nat) (pos : Pos) (h : ∀ D t own' h' tk' g', zpSt w A h₀ z TI TO i1 l1 G Lg l lo gi N out (i + 1) own' g' → Apart own' nx → Fr h₀ L h' m → News h₀ L h' ([(D, { cls := .type "tuple", data := .seq #[v, .int x t] })] ++ (own' ++ nx)) → (∀ q ∈ own' ++ nx, @LT.lt Nat _ q.1 D) → Q (.ref D) { s with heap := h', toks := tk', gens := g' }),
    wpAny (model PySem.Challenge.rw_wv0034_01.row.prog w) A (pyNext (.ref z)) (fun r s₁ => match r with | none => False | some v => wpAny (model PySem.Challenge.rw_wv0034_01.row.prog w) A (letOwnedTupleGo (.Tuple elts xc pos) (.ref z) v) (fun _ s₂ => Q v s₂) E s₁) E s)) := by
  refine' ⟨_, fun k_1 => ?main⟩
  case main =>
    intro w A E s h₀ L G Lg l z TI TO i1 l1 lo gi N out m own nx hh hroom X p loose mean mg mb T vs ns nn hlo hI hz hout ws kk i x v hi hx hv Q hst F Ns hl hl1 ha elts xc pos h
    refine byC fun hGZ => ?_
    obtain ⟨o1, a, b, rown, rfl, ho1, ho1d, hru, hzr, hTIr, hTOr, hi1r, n1, n2, n3, n4, n5, n6⟩ := hst
    refine hGZ ?_; clear hGZ
    have hzz := (Ns _ (.head _)).1
    have hT : s.TypeIs (.ref z) "zip" := ⟨_, hzz, rfl⟩
    have N0 : News h₀ L s.heap ((z, { cls := .type "zip", dict := none, data := .fields #[.none, .bool false, .bool false, .ref TI, .ref TO], slots := #[] }) :: (TI, { cls := .type "tuple", data := .seq #[.ref i1, .ref G] }) :: (TO, { cls := .type "tuple", data := .seq #[a, b] }) :: (i1, o1) :: (rown ++ nx)) := Ns
    clear Ns
    have az := ha _ (.head _)
    have aTI := ha _ (.tail _ (.head _))
    have aTO := ha _ (.tail _ (.tail _ (.head _)))
    have ai1 := ha _ (.tail _ (.tail _ (.tail _ (.head _))))
    have ar : Apart rown nx := fun q hq => ha q (.tail _ (.tail _ (.tail _ (.tail _ hq))))
    have oz := off_app hzr az
    have oTI := off_app hTIr aTI
    have oTO := off_app hTOr aTO
    have oi1 := off_app hi1r ai1
    clear ha
    have zL : z ≠ L := (N0 _ (.head _)).2.1
    have z0 := (N0 _ (.head _)).2.2
    have TOL : TO ≠ L := (N0 _ (.tail _ (.tail _ (.head _)))).2.1
    have TO0 := (N0 _ (.tail _ (.tail _ (.head _)))).2.2
    have i1L : i1 ≠ L := (N0 _ (.tail _ (.tail _ (.tail _ (.head _))))).2.1
    have i10 := (N0 _ (.tail _ (.tail _ (.tail _ (.head _))))).2.2
    have hTI := (N0 _ (.tail _ (.head _))).1
    revert hh hroom X T hlo hI hz hout hi hx hv F hl hl1 h ho1 ho1d hru hzr hTIr hTOr hi1r n1 n2 n3 n4 n5 n6 hzz hT N0 az aTI aTO ai1 ar oz oTI oTO oi1 zL z0 TOL TO0 i1L i10 hTI
    exact k_1 w A E s h₀ L G Lg l z TI TO i1 l1 lo gi N out m nx p loose mean mg mb vs ns nn ws kk i x v Q elts xc pos o1 a b rown
namespace sA
noncomputable abbrev tyC := (World × Around × (Value → Shared → Prop) × Shared × Heap × Addr × Addr × Addr) × (Addr × Addr × Addr × Addr × Addr × Addr × Obj × Nat) × (Nat × (Nat → Option Int) × (Str → Option Value) × (List (Addr × Obj)) × Program × List Str × (ExcName → Option Value) × (Str → Option Value)) × ((Str → Option Value) × List Value × List Int × Nat × List Value × Nat × Nat × Int) × (Value × (Value → Shared → Prop) × List Expr × Nat × Pos × Obj × Value × Value) × (List (Addr × Obj))
def prP := body.1
def prQ (x : tyC) : Prop := prP x.1.1 x.1.2.1 x.1.2.2.1 x.1.2.2.2.1 x.1.2.2.2.2.1 x.1.2.2.2.2.2.1 x.1.2.2.2.2.2.2.1 x.1.2.2.2.2.2.2.2 x.2.1.1 x.2.1.2.1 x.2.1.2.2.1 x.2.1.2.2.2.1 x.2.1.2.2.2.2.1 x.2.1.2.2.2.2.2.1 x.2.1.2.2.2.2.2.2.1 x.2.1.2.2.2.2.2.2.2 x.2.2.1.1 x.2.2.1.2.1 x.2.2.1.2.2.1 x.2.2.1.2.2.2.1 x.2.2.1.2.2.2.2.1 x.2.2.1.2.2.2.2.2.1 x.2.2.1.2.2.2.2.2.2.1 x.2.2.1.2.2.2.2.2.2.2 x.2.2.2.1.1 x.2.2.2.1.2.1 x.2.2.2.1.2.2.1 x.2.2.2.1.2.2.2.1 x.2.2.2.1.2.2.2.2.1 x.2.2.2.1.2.2.2.2.2.1 x.2.2.2.1.2.2.2.2.2.2.1 x.2.2.2.1.2.2.2.2.2.2.2 x.2.2.2.2.1.1 x.2.2.2.2.1.2.1 x.2.2.2.2.1.2.2.1 x.2.2.2.2.1.2.2.2.1 x.2.2.2.2.1.2.2.2.2.1 x.2.2.2.2.1.2.2.2.2.2.1 x.2.2.2.2.1.2.2.2.2.2.2.1 x.2.2.2.2.1.2.2.2.2.2.2.2 x.2.2.2.2.2
noncomputable def inI : tyC := ((aWorld 0, callerA, default, {}, default, default, default, default), default, default, default, default, default)
def epC : tyC := eps inI prQ
@[irreducible] def A := epC.1.2.1
@[irreducible] def h₀ := epC.1.2.2.2.2.1
@[irreducible] def L := epC.1.2.2.2.2.2.1
@[irreducible] def G := epC.1.2.2.2.2.2.2.1
@[irreducible] def z := epC.2.1.2.1
@[irreducible] def TI := epC.2.1.2.2.1
@[irreducible] def TO := epC.2.1.2.2.2.1
@[irreducible] def i1 := epC.2.1.2.2.2.2.1
@[irreducible] def nx := epC.2.2.1.2.2.2.1
@[irreducible] def p := epC.2.2.1.2.2.2.2.1
@[irreducible] def kk := epC.2.2.2.1.2.2.2.2.2.1
@[irreducible] def x := epC.2.2.2.1.2.2.2.2.2.2.2
@[irreducible] def v := epC.2.2.2.2.1.1
@[irreducible] def o1 := epC.2.2.2.2.1.2.2.2.2.2.1
@[irreducible] def b := epC.2.2.2.2.1.2.2.2.2.2.2.2
@[irreducible] def rown := epC.2.2.2.2.2
namespace seg_sA_main
noncomputable def body : (P_1 : Heap → Heap → Obj → Heap → Tok → List (Addr × Obj) → Heap → Nat → Array GenState → Prop) ×' ((∀ a b c d e f g h i, P_1 a b c d e f g h i) → (prP epC.1.1 A epC.1.2.2.1 epC.1.2.2.2.1 h₀ L G epC.1.2.2.2.2.2.2.2 epC.2.1.1 z TI TO i1 epC.2.1.2.2.2.2.2.1 epC.2.1.2.2.2.2.2.2.1 epC.2.1.2.2.2.2.2.2.2 epC.2.2.1.1 epC.2.2.1.2.1 epC.2.2.1.2.2.1 nx p epC.2.2.1.2.2.2.2.2.1 epC.2.2.1.2.2.2.2.2.2.1 epC.2.2.1.2.2.2.2.2.2.2 epC.2.2.2.1.1 epC.2.2.2.1.2.1 epC.2.2.2.1.2.2.1 epC.2.2.2.1.2.2.2.1 epC.2.2.2.1.2.2.2.2.1 kk epC.2.2.2.1.2.2.2.2.2.2.1 x v epC.2.2.2.2.1.2.1 epC.2.2.2.2.1.2.2.1 epC.2.2.2.2.1.2.2.2.1 epC.2.2.2.2.1.2.2.2.2.1 o1 epC.2.2.2.2.1.2.2.2.2.2.2.1 b rown)) := by
  refine' ⟨_, fun k_1 => ?main⟩
  case main =>
    intro hh hroom X T hlo hI hz hout hi hx hv F hl hl1 h ho1 ho1d hru hzr hTIr hTOr hi1r n1 n2 n3 n4 n5 n6 hzz hT N0 az aTI aTO ai1 ar oz oTI oTO oi1 zL z0 TOL TO0 i1L i10 hTI
    unfold pyNext
    refine wpAny_bind (wpAny_attempt (wpAny_callSpecial?_slot (name := Str.ofString "__next__") hT PySem.F.slot_zip_next
      (wpAny_call_entry PySem.F.slot_zip_next hT PySem.F.entry_zip_next ?_ (PySem.F.args_zip_next_1 _))))
    show wpAny _ A.in1 (field (.ref z) 2 >>= _) _ _ _
    refine wpAny_bind (wpAny_field hzz rfl (x := .bool false) rfl ?_)
    show wpAny _ _ (field (.ref z) 3 >>= _) _ _ _
    refine wpAny_bind (wpAny_field hzz rfl (x := .ref TI) rfl ?_)
    refine wpAny_bind (wpAny_seqItems hTI rfl ?_)
    show wpAny _ _ (Builtin.SmallTypes.ownedTupleIsFree (.ref z) >>= _) _ _ _
    refine wpAny_bind ?_
    unfold Builtin.SmallTypes.ownedTupleIsFree
    refine wpAny_bind (wpAny_field hzz rfl (x := .none) rfl (wpAny_pure ?_))
    simp only [if_true]
    refine wpAny_bind (wpAny_rule ?_)
    refine wpAny_bind (wpAny_field hzz rfl (x := .ref TO) rfl ?_)
    refine wpAny_bind (wpAny_setField_rec hzz (by simp) fun h₁ hz₁ hs₁ => ?_)
    replace hz₁ : IsZip h₁ z TI TO .ellipsis := hz₁
    have F1 := F.change hs₁ zL z0
    have N1 := N0.setHead (off_cons.mpr ⟨n1.symm, off_cons.mpr ⟨n2.symm, off_cons.mpr ⟨n3.symm, oz⟩⟩⟩) hs₁ hz₁
    clear N0
    refine wpAny_bind ?_
    simp only [List.zipIdx_cons, List.zipIdx_nil, List.forIn_cons, List.forIn_nil]
    refine wpAny_bind (wpAny_bind (wpAny_onRaise ?_))
    show wpAny _ _ (Builtin.SmallTypes.nextOf (.ref i1) >>= _) _ _ _
    refine wpAny_bind (wpAny_nextOf_list_item ⟨o1, (N1 _ (.tail _ (.tail _ (.tail _ (.head _))))).1, ho1, ho1d⟩ ⟨_, (N1 _ (.tail _ (.tail _ (.tail _ (.tail _ (List.mem_append_right _ hl1)))))).1, rfl, kk, rfl⟩ (by simpa using hv) fun h₂ h1₂ hs₂ => wpAny_pure ?_)
    refine byC fun hGZ => ?_
    obtain ⟨o2, ho2, ho2c, ho2d⟩ := h1₂
    refine hGZ ?_; clear hGZ
    have F2 := F1.change hs₂ i1L i10
    have N2 := news_upd N1 (.tail n3 (.tail n5 (.tail n6 (.head oi1)))) hs₂ ho2
    clear N1
    refine wpAny_bind (wpAny_seqItems (N2 _ (.tail _ (.tail _ (.head _)))).1 rfl ?_)
    refine wpAny_bind (wpAny_updateSeq_pair (N2 _ (.tail _ (.tail _ (.head _)))).1 fun h₃ hTO₃ hs₃ => ?_)
    replace hTO₃ : IsPair h₃ TO v b := hTO₃
    have F3 := F2.change hs₃ TOL TO0
    have N3 := news_upd N2 (.tail n2 (.tail n4 (.head (off_cons.mpr ⟨n6.symm, oTO⟩)))) hs₃ hTO₃
    clear N2
    refine wpAny_bind (wpAny_letGo (wpAny_pure ?_))
    refine wpAny_bind (wpAny_bind (wpAny_onRaise ?_))
    show wpAny _ _ (Builtin.SmallTypes.nextOf (.ref G) >>= _) _ _ _
    have N3' : News h₀ L h₃ (rown ++ ((z, { cls := .type "zip", dict := none, data := .fields #[.ellipsis, .bool false, .bool false, .ref TI, .ref TO], slots := #[] }) :: (TI, { cls := .type "tuple", data := .seq #[.ref i1, .ref G] }) :: (TO, { cls := .type "tuple", data := .seq #[v, b] }) :: (i1, o2) :: nx)) := by
      refine news_sub N3 fun p hp => ?_
      rcases List.mem_append.mp hp with hp | hp
      · exact .tail _ (.tail _ (.tail _ (.tail _ (List.mem_append_left _ hp))))
      · rcases List.mem_cons.mp hp with rfl | hp
        · exact .head _
        · rcases List.mem_cons.mp hp with rfl | hp
          · exact .tail _ (.head _)
          · rcases List.mem_cons.mp hp with rfl | hp
            · exact .tail _ (.tail _ (.head _))
            · rcases List.mem_cons.mp hp with rfl | hp
              · exact .tail _ (.tail _ (.tail _ (.head _)))
              · exact .tail _ (.tail _ (.tail _ (.tail _ (List.mem_append_right _ hp))))
    refine wpAny_bind (ru_item_nextOf (A := A.in1) hh hroom X T hlo hI hz hout hi hx hru F3 N3' (.tail _ (.tail _ (.tail _ (.tail _ hl)))) ?_ fun t rown' h₄ tk₄ g₄ hru' ha' F4 N4 => wpAny_pure ?_)
    · exact fun q hq => off_cons.mpr ⟨fun e => hzr q hq e.symm, off_cons.mpr ⟨fun e => hTIr q hq e.symm, off_cons.mpr ⟨fun e => hTOr q hq e.symm, off_cons.mpr ⟨fun e => hi1r q hq e.symm, ar q hq⟩⟩⟩⟩
    clear N3 N3'
    have hzr' : Off z rown' := fun p hp e => (ha' p hp) _ (.head _) e.symm
    have hTIr' : Off TI rown' := fun p hp e => (ha' p hp) _ (.tail _ (.head _)) e.symm
    have hTOr' : Off TO rown' := fun p hp e => (ha' p hp) _ (.tail _ (.tail _ (.head _))) e.symm
    have hi1r' : Off i1 rown' := fun p hp e => (ha' p hp) _ (.tail _ (.tail _ (.tail _ (.head _)))) e.symm
    have ar' : Apart rown' nx := fun q hq p hp => (ha' q hq) p (.tail _ (.tail _ (.tail _ (.tail _ hp))))
    have N5 : News h₀ L h₄ ((z, { cls := .type "zip", dict := none, data := .fields #[.ellipsis, .bool false, .bool false, .ref TI, .ref TO], slots := #[] }) :: (TI, { cls := .type "tuple", data := .seq #[.ref i1, .ref G] }) :: (TO, { cls := .type "tuple", data := .seq #[v, b] }) :: (i1, o2) :: (rown' ++ nx)) := by
      refine news_sub N4 fun p hp => ?_
      rcases List.mem_cons.mp hp with rfl | hp
      · exact List.mem_append_right _ (.head _)
      · rcases List.mem_cons.mp hp with rfl | hp
        · exact List.mem_append_right _ (.tail _ (.head _))
        · rcases List.mem_cons.mp hp with rfl | hp
          · exact List.mem_append_right _ (.tail _ (.tail _ (.head _)))
          · rcases List.mem_cons.mp hp with rfl | hp
            · exact List.mem_append_right _ (.tail _ (.tail _ (.tail _ (.head _))))
            · rcases List.mem_append.mp hp with hp | hp
              · exact List.mem_append_left _ hp
              · exact List.mem_append_right _ (.tail _ (.tail _ (.tail _ (.tail _ hp))))
    clear N4
    revert hh hroom X T hlo hI hz hout hi hx hv F hl hl1 h ho1 ho1d hru hzr hTIr hTOr hi1r n1 n2 n3 n4 n5 n6 hzz hT az aTI aTO ai1 ar oz oTI oTO oi1 zL z0 TOL TO0 i1L i10 hTI hs₁ hz₁ F1 hs₂ ho2 ho2c ho2d F2 hs₃ hTO₃ F3 hru' ha' F4 hzr' hTIr' hTOr' hi1r' ar' N5
    exact k_1 h₁ h₂ o2 h₃ t rown' h₄ tk₄ g₄
namespace sB
noncomputable abbrev tyC := (Heap × Heap × Obj × Heap × Tok × (List (Addr × Obj)) × Heap × Nat) × Array GenState
def prP := body.1
def prQ (x : tyC) : Prop := prP x.1.1 x.1.2.1 x.1.2.2.1 x.1.2.2.2.1 x.1.2.2.2.2.1 x.1.2.2.2.2.2.1 x.1.2.2.2.2.2.2.1 x.1.2.2.2.2.2.2.2 x.2
noncomputable def inI : tyC := default
def epC : tyC := eps inI prQ
@[irreducible] def o2 := epC.1.2.2.1
@[irreducible] def t := epC.1.2.2.2.2.1
@[irreducible] def rown' := epC.1.2.2.2.2.2.1
theorem sB_main : prP epC.1.1 epC.1.2.1 o2 epC.1.2.2.2.1 t rown' epC.1.2.2.2.2.2.2.1 epC.1.2.2.2.2.2.2.2 epC.2 := by
  intro hh hroom X T hlo hI hz hout hi hx hv F hl hl1 h ho1 ho1d hru hzr hTIr hTOr hi1r n1 n2 n3 n4 n5 n6 hzz hT az aTI aTO ai1 ar oz oTI oTO oi1 zL z0 TOL TO0 i1L i10 hTI hs₁ hz₁ F1 hs₂ ho2 ho2c ho2d F2 hs₃ hTO₃ F3 hru' ha' F4 hzr' hTIr' hTOr' hi1r' ar' N5
  refine wpAny_bind (wpAny_seqItems (N5 _ (.tail _ (.tail _ (.head _)))).1 rfl ?_)
  refine wpAny_bind (wpAny_updateSeq_pair (N5 _ (.tail _ (.tail _ (.head _)))).1 fun h₅ hTO₅ hs₅ => ?_)
  replace hTO₅ : IsPair h₅ TO v (.int x t) := hTO₅
  have F5 := F4.change hs₅ TOL TO0
  have N6 := news_upd N5 (.tail n2 (.tail n4 (.head (off_cons.mpr ⟨n6.symm, off_app hTOr' aTO⟩)))) hs₅ hTO₅
  clear N5
  refine wpAny_bind (wpAny_letGo (wpAny_pure (wpAny_pure ?_)))
  refine wpAny_bind (wpAny_seqItems hTO₅ rfl ?_)
  refine wpAny_bind (wpAny_newTuple ?_)
  have F6 := F5.push { cls := .type "tuple", data := .seq #[v, .int x t] }
  have N7 := News.push F5 N6 { cls := .type "tuple", data := .seq #[v, .int x t] }
  have hlt := news_lt N6
  clear N6
  show wpAny _ _ (Builtin.SmallTypes.ownedTupleHandOut (.ref z) (.ref h₅.objs.size) >>= _) _ _ _
  refine wpAny_bind ?_
  unfold Builtin.SmallTypes.ownedTupleHandOut
  obtain ⟨D, hD⟩ : ∃ D, D = h₅.objs.size := ⟨_, rfl⟩
  rw [← hD] at N7 hlt ⊢
  generalize h₅.push { cls := .type "tuple", data := .seq #[v, .int x t] } = h₆ at F6 N7 ⊢
  have hzD : z ≠ D := Nat.ne_of_lt (hlt _ (.head _))
  have ozD : Off z ((TI, { cls := .type "tuple", data := .seq #[.ref i1, .ref G] }) :: (TO, { cls := .type "tuple", data := .seq #[v, .int x t] }) :: (i1, o2) :: (rown' ++ nx)) := off_cons.mpr ⟨n1.symm, off_cons.mpr ⟨n2.symm, off_cons.mpr ⟨n3.symm, off_app hzr' az⟩⟩⟩
  refine wpAny_bind (wpAny_setField_rec (N7 _ (.tail _ (.head _))).1 (by simp) fun h₇ hz₇ hs₇ => ?_)
  replace hz₇ : IsZip h₇ z TI TO (rawInt D) := hz₇
  have F7 := F6.change hs₇ zL z0
  have N8 := news_upd N7 (.tail hzD.symm (.head ozD)) hs₇ hz₇
  refine wpAny_setField_rec hz₇ (by simp) fun h₈ hz₈ hs₈ => ?_
  replace hz₈ : IsZip h₈ z TI TO (rawInt D) := hz₈
  have F8 := F7.change hs₈ zL z0
  have N9 := news_upd N8 (.tail hzD.symm (.head ozD)) hs₈ hz₈
  clear N7 N8
  refine wpAny_pure ⟨_, rfl, ?_⟩
  refine wpAny_pure ?_
  show wpAny _ A (letOwnedTupleGo _ _ _) _ _ _
  refine wpAny_letOwnedTupleGo_zip hz₈ fun h₉ hz₉ hs₉ => ?_
  have F9 := F8.change hs₉ zL z0
  have N10 := news_upd N9 (.tail hzD.symm (.head ozD)) hs₉ hz₉
  refine h D t _ h₉ _ _ ⟨o2, v, .int x t, rown', rfl, ho2c, ho2d, hru', hzr', hTIr', hTOr', hi1r', n1, n2, n3, n4, n5, n6⟩ ?_ F9 N10 ?_
  · intro q hq
    rcases List.mem_cons.mp hq with rfl | hq
    · exact az
    · rcases List.mem_cons.mp hq with rfl | hq
      · exact aTI
      · rcases List.mem_cons.mp hq with rfl | hq
        · exact aTO
        · rcases List.mem_cons.mp hq with rfl | hq
          · exact ai1
          · exact ar' q hq
  · intro q hq
    rcases List.mem_cons.mp hq with rfl | hq
    · have q9 := hlt _ (.head _)
      exact q9
    · exact hlt q (.tail _ hq)
theorem all : ∀ x, prQ x := @sk tyC inI prQ (by with_unfolding_all exact @sB_main)
end sB
end seg_sA_main
theorem sA_main : prP epC.1.1 A epC.1.2.2.1 epC.1.2.2.2.1 h₀ L G epC.1.2.2.2.2.2.2.2 epC.2.1.1 z TI TO i1 epC.2.1.2.2.2.2.2.1 epC.2.1.2.2.2.2.2.2.1 epC.2.1.2.2.2.2.2.2.2 epC.2.2.1.1 epC.2.2.1.2.1 epC.2.2.1.2.2.1 nx p epC.2.2.1.2.2.2.2.2.1 epC.2.2.1.2.2.2.2.2.2.1 epC.2.2.1.2.2.2.2.2.2.2 epC.2.2.2.1.1 epC.2.2.2.1.2.1 epC.2.2.2.1.2.2.1 epC.2.2.2.1.2.2.2.1 epC.2.2.2.1.2.2.2.2.1 kk epC.2.2.2.1.2.2.2.2.2.2.1 x v epC.2.2.2.2.1.2.1 epC.2.2.2.2.1.2.2.1 epC.2.2.2.2.1.2.2.2.1 epC.2.2.2.2.1.2.2.2.2.1 o1 epC.2.2.2.2.1.2.2.2.2.2.2.1 b rown := @PSigma.snd _ _ seg_sA_main.body (fun a b c d e f g h i => @seg_sA_main.sB.all ((a, b, c, d, e, f, g, h), i))
theorem all : ∀ x, prQ x := @sk tyC inI prQ (by with_unfolding_all exact @sA_main)
end sA
end seg_zip_turn_all
theorem zip_turn_all : ∀ (w : World) (A : Around) (E : Value → Shared → Prop) (s : Shared) (h₀ : Heap) (L : Addr) (G : Addr) (Lg : Addr) (l : Addr) (z : Addr) (TI : Addr) (TO : Addr) (i1 : Addr) (l1 : Addr) (lo : Obj) (gi : Nat) (N : Nat) (out : Nat → Option Int) (m : Str → Option Value) (own : List (Addr × Obj)) (nx : List (Addr × Obj)) (hh : A.handled = none) (hroom : A.depth < recursionLimit) (X : (hd.heap_1 w.params).In h₀) (p : Program) (loose : List Str) (mean : ExcName → Option Value) (mg mb : Str → Option Value) (T : Top p loose mean mg mb h₀) (vs : List Value) (ns : List Int) (nn : Nat) (hlo : lo = W.listOf vs.toArray nn) (hI : IntsAre vs ns) (hz : ns.head? ≠ some 0) (hout : ∀ j, go ns none j = out j) (ws : List Value) (kk i : Nat) (x : Int) (v : Value) (hi : i + 1 < N) (hx : out i = some x) (hv : ws[i]? = some v) (Q : Value → Shared → Prop) (hst : zpSt w A h₀ z TI TO i1 l1 G Lg l lo gi N out i own s.gens) (F : Fr h₀ L s.heap m) (Ns : News h₀ L s.heap (own ++ nx)) (hl : (l, lo) ∈ nx) (hl1 : (l1, W.listOf ws.toArray kk) ∈ nx) (ha : Apart own nx) (elts : List PySem.Expr) (xc : Nat) (pos : Pos) (h : ∀ D t own' h' tk' g', zpSt w A h₀ z TI TO i1 l1 G Lg l lo gi N out (i + 1) own' g' → Apart own' nx → Fr h₀ L h' m → News h₀ L h' ([(D, { cls := .type "tuple", data := .seq #[v, .int x t] })] ++ (own' ++ nx)) → (∀ q ∈ own' ++ nx, @LT.lt Nat _ q.1 D) → Q (.ref D) { s with heap := h', toks := tk', gens := g' }),
    wpAny (model PySem.Challenge.rw_wv0034_01.row.prog w) A (pyNext (.ref z)) (fun r s₁ => match r with | none => False | some v => wpAny (model PySem.Challenge.rw_wv0034_01.row.prog w) A (letOwnedTupleGo (.Tuple elts xc pos) (.ref z) v) (fun _ s₂ => Q v s₂) E s₁) E s := @PSigma.snd _ _ seg_zip_turn_all.body (fun a b c d e f g h i j k l m n o p q r s t u v w x y z a1 b1 c1 d1 e1 f1 g1 h1 i1 j1 k1 l1 m1 n1 o1 => @seg_zip_turn_all.sA.all ((a, b, c, d, e, f, g, h), (i, j, k, l, m, n, o, p), (q, r, s, t, u, v, w, x), (y, z, a1, b1, c1, d1, e1, f1), (g1, h1, i1, j1, k1, l1, m1, n1), o1))
section
variable {w : World} {A : Around} {E : Value → Shared → Prop} {s : Shared} {h₀ : Heap} {L G Lg l z TI TO i1 l1 : Addr} {lo : Obj} {gi N : Nat} {out : Nat → Option Int} {m : Str → Option Value} {own nx : List (Addr × Obj)}
theorem zip_turn (hh : A.handled = none) (hroom : A.depth < recursionLimit) (X : (hd.heap_1 w.params).In h₀) {p : Program} {loose : List Str} {mean : ExcName → Option Value} {mg mb : Str → Option Value} (T : Top p loose mean mg mb h₀)
    {vs : List Value} {ns : List Int} {nn : Nat} (hlo : lo = W.listOf vs.toArray nn) (hI : IntsAre vs ns) (hz : ns.head? ≠ some 0) (hout : ∀ j, go ns none j = out j)
    {ws : List Value} {kk i : Nat} {x : Int} {v : Value} (hi : i + 1 < N) (hx : out i = some x) (hv : ws[i]? = some v) {Q : Value → Shared → Prop} (hst : zpSt w A h₀ z TI TO i1 l1 G Lg l lo gi N out i own s.gens) (F : Fr h₀ L s.heap m) (Ns : News h₀ L s.heap (own ++ nx)) (hl : (l, lo) ∈ nx) (hl1 : (l1, W.listOf ws.toArray kk) ∈ nx) (ha : Apart own nx)
    {elts : List PySem.Expr} {xc : Nat} {pos : Pos}
    (h : ∀ D t own' h' tk' g', zpSt w A h₀ z TI TO i1 l1 G Lg l lo gi N out (i + 1) own' g' → Apart own' nx → Fr h₀ L h' m → News h₀ L h' ([(D, { cls := .type "tuple", data := .seq #[v, .int x t] })] ++ (own' ++ nx)) → (∀ q ∈ own' ++ nx, @LT.lt Nat _ q.1 D) → Q (.ref D) { s with heap := h', toks := tk', gens := g' }) :
    wpAny (model PySem.Challenge.rw_wv0034_01.row.prog w) A (pyNext (.ref z)) (fun r s₁ => match r with | none => False | some v => wpAny (model PySem.Challenge.rw_wv0034_01.row.prog w) A (letOwnedTupleGo (.Tuple elts xc pos) (.ref z) v) (fun _ s₂ => Q v s₂) E s₁) E s := zip_turn_all w A E s h₀ L G Lg l z TI TO i1 l1 lo gi N out m own nx hh hroom X p loose mean mg mb T vs ns nn hlo hI hz hout ws kk i x v hi hx hv Q hst F Ns hl hl1 ha elts xc pos h
theorem zip_done (hh : A.handled = none) {ws : List Value} {kk : Nat} {Q : Option Value → Shared → Prop} (hst : zpSt w A h₀ z TI TO i1 l1 G Lg l lo gi N out ws.length own s.gens) (F : Fr h₀ L s.heap m) (Ns : News h₀ L s.heap (own ++ nx)) (hl1 : (l1, W.listOf ws.toArray kk) ∈ nx) (ha : Apart own nx)
    (h : ∀ h' tk' g', AllBare g' → Fr h₀ L h' m → News h₀ L h' nx → Q none { s with heap := h', toks := tk', gens := g' }) :
    wpAny (model PySem.Challenge.rw_wv0034_01.row.prog w) A (pyNext (.ref z)) Q E s := by
  refine byC fun hGZ => ?_
  obtain ⟨o1, a, b, rown, rfl, ho1, ho1d, hru, hzr, hTIr, hTOr, hi1r, n1, n2, n3, n4, n5, n6⟩ := hst
  refine hGZ ?_; clear hGZ
  have hzz := (Ns _ (.head _)).1
  have hT : s.TypeIs (.ref z) "zip" := ⟨_, hzz, rfl⟩
  have N0 : News h₀ L s.heap ((z, { cls := .type "zip", dict := none, data := .fields #[.none, .bool false, .bool false, .ref TI, .ref TO], slots := #[] }) :: (TI, { cls := .type "tuple", data := .seq #[.ref i1, .ref G] }) :: (TO, { cls := .type "tuple", data := .seq #[a, b] }) :: (i1, o1) :: (rown ++ nx)) := Ns
  clear Ns
  have az := ha _ (.head _)
  have ai1 := ha _ (.tail _ (.tail _ (.tail _ (.head _))))
  have zL : z ≠ L := (N0 _ (.head _)).2.1
  have z0 := (N0 _ (.head _)).2.2
  have i1L : i1 ≠ L := (N0 _ (.tail _ (.tail _ (.tail _ (.head _))))).2.1
  have i10 := (N0 _ (.tail _ (.tail _ (.tail _ (.head _))))).2.2
  have hTI := (N0 _ (.tail _ (.head _))).1
  have Nx : News h₀ L s.heap nx := news_sub N0 fun p hp => .tail _ (.tail _ (.tail _ (.tail _ (List.mem_append_right _ hp))))
  unfold pyNext
  refine wpAny_bind (wpAny_attempt (wpAny_callSpecial?_slot (name := Str.ofString "__next__") hT PySem.F.slot_zip_next
    (wpAny_call_entry PySem.F.slot_zip_next hT PySem.F.entry_zip_next ?_ (PySem.F.args_zip_next_1 _))))
  show wpAny _ A.in1 (field (.ref z) 2 >>= _) _ _ _
  refine wpAny_bind (wpAny_field hzz rfl (x := .bool false) rfl ?_)
  show wpAny _ _ (field (.ref z) 3 >>= _) _ _ _
  refine wpAny_bind (wpAny_field hzz rfl (x := .ref TI) rfl ?_)
  refine wpAny_bind (wpAny_seqItems hTI rfl ?_)
  show wpAny _ _ (Builtin.SmallTypes.ownedTupleIsFree (.ref z) >>= _) _ _ _
  refine wpAny_bind ?_
  unfold Builtin.SmallTypes.ownedTupleIsFree
  refine wpAny_bind (wpAny_field hzz rfl (x := .none) rfl (wpAny_pure ?_))
  simp only [if_true]
  refine wpAny_bind (wpAny_rule ?_)
  refine wpAny_bind (wpAny_field hzz rfl (x := .ref TO) rfl ?_)
  refine wpAny_bind (wpAny_setField_rec hzz (by simp) fun h₁ hz₁ hs₁ => ?_)
  replace hz₁ : IsZip h₁ z TI TO .ellipsis := hz₁
  have F1 := F.change hs₁ zL z0
  have hl1' := hs₁.extBut _ _ (fun e => az _ hl1 e) (Nx _ hl1).1
  have hi1' := hs₁.extBut _ _ n3.symm (N0 _ (.tail _ (.tail _ (.tail _ (.head _))))).1
  refine wpAny_bind ?_
  simp only [List.zipIdx_cons, List.zipIdx_nil, List.forIn_cons, List.forIn_nil]
  refine wpAny_bind (wpAny_bind (wpAny_onRaise ?_))
  show wpAny _ _ (Builtin.SmallTypes.nextOf (.ref i1) >>= _) _ _ _
  refine wpAny_bind (wpAny_nextOf_list_end hh ⟨o1, hi1', ho1, ho1d⟩ ⟨_, hl1', rfl, kk, rfl⟩ (by simp) fun h₂ e hs₂ he => ?_)
  obtain ⟨oe, hoe, hce⟩ := he
  have F2 := fr_ext F1 hs₂ i1L i10
  have hz₂ : IsZip h₂ z TI TO .ellipsis := hs₂ _ _ n3 hz₁
  have hez : e ≠ z := fun x => by subst x; rw [hz₂] at hoe; cases hoe; simp at hce
  refine wpAny_setField_rec hz₂ (by simp) fun h₃ _ hs₃ => ?_
  have F3 := F2.change hs₃ zL z0
  refine wpAny_bind (wpAny_isInstance (T := "StopIteration") (b := true) ⟨oe, hs₃.extBut _ _ hez hoe, hce⟩ isSubtype_stop ?_)
  refine wpAny_pure ?_
  refine h h₃ _ s.gens hru.bare F3 fun p hp => ⟨?_, (Nx p hp).2⟩
  exact hs₃.extBut _ _ (az p hp) (hs₂ _ _ (ai1 p hp) (hs₁.extBut _ _ (az p hp) (Nx p hp).1))
noncomputable abbrev zgH1 (h : Heap) (l1 : Addr) : Heap := h.push { cls := .type "list_iterator", data := .fields #[.ref l1, .int 0 0] }
noncomputable abbrev zgH2 (h : Heap) (l1 G : Addr) : Heap := (zgH1 h l1).push { cls := .type "tuple", data := .seq #[.ref h.objs.size, .ref G] }
noncomputable abbrev zgH3 (h : Heap) (l1 G : Addr) : Heap := (zgH2 h l1 G).push { cls := .type "tuple", data := .seq #[.none, .none] }
noncomputable abbrev zgH4 (h : Heap) (l1 G : Addr) : Heap := (zgH3 h l1 G).push { cls := .type "zip", data := .fields #[.none, .bool false, .bool false, .ref (zgH1 h l1).objs.size, .ref (zgH2 h l1 G).objs.size] }
theorem meets_zip_gen (l1 G : Addr) (gi : Nat) (xs : Array Value) :
    Meets (Builtin.«zip.__new__» ⟨[.type "zip", .ref l1, .ref G], []⟩) (fun _ R s => s.heap.IsList l1 xs ∧ s.heap.IsGen G gi ∧
      R (.ok (.ret (.ref (zgH3 s.heap l1 G).objs.size))) { s with heap := zgH4 s.heap l1 G }) :=
  .of_wp fun prog w A R s h => by
    obtain ⟨hp, g, d, tk, os⟩ := s; obtain ⟨hl1, hl2, h⟩ := h
    have hsub := sub_zip
    have hL1 : Heap.IsList (Shared.heap ⟨hp, g, d, tk, os⟩) l1 xs := hl1
    have hL2 : Heap.IsGen (Shared.heap ⟨hp.push { cls := .type "list_iterator", data := .fields #[.ref l1, .int 0 0] }, g, d, tk, os⟩) G gi := Heap.IsGen.push hl2 _
    wp_walk using wpAny_pyIter_list hL1, wpAny_pyIter_gen hL2
    exact ⟨_, rfl, h⟩
theorem call_zip {l1 : Addr} {ws : List Value} {kk : Nat} {rown news : List (Addr × Obj)} {Q : Value → Shared → Prop} (hru : ruSt w A.in1 h₀ G Lg l lo gi N out 0 rown s.gens) (F : Fr h₀ L s.heap m) (Ns : News h₀ L s.heap (rown ++ news)) (ha : Apart rown news) (hl1 : (l1, W.listOf ws.toArray kk) ∈ news)
    (h : ∀ z TI TO i1 own h' tk', zpSt w A h₀ z TI TO i1 l1 G Lg l lo gi N out 0 own s.gens → Fr h₀ L h' m → News h₀ L h' (own ++ news) → Apart own news → Q (.ref z) { s with heap := h', toks := tk' }) :
    wpAny (model PySem.Challenge.rw_wv0034_01.row.prog w) A (call (.type "zip") [.ref l1, .ref G]) Q E s := by
  refine byC fun hGZ => ?_
  obtain ⟨hb, hGg, habove, oG, oL, rfl, hoG, hns, hgs⟩ := hru
  refine hGZ ?_; clear hGZ
  have hN1 := (Ns _ (List.mem_append_right _ hl1)).1
  refine callType_new PySem.F.called_zip (by decide) (PySem.F.typeCall_zip_2 _ _) (PySem.F.newCall_zip_2 _ _) (fun obj => PySem.F.args_object_init_3 obj _ _) PySem.F.entry_zip_new
    (meets_zip_gen l1 G gi ws.toArray) ⟨⟨_, hN1, rfl, kk, rfl⟩, hoG.isGen (Ns _ (.head _)).1, ?_⟩
  have F1 := F.push { cls := .type "list_iterator", data := .fields #[.ref l1, .int 0 0] }
  have N1 := News.push F Ns { cls := .type "list_iterator", data := .fields #[.ref l1, .int 0 0] }
  have F2 := F1.push { cls := .type "tuple", data := .seq #[.ref s.heap.objs.size, .ref G] }
  have N2 := News.push F1 N1 { cls := .type "tuple", data := .seq #[.ref s.heap.objs.size, .ref G] }
  have F3 := F2.push { cls := .type "tuple", data := .seq #[.none, .none] }
  have N3 := News.push F2 N2 { cls := .type "tuple", data := .seq #[.none, .none] }
  have F4 := F3.push { cls := .type "zip", data := .fields #[.none, .bool false, .bool false, .ref (zgH1 s.heap l1).objs.size, .ref (zgH2 s.heap l1 G).objs.size] }
  have N4 := News.push F3 N3 { cls := .type "zip", data := .fields #[.none, .bool false, .bool false, .ref (zgH1 s.heap l1).objs.size, .ref (zgH2 s.heap l1 G).objs.size] }
  have l0 := news_lt Ns
  have l1' := news_lt N1
  have l2 := news_lt N2
  have l3 := news_lt N3
  show _ ∧ _
  refine ⟨⟨_, (N4 _ (.head _)).1, rfl⟩, ?_⟩
  refine byC fun hGZ => ?_
  obtain ⟨i1, hi1⟩ : ∃ d, d = s.heap.objs.size := ⟨_, rfl⟩
  obtain ⟨TI, hTI⟩ : ∃ d, d = (zgH1 s.heap l1).objs.size := ⟨_, rfl⟩
  obtain ⟨TO, hTO⟩ : ∃ d, d = (zgH2 s.heap l1 G).objs.size := ⟨_, rfl⟩
  obtain ⟨z, hz⟩ : ∃ d, d = (zgH3 s.heap l1 G).objs.size := ⟨_, rfl⟩
  refine hGZ ?_; clear hGZ
  show Q (.ref (zgH3 s.heap l1 G).objs.size) _
  rw [← hz]
  have N4' : News h₀ L (zgH4 s.heap l1 G) ((z, { cls := .type "zip", dict := none, data := .fields #[.none, .bool false, .bool false, .ref TI, .ref TO], slots := #[] }) :: (TO, { cls := .type "tuple", data := .seq #[.none, .none] }) :: (TI, { cls := .type "tuple", data := .seq #[.ref i1, .ref G] }) :: (i1, { cls := .type "list_iterator", data := .fields #[.ref l1, .int 0 0] }) :: ([(G, oG), (Lg, oL)] ++ news)) := by
    subst hz hTO hTI hi1; exact N4
  have e1 : @LT.lt Nat _ i1 TI := by subst hTI hi1; exact l1' _ (.head _)
  have e2 : @LT.lt Nat _ TI TO := by subst hTO hTI; exact l2 _ (.head _)
  have e3 : @LT.lt Nat _ TO z := by subst hz hTO; exact l3 _ (.head _)
  have hlt : ∀ p ∈ [(G, oG), (Lg, oL)] ++ news, @LT.lt Nat _ p.1 i1 := by subst hi1; exact l0
  refine h z TI TO i1 ((z, { cls := .type "zip", dict := none, data := .fields #[.none, .bool false, .bool false, .ref TI, .ref TO], slots := #[] }) :: (TI, { cls := .type "tuple", data := .seq #[.ref i1, .ref G] }) :: (TO, { cls := .type "tuple", data := .seq #[.none, .none] }) :: (i1, { cls := .type "list_iterator", data := .fields #[.ref l1, .int 0 0] }) :: [(G, oG), (Lg, oL)]) _ _
    ⟨_, .none, .none, [(G, oG), (Lg, oL)], rfl, rfl, rfl, ⟨hb, hGg, habove, oG, oL, rfl, hoG, hns, hgs⟩, ?_, ?_, ?_, ?_, ?_, ?_, ?_, ?_, ?_, ?_⟩ F4 ?_ ?_
  · exact fun p hp => by have := hlt p (List.mem_append_left _ hp); exact neN (by (first | exact om223 e1 e2 e3 this | omega))
  · exact fun p hp => by have := hlt p (List.mem_append_left _ hp); exact neN (by (first | exact om224 e1 this | omega))
  · exact fun p hp => by have := hlt p (List.mem_append_left _ hp); exact neN (by (first | exact om225 e1 e2 this | omega))
  · exact fun p hp => by have := hlt p (List.mem_append_left _ hp); exact neN (by (first | exact om226 this | omega))
  · exact neN (by (first | exact om227 e2 e3 | omega))
  · exact neN (by (first | exact om228 e3 | omega))
  · exact neN (by (first | exact om229 e1 e2 e3 | omega))
  · exact neN (by (first | exact om230 e2 | omega))
  · exact neN (by (first | exact om228 e1 | omega))
  · exact neN (by (first | exact om227 e1 e2 | omega))
  · refine news_sub N4' fun p hp => ?_
    rcases List.mem_cons.mp hp with rfl | hp
    · exact .head _
    · rcases List.mem_cons.mp hp with rfl | hp
      · exact .tail _ (.tail _ (.head _))
      · rcases List.mem_cons.mp hp with rfl | hp
        · exact .tail _ (.head _)
        · exact .tail _ (.tail _ (.tail _ hp))
  · intro q hq
    have hn : ∀ p ∈ news, @LT.lt Nat _ p.1 i1 := fun p hp => hlt p (List.mem_append_right _ hp)
    rcases List.mem_cons.mp hq with rfl | hq
    · exact fun p hp => by have := hn p hp; exact neN (by dsimp only; (first | exact om223 e1 e2 e3 this | omega))
    · rcases List.mem_cons.mp hq with rfl | hq
      · exact fun p hp => by have := hn p hp; exact neN (by dsimp only; (first | exact om224 e1 this | omega))
      · rcases List.mem_cons.mp hq with rfl | hq
        · exact fun p hp => by have := hn p hp; exact neN (by dsimp only; (first | exact om225 e1 e2 this | omega))
        · rcases List.mem_cons.mp hq with rfl | hq
          · exact fun p hp => by have := hn p hp; exact neN (by dsimp only; (first | exact om226 this | omega))
          · exact ha q hq
theorem it_zip (hh : A.handled = none) (hroom : A.depth < recursionLimit) (X : (hd.heap_1 w.params).In h₀) {p : Program} {loose : List Str} {mean : ExcName → Option Value} {mg mb : Str → Option Value} (T : Top p loose mean mg mb h₀)
    {vs : List Value} {ns : List Int} {nn : Nat} (hlo : lo = W.listOf vs.toArray nn) (hI : IntsAre vs ns) (hz : ns.head? ≠ some 0) (hout : ∀ j, go ns none j = out j)
    {ws : List Value} {kk : Nat} (hN : ws.length < N) (hx : ∀ i, i < ws.length → ∃ x, out i = some x) {elts : List PySem.Expr} {xc : Nat} {pos : Pos} :
    ItT PySem.Challenge.rw_wv0034_01.row.prog w A h₀ (.Tuple elts xc pos) z [(l1, W.listOf ws.toArray kk), (l, lo)] ws.length
      (fun i v ex => ∃ D x t y, v = .ref D ∧ ws[i]? = some y ∧ out i = some x ∧ ex = [(D, { cls := .type "tuple", data := .seq #[y, .int x t] })]) (zpSt w A h₀ z TI TO i1 l1 G Lg l lo gi N out) AllBare where
  item := by
    intro L E i own m nx s Q hi hst F Ns hsrc ha k
    obtain ⟨x, hx⟩ := hx i hi
    refine zip_turn hh hroom X T hlo hI hz hout (by (first | exact om222 hN hi | omega)) hx (List.getElem?_eq_getElem hi) hst F Ns (hsrc _ (.tail _ (.head _))) (hsrc _ (.head _)) ha fun D t own' h' tk' g' hst' ha' F' N' hl => ?_
    exact k _ own' _ h' tk' g' ⟨D, x, t, _, rfl, List.getElem?_eq_getElem hi, hx, rfl⟩ hst' ha' F' N' (fun p hp q hq => by rw [List.mem_singleton.mp hp]; exact hl q hq)
  done := by
    intro L E own m nx s Q hst F Ns hsrc ha k
    exact zip_done hh hst F Ns (hsrc _ (.head _)) ha k
end
end
section
section
variable {prog : Program} {w : World} {A : Around} {E : Value → Shared → Prop} {s : Shared} {h₀ : Heap} {L : Addr} {m : Str → Option Value} {news : List (Addr × Obj)}
theorem fr_ext2 {h h' : Heap} (F : Fr h₀ L h m) {own : List (Addr × Obj)} (hown : ∀ p ∈ own, p.1 ≠ L ∧ h₀.get? p.1 = none) (hs : ∀ b o, (∀ p ∈ own, b ≠ p.1) → h.get? b = some o → h'.get? b = some o) : Fr h₀ L h' m := by
  obtain ⟨oL, a1, a2, hoL, a3⟩ := F.ns
  refine ⟨⟨oL, a1, a2, hs L _ (fun p hp e => (hown p hp).1 e.symm) hoL, a3⟩, fun b x e => hs b x (fun p hp e9 => ?_) (F.keep b x e), F.above⟩
  rw [e9, (hown p hp).2] at e; cases e
noncomputable def enSt (e it l : Addr) (g0 : Array GenState) (i : Nat) (own : List (Addr × Obj)) (g : Array GenState) : Prop :=
  g = g0 ∧ e ≠ it ∧ ∃ old o, own = [(e, { cls := .type "enumerate", dict := none, data := .fields #[.none, .bool false, .ref it, rawInt i, .none, old], slots := #[] }), (it, o)] ∧ o.cls = .type "list_iterator" ∧ o.data = .fields #[.ref l, .int i 0]
theorem it_enum (hh : A.handled = none) {e it l : Addr} {g0 : Array GenState} {vs : List Value} {nn : Nat} {elts : List PySem.Expr} {k : Nat} {pos : Pos} :
    ItT prog w A h₀ (.Tuple elts k pos) e [(l, W.listOf vs.toArray nn)] vs.length (fun i v ex => ∃ D t x, v = .ref D ∧ vs[i]? = some x ∧ ex = [(D, { cls := .type "tuple", data := .seq #[.int i t, x] })]) (enSt e it l g0) (· = g0) where
  item := by
    rintro L E i own m nx s Q hi ⟨hg, hei, old, o, rfl, hc, hd⟩ F N hsrc ha k
    have ne := N _ (.head _)
    have ni := N _ (.tail _ (.head _))
    have nl := N _ (List.mem_append_right _ (hsrc _ (.head _)))
    refine wpAny_pyNext_enum_item ne.1 ⟨o, ni.1, hc, hd⟩ ⟨_, nl.1, rfl, nn, rfl⟩ (x := vs[i]) (by simp [hi]) hei fun h' hE hI hT hsz hk => ?_
    dsimp only
    obtain ⟨o', ho', hc', hd'⟩ := hI
    refine wpAny_letOwnedTupleGo_enum hE fun h2 hE2 hs2 => ?_
    obtain ⟨D, hD⟩ : ∃ D, D = s.heap.objs.size := ⟨_, rfl⟩
    rw [← hD] at hT ⊢
    have hlt := news_lt N
    rw [← hD] at hlt
    have heD : e ≠ D := Nat.ne_of_lt (hlt _ (.head _))
    have hiD : it ≠ D := Nat.ne_of_lt (hlt _ (.tail _ (.head _)))
    have keep : ∀ b ob, b ≠ e → b ≠ it → s.heap.get? b = some ob → h2.get? b = some ob := fun b ob h1 h3 e9 => hs2.extBut _ _ h1 (hk b ob h1 h3 e9)
    refine k (.ref D) [(e, { cls := .type "enumerate", dict := none, data := .fields #[.none, .bool false, .ref it, rawInt ((i : Int) + 1), .none, vs[i]], slots := #[] }), (it, o')] [(D, _)] h2 _ s.gens ⟨D, s.toks, vs[i], rfl, by simp [hi], rfl⟩ ⟨hg, hei, vs[i], o', rfl, hc', hd'⟩ ?_ ?_ ?_ ?_
    · intro q hq
      rcases List.mem_cons.mp hq with rfl | hq
      · have q9 := ha _ (.head _); exact q9
      · rw [List.mem_singleton.mp hq]; exact ha (it, o) (.tail _ (.head _))
    · refine fr_ext2 F (own := [(e, o), (it, o)]) (fun p hp => ?_) (fun b ob h1 e9 => keep b ob (h1 (e, o) (.head _)) (h1 (it, o) (.tail _ (.head _))) e9)
      rcases List.mem_cons.mp hp with rfl | hp
      · exact ne.2
      · rw [List.mem_singleton.mp hp]; exact ni.2
    · intro p hp
      rcases List.mem_cons.mp hp with rfl | hp
      · refine ⟨hs2.extBut _ _ heD.symm hT, ?_, ?_⟩
        · exact hD ▸ Nat.ne_of_gt F.ns.lt
        · exact hD ▸ Heap.get?_none_of_le (Nat.le_trans F.above (Nat.le_of_lt F.ns.lt))
      · rcases List.mem_cons.mp hp with rfl | hp
        · exact ⟨hE2, ne.2⟩
        · rcases List.mem_cons.mp hp with rfl | hp
          · exact ⟨hs2.extBut _ _ hei.symm ho', ni.2⟩
          · have q := N p (List.mem_append_right _ hp)
            exact ⟨keep _ _ (ha _ (.head _) p hp) (ha _ (.tail _ (.head _)) p hp) q.1, q.2⟩
    · intro p hp q hq
      rw [List.mem_singleton.mp hp]
      rcases List.mem_cons.mp hq with rfl | hq
      · have q9 := hlt _ (.head _); exact q9
      · rcases List.mem_cons.mp hq with rfl | hq
        · have q9 := hlt _ (.tail _ (.head _)); exact q9
        · exact hlt _ (.tail _ (.tail _ hq))
  done := by
    rintro L E own m nx s Q ⟨hg, hei, old, o, rfl, hc, hd⟩ F N hsrc ha k
    have ne := N _ (.head _)
    have ni := N _ (.tail _ (.head _))
    have nl := N _ (List.mem_append_right _ (hsrc _ (.head _)))
    refine wpAny_pyNext_enum_end hh ne.1 ⟨o, ni.1, hc, hd⟩ ⟨_, nl.1, rfl, nn, rfl⟩ (by simp) fun h' hs => ?_
    refine k h' s.toks s.gens hg (fr_ext F hs ni.2.1 ni.2.2) fun p hp => ?_
    have q := N p (List.mem_append_right _ hp)
    exact ⟨hs _ _ (ha _ (.tail _ (.head _)) p hp) q.1, q.2⟩
theorem call_enum {l : Addr} {vs : List Value} {nn : Nat} {Q : Value → Shared → Prop} (F : Fr h₀ L s.heap m) (N : News h₀ L s.heap news) (hm : (l, W.listOf vs.toArray nn) ∈ news)
    (h : ∀ e it own h', Fr h₀ L h' m → News h₀ L h' (own ++ news) → enSt e it l s.gens 0 own s.gens → Apart own news → (∀ q ∈ news, @LT.lt Nat _ q.1 it) → @LT.lt Nat _ it e → Q (.ref e) { s with heap := h' }) :
    wpAny (model prog w) A (call (.type "enumerate") [.ref l]) Q E s := by
  refine call_enumerate_list ⟨_, (N _ hm).1, rfl, nn, rfl⟩ fun h' hE hI hsz hk => ?_
  refine byC fun hGZ => ?_
  obtain ⟨o, ho, hc, hd⟩ := hI
  refine hGZ ?_; clear hGZ
  have hlt := news_lt N
  have hL := F.ns.lt
  have h0 : ∀ b : Nat, s.heap.objs.size ≤ b → h₀.get? b = none := fun b hb => Heap.get?_none_of_le (Nat.le_trans F.above (Nat.le_trans (Nat.le_of_lt hL) hb))
  refine h (s.heap.objs.size + 1) s.heap.objs.size _ h' (fr_ext2 F (own := []) (fun _ h => nomatch h) fun b ob _ e => hk b ob e) ?_ ⟨rfl, neN (by (first | exact om1 | omega)), .none, o, rfl, hc, hd⟩ ?_ hlt (Nat.lt_succ_self _)
  · intro p hp
    rcases List.mem_cons.mp hp with rfl | hp
    · exact ⟨hE, Nat.ne_of_gt (Nat.lt_succ_of_lt hL), h0 _ (Nat.le_succ _)⟩
    · rcases List.mem_cons.mp hp with rfl | hp
      · exact ⟨ho, Nat.ne_of_gt hL, h0 _ (Nat.le_refl _)⟩
      · exact ⟨hk _ _ (N p hp).1, (N p hp).2⟩
  · intro q hq
    rcases List.mem_cons.mp hq with rfl | hq
    · exact fun p hp => Nat.ne_of_lt (Nat.lt_succ_of_lt (hlt p hp))
    · rw [List.mem_singleton.mp hq]; exact fun p hp => Nat.ne_of_lt (hlt p hp)
theorem pyIter_enum {e it l : Addr} {g0 : Array GenState} {i : Nat} {own nx : List (Addr × Obj)} {Q : Value → Shared → Prop} (N : News h₀ L s.heap (own ++ nx)) (hst : enSt e it l g0 i own s.gens) (h : Q (.ref e) s) :
    wpAny (model prog w) A (pyIter (.ref e)) Q E s := by
  refine byC fun hGZ => ?_
  obtain ⟨_, _, old, o, rfl, _⟩ := hst
  refine hGZ ?_; clear hGZ
  exact wpAny_pyIter_enum (N _ (.head _)).1 h
noncomputable def rgSt (I : Addr) (n : Nat) (i : Nat) (own : List (Addr × Obj)) : Prop := own = [(I, { cls := .type "range_iterator", dict := none, data := .fields #[rawInt i, rawInt ((n : Int) - i), rawInt 1], slots := #[] })]
theorem it_range {I : Addr} {n : Nat} : It prog w h₀ L I [] [I] n (fun i v ex => (∃ t, v = .int i t) ∧ ex = []) (rgSt I n) where
  adr := by
    rintro i own rfl p hp
    rw [List.mem_singleton.mp hp]; exact .head _
  item := by
    rintro A E i own m nx s Q hh hi rfl F N _ hoff k
    refine wpAny_pyNext_range_item (N _ (.head _)).1 (by (first | exact om231 hi | omega)) fun h' hit hs => ?_
    refine k _ _ [] h' _ ⟨⟨_, rfl⟩, rfl⟩ rfl (F.change hs (N _ (.head _)).2.1 (N _ (.head _)).2.2) (News.setHead N (hoff I (.head _)) hs ?_) (fun _ h => nomatch h)
    rw [show ((i + 1 : Nat) : Int) = (i : Int) + 1 from by (first | exact om232 | omega), show (n : Int) - ((i : Int) + 1) = (n : Int) - i - 1 from by (first | exact om233 | omega)]
    exact hit
  done := by
    rintro A E own m nx s Q hh rfl F N _ hoff k
    refine wpAny_pyNext_range_end hh (N _ (.head _)).1 (by (first | exact om234 | omega)) fun h' hs => ?_
    exact k h' s.toks (fr_ext F hs (N _ (.head _)).2.1 (N _ (.head _)).2.2) fun p hp => ⟨hs _ _ (hoff I (.head _) p hp) (N p (.tail _ hp)).1, (N p (.tail _ hp)).2⟩
theorem range_iter {n : Nat} {t : Tok} {Q : Value → Shared → Prop} (hn : n ≤ 100000) (F : Fr h₀ L s.heap m) (N : News h₀ L s.heap news)
    (h : ∀ I own h' tk, Fr h₀ L h' m → News h₀ L h' (own ++ news) → (∀ q ∈ news, @LT.lt Nat _ q.1 I) → rgSt I n 0 own → Q (.ref I) { s with heap := h', toks := tk }) :
    wpAny (model prog w) A (call (.type "range") [.int n t]) (fun x s₁ => wpAny (model prog w) A (pyIter x) Q E s₁) E s := by
  refine call_range_1 ?_
  refine wpAny_pyIter_range (a := 0) (b := n) (c := 1) (t := s.toks) (u := t) (v := s.toks + 1) (IsRange.new _ _ _ _ _ _ _) (small_one (by decide) (by decide) (by (first | exact om235 | omega)) (by (first | exact om236 hn | omega))) ?_
  have F1 := F.push { cls := .type "range", data := .fields #[.int 0 s.toks, .int n t, .int 1 (s.toks + 1)] }
  have N1 := N.push F { cls := .type "range", data := .fields #[.int 0 s.toks, .int n t, .int 1 (s.toks + 1)] }
  rw [show Builtin.Range.rangeSize 0 n 1 = n from by rw [rangeSize_one]; split <;> (first | exact om237 | exact om238 (by assumption) | omega)]
  refine h _ [(_, { cls := .type "range_iterator", data := .fields #[rawInt 0, rawInt n, rawInt 1] })] _ _ (F1.push { cls := .type "range_iterator", data := .fields #[rawInt 0, rawInt n, rawInt 1] }) (News.push F1 (news_sub N1 fun p hp => .tail _ hp) { cls := .type "range_iterator", data := .fields #[rawInt 0, rawInt n, rawInt 1] }) (fun q hq => news_lt N1 q (.tail _ hq)) ?_
  unfold rgSt
  simp
theorem self_range {I : Addr} {n : Nat} : ItSelf prog w h₀ I (rgSt I n) := by
  rintro A E L i own nx s Q rfl N h
  exact wpAny_pyIter_rangeiter (N _ (.head _)).1 h
end
end
section
theorem flat_rep (a : Int) : ∀ n : Nat, (List.replicate n [a]).flatten = List.replicate n a
  | 0 => rfl
  | n + 1 => by rw [List.replicate_succ, List.flatten_cons, flat_rep a n]; rfl
@[reducible] noncomputable def objAt : List (Addr × Obj) → Nat → Obj
  | p :: _, 0 => p.2
  | _ :: r, n + 1 => objAt r n
  | [], _ => default
section
variable {prog : Program} {w : World} {A : Around} {E : Value → Shared → Prop} {s : Shared} {h₀ : Heap} {L : Addr} {m : Str → Option Value} {news : List (Addr × Obj)}
theorem add_K {l b : Addr} {vs ws : List Value} {n k : Nat} {Q : Value → Shared → Prop} (F : Fr h₀ L s.heap m) (N : News h₀ L s.heap news) (hl : (l, W.listOf vs.toArray n) ∈ news) (hb : (b, W.listOf ws.toArray k) ∈ news)
    (h : ∀ D h', Fr h₀ L h' m → News h₀ L h' ((D, W.listOf (vs ++ ws).toArray 0) :: news) → (∀ q ∈ news, @LT.lt Nat _ q.1 D) → Q (.ref D) { s with heap := h' })
    (hsz : vs.length + ws.length ≤ sizeLine) : wpAny (model prog w) A (binaryOp .Add (.ref l) (.ref b)) Q E s :=
  add_arrays (its := vs.toArray) (its2 := ws.toArray) F N ⟨_, (N _ hl).1, rfl, n, rfl⟩ ⟨_, (N _ hb).1, rfl, k, rfl⟩ (fun h' F' N' => h _ h' F' N' (news_lt N)) (by simpa using hsz)
end
theorem execs_app_eq (b : List Stmt) (env : Env) : ∀ a : List Stmt, execs (a ++ b) env = (do match ← execs a env with | .next => execs b env | f => pure f)
  | [] => by
    show execs b env = (pure Flow.next >>= _)
    rw [pure_bind]
  | st :: a => by
    rw [List.cons_append, execs_cons, execs_cons, bind_assoc]
    congr 1
    funext f
    cases f
    · exact execs_app_eq b env a
    all_goals rw [pure_bind]
section
variable {M : Model} {A : Around} {E : Value → Shared → Prop} {env : Env} {Q : Flow → Shared → Prop} {s : Shared}
theorem execs_append {a b : List Stmt} (h : wpAny M A (execs a env) (fun f s' => match f with | .next => wpAny M A (execs b env) Q E s' | f => Q f s') E s) : wpAny M A (execs (a ++ b) env) Q E s := by
  rw [execs_app_eq]
  refine wpAny_bind (wpAny_mono h (fun f s' h' => ?_) fun _ _ e => e)
  cases f
  · exact h'
  all_goals exact wpAny_pure h'
theorem execs_join {J : Shared → Prop} {a b : List Stmt} (h1 : wpAny M A (execs a env) (fun f s' => f = .next ∧ J s') E s) (h2 : ∀ s', J s' → wpAny M A (execs b env) Q E s') : wpAny M A (execs (a ++ b) env) Q E s := by
  refine execs_append (wpAny_mono h1 (fun f s' h => ?_) fun _ _ e => e)
  obtain ⟨rfl, h⟩ := h
  exact h2 s' h
theorem turn_join {J : Shared → Prop} {a b : List Stmt} {t : PySem.Expr} {v : Value} {Q : Flow → Shared → Prop} {E F : Value → Shared → Prop} (h1 : wpAny M A (assign t env v) (fun _ s₂ => wpAny M A (execs a env) (fun f s' => f = .next ∧ J s') E s₂) F s) (h2 : ∀ s', J s' → wpAny M A (execs b env) Q E s') : wpAny M A (assign t env v) (fun _ s₂ => wpAny M A (execs (a ++ b) env) Q E s₂) F s :=
  wpAny_mono h1 (fun _ _ h => execs_join h h2) fun _ _ e => e
end
end
section
noncomputable def PS.go (s : PS) (l : List Nat) : PS := l.foldl (fun s c => PS.step s ⟨#[c]⟩) s
theorem PS.run_app (x y : Str) : PS.run (x ++ y).cps.toList = PS.go (PS.run x.cps.toList) y.cps.toList := by
  show List.foldl _ _ (x.cps ++ y.cps).toList = _
  rw [Array.toList_append, List.foldl_append]
  rfl
theorem str_assoc (x y z : Str) : x ++ y ++ z = x ++ (y ++ z) := by
  show Str.mk ((x.cps ++ y.cps) ++ z.cps) = Str.mk (x.cps ++ (y.cps ++ z.cps))
  rw [Array.append_assoc]
theorem str_nil (x : Str) : x ++ Str.ofString "" = x := by
  show Str.mk (x.cps ++ #[]) = x
  rw [Array.append_empty]
structure Piece (inside : Bool) (raw read : Str) : Prop where
  go : ∀ res part, PS.go ⟨res, part, false, inside⟩ raw.cps.toList = ⟨res, part ++ read, false, inside⟩
  cm : cc read = 0
  len : raw.length ≤ 3
  len2 : read.length ≤ 3
theorem pc0 : Piece false (Str.ofString "a ") (Str.ofString "a ") := by
  refine ⟨fun res part => ?_, by decide +kernel, by decide +kernel, by decide +kernel⟩
  rw [show (Str.ofString "a ").cps.toList = [97, 32] by decide +kernel, show Str.ofString "a " = ⟨#[97]⟩ ++ ⟨#[32]⟩ by decide +kernel, ← str_assoc]
  simp only [PS.go, List.foldl_cons, List.foldl_nil, PS.step, if_false, Bool.false_eq_true, if_neg (show ¬ ((⟨#[97]⟩ : Str) == Str.ofString ",") = true by decide +kernel), if_neg (show ¬ ((⟨#[97]⟩ : Str) == Str.ofString "\"") = true by decide +kernel), if_neg (show ¬ ((⟨#[32]⟩ : Str) == Str.ofString ",") = true by decide +kernel), if_neg (show ¬ ((⟨#[32]⟩ : Str) == Str.ofString "\"") = true by decide +kernel)]
theorem pc1 : Piece false (Str.ofString "\\") (Str.ofString "\\") := by
  refine ⟨fun res part => ?_, by decide +kernel, by decide +kernel, by decide +kernel⟩
  rw [show (Str.ofString "\\").cps.toList = [92] by decide +kernel, show Str.ofString "\\" = ⟨#[92]⟩ by decide +kernel]
  simp only [PS.go, List.foldl_cons, List.foldl_nil, PS.step, if_false, Bool.false_eq_true, if_neg (show ¬ ((⟨#[92]⟩ : Str) == Str.ofString ",") = true by decide +kernel), if_neg (show ¬ ((⟨#[92]⟩ : Str) == Str.ofString "\"") = true by decide +kernel)]
theorem pc2 : Piece false (Str.ofString "") (Str.ofString "") := by
  refine ⟨fun res part => ?_, by decide +kernel, by decide +kernel, by decide +kernel⟩
  rw [str_nil]
  rfl
theorem pc3 : Piece false (Str.ofString "\tb\\") (Str.ofString "\tb\\") := by
  refine ⟨fun res part => ?_, by decide +kernel, by decide +kernel, by decide +kernel⟩
  rw [show (Str.ofString "\tb\\").cps.toList = [9, 98, 92] by decide +kernel, show Str.ofString "\tb\\" = (⟨#[9]⟩ ++ ⟨#[98]⟩) ++ ⟨#[92]⟩ by decide +kernel, ← str_assoc, ← str_assoc]
  simp only [PS.go, List.foldl_cons, List.foldl_nil, PS.step, if_false, Bool.false_eq_true, if_neg (show ¬ ((⟨#[9]⟩ : Str) == Str.ofString ",") = true by decide +kernel), if_neg (show ¬ ((⟨#[9]⟩ : Str) == Str.ofString "\"") = true by decide +kernel), if_neg (show ¬ ((⟨#[98]⟩ : Str) == Str.ofString ",") = true by decide +kernel), if_neg (show ¬ ((⟨#[98]⟩ : Str) == Str.ofString "\"") = true by decide +kernel), if_neg (show ¬ ((⟨#[92]⟩ : Str) == Str.ofString ",") = true by decide +kernel), if_neg (show ¬ ((⟨#[92]⟩ : Str) == Str.ofString "\"") = true by decide +kernel)]
theorem pq0 : Piece true (Str.ofString "a") (Str.ofString "a") := by
  refine ⟨fun res part => ?_, by decide +kernel, by decide +kernel, by decide +kernel⟩
  rw [show (Str.ofString "a").cps.toList = [97] by decide +kernel, show Str.ofString "a" = ⟨#[97]⟩ by decide +kernel]
  simp only [PS.go, List.foldl_cons, List.foldl_nil, PS.step, if_true, if_false, Bool.false_eq_true, if_neg (show ¬ ((⟨#[97]⟩ : Str) == Str.ofString "\\") = true by decide +kernel), if_neg (show ¬ ((⟨#[97]⟩ : Str) == Str.ofString "\"") = true by decide +kernel)]
theorem pq1 : Piece true (Str.ofString "\\\"") (Str.ofString "\"") := by
  refine ⟨fun res part => ?_, by decide +kernel, by decide +kernel, by decide +kernel⟩
  rw [show (Str.ofString "\\\"").cps.toList = [92, 34] by decide +kernel, show Str.ofString "\"" = ⟨#[34]⟩ by decide +kernel]
  simp only [PS.go, List.foldl_cons, List.foldl_nil, PS.step, if_true, if_false, Bool.false_eq_true, if_pos (show ((⟨#[92]⟩ : Str) == Str.ofString "\\") = true by decide +kernel)]
theorem pq2 : Piece true (Str.ofString "\\\\") (Str.ofString "\\") := by
  refine ⟨fun res part => ?_, by decide +kernel, by decide +kernel, by decide +kernel⟩
  rw [show (Str.ofString "\\\\").cps.toList = [92, 92] by decide +kernel]
  simp only [PS.go, List.foldl_cons, List.foldl_nil, PS.step, if_true, if_false, Bool.false_eq_true, if_pos (show ((⟨#[92]⟩ : Str) == Str.ofString "\\") = true by decide +kernel)]
  rw [show Str.ofString "\\" = ⟨#[92]⟩ by decide +kernel]
theorem pq3 : Piece true (Str.ofString " ") (Str.ofString " ") := by
  refine ⟨fun res part => ?_, by decide +kernel, by decide +kernel, by decide +kernel⟩
  rw [show (Str.ofString " ").cps.toList = [32] by decide +kernel, show Str.ofString " " = ⟨#[32]⟩ by decide +kernel]
  simp only [PS.go, List.foldl_cons, List.foldl_nil, PS.step, if_true, if_false, Bool.false_eq_true, if_neg (show ¬ ((⟨#[32]⟩ : Str) == Str.ofString "\\") = true by decide +kernel), if_neg (show ¬ ((⟨#[32]⟩ : Str) == Str.ofString "\"") = true by decide +kernel)]
theorem go_quote (res : List Str) (part : Str) (b : Bool) : PS.go ⟨res, part, false, b⟩ (Str.ofString "\"").cps.toList = ⟨res, part ++ Str.ofString "\"", false, !b⟩ := by
  rw [show (Str.ofString "\"").cps.toList = [34] by decide +kernel]
  have e : (⟨#[34]⟩ : Str) = Str.ofString "\"" := by decide +kernel
  cases b <;> simp only [PS.go, List.foldl_cons, List.foldl_nil, PS.step, if_true, if_false, Bool.false_eq_true, e, if_neg (show ¬ (Str.ofString "\"" == Str.ofString ",") = true by decide +kernel), if_neg (show ¬ (Str.ofString "\"" == Str.ofString "\\") = true by decide +kernel), if_pos (show (Str.ofString "\"" == Str.ofString "\"") = true by decide +kernel), Bool.not_true, Bool.not_false]
theorem go_comma0 (res : List Str) (part : Str) : PS.go ⟨res, part, false, false⟩ (Str.ofString ",").cps.toList = ⟨res ++ [part], Str.ofString "", false, false⟩ := by
  rw [show (Str.ofString ",").cps.toList = [44] by decide +kernel]
  have e : (⟨#[44]⟩ : Str) = Str.ofString "," := by decide +kernel
  simp only [PS.go, List.foldl_cons, List.foldl_nil, PS.step, if_false, Bool.false_eq_true, e, if_pos (show (Str.ofString "," == Str.ofString ",") = true by decide +kernel)]
theorem go_comma1 (res : List Str) (part : Str) : PS.go ⟨res, part, false, true⟩ (Str.ofString ",").cps.toList = ⟨res, part ++ Str.ofString ",", false, true⟩ := by
  rw [show (Str.ofString ",").cps.toList = [44] by decide +kernel]
  have e : (⟨#[44]⟩ : Str) = Str.ofString "," := by decide +kernel
  simp only [PS.go, List.foldl_cons, List.foldl_nil, PS.step, if_true, if_false, Bool.false_eq_true, e, if_neg (show ¬ (Str.ofString "," == Str.ofString "\\") = true by decide +kernel), if_neg (show ¬ (Str.ofString "," == Str.ofString "\"") = true by decide +kernel)]
theorem go_z (res : List Str) (part : Str) (b : Bool) : PS.go ⟨res, part, false, b⟩ (Str.ofString "z").cps.toList = ⟨res, part ++ Str.ofString "z", false, b⟩ := by
  rw [show (Str.ofString "z").cps.toList = [122] by decide +kernel]
  have e : (⟨#[122]⟩ : Str) = Str.ofString "z" := by decide +kernel
  cases b <;> simp only [PS.go, List.foldl_cons, List.foldl_nil, PS.step, if_true, if_false, Bool.false_eq_true, e, if_neg (show ¬ (Str.ofString "z" == Str.ofString ",") = true by decide +kernel), if_neg (show ¬ (Str.ofString "z" == Str.ofString "\\") = true by decide +kernel), if_neg (show ¬ (Str.ofString "z" == Str.ofString "\"") = true by decide +kernel)]
noncomputable def runs (a : Int) : List Int → List Int
  | [] => []
  | x :: r => (a + x) :: runs (a + x) r
theorem runs_snoc (x : Int) : ∀ (l : List Int) (a : Int), runs a (l ++ [x]) = runs a l ++ [a + l.sum + x]
  | [], a => by simp [runs]
  | y :: l, a => by simp only [List.cons_append, runs, runs_snoc x l, List.sum_cons]; rw [Int.add_assoc a y]
noncomputable def cutsFrom (p : Int) : List Int → List Int
  | [] => []
  | k :: r => if k = 0 then p :: cutsFrom (p + 1) r else cutsFrom (p + 1) r
theorem cutsFrom_snoc (k : Int) : ∀ (l : List Int) (p : Int), cutsFrom p (l ++ [k]) = cutsFrom p l ++ (if k = 0 then [p + l.length] else [])
  | [], p => by simp [cutsFrom]
  | y :: l, p => by
    simp only [List.cons_append, cutsFrom, cutsFrom_snoc k l, List.length_cons]
    have e : p + 1 + (l.length : Int) = p + ((l.length + 1 : Nat) : Int) := by (first | exact om124 | omega)
    rw [e]
    split <;> simp
noncomputable abbrev sizesOf (res : List Str) : List Int := res.map fun r => (cc r : Int) + 1
structure HInv (kinds : List Int) (i : Nat) (text item : Str) (res : List Str) (inside : Int) : Prop where
  run : PS.run text.cps.toList = ⟨res, item, false, decide (inside = 1)⟩
  bit : inside = 0 ∨ inside = 1
  len : text.length ≤ 5 * i
  len2 : item.length ≤ 5 * i
  marks : runs (-1) (sizesOf res) = cutsFrom 0 (kinds.take i)
  tot : (sizesOf res).sum + cc item = i
theorem h_start (kinds : List Int) : HInv kinds 0 (Str.ofString "") (Str.ofString "") [] 0 := by
  refine ⟨by rfl, .inl rfl, by decide +kernel, by decide +kernel, by simp [runs, sizesOf, cutsFrom], by decide +kernel⟩
section
variable {kinds : List Int} {i : Nat} {text item raw read : Str} {res : List Str} {inside : Int}
theorem len_z : (Str.ofString "z").length = 1 := by decide +kernel
theorem len_q : (Str.ofString "\"").length = 1 := by decide +kernel
theorem len_c : (Str.ofString ",").length = 1 := by decide +kernel
theorem len_e : (Str.ofString "").length = 0 := by decide +kernel
theorem cc_q : cc (Str.ofString "\"") = 0 := by decide +kernel
theorem cc_c : cc (Str.ofString ",") = 1 := by decide +kernel
theorem cc_e : cc (Str.ofString "") = 0 := by decide +kernel
theorem h_end0 {text2 item2 : Str} (H : HInv kinds i text item res inside) (hk : kinds[i]? = some 0) (h2 : PS.run text2.cps.toList = ⟨res, item2, false, false⟩) (hl : text2.length ≤ 5 * i + 4) (hc : cc item2 = cc item) :
    HInv kinds (i + 1) (text2 ++ Str.ofString ",") (Str.ofString "") (res ++ [item2]) 0 := by
  obtain ⟨_, _, _, _, marks, tot⟩ := H
  obtain ⟨hlt, _⟩ := List.getElem?_eq_some_iff.mp hk
  refine ⟨?_, .inl rfl, ?_, by rw [len_e]; (first | exact om125 | omega), ?_, ?_⟩
  · rw [PS.run_app, h2, go_comma0]; rfl
  · rw [Str.length_append, len_c]; (first | exact om126 hl | omega)
  · simp only [sizesOf, List.map_append, List.map_cons, List.map_nil] at marks tot ⊢
    rw [runs_snoc, marks, List.take_add_one, hk, Option.toList_some, cutsFrom_snoc, if_pos rfl, List.length_take, hc]
    congr 2
    (first | exact om127 tot hlt | omega)
  · simp only [sizesOf, List.map_append, List.map_cons, List.map_nil, List.sum_append, List.sum_cons, List.sum_nil] at tot ⊢
    rw [cc_e, hc]
    (first | exact om128 tot | omega)
theorem h_end1 {text2 item2 : Str} (H : HInv kinds i text item res inside) (hk : kinds[i]? = some 1) (h2 : PS.run text2.cps.toList = ⟨res, item2, false, true⟩) (hl : text2.length ≤ 5 * i + 4) (hl2 : item2.length ≤ 5 * i + 4) (hc : cc item2 = cc item) :
    HInv kinds (i + 1) (text2 ++ Str.ofString ",") (item2 ++ Str.ofString ",") res 1 := by
  obtain ⟨_, _, _, _, marks, tot⟩ := H
  refine ⟨?_, .inr rfl, ?_, ?_, ?_, ?_⟩
  · rw [PS.run_app, h2, go_comma1]; rfl
  · rw [Str.length_append, len_c]; (first | exact om126 hl | omega)
  · rw [Str.length_append, len_c]; (first | exact om126 hl2 | omega)
  · rw [marks, List.take_add_one, hk, Option.toList_some, cutsFrom_snoc, if_neg (by decide), List.append_nil]
  · rw [cc_append, cc_c, hc]; (first | exact om129 tot | omega)
theorem h_piece (H : HInv kinds i text item res inside) (hp : Piece (decide (inside = 1)) raw read) : PS.run (text ++ raw).cps.toList = ⟨res, item ++ read, false, decide (inside = 1)⟩ ∧ (text ++ raw).length ≤ 5 * i + 3 ∧ (item ++ read).length ≤ 5 * i + 3 ∧ cc (item ++ read) = cc item := by
  refine ⟨by rw [PS.run_app, H.run, hp.go], ?_, ?_, ?_⟩
  · rw [Str.length_append]; have := H.len; have := hp.len; (first | exact om130 (by assumption) this | omega)
  · rw [Str.length_append]; have := H.len2; have := hp.len2; (first | exact om130 (by assumption) this | omega)
  · rw [cc_append, hp.cm]; (first | exact om131 | omega)
theorem h_same0 (H : HInv kinds i text item res 0) (hp : Piece false raw read) (hk : kinds[i]? = some 0) : HInv kinds (i + 1) (text ++ raw ++ Str.ofString ",") (Str.ofString "") (res ++ [item ++ read]) 0 := by
  obtain ⟨h1, h2, h3, h4⟩ := h_piece H hp
  exact h_end0 H hk h1 (by (first | exact om132 h2 | omega)) h4
theorem h_same1 (H : HInv kinds i text item res 1) (hp : Piece true raw read) (hk : kinds[i]? = some 1) : HInv kinds (i + 1) (text ++ raw ++ Str.ofString ",") (item ++ read ++ Str.ofString ",") res 1 := by
  obtain ⟨h1, h2, h3, h4⟩ := h_piece H hp
  exact h_end1 H hk h1 (by (first | exact om132 h2 | omega)) (by (first | exact om132 h3 | omega)) h4
theorem h_flip1 (H : HInv kinds i text item res 0) (hp : Piece false raw read) (hk : kinds[i]? = some 1) : HInv kinds (i + 1) (text ++ raw ++ Str.ofString "\"" ++ Str.ofString ",") (item ++ read ++ Str.ofString "\"" ++ Str.ofString ",") res 1 := by
  obtain ⟨h1, h2, h3, h4⟩ := h_piece H hp
  refine h_end1 H hk ?_ (by rw [Str.length_append, len_q]; (first | exact om133 h2 | omega)) (by rw [Str.length_append, len_q]; (first | exact om133 h3 | omega)) (by rw [cc_append, cc_q]; (first | exact om134 h4 | omega))
  rw [PS.run_app, h1]
  exact go_quote _ _ _
theorem h_flip0 (H : HInv kinds i text item res 1) (hp : Piece true raw read) (hk : kinds[i]? = some 0) : HInv kinds (i + 1) (text ++ raw ++ Str.ofString "\"" ++ Str.ofString ",") (Str.ofString "") (res ++ [item ++ read ++ Str.ofString "\""]) 0 := by
  obtain ⟨h1, h2, h3, h4⟩ := h_piece H hp
  refine h_end0 H hk ?_ (by rw [Str.length_append, len_q]; (first | exact om133 h2 | omega)) (by rw [cc_append, cc_q]; (first | exact om134 h4 | omega))
  rw [PS.run_app, h1]
  exact go_quote _ _ _
theorem h_reslen (H : HInv kinds i text item res inside) : res.length ≤ i := by
  have h : ∀ l : List Str, (l.length : Int) ≤ (sizesOf l).sum := by
    intro l
    induction l with
    | nil => simp [sizesOf]
    | cons x l ih => simp only [sizesOf, List.map_cons, List.sum_cons, List.length_cons] at ih ⊢; (first | exact om135 ih | omega)
  have := h res
  have := H.tot
  (first | exact om136 (by assumption) this | omega)
theorem h_parsed {text item : Str} {res : List Str} {b : Bool} (h : PS.run text.cps.toList = ⟨res, item, false, b⟩) : parsed text = res.map Txt.strip ++ (if item.length = 0 then [] else [Txt.strip item]) := by
  unfold parsed PS.fin
  rw [h]
  dsimp only
  by_cases h : item.length = 0
  · rw [if_pos h, if_pos h, List.append_nil]
  · rw [if_neg h, if_neg h, List.map_append]
    rfl
end
end
noncomputable section
theorem newEnv_cell {M : Model} {A : Around} {E : Value → Shared → Prop} {s : Shared} {scope : Scope} {globals : Addr} {cl : List (Str × Addr)} {y : Str} {env : Env} {qual : Str} {Q : Env → Shared → Prop}
    (hcells : ∀ a, cellsFrom a scope.names cl = (y, a) :: cl) (hpush : ∀ h : Heap, pushCells h scope.names = h.push { cls := .type "cell", data := .cell none })
    (hQ : Q (newEnv scope s.heap.objs.size globals ((y, s.heap.objs.size + 1) :: cl) qual none .none (some env) builtinsNs) { s with heap := (s.heap.push { cls := .type "dict", data := .dict #[] }).push { cls := .type "cell", data := .cell none } }) :
    wpAny M A (newFunctionEnv scope globals cl [] qual none .none (some env)) Q E s := by
  simp only [newFunctionEnv, Option.isSome_some, if_true]
  refine wpAny_bind (wpAny_alloc ?_)
  refine wpAny_bind (wpAny_layCells _ (fun name kind cells => by cases hkc : kind == NameKind.cell <;> simp [hkc]) _ _ _ _ ?_)
  rw [hcells, hpush, show ({ s with heap := s.heap.push { cls := .type "dict", data := .dict #[] } } : Shared).heap.objs.size = s.heap.objs.size + 1 from Heap.size_push ..]
  refine wpAny_bind ?_
  rw [List.forIn_nil]
  exact wpAny_pure (wpAny_pure hQ)
noncomputable def CKeepC (h₀ : Heap) (C Cc : Addr) (s : Shared) (own ld : List (Addr × Obj)) (s₄ : Shared) : Prop := ∃ h tk mc oc cv, s₄ = { s with heap := h, toks := tk } ∧ oc.data = .cell cv ∧ Fr h₀ C h mc ∧ News h₀ C h (own ++ ((Cc, oc) :: ld))
section
variable {prog : Program} {w : World} {A : Around} {E : Value → Shared → Prop} {s : Shared} {h₀ : Heap} {L I : Addr} {src : List (Addr × Obj)} {wr : List Addr} {n : Nat} {P : Nat → Value → List (Addr × Obj) → Prop} {st : Nat → List (Addr × Obj) → Prop}
  {target elt iter : PySem.Expr} {ifs : List PySem.Expr} {scope : Scope} {pos : Pos} {cl : List (Str × Addr)} {env : Env} {m : Str → Option Value} {news own : List (Addr × Obj)} {y : Str}
end
namespace seg_lc_constC_all
noncomputable def body : (P_1 : Program → World → Around → (Value → Shared → Prop) → Shared → Heap → Addr → Addr → List (Addr × Obj) → List Addr → Nat → (Nat → Value → List (Addr × Obj) → Prop) → (Nat → List (Addr × Obj) → Prop) → Expr → Expr → Expr → List Expr → Scope → Pos → List (Str × Addr) → Env → (Str → Option Value) → List (Addr × Obj) → List (Addr × Obj) → Str → (Value → Shared → Prop) → (Nat → List Value → Prop) → Prop) ×' ((∀ a b c d e f g h i j k l m n o p q r s t u v w x y z a1, P_1 a b c d e f g h i j k l m n o p q r s t u v w x y z a1) → (∀ (prog : Program) (w : World) (A : Around) (E : Value → Shared → Prop) (s : Shared) (h₀ : Heap) (L : Addr) (I : Addr) (src : List (Addr × Obj)) (wr : List Addr) (n : Nat) (P : Nat → Value → List (Addr × Obj) → Prop) (st : Nat → List (Addr × Obj) → Prop) (target : PySem.Expr) (elt : PySem.Expr) (iter : PySem.Expr) (ifs : List PySem.Expr) (scope : Scope) (pos : Pos) (cl : List (Str × Addr)) (env : Env) (m : Str → Option Value) (news : List (Addr × Obj)) (own : List (Addr × Obj)) (y : Str) (Q : Value → Shared → Prop) (hI : ∀ C, It prog w h₀ C I src wr n P st) (hself : ItSelf prog w h₀ I st) (R : Nat → List Value → Prop) (hh : A.handled = none) (hcells : ∀ a, cellsFrom a scope.names cl = (y, a) :: cl) (hpush : ∀ h : Heap, pushCells h scope.names = h.push { cls := .type "cell", data := .cell none }) (hn : n ≤ 100000) (h0 : st 0 own) (F : Fr h₀ L s.heap m) (N : News h₀ L s.heap (own ++ news)) (hwr : ∀ a ∈ wr, a ∈ own.map (·.1)) (hsrc : ∀ p ∈ src, p ∈ news) (hoffw : ∀ a ∈ wr, Off a news) (r0 : R 0 []) (hR : ∀ i ys, R i ys → ys.length ≤ i) (turn : ∀ C Cc i v ex own' mc oc cv ys dl h tk, i < n → P i v ex → st (i + 1) own' → R i ys → oc.data = .cell cv → Fr h₀ C h mc → News h₀ C h (ex ++ (own' ++ ((Cc, oc) :: (dl ++ news)))) → (∀ p ∈ ex, ∀ q ∈ own' ++ ((Cc, oc) :: (dl ++ news)), @LT.lt Nat _ q.1 p.1) →
      (∀ q ∈ own', q.1 ≠ Cc) → (∀ q ∈ dl, q.1 ≠ Cc) → (∀ q ∈ news, @LT.lt Nat _ q.1 Cc) →
      wpAny (model prog w) A (assign target (compEnvC scope ((y, Cc) :: cl) C env) v) (fun _ s₂ =>
        wpAny (model prog w) A (forIn ifs true fun c r => if r = true then do let ok ← isTrue c (compEnvC scope ((y, Cc) :: cl) C env) (eval c (compEnvC scope ((y, Cc) :: cl) C env)); pure (ForInStep.yield ok) else pure (ForInStep.yield r)) (fun ok s₃ =>
          if ok = true then wpAny (model prog w) A (eval elt (compEnvC scope ((y, Cc) :: cl) C env)) (fun y s₄ => CKeepC h₀ C Cc s own' (dl ++ news) s₄ ∧ R (i + 1) (ys ++ [y])) Nev s₃
          else CKeepC h₀ C Cc s own' (dl ++ news) s₃ ∧ R (i + 1) ys) Nev s₂) Nev { s with heap := h, toks := tk }) (fin : ∀ D h tk ys k, (∀ q ∈ own ++ news, @LT.lt Nat _ q.1 D) → R n ys → Fr h₀ L h m → News h₀ L h ((D, W.listOf (List.toArray ys) k) :: news) → Q (.ref D) { s with heap := h, toks := tk }) (ht : ∀ v, letOwnedTupleGo target (.ref I) v = pure ()),
    LcGo prog w A elt target iter ifs scope pos cl env (compPost (model prog w) A E none Q) E (.ref I) s)) := by
  refine' ⟨_, fun k_1 => ?main⟩
  case main =>
    intro prog w A E s h₀ L I src wr n P st target elt iter ifs scope pos cl env m news own y Q hI hself R hh hcells hpush hn h0 F N hwr hsrc hoffw r0 hR turn fin ht
    revert hI hself hh hcells hpush hn h0 F N hwr hsrc hoffw r0 hR turn fin ht
    exact k_1 prog w A E s h₀ L I src wr n P st target elt iter ifs scope pos cl env m news own y Q R
namespace sA
noncomputable abbrev tyC := (Program × World × Around × (Value → Shared → Prop) × Shared × Heap × Addr × Addr) × ((List (Addr × Obj)) × List Addr × Nat × (Nat → Value → List (Addr × Obj) → Prop) × (Nat → List (Addr × Obj) → Prop) × Expr × Expr × Expr) × (List Expr × Scope × Pos × (List (Str × Addr)) × Env × (Str → Option Value) × (List (Addr × Obj)) × (List (Addr × Obj))) × (Str × (Value → Shared → Prop) × (Nat → List Value → Prop))
def prP := body.1
def prQ (x : tyC) : Prop := prP x.1.1 x.1.2.1 x.1.2.2.1 x.1.2.2.2.1 x.1.2.2.2.2.1 x.1.2.2.2.2.2.1 x.1.2.2.2.2.2.2.1 x.1.2.2.2.2.2.2.2 x.2.1.1 x.2.1.2.1 x.2.1.2.2.1 x.2.1.2.2.2.1 x.2.1.2.2.2.2.1 x.2.1.2.2.2.2.2.1 x.2.1.2.2.2.2.2.2.1 x.2.1.2.2.2.2.2.2.2 x.2.2.1.1 x.2.2.1.2.1 x.2.2.1.2.2.1 x.2.2.1.2.2.2.1 x.2.2.1.2.2.2.2.1 x.2.2.1.2.2.2.2.2.1 x.2.2.1.2.2.2.2.2.2.1 x.2.2.1.2.2.2.2.2.2.2 x.2.2.2.1 x.2.2.2.2.1 x.2.2.2.2.2
noncomputable def inI : tyC := ((default, aWorld 0, callerA, default, {}, default, default, default), (default, default, 0, default, default, .Constant .none 0 default, .Constant .none 0 default, .Constant .none 0 default), default, default)
def epC : tyC := eps inI prQ
@[irreducible] def prog := epC.1.1
@[irreducible] def w := epC.1.2.1
@[irreducible] def A := epC.1.2.2.1
@[irreducible] def E := epC.1.2.2.2.1
@[irreducible] def s := epC.1.2.2.2.2.1
@[irreducible] def h₀ := epC.1.2.2.2.2.2.1
@[irreducible] def L := epC.1.2.2.2.2.2.2.1
@[irreducible] def I := epC.1.2.2.2.2.2.2.2
@[irreducible] def src := epC.2.1.1
@[irreducible] def wr := epC.2.1.2.1
@[irreducible] def n := epC.2.1.2.2.1
@[irreducible] def st := epC.2.1.2.2.2.2.1
@[irreducible] def target := epC.2.1.2.2.2.2.2.1
@[irreducible] def elt := epC.2.1.2.2.2.2.2.2.1
@[irreducible] def iter := epC.2.1.2.2.2.2.2.2.2
@[irreducible] def ifs := epC.2.2.1.1
@[irreducible] def scope := epC.2.2.1.2.1
@[irreducible] def pos := epC.2.2.1.2.2.1
@[irreducible] def cl := epC.2.2.1.2.2.2.1
@[irreducible] def env := epC.2.2.1.2.2.2.2.1
@[irreducible] def m := epC.2.2.1.2.2.2.2.2.1
@[irreducible] def news := epC.2.2.1.2.2.2.2.2.2.1
@[irreducible] def own := epC.2.2.1.2.2.2.2.2.2.2
@[irreducible] def y := epC.2.2.2.1
@[irreducible] def Q := epC.2.2.2.2.1
@[irreducible] def R := epC.2.2.2.2.2
namespace seg_sA_main
noncomputable def body : (P_1 : Nat → Heap → Nat → Heap → Nat → Obj → Array DictEntry → Nat → Prop) ×' ((∀ a b c d e f g h, P_1 a b c d e f g h) → (prP prog w A E s h₀ L I src wr n epC.2.1.2.2.2.1 st target elt iter ifs scope pos cl env m news own y Q R)) := by
  refine' ⟨_, fun k_1 => ?main⟩
  case main =>
    intro hI hself hh hcells hpush hn h0 F N hwr hsrc hoffw r0 hR turn fin ht
    have never : ∀ (R : Value → Shared → Prop), ∀ e s', Nev e s' → R e s' := fun _ _ _ h => h.elim
    refine wpAny_newObj_type (newEnv_cell hcells hpush ?_)
    dsimp only
    obtain ⟨D, hD⟩ : ∃ D, D = s.heap.objs.size := ⟨_, rfl⟩
    rw [← hD]
    have ND := News.push F N { cls := .type "list", data := .seq ([] : List Value).toArray }
    have FD := Fr.push F { cls := .type "list", data := .seq ([] : List Value).toArray }
    have hlt : ∀ q ∈ own ++ news, @LT.lt Nat _ q.1 D := fun q hq => hD ▸ Heap.lt_size (N q hq).1
    rw [← hD] at ND
    generalize hH2 : s.heap.push { cls := .type "list", data := .seq ([] : List Value).toArray } = H2 at ND FD ⊢
    obtain ⟨C, hC⟩ : ∃ C, C = H2.objs.size := ⟨_, rfl⟩
    rw [← hC]
    have hDC : @LT.lt Nat _ D C := by rw [hC, ← hH2, Heap.size_push, hD]; exact Nat.lt_succ_self _
    have hLD : @LT.lt Nat _ L D := by rw [hD]; exact F.ns.lt
    have hLC : @LT.lt Nat _ L C := Nat.lt_trans hLD hDC
    have hns₁ := (Heap.Ns.new H2 (.type "dict")).keeps (pushCells_keeps scope.names _)
    rw [hpush, ← hC] at hns₁
    have keep1 : ∀ b o, H2.get? b = some o → ((H2.push { cls := .type "dict", data := .dict #[] }).push { cls := .type "cell", data := .cell none }).get? b = some o := fun b o e => Heap.get?_push_of_some _ (Heap.get?_push_of_some _ e)
    have hcell : ((H2.push { cls := .type "dict", data := .dict #[] }).push { cls := .type "cell", data := .cell none }).get? (C + 1) = some { cls := .type "cell", data := .cell none } := by
      have e : C + 1 = (H2.push { cls := .type "dict", data := .dict #[] }).objs.size := by rw [Heap.size_push, hC]
      rw [e]
      exact Heap.get?_push_size _ rfl
    generalize (H2.push { cls := .type "dict", data := .dict #[] }).push { cls := .type "cell", data := .cell none } = h₁ at hns₁ keep1 hcell ⊢
    obtain ⟨Cc, hCc⟩ : ∃ Cc, Cc = C + 1 := ⟨_, rfl⟩
    rw [← hCc] at hcell ⊢
    have hCCc : @LT.lt Nat _ C Cc := by rw [hCc]; exact Nat.lt_succ_self _
    have hC0 : h₀.get? C = none := Heap.get?_none_of_le (Nat.le_trans F.above (Nat.le_of_lt hLC))
    have hCc0 : h₀.get? Cc = none := Heap.get?_none_of_le (Nat.le_trans F.above (Nat.le_of_lt (Nat.lt_trans hLC hCCc)))
    refine byC fun hGZ => ?_
    obtain ⟨oL, a1, a2, hoL, a3⟩ := FD.ns
    refine hGZ ?_; clear hGZ
    have hL0 : h₀.get? L = none := Heap.get?_none_of_le F.above
    have FC : Fr h₀ C h₁ (fun _ => none) := ⟨hns₁, fun b o e => keep1 b o (FD.keep b o e), Nat.le_trans F.above (Nat.le_of_lt hLC)⟩
    have neC : ∀ {b o}, H2.get? b = some o → b ≠ C := fun e => Nat.ne_of_lt (hC ▸ Heap.lt_size e)
    have NC : News h₀ C h₁ (own ++ ([(D, W.listOf ([] : List Value).toArray 0), (L, oL), (Cc, { cls := .type "cell", data := .cell none })] ++ news)) := by
      intro p hp
      rcases List.mem_append.mp hp with hp | hp
      · have := ND p (.tail _ (List.mem_append_left _ hp)); exact ⟨keep1 _ _ this.1, neC this.1, this.2.2⟩
      · rcases List.mem_cons.mp hp with rfl | hp
        · have := ND _ (.head _); exact ⟨keep1 _ _ this.1, neC this.1, this.2.2⟩
        · rcases List.mem_cons.mp hp with rfl | hp
          · exact ⟨keep1 _ _ hoL, neC hoL, hL0⟩
          · rcases List.mem_cons.mp hp with rfl | hp
            · exact ⟨hcell, Nat.ne_of_gt hCCc, hCc0⟩
            · have := ND p (.tail _ (List.mem_append_right _ hp)); exact ⟨keep1 _ _ this.1, neC this.1, this.2.2⟩
    have hwD : ∀ a ∈ wr, @LT.lt Nat _ a D := fun a ha => by
      obtain ⟨p, hp, rfl⟩ := List.mem_map.mp (hwr a ha)
      exact hlt p (List.mem_append_left _ hp)
    have hwL : ∀ a ∈ wr, a ≠ L := fun a ha => by
      obtain ⟨p, hp, rfl⟩ := List.mem_map.mp (hwr a ha)
      exact (N p (List.mem_append_left _ hp)).2.1
    have hoffD : Off D news := fun p hp => Nat.ne_of_lt (hlt p (List.mem_append_right _ hp))
    have hoffL : Off L news := fun p hp => (N p (List.mem_append_right _ hp)).2.1
    have hDCc : @LT.lt Nat _ D Cc := Nat.lt_trans hDC hCCc
    revert hI hself hh hcells hpush hn h0 F N hwr hsrc hoffw r0 hR turn fin ht never hD hlt hH2 ND FD hC hDC hLD hLC hns₁ keep1 hcell hCc hCCc hC0 hCc0 hoL a3 hL0 FC neC NC hwD hwL hoffD hoffL hDCc
    exact k_1 D H2 C h₁ Cc oL a1 a2
namespace sB
noncomputable abbrev tyC := Nat × Heap × Nat × Heap × Nat × Obj × Array DictEntry × Nat
def prP := body.1
def prQ (x : tyC) : Prop := prP x.1 x.2.1 x.2.2.1 x.2.2.2.1 x.2.2.2.2.1 x.2.2.2.2.2.1 x.2.2.2.2.2.2.1 x.2.2.2.2.2.2.2
noncomputable def inI : tyC := default
def epC : tyC := eps inI prQ
@[irreducible] def D := epC.1
@[irreducible] def C := epC.2.2.1
@[irreducible] def h₁ := epC.2.2.2.1
@[irreducible] def Cc := epC.2.2.2.2.1
@[irreducible] def oL := epC.2.2.2.2.2.1
@[irreducible] def a1 := epC.2.2.2.2.2.2.1
@[irreducible] def a2 := epC.2.2.2.2.2.2.2
theorem sB_main : prP D epC.2.1 C h₁ Cc oL a1 a2 := by
  intro hI hself hh hcells hpush hn h0 F N hwr hsrc hoffw r0 hR turn fin ht never hD hlt hH2 ND FD hC hDC hLD hLC hns₁ keep1 hcell hCc hCCc hC0 hCc0 hoL a3 hL0 FC neC NC hwD hwL hoffD hoffL hDCc
  show codeAny (model prog w) A (.compStart (.ListComp elt [⟨target, iter, ifs, 0⟩] scope pos) 0 (.ref I) (.ref D) (compEnvC scope ((y, Cc) :: cl) C env)) (compPost (model prog w) A E none Q (.ref D) C) { s with heap := h₁ }
  have loop : codeAny (model prog w) A (.compLoop (.ListComp elt [⟨target, iter, ifs, 0⟩] scope pos) 0 (.ref I) (.ref D) (compEnvC scope ((y, Cc) :: cl) C env)) (compPost (model prog w) A E none Q (.ref D) C) { s with heap := h₁ } := by
    refine codeAny_compLoop_tests (fun k s' => ∃ i own' h tk mc ys kk oc cv, k = n - i ∧ i ≤ n ∧ s' = { s with heap := h, toks := tk } ∧ st i own' ∧ oc.data = .cell cv ∧ Fr h₀ C h mc ∧ News h₀ C h (own' ++ ([(D, W.listOf (List.toArray ys) kk), (L, oL), (Cc, oc)] ++ news)) ∧ R i ys) ?_ n
      ⟨0, own, h₁, _, _, [], 0, _, none, by (first | exact om30 | omega), Nat.zero_le _, rfl, h0, rfl, FC, NC, r0⟩ ht
    rintro k s' ⟨i, own', h, tk, mc, ys, kk, oc, cv, rfl, hi, rfl, hst, hoc, F', N', r⟩
    have hsrc' : ∀ p ∈ src, p ∈ [(D, W.listOf (List.toArray ys) kk), (L, oL), (Cc, oc)] ++ news := fun p hp => List.mem_append_right _ (hsrc p hp)
    have hoff' : ∀ a ∈ wr, Off a ([(D, W.listOf (List.toArray ys) kk), (L, oL), (Cc, oc)] ++ news) := fun a ha => off_cons.mpr ⟨Nat.ne_of_gt (hwD a ha), off_cons.mpr ⟨fun e => hwL a ha e.symm, off_cons.mpr ⟨Nat.ne_of_gt (Nat.lt_trans (hwD a ha) hDCc), hoffw a ha⟩⟩⟩
    by_cases hltn : i < n
    · refine (hI C).item A _ i own' mc _ _ _ hh hltn hst F' N' hsrc' hoff' fun v own'' ex h' tk' hP hst' F'' N'' hl => ?_
      have N3 := news_sub (news' := ex ++ (own'' ++ ((Cc, oc) :: ([(D, W.listOf (List.toArray ys) kk), (L, oL)] ++ news)))) N'' (fun p hp => by
        simp only [List.mem_append, List.mem_cons, List.not_mem_nil, or_false] at hp ⊢
        rcases hp with hp | hp | hp | (hp | hp) | hp <;> simp [hp])
      refine wpAny_mono (turn C Cc i v ex own'' mc oc cv ys [(D, W.listOf (List.toArray ys) kk), (L, oL)] h' tk' hltn hP hst' r hoc F'' N3 (fun p hp q hq => hl p hp q (by
          simp only [List.mem_append, List.mem_cons, List.not_mem_nil, or_false] at hq ⊢
          rcases hq with hq | hq | (hq | hq) | hq <;> simp [hq])) (fun q hq => Nat.ne_of_lt (Nat.lt_trans (hwD _ ((hI C).adr _ _ hst' q hq)) hDCc)) (fun q hq => by
          rcases List.mem_cons.mp hq with rfl | hq
          · exact Nat.ne_of_lt hDCc
          · rw [List.mem_singleton.mp hq]; exact Nat.ne_of_lt (Nat.lt_trans hLC hCCc)) (fun q hq => Nat.lt_trans (hlt q (List.mem_append_right _ hq)) hDCc)) (fun _ s₂ h₂ => ?_) (never _)
      refine wpAny_mono h₂ (fun ok s₃ h₃ => ?_) (never _)
      have back : ∀ {h9 oc9}, News h₀ C h9 (own'' ++ ((Cc, oc9) :: ([(D, W.listOf (List.toArray ys) kk), (L, oL)] ++ news))) → News h₀ C h9 (own'' ++ ([(D, W.listOf (List.toArray ys) kk), (L, oL), (Cc, oc9)] ++ news)) := fun N9 => news_sub N9 (fun p hp => by
        simp only [List.mem_append, List.mem_cons, List.not_mem_nil, or_false] at hp ⊢
        rcases hp with hp | (hp | hp | hp) | hp <;> simp [hp])
      cases ok with
      | false =>
        rw [if_neg Bool.false_ne_true] at h₃
        rw [if_neg Bool.false_ne_true]
        obtain ⟨⟨h9, tk9, mc9, oc9, cv9, rfl, hoc9, F9, N9⟩, r9⟩ := h₃
        exact ⟨n - (i + 1), by (first | exact om31 hltn | omega), i + 1, own'', h9, tk9, mc9, ys, kk, oc9, cv9, rfl, hltn, rfl, hst', hoc9, F9, back N9, r9⟩
      | true =>
        rw [if_pos rfl] at h₃
        rw [if_pos rfl]
        refine wpAny_mono h₃ (fun y s₄ h₄ => ?_) (never _)
        obtain ⟨⟨h9, tk9, mc9, oc9, cv9, rfl, hoc9, F9, N9⟩, r9⟩ := h₄
        have hys9 := hR _ _ r
        refine append_K F9 (back N9) (upd_mid (fun p hp => (Nat.ne_of_lt (hwD _ ((hI C).adr _ _ hst' p hp)))) (off_cons.mpr ⟨Nat.ne_of_lt hLD, off_cons.mpr ⟨Nat.ne_of_gt hDCc, hoffD⟩⟩)) (fun h7 F7 N7 => ?_) (by rw [List.size_toArray, sizeLine_eq]; (first | exact om32 hn hltn hys9 | omega))
        rw [List.push_toArray] at N7
        exact ⟨n - (i + 1), by (first | exact om31 hltn | omega), i + 1, own'', h7, tk9, mc9, ys ++ [y], kk + 1, oc9, cv9, rfl, hltn, rfl, hst', hoc9, F7, N7, r9⟩
    · obtain rfl : i = n := by (first | exact om33 hi hltn | omega)
      refine (hI C).done A _ own' mc _ _ _ hh hst F' N' hsrc' hoff' fun h' tk' F'' N'' => ?_
      have hL' : h'.get? L = some oL := (N'' _ (.tail _ (.head _))).1
      have hDn := N'' _ (.head _)
      have FL : Fr h₀ L h' m := ⟨⟨oL, a1, a2, hL', a3⟩, F''.keep, F.above⟩
      refine ⟨mc, F''.ns, fun h7 hs => ?_⟩
      refine fin D h7 tk' ys kk hlt r (FL.change hs (Nat.ne_of_gt hLC) hC0) fun p hp => ?_
      rcases List.mem_cons.mp hp with rfl | hp
      · exact ⟨(hs.2 _ (Nat.ne_of_lt hDC)).trans hDn.1, Nat.ne_of_gt hLD, hDn.2.2⟩
      · have q := N'' p (.tail _ (.tail _ (.tail _ hp)))
        exact ⟨(hs.2 _ q.2.1).trans q.1, hoffL p hp, q.2.2⟩
  exact codeAny_compStart_list loop (hself A _ C 0 own _ _ _ h0 NC loop)
theorem all : ∀ x, prQ x := @sk tyC inI prQ (by with_unfolding_all exact @sB_main)
end sB
end seg_sA_main
theorem sA_main : prP prog w A E s h₀ L I src wr n epC.2.1.2.2.2.1 st target elt iter ifs scope pos cl env m news own y Q R := @PSigma.snd _ _ seg_sA_main.body (fun a b c d e f g h => @seg_sA_main.sB.all (a, b, c, d, e, f, g, h))
theorem all : ∀ x, prQ x := @sk tyC inI prQ (by with_unfolding_all exact @sA_main)
end sA
end seg_lc_constC_all
theorem lc_constC_all : ∀ (prog : Program) (w : World) (A : Around) (E : Value → Shared → Prop) (s : Shared) (h₀ : Heap) (L : Addr) (I : Addr) (src : List (Addr × Obj)) (wr : List Addr) (n : Nat) (P : Nat → Value → List (Addr × Obj) → Prop) (st : Nat → List (Addr × Obj) → Prop) (target : PySem.Expr) (elt : PySem.Expr) (iter : PySem.Expr) (ifs : List PySem.Expr) (scope : Scope) (pos : Pos) (cl : List (Str × Addr)) (env : Env) (m : Str → Option Value) (news : List (Addr × Obj)) (own : List (Addr × Obj)) (y : Str) (Q : Value → Shared → Prop) (hI : ∀ C, It prog w h₀ C I src wr n P st) (hself : ItSelf prog w h₀ I st) (R : Nat → List Value → Prop) (hh : A.handled = none) (hcells : ∀ a, cellsFrom a scope.names cl = (y, a) :: cl) (hpush : ∀ h : Heap, pushCells h scope.names = h.push { cls := .type "cell", data := .cell none }) (hn : n ≤ 100000) (h0 : st 0 own) (F : Fr h₀ L s.heap m) (N : News h₀ L s.heap (own ++ news)) (hwr : ∀ a ∈ wr, a ∈ own.map (·.1)) (hsrc : ∀ p ∈ src, p ∈ news) (hoffw : ∀ a ∈ wr, Off a news) (r0 : R 0 []) (hR : ∀ i ys, R i ys → ys.length ≤ i) (turn : ∀ C Cc i v ex own' mc oc cv ys dl h tk, i < n → P i v ex → st (i + 1) own' → R i ys → oc.data = .cell cv → Fr h₀ C h mc → News h₀ C h (ex ++ (own' ++ ((Cc, oc) :: (dl ++ news)))) → (∀ p ∈ ex, ∀ q ∈ own' ++ ((Cc, oc) :: (dl ++ news)), @LT.lt Nat _ q.1 p.1) →
      (∀ q ∈ own', q.1 ≠ Cc) → (∀ q ∈ dl, q.1 ≠ Cc) → (∀ q ∈ news, @LT.lt Nat _ q.1 Cc) →
      wpAny (model prog w) A (assign target (compEnvC scope ((y, Cc) :: cl) C env) v) (fun _ s₂ =>
        wpAny (model prog w) A (forIn ifs true fun c r => if r = true then do let ok ← isTrue c (compEnvC scope ((y, Cc) :: cl) C env) (eval c (compEnvC scope ((y, Cc) :: cl) C env)); pure (ForInStep.yield ok) else pure (ForInStep.yield r)) (fun ok s₃ =>
          if ok = true then wpAny (model prog w) A (eval elt (compEnvC scope ((y, Cc) :: cl) C env)) (fun y s₄ => CKeepC h₀ C Cc s own' (dl ++ news) s₄ ∧ R (i + 1) (ys ++ [y])) Nev s₃
          else CKeepC h₀ C Cc s own' (dl ++ news) s₃ ∧ R (i + 1) ys) Nev s₂) Nev { s with heap := h, toks := tk }) (fin : ∀ D h tk ys k, (∀ q ∈ own ++ news, @LT.lt Nat _ q.1 D) → R n ys → Fr h₀ L h m → News h₀ L h ((D, W.listOf (List.toArray ys) k) :: news) → Q (.ref D) { s with heap := h, toks := tk }) (ht : ∀ v, letOwnedTupleGo target (.ref I) v = pure ()),
    LcGo prog w A elt target iter ifs scope pos cl env (compPost (model prog w) A E none Q) E (.ref I) s := @PSigma.snd _ _ seg_lc_constC_all.body (fun a b c d e f g h i j k l m n o p q r s t u v w x y z a1 => @seg_lc_constC_all.sA.all ((a, b, c, d, e, f, g, h), (i, j, k, l, m, n, o, p), (q, r, s, t, u, v, w, x), (y, z, a1)))
section
variable {prog : Program} {w : World} {A : Around} {E : Value → Shared → Prop} {s : Shared} {h₀ : Heap} {L I : Addr} {src : List (Addr × Obj)} {wr : List Addr} {n : Nat} {P : Nat → Value → List (Addr × Obj) → Prop} {st : Nat → List (Addr × Obj) → Prop}
  {target elt iter : PySem.Expr} {ifs : List PySem.Expr} {scope : Scope} {pos : Pos} {cl : List (Str × Addr)} {env : Env} {m : Str → Option Value} {news own : List (Addr × Obj)} {y : Str}
theorem lc_constC {Q : Value → Shared → Prop} (hI : ∀ C, It prog w h₀ C I src wr n P st) (hself : ItSelf prog w h₀ I st) (R : Nat → List Value → Prop) (hh : A.handled = none)
    (hcells : ∀ a, cellsFrom a scope.names cl = (y, a) :: cl) (hpush : ∀ h : Heap, pushCells h scope.names = h.push { cls := .type "cell", data := .cell none }) (hn : n ≤ 100000)
    (h0 : st 0 own) (F : Fr h₀ L s.heap m) (N : News h₀ L s.heap (own ++ news)) (hwr : ∀ a ∈ wr, a ∈ own.map (·.1)) (hsrc : ∀ p ∈ src, p ∈ news) (hoffw : ∀ a ∈ wr, Off a news)
    (r0 : R 0 []) (hR : ∀ i ys, R i ys → ys.length ≤ i)
    (turn : ∀ C Cc i v ex own' mc oc cv ys dl h tk, i < n → P i v ex → st (i + 1) own' → R i ys → oc.data = .cell cv → Fr h₀ C h mc → News h₀ C h (ex ++ (own' ++ ((Cc, oc) :: (dl ++ news)))) → (∀ p ∈ ex, ∀ q ∈ own' ++ ((Cc, oc) :: (dl ++ news)), @LT.lt Nat _ q.1 p.1) →
      (∀ q ∈ own', q.1 ≠ Cc) → (∀ q ∈ dl, q.1 ≠ Cc) → (∀ q ∈ news, @LT.lt Nat _ q.1 Cc) →
      wpAny (model prog w) A (assign target (compEnvC scope ((y, Cc) :: cl) C env) v) (fun _ s₂ =>
        wpAny (model prog w) A (forIn ifs true fun c r => if r = true then do let ok ← isTrue c (compEnvC scope ((y, Cc) :: cl) C env) (eval c (compEnvC scope ((y, Cc) :: cl) C env)); pure (ForInStep.yield ok) else pure (ForInStep.yield r)) (fun ok s₃ =>
          if ok = true then wpAny (model prog w) A (eval elt (compEnvC scope ((y, Cc) :: cl) C env)) (fun y s₄ => CKeepC h₀ C Cc s own' (dl ++ news) s₄ ∧ R (i + 1) (ys ++ [y])) Nev s₃
          else CKeepC h₀ C Cc s own' (dl ++ news) s₃ ∧ R (i + 1) ys) Nev s₂) Nev { s with heap := h, toks := tk })
    (fin : ∀ D h tk ys k, (∀ q ∈ own ++ news, @LT.lt Nat _ q.1 D) → R n ys → Fr h₀ L h m → News h₀ L h ((D, W.listOf (List.toArray ys) k) :: news) → Q (.ref D) { s with heap := h, toks := tk })
    (ht : ∀ v, letOwnedTupleGo target (.ref I) v = pure () := by intro _; rfl) :
    LcGo prog w A elt target iter ifs scope pos cl env (compPost (model prog w) A E none Q) E (.ref I) s := lc_constC_all prog w A E s h₀ L I src wr n P st target elt iter ifs scope pos cl env m news own y Q hI hself R hh hcells hpush hn h0 F N hwr hsrc hoffw r0 hR turn fin ht
end
section
variable {prog : Program} {w : World} {A : Around} {E : Value → Shared → Prop} {s : Shared} {h₀ : Heap} {C Cc : Addr} {mc : Str → Option Value} {pre post : List (Addr × Obj)} {env : Env} {x : Str} {v : Value} {oc : Obj} {cv : Option Value}
theorem stCell {Q : Unit → Shared → Prop} (F : Fr h₀ C s.heap mc) (N : News h₀ C s.heap (pre ++ (Cc, oc) :: post)) (hoc : oc.data = .cell cv) (h1 : ∀ q ∈ pre, q.1 ≠ Cc) (h2 : ∀ q ∈ post, q.1 ≠ Cc)
    (hk : env.scope.kind = .function) (hl : env.kindOf x = some .cell) (hc : env.cells.lookup x = some Cc)
    (h : ∀ h' oc', oc'.data = .cell (some v) → Fr h₀ C h' mc → News h₀ C h' (pre ++ (Cc, oc') :: post) → Q () { s with heap := h' }) :
    wpAny (model prog w) A (storeName env x v) Q E s := by
  have hn := N (Cc, oc) (List.mem_append_right _ (.head _))
  refine wpAny_storeName_cell hk hl hc ⟨oc, hn.1, hoc⟩ fun h' hc' hs => ?_
  obtain ⟨oc', ho', hd'⟩ := hc'
  exact h h' oc' hd' (F.change hs hn.2.1 hn.2.2) (news_upd N (upd_mid h1 h2) hs ho')
end
end
noncomputable section
section
variable {prog : Program} {w : World} {A : Around}
theorem compLoop_any {elt target iter : PySem.Expr} {ifs : List PySem.Expr} {scope : Scope} {pos : Pos} {it acc : Value} {env : Env} {R : Result → Shared → Prop} (I : Nat → Shared → Prop)
    (turn : ∀ n s, I n s → wpAny (model prog w) A (pyNext it) (fun r s₁ => match r with
      | none => R (.ok .next) s₁
      | some v => wpAny (model prog w) A (letOwnedTupleGo target it v) (fun _ s₁' => wpAny (model prog w) A (assign target env v) (fun _ s₂ =>
          wpAny (model prog w) A (forIn ifs true fun c r => if r = true then do let ok ← isTrue c env (eval c env); pure (ForInStep.yield ok) else pure (ForInStep.yield r)) (fun ok s₃ =>
            if ok = true then wpAny (model prog w) A (eval elt env) (fun x s₄ =>
              wpAny (model prog w) A (call (.builtin "list.append") [acc, x]) (fun _ s₅ => ∃ m, m < n ∧ I m s₅) (notedBy (model prog w) A env fun e s' => R (.error e) s') s₄) (notedBy (model prog w) A env fun e s' => R (.error e) s') s₃
            else ∃ m, m < n ∧ I m s₃) (notedBy (model prog w) A env fun e s' => R (.error e) s') s₂) (notedBy (model prog w) A env fun e s' => R (.error e) s') s₁') (notedBy (model prog w) A env fun e s' => R (.error e) s') s₁) (notedBy (model prog w) A env fun e s' => R (.error e) s') s)
    (n : Nat) (s : Shared) (h : I n s) : codeAny (model prog w) A (.compLoop (.ListComp elt [⟨target, iter, ifs, 0⟩] scope pos) 0 it acc env) R s := by
  refine codeAny_loop rfl I (fun n s hI => ?_) n h
  show wpAny _ A ((compTurn (.ListComp elt [⟨target, iter, ifs, 0⟩] scope pos) 0 it acc env).onRaise (fun x => do noteFrame x env; theTreesLotGoes x)) _ _ s
  refine wpAny_noted ?_
  rw [compTurn_list]
  refine wpAny_bind (wpAny_standAt (wpAny_bind (wpAny_mono (turn n s hI) (fun r s₁ h₁ => ?_) fun _ _ h' => h')))
  cases r with
  | none => exact wpAny_pure h₁
  | some v =>
    refine wpAny_bind (wpAny_mono h₁ (fun _ s₁' h₁' => ?_) fun _ _ h' => h')
    refine wpAny_bind (wpAny_mono h₁' (fun _ s₂ h₂ => wpAny_bind (wpAny_mono h₂ (fun ok s₃ h₃ => ?_) fun _ _ h' => h')) fun _ _ h' => h')
    cases ok with
    | false => exact wpAny_pure ⟨rfl, h₃⟩
    | true =>
      exact wpAny_bind (wpAny_bind (wpAny_mono h₃ (fun x s₄ h₄ => wpAny_bind (wpAny_mono h₄ (fun _ s₅ h₅ => wpAny_pure (wpAny_pure ⟨rfl, h₅⟩)) fun _ _ h' => h')) fun _ _ h' => h'))
end
section
variable {prog : Program} {w : World} {A : Around} {E : Value → Shared → Prop} {s : Shared} {h₀ : Heap} {L I : Addr} {src : List (Addr × Obj)} {n : Nat} {P : Nat → Value → List (Addr × Obj) → Prop} {st : Nat → List (Addr × Obj) → Array GenState → Prop} {GG : Array GenState → Prop}
  {target elt iter : PySem.Expr} {ifs : List PySem.Expr} {scope : Scope} {pos py : Pos} {cl : List (Str × Addr)} {env : Env} {m : Str → Option Value} {news own : List (Addr × Obj)} {y : Str}
end
namespace seg_lc_blockT_all
noncomputable def body : (P_1 : Program → World → Around → (Value → Shared → Prop) → Shared → Heap → Addr → Addr → List (Addr × Obj) → Nat → (Nat → Value → List (Addr × Obj) → Prop) → (Nat → List (Addr × Obj) → Array GenState → Prop) → (Array GenState → Prop) → Expr → Expr → Expr → List Expr → Scope → Pos → List (Str × Addr) → Env → (Str → Option Value) → List (Addr × Obj) → List (Addr × Obj) → (Nat → List Value → Prop) → (Value → Addr → Result → Shared → Prop) → Prop) ×' ((∀ a b c d e f g h i j k l m n o p q r s t u v w x y z, P_1 a b c d e f g h i j k l m n o p q r s t u v w x y z) → (∀ (prog : Program) (w : World) (A : Around) (E : Value → Shared → Prop) (s : Shared) (h₀ : Heap) (L : Addr) (I : Addr) (src : List (Addr × Obj)) (n : Nat) (P : Nat → Value → List (Addr × Obj) → Prop) (st : Nat → List (Addr × Obj) → Array GenState → Prop) (GG : Array GenState → Prop) (target : PySem.Expr) (elt : PySem.Expr) (iter : PySem.Expr) (ifs : List PySem.Expr) (scope : Scope) (pos : Pos) (cl : List (Str × Addr)) (env : Env) (m : Str → Option Value) (news : List (Addr × Obj)) (own : List (Addr × Obj)) (hI : ItT prog w A h₀ target I src n P st GG) (hself : ∀ (C : Addr) (nx : List (Addr × Obj)) (s : Shared) (Q : Value → Shared → Prop) (E : Value → Shared → Prop), st 0 own s.gens → News h₀ C s.heap (own ++ nx) → Q (.ref I) s → wpAny (model prog w) A (pyIter (.ref I)) Q E s) (R : Nat → List Value → Prop) (hcell : ∀ y ∈ scope.names, y.2 ≠ .cell) (hkind : scope.kind = .function) (hn : n ≤ 100000) (h0 : st 0 own s.gens) (F : Fr h₀ L s.heap m) (N : News h₀ L s.heap (own ++ news)) (ha : Apart own news) (hsrc : ∀ p ∈ src, p ∈ news) (r0 : R 0 []) (hR : ∀ i ys, R i ys → ys.length ≤ i) (RR : Value → Addr → Result → Shared → Prop) (turn : ∀ C i v ex own' mc ys dl h tk g, i < n → P i v ex → st (i + 1) own' g → R i ys → Fr h₀ C h mc → News h₀ C h (ex ++ (own' ++ (dl ++ news))) → (∀ p ∈ ex, ∀ q ∈ own' ++ (dl ++ news), @LT.lt Nat _ q.1 p.1) → Apart own' (dl ++ news) →
      wpAny (model prog w) A (assign target (compEnvC scope cl C env) v) (fun _ s₂ =>
        wpAny (model prog w) A (forIn ifs true fun c r => if r = true then do let ok ← isTrue c (compEnvC scope cl C env) (eval c (compEnvC scope cl C env)); pure (ForInStep.yield ok) else pure (ForInStep.yield r)) (fun ok s₃ =>
          if ok = true then wpAny (model prog w) A (eval elt (compEnvC scope cl C env)) (fun y s₄ => CKeep h₀ C { s with gens := g } (own' ++ (dl ++ news)) s₄ ∧ R (i + 1) (ys ++ [y])) Nev s₃
          else CKeep h₀ C { s with gens := g } (own' ++ (dl ++ news)) s₃ ∧ R (i + 1) ys) Nev s₂) Nev { s with heap := h, toks := tk, gens := g }) (fin : ∀ D C h tk g mc ys k, (∀ q ∈ own ++ news, @LT.lt Nat _ q.1 D) → GG g → R n ys → @LT.lt Nat _ L D → @LT.lt Nat _ D C → h.Ns C mc → Fr h₀ L h m → News h₀ L h ((D, W.listOf (List.toArray ys) k) :: news) → (∀ p ∈ news, p.1 ≠ C) → h₀.get? C = none →
      RR (.ref D) C (.ok .next) { s with heap := h, toks := tk, gens := g }),
    wpAny (model prog w) A (newList []) (fun acc s₃ => wpAny (model prog w) A (newFunctionEnv scope env.globals cl [] env.qual none .none (some env)) (fun cenv s₄ =>
      codeAny (model prog w) A (.compStart (.ListComp elt [⟨target, iter, ifs, 0⟩] scope pos) 0 (.ref I) acc { cenv with scope := relabel scope env }) (RR acc cenv.locals) s₄) E s₃) E s)) := by
  refine' ⟨_, fun k_1 => ?main⟩
  case main =>
    intro prog w A E s h₀ L I src n P st GG target elt iter ifs scope pos cl env m news own hI hself R hcell hkind hn h0 F N ha hsrc r0 hR RR turn fin
    revert hI hself hcell hkind hn h0 F N ha hsrc r0 hR turn fin
    exact k_1 prog w A E s h₀ L I src n P st GG target elt iter ifs scope pos cl env m news own R RR
namespace sA
noncomputable abbrev tyC := (Program × World × Around × (Value → Shared → Prop) × Shared × Heap × Addr × Addr) × ((List (Addr × Obj)) × Nat × (Nat → Value → List (Addr × Obj) → Prop) × (Nat → List (Addr × Obj) → Array GenState → Prop) × (Array GenState → Prop) × Expr × Expr × Expr) × (List Expr × Scope × Pos × (List (Str × Addr)) × Env × (Str → Option Value) × (List (Addr × Obj)) × (List (Addr × Obj))) × ((Nat → List Value → Prop) × (Value → Addr → Result → Shared → Prop))
def prP := body.1
def prQ (x : tyC) : Prop := prP x.1.1 x.1.2.1 x.1.2.2.1 x.1.2.2.2.1 x.1.2.2.2.2.1 x.1.2.2.2.2.2.1 x.1.2.2.2.2.2.2.1 x.1.2.2.2.2.2.2.2 x.2.1.1 x.2.1.2.1 x.2.1.2.2.1 x.2.1.2.2.2.1 x.2.1.2.2.2.2.1 x.2.1.2.2.2.2.2.1 x.2.1.2.2.2.2.2.2.1 x.2.1.2.2.2.2.2.2.2 x.2.2.1.1 x.2.2.1.2.1 x.2.2.1.2.2.1 x.2.2.1.2.2.2.1 x.2.2.1.2.2.2.2.1 x.2.2.1.2.2.2.2.2.1 x.2.2.1.2.2.2.2.2.2.1 x.2.2.1.2.2.2.2.2.2.2 x.2.2.2.1 x.2.2.2.2
noncomputable def inI : tyC := ((default, aWorld 0, callerA, default, {}, default, default, default), (default, 0, default, default, default, .Constant .none 0 default, .Constant .none 0 default, .Constant .none 0 default), default, default)
def epC : tyC := eps inI prQ
@[irreducible] def prog := epC.1.1
@[irreducible] def w := epC.1.2.1
@[irreducible] def A := epC.1.2.2.1
@[irreducible] def s := epC.1.2.2.2.2.1
@[irreducible] def h₀ := epC.1.2.2.2.2.2.1
@[irreducible] def L := epC.1.2.2.2.2.2.2.1
@[irreducible] def I := epC.1.2.2.2.2.2.2.2
@[irreducible] def src := epC.2.1.1
@[irreducible] def n := epC.2.1.2.1
@[irreducible] def st := epC.2.1.2.2.2.1
@[irreducible] def target := epC.2.1.2.2.2.2.2.1
@[irreducible] def elt := epC.2.1.2.2.2.2.2.2.1
@[irreducible] def iter := epC.2.1.2.2.2.2.2.2.2
@[irreducible] def ifs := epC.2.2.1.1
@[irreducible] def scope := epC.2.2.1.2.1
@[irreducible] def pos := epC.2.2.1.2.2.1
@[irreducible] def cl := epC.2.2.1.2.2.2.1
@[irreducible] def env := epC.2.2.1.2.2.2.2.1
@[irreducible] def m := epC.2.2.1.2.2.2.2.2.1
@[irreducible] def news := epC.2.2.1.2.2.2.2.2.2.1
@[irreducible] def own := epC.2.2.1.2.2.2.2.2.2.2
@[irreducible] def R := epC.2.2.2.1
@[irreducible] def RR := epC.2.2.2.2
namespace seg_sA_main
noncomputable def body : (P_1 : Heap → Nat → Heap → Nat → Obj → Array DictEntry → Nat → Prop) ×' ((∀ a b c d e f g, P_1 a b c d e f g) → (prP prog w A epC.1.2.2.2.1 s h₀ L I src n epC.2.1.2.2.1 st epC.2.1.2.2.2.2.1 target elt iter ifs scope pos cl env m news own R RR)) := by
  refine' ⟨_, fun k_1 => ?main⟩
  case main =>
    intro hI hself hcell hkind hn h0 F N ha hsrc r0 hR turn fin
    have never : ∀ (R : Value → Shared → Prop), ∀ e s', Nev e s' → R e s' := fun _ _ _ h => h.elim
    refine wpAny_newObj_type (wpAny_newFunctionEnv hcell (by intro y hy; simp at hy) (fun h₁ hns₁ hsb₁ => ?_) hkind)
    dsimp only at hns₁ hsb₁ ⊢
    obtain ⟨D, hD⟩ : ∃ D, D = s.heap.objs.size := ⟨_, rfl⟩
    rw [← hD]
    have ND := News.push F N { cls := .type "list", data := .seq ([] : List Value).toArray }
    have FD := Fr.push F { cls := .type "list", data := .seq ([] : List Value).toArray }
    have hlt : ∀ q ∈ own ++ news, @LT.lt Nat _ q.1 D := fun q hq => hD ▸ Heap.lt_size (N q hq).1
    rw [← hD] at ND
    generalize hH2 : s.heap.push { cls := .type "list", data := .seq ([] : List Value).toArray } = H2 at hns₁ hsb₁ ND FD ⊢
    obtain ⟨C, hC⟩ : ∃ C, C = H2.objs.size := ⟨_, rfl⟩
    rw [← hC] at hns₁ hsb₁ ⊢
    have hDC : @LT.lt Nat _ D C := by rw [hC, ← hH2, Heap.size_push, hD]; exact Nat.lt_succ_self _
    have hLD : @LT.lt Nat _ L D := by rw [hD]; exact F.ns.lt
    have hLC : @LT.lt Nat _ L C := Nat.lt_trans hLD hDC
    have keep1 : ∀ b o, H2.get? b = some o → h₁.get? b = some o := fun b o e => hsb₁.extBut b o (Nat.ne_of_lt (hC ▸ Heap.lt_size e)) (Heap.get?_push_of_some _ e)
    have hC0 : h₀.get? C = none := Heap.get?_none_of_le (Nat.le_trans F.above (Nat.le_of_lt hLC))
    refine byC fun hGZ => ?_
    obtain ⟨oL, a1, a2, hoL, a3⟩ := FD.ns
    refine hGZ ?_; clear hGZ
    have hL0 : h₀.get? L = none := Heap.get?_none_of_le F.above
    have FC : Fr h₀ C h₁ (fun y => List.lookup y ([] : List (Str × Value)).reverse) := ⟨hns₁, fun b o e => keep1 b o (FD.keep b o e), Nat.le_trans F.above (Nat.le_of_lt hLC)⟩
    have neC : ∀ {b o}, H2.get? b = some o → b ≠ C := fun e => Nat.ne_of_lt (hC ▸ Heap.lt_size e)
    have NC : News h₀ C h₁ (own ++ ([(D, W.listOf ([] : List Value).toArray 0), (L, oL)] ++ news)) := by
      intro p hp
      rcases List.mem_append.mp hp with hp | hp
      · have := ND p (.tail _ (List.mem_append_left _ hp)); exact ⟨keep1 _ _ this.1, neC this.1, this.2.2⟩
      · rcases List.mem_cons.mp hp with rfl | hp
        · have := ND _ (.head _); exact ⟨keep1 _ _ this.1, neC this.1, this.2.2⟩
        · rcases List.mem_cons.mp hp with rfl | hp
          · exact ⟨keep1 _ _ hoL, neC hoL, hL0⟩
          · have := ND p (.tail _ (List.mem_append_right _ hp)); exact ⟨keep1 _ _ this.1, neC this.1, this.2.2⟩
    have hoffD : Off D news := fun p hp => Nat.ne_of_lt (hlt p (List.mem_append_right _ hp))
    have hoffL : Off L news := fun p hp => (N p (List.mem_append_right _ hp)).2.1
    have hap0 : ∀ ys k, Apart own ([(D, W.listOf (List.toArray ys) k), (L, oL)] ++ news) := fun ys k q hq => off_cons.mpr ⟨Nat.ne_of_gt (hlt q (List.mem_append_left _ hq)), off_cons.mpr ⟨fun e => (N q (List.mem_append_left _ hq)).2.1 e.symm, ha q hq⟩⟩
    revert hI hself hcell hkind hn h0 F N ha hsrc r0 hR turn fin never hD hlt hH2 ND FD hsb₁ hns₁ hC hDC hLD hLC keep1 hC0 hoL a3 hL0 FC neC NC hoffD hoffL hap0
    exact k_1 h₁ D H2 C oL a1 a2
namespace sB
noncomputable abbrev tyC := Heap × Nat × Heap × Nat × Obj × Array DictEntry × Nat
def prP := body.1
def prQ (x : tyC) : Prop := prP x.1 x.2.1 x.2.2.1 x.2.2.2.1 x.2.2.2.2.1 x.2.2.2.2.2.1 x.2.2.2.2.2.2
noncomputable def inI : tyC := default
def epC : tyC := eps inI prQ
@[irreducible] def h₁ := epC.1
@[irreducible] def D := epC.2.1
@[irreducible] def C := epC.2.2.2.1
@[irreducible] def oL := epC.2.2.2.2.1
@[irreducible] def a1 := epC.2.2.2.2.2.1
@[irreducible] def a2 := epC.2.2.2.2.2.2
theorem sB_main : prP h₁ D epC.2.2.1 C oL a1 a2 := by
  intro hI hself hcell hkind hn h0 F N ha hsrc r0 hR turn fin never hD hlt hH2 ND FD hsb₁ hns₁ hC hDC hLD hLC keep1 hC0 hoL a3 hL0 FC neC NC hoffD hoffL hap0
  show codeAny (model prog w) A (.compStart (.ListComp elt [⟨target, iter, ifs, 0⟩] scope pos) 0 (.ref I) (.ref D) (compEnvC scope cl C env)) (RR (.ref D) C) { s with heap := h₁, toks := s.toks + ([] : List (Str × Value)).length }
  have loop : codeAny (model prog w) A (.compLoop (.ListComp elt [⟨target, iter, ifs, 0⟩] scope pos) 0 (.ref I) (.ref D) (compEnvC scope cl C env)) (RR (.ref D) C) { s with heap := h₁, toks := s.toks + ([] : List (Str × Value)).length } := by
    refine compLoop_any (fun k s' => ∃ i own' h tk g mc ys kk, k = n - i ∧ i ≤ n ∧ s' = { s with heap := h, toks := tk, gens := g } ∧ st i own' g ∧ Fr h₀ C h mc ∧ News h₀ C h (own' ++ ([(D, W.listOf (List.toArray ys) kk), (L, oL)] ++ news)) ∧ Apart own' ([(D, W.listOf (List.toArray ys) kk), (L, oL)] ++ news) ∧ R i ys) ?_ n _
      ⟨0, own, h₁, _, s.gens, _, [], 0, by (first | exact om30 | omega), Nat.zero_le _, rfl, h0, FC, NC, hap0 _ _, r0⟩
    rintro k s' ⟨i, own', h, tk, g, mc, ys, kk, rfl, hi, rfl, hst, F', N', ha', r⟩
    have hsrc' : ∀ p ∈ src, p ∈ [(D, W.listOf (List.toArray ys) kk), (L, oL)] ++ news := fun p hp => List.mem_append_right _ (hsrc p hp)
    by_cases hltn : i < n
    · refine wpAny_mono (hI.item C Nev i own' mc _ _ (fun v s₂ => wpAny (model prog w) A (assign target (compEnvC scope cl C env) v) (fun _ s₂ =>
          wpAny (model prog w) A (forIn ifs true fun c r => if r = true then do let ok ← isTrue c (compEnvC scope cl C env) (eval c (compEnvC scope cl C env)); pure (ForInStep.yield ok) else pure (ForInStep.yield r)) (fun ok s₃ =>
            if ok = true then wpAny (model prog w) A (eval elt (compEnvC scope cl C env)) (fun x s₄ =>
              wpAny (model prog w) A (call (.builtin "list.append") [.ref D, x]) (fun _ s₅ => ∃ m, m < n - i ∧ (fun k s' => ∃ i own' h tk g mc ys kk, k = n - i ∧ i ≤ n ∧ s' = { s with heap := h, toks := tk, gens := g } ∧ st i own' g ∧ Fr h₀ C h mc ∧ News h₀ C h (own' ++ ([(D, W.listOf (List.toArray ys) kk), (L, oL)] ++ news)) ∧ Apart own' ([(D, W.listOf (List.toArray ys) kk), (L, oL)] ++ news) ∧ R i ys) m s₅) (notedBy (model prog w) A (compEnvC scope cl C env) fun e s' => RR (.ref D) C (.error e) s') s₄) (notedBy (model prog w) A (compEnvC scope cl C env) fun e s' => RR (.ref D) C (.error e) s') s₃
            else ∃ m, m < n - i ∧ (fun k s' => ∃ i own' h tk g mc ys kk, k = n - i ∧ i ≤ n ∧ s' = { s with heap := h, toks := tk, gens := g } ∧ st i own' g ∧ Fr h₀ C h mc ∧ News h₀ C h (own' ++ ([(D, W.listOf (List.toArray ys) kk), (L, oL)] ++ news)) ∧ Apart own' ([(D, W.listOf (List.toArray ys) kk), (L, oL)] ++ news) ∧ R i ys) m s₃) (notedBy (model prog w) A (compEnvC scope cl C env) fun e s' => RR (.ref D) C (.error e) s') s₂) (notedBy (model prog w) A (compEnvC scope cl C env) fun e s' => RR (.ref D) C (.error e) s') s₂)
        hltn hst F' N' hsrc' ha' fun v own'' ex h' tk' g' hP hst' ha'' F'' N'' hl => ?_) (fun r s₁ h₁ => ?_) (never _)
      · refine wpAny_mono (turn C i v ex own'' mc ys [(D, W.listOf (List.toArray ys) kk), (L, oL)] h' tk' g' hltn hP hst' r F'' N'' hl ha'') (fun _ s₂ h₂ => ?_) (never _)
        refine wpAny_mono h₂ (fun ok s₃ h₃ => ?_) (never _)
        cases ok with
        | false =>
          rw [if_neg Bool.false_ne_true] at h₃
          rw [if_neg Bool.false_ne_true]
          obtain ⟨⟨h9, tk9, mc9, rfl, F9, N9⟩, r9⟩ := h₃
          exact ⟨n - (i + 1), by (first | exact om31 hltn | omega), i + 1, own'', h9, tk9, g', mc9, ys, kk, rfl, hltn, rfl, hst', F9, N9, ha'', r9⟩
        | true =>
          rw [if_pos rfl] at h₃
          rw [if_pos rfl]
          refine wpAny_mono h₃ (fun y s₄ h₄ => ?_) (never _)
          obtain ⟨⟨h9, tk9, mc9, rfl, F9, N9⟩, r9⟩ := h₄
          have hys9 := hR _ _ r
          refine append_K F9 N9 (upd_mid (fun q hq => fun e => (ha'' q hq) _ (.head _) e.symm) (off_cons.mpr ⟨Nat.ne_of_lt hLD, hoffD⟩)) (fun h7 F7 N7 => ?_) (by rw [List.size_toArray, sizeLine_eq]; (first | exact om32 hn hltn hys9 | omega))
          rw [List.push_toArray] at N7
          exact ⟨n - (i + 1), by (first | exact om31 hltn | omega), i + 1, own'', h7, tk9, g', mc9, ys ++ [y], kk + 1, rfl, hltn, rfl, hst', F7, N7, fun q hq => off_cons.mpr ⟨(off_cons.mp (ha'' q hq)).1, (off_cons.mp (ha'' q hq)).2⟩, r9⟩
      · cases r with
        | none => exact h₁.elim
        | some v => exact wpAny_mono h₁ (fun _ _ x => x) (never _)
    · obtain rfl : i = n := by (first | exact om33 hi hltn | omega)
      refine hI.done C _ own' mc _ _ _ hst F' N' hsrc' ha' fun h' tk' g' hg F'' N'' => ?_
      have hL' : h'.get? L = some oL := (N'' _ (.tail _ (.head _))).1
      have hDn := N'' _ (.head _)
      refine fin D C h' tk' g' mc ys kk hlt hg r hLD hDC F''.ns ⟨⟨oL, a1, a2, hL', a3⟩, F''.keep, F.above⟩ (fun p hp => ?_) (fun p hp => (N'' p (.tail _ (.tail _ hp))).2.1) hC0
      rcases List.mem_cons.mp hp with rfl | hp
      · exact ⟨hDn.1, Nat.ne_of_gt hLD, hDn.2.2⟩
      · have q := N'' p (.tail _ (.tail _ hp))
        exact ⟨q.1, hoffL p hp, q.2.2⟩
  exact codeAny_compStart_list loop (hself C _ _ _ _ h0 NC loop)
theorem all : ∀ x, prQ x := @sk tyC inI prQ (by with_unfolding_all exact @sB_main)
end sB
end seg_sA_main
theorem sA_main : prP prog w A epC.1.2.2.2.1 s h₀ L I src n epC.2.1.2.2.1 st epC.2.1.2.2.2.2.1 target elt iter ifs scope pos cl env m news own R RR := @PSigma.snd _ _ seg_sA_main.body (fun a b c d e f g => @seg_sA_main.sB.all (a, b, c, d, e, f, g))
theorem all : ∀ x, prQ x := @sk tyC inI prQ (by with_unfolding_all exact @sA_main)
end sA
end seg_lc_blockT_all
theorem lc_blockT_all : ∀ (prog : Program) (w : World) (A : Around) (E : Value → Shared → Prop) (s : Shared) (h₀ : Heap) (L : Addr) (I : Addr) (src : List (Addr × Obj)) (n : Nat) (P : Nat → Value → List (Addr × Obj) → Prop) (st : Nat → List (Addr × Obj) → Array GenState → Prop) (GG : Array GenState → Prop) (target : PySem.Expr) (elt : PySem.Expr) (iter : PySem.Expr) (ifs : List PySem.Expr) (scope : Scope) (pos : Pos) (cl : List (Str × Addr)) (env : Env) (m : Str → Option Value) (news : List (Addr × Obj)) (own : List (Addr × Obj)) (hI : ItT prog w A h₀ target I src n P st GG) (hself : ∀ (C : Addr) (nx : List (Addr × Obj)) (s : Shared) (Q : Value → Shared → Prop) (E : Value → Shared → Prop), st 0 own s.gens → News h₀ C s.heap (own ++ nx) → Q (.ref I) s → wpAny (model prog w) A (pyIter (.ref I)) Q E s) (R : Nat → List Value → Prop) (hcell : ∀ y ∈ scope.names, y.2 ≠ .cell) (hkind : scope.kind = .function) (hn : n ≤ 100000) (h0 : st 0 own s.gens) (F : Fr h₀ L s.heap m) (N : News h₀ L s.heap (own ++ news)) (ha : Apart own news) (hsrc : ∀ p ∈ src, p ∈ news) (r0 : R 0 []) (hR : ∀ i ys, R i ys → ys.length ≤ i) (RR : Value → Addr → Result → Shared → Prop) (turn : ∀ C i v ex own' mc ys dl h tk g, i < n → P i v ex → st (i + 1) own' g → R i ys → Fr h₀ C h mc → News h₀ C h (ex ++ (own' ++ (dl ++ news))) → (∀ p ∈ ex, ∀ q ∈ own' ++ (dl ++ news), @LT.lt Nat _ q.1 p.1) → Apart own' (dl ++ news) →
      wpAny (model prog w) A (assign target (compEnvC scope cl C env) v) (fun _ s₂ =>
        wpAny (model prog w) A (forIn ifs true fun c r => if r = true then do let ok ← isTrue c (compEnvC scope cl C env) (eval c (compEnvC scope cl C env)); pure (ForInStep.yield ok) else pure (ForInStep.yield r)) (fun ok s₃ =>
          if ok = true then wpAny (model prog w) A (eval elt (compEnvC scope cl C env)) (fun y s₄ => CKeep h₀ C { s with gens := g } (own' ++ (dl ++ news)) s₄ ∧ R (i + 1) (ys ++ [y])) Nev s₃
          else CKeep h₀ C { s with gens := g } (own' ++ (dl ++ news)) s₃ ∧ R (i + 1) ys) Nev s₂) Nev { s with heap := h, toks := tk, gens := g }) (fin : ∀ D C h tk g mc ys k, (∀ q ∈ own ++ news, @LT.lt Nat _ q.1 D) → GG g → R n ys → @LT.lt Nat _ L D → @LT.lt Nat _ D C → h.Ns C mc → Fr h₀ L h m → News h₀ L h ((D, W.listOf (List.toArray ys) k) :: news) → (∀ p ∈ news, p.1 ≠ C) → h₀.get? C = none →
      RR (.ref D) C (.ok .next) { s with heap := h, toks := tk, gens := g }),
    wpAny (model prog w) A (newList []) (fun acc s₃ => wpAny (model prog w) A (newFunctionEnv scope env.globals cl [] env.qual none .none (some env)) (fun cenv s₄ =>
      codeAny (model prog w) A (.compStart (.ListComp elt [⟨target, iter, ifs, 0⟩] scope pos) 0 (.ref I) acc { cenv with scope := relabel scope env }) (RR acc cenv.locals) s₄) E s₃) E s := @PSigma.snd _ _ seg_lc_blockT_all.body (fun a b c d e f g h i j k l m n o p q r s t u v w x y z => @seg_lc_blockT_all.sA.all ((a, b, c, d, e, f, g, h), (i, j, k, l, m, n, o, p), (q, r, s, t, u, v, w, x), (y, z)))
section
variable {prog : Program} {w : World} {A : Around} {E : Value → Shared → Prop} {s : Shared} {h₀ : Heap} {L I : Addr} {src : List (Addr × Obj)} {n : Nat} {P : Nat → Value → List (Addr × Obj) → Prop} {st : Nat → List (Addr × Obj) → Array GenState → Prop} {GG : Array GenState → Prop}
  {target elt iter : PySem.Expr} {ifs : List PySem.Expr} {scope : Scope} {pos py : Pos} {cl : List (Str × Addr)} {env : Env} {m : Str → Option Value} {news own : List (Addr × Obj)} {y : Str}
theorem lc_blockT (hI : ItT prog w A h₀ target I src n P st GG) (hself : ∀ (C : Addr) (nx : List (Addr × Obj)) (s : Shared) (Q : Value → Shared → Prop) (E : Value → Shared → Prop), st 0 own s.gens → News h₀ C s.heap (own ++ nx) → Q (.ref I) s → wpAny (model prog w) A (pyIter (.ref I)) Q E s)
    (R : Nat → List Value → Prop) (hcell : ∀ y ∈ scope.names, y.2 ≠ .cell) (hkind : scope.kind = .function) (hn : n ≤ 100000)
    (h0 : st 0 own s.gens) (F : Fr h₀ L s.heap m) (N : News h₀ L s.heap (own ++ news)) (ha : Apart own news) (hsrc : ∀ p ∈ src, p ∈ news)
    (r0 : R 0 []) (hR : ∀ i ys, R i ys → ys.length ≤ i) {RR : Value → Addr → Result → Shared → Prop}
    (turn : ∀ C i v ex own' mc ys dl h tk g, i < n → P i v ex → st (i + 1) own' g → R i ys → Fr h₀ C h mc → News h₀ C h (ex ++ (own' ++ (dl ++ news))) → (∀ p ∈ ex, ∀ q ∈ own' ++ (dl ++ news), @LT.lt Nat _ q.1 p.1) → Apart own' (dl ++ news) →
      wpAny (model prog w) A (assign target (compEnvC scope cl C env) v) (fun _ s₂ =>
        wpAny (model prog w) A (forIn ifs true fun c r => if r = true then do let ok ← isTrue c (compEnvC scope cl C env) (eval c (compEnvC scope cl C env)); pure (ForInStep.yield ok) else pure (ForInStep.yield r)) (fun ok s₃ =>
          if ok = true then wpAny (model prog w) A (eval elt (compEnvC scope cl C env)) (fun y s₄ => CKeep h₀ C { s with gens := g } (own' ++ (dl ++ news)) s₄ ∧ R (i + 1) (ys ++ [y])) Nev s₃
          else CKeep h₀ C { s with gens := g } (own' ++ (dl ++ news)) s₃ ∧ R (i + 1) ys) Nev s₂) Nev { s with heap := h, toks := tk, gens := g })
    (fin : ∀ D C h tk g mc ys k, (∀ q ∈ own ++ news, @LT.lt Nat _ q.1 D) → GG g → R n ys → @LT.lt Nat _ L D → @LT.lt Nat _ D C → h.Ns C mc → Fr h₀ L h m → News h₀ L h ((D, W.listOf (List.toArray ys) k) :: news) → (∀ p ∈ news, p.1 ≠ C) → h₀.get? C = none →
      RR (.ref D) C (.ok .next) { s with heap := h, toks := tk, gens := g }) :
    wpAny (model prog w) A (newList []) (fun acc s₃ => wpAny (model prog w) A (newFunctionEnv scope env.globals cl [] env.qual none .none (some env)) (fun cenv s₄ =>
      codeAny (model prog w) A (.compStart (.ListComp elt [⟨target, iter, ifs, 0⟩] scope pos) 0 (.ref I) acc { cenv with scope := relabel scope env }) (RR acc cenv.locals) s₄) E s₃) E s := lc_blockT_all prog w A E s h₀ L I src n P st GG target elt iter ifs scope pos cl env m news own hI hself R hcell hkind hn h0 F N ha hsrc r0 hR RR turn fin
theorem lc_goT {Q : Value → Shared → Prop} (hI : ItT prog w A h₀ target I src n P st GG) (hself : ∀ (C : Addr) (nx : List (Addr × Obj)) (s : Shared) (Q : Value → Shared → Prop) (E : Value → Shared → Prop), st 0 own s.gens → News h₀ C s.heap (own ++ nx) → Q (.ref I) s → wpAny (model prog w) A (pyIter (.ref I)) Q E s)
    (R : Nat → List Value → Prop) (hcell : ∀ y ∈ scope.names, y.2 ≠ .cell) (hkind : scope.kind = .function) (hn : n ≤ 100000)
    (h0 : st 0 own s.gens) (F : Fr h₀ L s.heap m) (N : News h₀ L s.heap (own ++ news)) (ha : Apart own news) (hsrc : ∀ p ∈ src, p ∈ news)
    (r0 : R 0 []) (hR : ∀ i ys, R i ys → ys.length ≤ i)
    (turn : ∀ C i v ex own' mc ys dl h tk g, i < n → P i v ex → st (i + 1) own' g → R i ys → Fr h₀ C h mc → News h₀ C h (ex ++ (own' ++ (dl ++ news))) → (∀ p ∈ ex, ∀ q ∈ own' ++ (dl ++ news), @LT.lt Nat _ q.1 p.1) → Apart own' (dl ++ news) →
      wpAny (model prog w) A (assign target (compEnvC scope cl C env) v) (fun _ s₂ =>
        wpAny (model prog w) A (forIn ifs true fun c r => if r = true then do let ok ← isTrue c (compEnvC scope cl C env) (eval c (compEnvC scope cl C env)); pure (ForInStep.yield ok) else pure (ForInStep.yield r)) (fun ok s₃ =>
          if ok = true then wpAny (model prog w) A (eval elt (compEnvC scope cl C env)) (fun y s₄ => CKeep h₀ C { s with gens := g } (own' ++ (dl ++ news)) s₄ ∧ R (i + 1) (ys ++ [y])) Nev s₃
          else CKeep h₀ C { s with gens := g } (own' ++ (dl ++ news)) s₃ ∧ R (i + 1) ys) Nev s₂) Nev { s with heap := h, toks := tk, gens := g })
    (fin : ∀ D h tk g ys k, (∀ q ∈ own ++ news, @LT.lt Nat _ q.1 D) → GG g → R n ys → Fr h₀ L h m → News h₀ L h ((D, W.listOf (List.toArray ys) k) :: news) → Q (.ref D) { s with heap := h, toks := tk, gens := g }) :
    LcGo prog w A elt target iter ifs scope pos cl env (compPost (model prog w) A E none Q) E (.ref I) s := by
  refine lc_blockT hI hself R hcell hkind hn h0 F N ha hsrc r0 hR turn (fun D C h tk g mc ys k hlt hg hr hLD hDC hns F' N' hC hC0 => ?_)
  refine ⟨mc, hns, fun h' hs => ?_⟩
  have hLC : C ≠ L := Nat.ne_of_gt (Nat.lt_trans hLD hDC)
  have N'' : News h₀ L h' ((D, W.listOf (List.toArray ys) k) :: news) := fun p hp => by
    have q := N' p hp
    refine ⟨(hs.2 p.1 ?_).trans q.1, q.2⟩
    rcases List.mem_cons.mp hp with rfl | hp
    · exact Nat.ne_of_lt hDC
    · exact hC p hp
  exact fin D h' tk g ys k hlt hg hr (F'.change hs hLC hC0) N''
end
end
section
open PySem.AutoSeq1 (wpAny_loadPart')
section
variable {prog : Program} {w : World} {A : Around} {E : Value → Shared → Prop} {s : Shared}
theorem nextOf_tuple_item {it t : Addr} {i : Nat} {items : Array Value} {x : Value} {Q : Value → Shared → Prop} (hit : s.heap.IsTupleIter it t i)
    (hl : s.heap.IsTuple t items) (hx : items[i]? = some x)
    (hQ : ∀ h', h'.IsTupleIter it t (i + 1) → Heap.SameBut it s.heap h' → Q x { s with heap := h' }) :
    wpAny (model prog w) A (Builtin.SmallTypes.nextOf (.ref it)) Q E s := by
  refine byC fun hGZ => ?_
  obtain ⟨o, ho, hc, hd⟩ := id hit
  obtain ⟨ol, hol, _, nl, hdl⟩ := hl
  refine hGZ ?_; clear hGZ
  unfold Builtin.SmallTypes.nextOf
  refine wpAny_bind (wpAny_callSpecial?_slot (name := Str.ofString "__next__") hit.typeIs F.slot_tuple_iterator_next
    (wpAny_call_entry F.slot_tuple_iterator_next hit.typeIs F.entry_tuple_iterator_next ?_ (F.args_tuple_iterator_next_1 _)))
  show wpAny _ _ (field (.ref it) 0 >>= _) _ _ s
  refine wpAny_bind (wpAny_field ho hd (x := .ref t) rfl ?_)
  show wpAny _ _ (if (Value.ref t == Value.none) = true then _ else _) _ _ s
  rw [if_neg (show ¬ ((Value.ref t == Value.none) = true) from Bool.false_ne_true)]
  show wpAny _ _ (field (.ref it) 1 >>= _) _ _ s
  refine wpAny_bind (wpAny_field ho hd (x := .int i 0) rfl ?_)
  show wpAny _ _ (seqItems? (.ref t) >>= _) _ _ s
  refine wpAny_bind (wpAny_seqItems hol hdl ?_)
  simp only [Int.toNat_natCast, hx]
  refine wpAny_bind (wpAny_setField ho hd (by simp) (wpAny_pure ⟨x, rfl, wpAny_pure (hQ _ ?_ (Heap.SameBut.update ..))⟩))
  exact ⟨_, Heap.get?_update_self _ ho (Obj.isFreed_of_fields (Obj.data_mapFields hd _)), (Obj.cls_mapFields ..).trans hc, by
    rw [Obj.data_mapFields hd]; simp [rawInt]⟩
theorem nextOf_tuple_end {it t : Addr} {i : Nat} {items : Array Value} {Q : Value → Shared → Prop} (hh : A.handled = none)
    (hit : s.heap.IsTupleIter it t i) (hl : s.heap.IsTuple t items) (hx : items[i]? = none)
    (hE : ∀ h' e, Heap.ExtBut it s.heap h' → (∃ o, h'.get? e = some o ∧ o.cls = .type "StopIteration") → E (.ref e) { s with heap := h' }) :
    wpAny (model prog w) A (Builtin.SmallTypes.nextOf (.ref it)) Q E s := by
  refine byC fun hGZ => ?_
  obtain ⟨o, ho, hc, hd⟩ := id hit
  obtain ⟨ol, hol, _, nl, hdl⟩ := hl
  refine hGZ ?_; clear hGZ
  unfold Builtin.SmallTypes.nextOf
  refine wpAny_bind (wpAny_callSpecial?_slot (name := Str.ofString "__next__") hit.typeIs F.slot_tuple_iterator_next
    (wpAny_call_entry F.slot_tuple_iterator_next hit.typeIs F.entry_tuple_iterator_next ?_ (F.args_tuple_iterator_next_1 _)))
  show wpAny _ _ (field (.ref it) 0 >>= _) _ _ s
  refine wpAny_bind (wpAny_field ho hd (x := .ref t) rfl ?_)
  show wpAny _ _ (if (Value.ref t == Value.none) = true then _ else _) _ _ s
  rw [if_neg (show ¬ ((Value.ref t == Value.none) = true) from Bool.false_ne_true)]
  show wpAny _ _ (field (.ref it) 1 >>= _) _ _ s
  refine wpAny_bind (wpAny_field ho hd (x := .int i 0) rfl ?_)
  show wpAny _ _ (seqItems? (.ref t) >>= _) _ _ s
  refine wpAny_bind (wpAny_seqItems hol hdl ?_)
  simp only [Int.toNat_natCast, hx]
  refine wpAny_bind (wpAny_rule (wpAny_bind (wpAny_setField ho hd (by simp) ?_)))
  show wpAny _ _ (newExc (.type "StopIteration") [] >>= _) _ _ _
  refine wpAny_bind ?_
  simp only [newExc, newTuple]
  refine wpAny_bind (wpAny_newObj_type ?_ (by size_fits))
  refine wpAny_bind (m := firstArgMember _ _) (wpAny_of_eq (a := Value.none) (by first | rfl | (simp only [firstArgMember]; rfl)) ?_)
  refine wpAny_newObj_type ?_ (by size_fits)
  simp only [raiseNew]
  refine wpAny_bind (wpAny_handled ?_)
  first | rw [show A.in1.handled = none from hh] | rw [hh]
  refine wpAny_bind (wpAny_pure (wpAny_throw ?_))
  exact hE _ _ (((Heap.SameBut.update ..).extBut.push _).push _) ⟨_, Heap.get?_push_size _ rfl, rfl⟩
end
theorem draws_tuple {prog : Program} {w : World} {A : Around} (hh : A.handled = none) (it t : Addr) (hne : t ≠ it) (items : Array Value) :
    Draws prog w A it [it, t] items.size (fun i v => items[i]? = some v) (fun i h => h.IsTupleIter it t i ∧ h.IsTuple t items) where
  live := fun _ _ st => let ⟨o, ho, _⟩ := st.1; ⟨o, ho⟩
  frame := fun _ _ _ st hk => ⟨let ⟨o, ho, r⟩ := st.1; ⟨o, hk it (by simp) o ho, r⟩, let ⟨o, ho, r⟩ := st.2; ⟨o, hk t (by simp) o ho, r⟩⟩
  item := fun i s Q E hi st hQ => by
    refine nextOf_tuple_item st.1 st.2 (x := items[i]) (by simp [hi]) fun h' hit' hs' => ?_
    exact hQ _ h' s.toks (by simp [hi]) ⟨hit', st.2.extBut hs'.extBut hne⟩ hs'
  done := fun s Q E st hE => nextOf_tuple_end hh st.1 st.2 (by simp) hE
set_option maxHeartbeats 1000000 in
theorem meets_enum_tuple (l : Addr) (items : Array Value) :
    Meets (Builtin.«enumerate.__new__» ⟨[.type "enumerate", .ref l], []⟩) (fun _ R s => s.heap.get? l = some { cls := .type "tuple", data := .seq items } ∧
      R (.ok (.ret (.ref (s.heap.push { cls := .type "tuple_iterator", data := .fields #[.ref l, .int 0 0] }).objs.size)))
        { s with heap := (s.heap.push { cls := .type "tuple_iterator", data := .fields #[.ref l, .int 0 0] }).push { cls := .type "enumerate", data := .fields #[.none, .bool false, .ref s.heap.objs.size, rawInt 0, .none, .none] } }) :=
  .of_wp fun prog w A R s h => by
    obtain ⟨hp, g, d, tk, os⟩ := s; obtain ⟨hl, h⟩ := h
    have hsub := sub_enumerate
    have hL : Heap.IsTuple (Shared.heap ⟨hp, g, d, tk, os⟩) l items := ⟨_, hl, rfl, _, rfl⟩
    wp_walk using wpAny_loadPart' hl
    refine wpAny_stack_any fun st => wpAny_pure ?_
    split
    · rename_i c _ _ _ _ _
      cases (c == Value.type "enumerate")
      · wp_walk using wpAny_loadPart' hl, wpAny_pyIter_tuple hL
        exact ⟨_, rfl, h⟩
      · wp_walk using wpAny_loadPart' hl, wpAny_pyIter_tuple hL
        exact ⟨_, rfl, h⟩
    · wp_walk using wpAny_loadPart' hl, wpAny_pyIter_tuple hL
      exact ⟨_, rfl, h⟩
noncomputable def etSt (e it l : Addr) (g0 : Array GenState) (i : Nat) (own : List (Addr × Obj)) (g : Array GenState) : Prop :=
  g = g0 ∧ e ≠ it ∧ ∃ old o, own = [(e, { cls := .type "enumerate", dict := none, data := .fields #[.none, .bool false, .ref it, rawInt i, .none, old], slots := #[] }), (it, o)] ∧ o.cls = .type "tuple_iterator" ∧ o.data = .fields #[.ref l, .int i 0]
section
variable {prog : Program} {w : World} {A : Around} {E : Value → Shared → Prop} {s : Shared} {h₀ : Heap} {L : Addr} {m : Str → Option Value} {news : List (Addr × Obj)}
theorem it_enumT (hh : A.handled = none) {e it l : Addr} {g0 : Array GenState} {vs : List Value} {elts : List PySem.Expr} {k : Nat} {pos : Pos} :
    ItT prog w A h₀ (.Tuple elts k pos) e [(l, { cls := .type "tuple", data := .seq vs.toArray })] vs.length (fun i v ex => ∃ D t x, v = .ref D ∧ vs[i]? = some x ∧ ex = [(D, { cls := .type "tuple", data := .seq #[.int i t, x] })]) (etSt e it l g0) (· = g0) where
  item := by
    rintro L E i own m nx s Q hi ⟨hg, hei, old, o, rfl, hc, hd⟩ F N hsrc ha k
    have ne := N _ (.head _)
    have ni := N _ (.tail _ (.head _))
    have nl := N _ (List.mem_append_right _ (hsrc _ (.head _)))
    have hel : l ≠ e := ha _ (.head _) _ (hsrc _ (.head _))
    have hil : l ≠ it := ha _ (.tail _ (.head _)) _ (hsrc _ (.head _))
    refine wpAny_pyNext_enum_itemD (draws_tuple (A := A.in1) hh it l hil vs.toArray) ne.1 ⟨⟨o, ni.1, hc, hd⟩, ⟨_, nl.1, rfl, _, rfl⟩⟩ (by simpa using hi) hei (by simp only [List.mem_cons, List.not_mem_nil, or_false]; exact fun e9 => e9.elim hei fun e9 => hel e9.symm) fun x h' tk hPx hE hI hT hsz hk => ?_
    dsimp only
    obtain ⟨⟨o', ho', hc', hd'⟩, _⟩ := hI
    refine wpAny_letOwnedTupleGo_enum hE fun h2 hE2 hs2 => ?_
    obtain ⟨D, hD⟩ : ∃ D, D = s.heap.objs.size := ⟨_, rfl⟩
    rw [← hD] at hT ⊢
    have hlt := news_lt N
    rw [← hD] at hlt
    have heD : e ≠ D := Nat.ne_of_lt (hlt _ (.head _))
    have hiD : it ≠ D := Nat.ne_of_lt (hlt _ (.tail _ (.head _)))
    have keep : ∀ b ob, b ≠ e → b ≠ it → s.heap.get? b = some ob → h2.get? b = some ob := fun b ob h1 h3 e9 => hs2.extBut _ _ h1 (hk b ob h1 h3 e9)
    refine k (.ref D) [(e, { cls := .type "enumerate", dict := none, data := .fields #[.none, .bool false, .ref it, rawInt ((i : Int) + 1), .none, x], slots := #[] }), (it, o')] [(D, _)] h2 _ s.gens ⟨D, tk, x, rfl, by simpa using hPx, rfl⟩ ⟨hg, hei, x, o', rfl, hc', hd'⟩ ?_ ?_ ?_ ?_
    · intro q hq
      rcases List.mem_cons.mp hq with rfl | hq
      · have q9 := ha _ (.head _); exact q9
      · rw [List.mem_singleton.mp hq]; exact ha (it, o) (.tail _ (.head _))
    · refine fr_ext2 F (own := [(e, o), (it, o)]) (fun p hp => ?_) (fun b ob h1 e9 => keep b ob (h1 (e, o) (.head _)) (h1 (it, o) (.tail _ (.head _))) e9)
      rcases List.mem_cons.mp hp with rfl | hp
      · exact ne.2
      · rw [List.mem_singleton.mp hp]; exact ni.2
    · intro p hp
      rcases List.mem_cons.mp hp with rfl | hp
      · refine ⟨hs2.extBut _ _ heD.symm hT, ?_, ?_⟩
        · exact hD ▸ Nat.ne_of_gt F.ns.lt
        · exact hD ▸ Heap.get?_none_of_le (Nat.le_trans F.above (Nat.le_of_lt F.ns.lt))
      · rcases List.mem_cons.mp hp with rfl | hp
        · exact ⟨hE2, ne.2⟩
        · rcases List.mem_cons.mp hp with rfl | hp
          · exact ⟨hs2.extBut _ _ hei.symm ho', ni.2⟩
          · have q := N p (List.mem_append_right _ hp)
            exact ⟨keep _ _ (ha _ (.head _) p hp) (ha _ (.tail _ (.head _)) p hp) q.1, q.2⟩
    · intro p hp q hq
      rw [List.mem_singleton.mp hp]
      rcases List.mem_cons.mp hq with rfl | hq
      · have q9 := hlt _ (.head _); exact q9
      · rcases List.mem_cons.mp hq with rfl | hq
        · have q9 := hlt _ (.tail _ (.head _)); exact q9
        · exact hlt _ (.tail _ (.tail _ hq))
  done := by
    rintro L E own m nx s Q ⟨hg, hei, old, o, rfl, hc, hd⟩ F N hsrc ha k
    have ne := N _ (.head _)
    have ni := N _ (.tail _ (.head _))
    have nl := N _ (List.mem_append_right _ (hsrc _ (.head _)))
    have hil : l ≠ it := ha _ (.tail _ (.head _)) _ (hsrc _ (.head _))
    have hn : vs.toArray.size = vs.length := by simp
    refine wpAny_pyNext_enum_endD (draws_tuple (A := A.in1) hh it l hil vs.toArray) ne.1 (by rw [hn]; exact ⟨⟨o, ni.1, hc, hd⟩, ⟨_, nl.1, rfl, _, rfl⟩⟩) fun h' hs => ?_
    refine k h' s.toks s.gens hg (fr_ext F hs ni.2.1 ni.2.2) fun p hp => ?_
    have q := N p (List.mem_append_right _ hp)
    exact ⟨hs _ _ (ha _ (.tail _ (.head _)) p hp) q.1, q.2⟩
theorem call_enumT {l : Addr} {vs : List Value} {Q : Value → Shared → Prop} (F : Fr h₀ L s.heap m) (N : News h₀ L s.heap news) (hm : (l, { cls := .type "tuple", data := .seq vs.toArray }) ∈ news)
    (h : ∀ e it own h', Fr h₀ L h' m → News h₀ L h' (own ++ news) → etSt e it l s.gens 0 own s.gens → Apart own news → (∀ q ∈ news, @LT.lt Nat _ q.1 it) → @LT.lt Nat _ it e → Q (.ref e) { s with heap := h' }) :
    wpAny (model prog w) A (call (.type "enumerate") [.ref l]) Q E s := by
  refine callType_new PySem.F.called_enumerate (by decide) (PySem.F.typeCall_enumerate_1 _) (PySem.F.newCall_enumerate_1 _) (fun obj => PySem.F.args_object_init_2 obj _) PySem.F.entry_enumerate_new
    (meets_enum_tuple l vs.toArray) ⟨(N _ hm).1, ?_⟩
  have hz : (s.heap.push { cls := .type "tuple_iterator", data := .fields #[.ref l, .int 0 0] }).objs.size = s.heap.objs.size + 1 := Heap.size_push ..
  show _ ∧ _
  have F1 := F.push { cls := .type "tuple_iterator", data := .fields #[.ref l, .int 0 0] }
  have N1 := News.push F N { cls := .type "tuple_iterator", data := .fields #[.ref l, .int 0 0] }
  have F2 := F1.push { cls := .type "enumerate", data := .fields #[.none, .bool false, .ref s.heap.objs.size, rawInt 0, .none, .none] }
  have N2 := News.push F1 N1 { cls := .type "enumerate", data := .fields #[.none, .bool false, .ref s.heap.objs.size, rawInt 0, .none, .none] }
  have hlt := news_lt N
  rw [hz] at N2 ⊢
  refine ⟨⟨_, (N2 _ (.head _)).1, rfl⟩, ?_⟩
  refine h (s.heap.objs.size + 1) s.heap.objs.size [(s.heap.objs.size + 1, _), (s.heap.objs.size, _)] _ F2 N2 ⟨rfl, neN (by (first | exact om1 | omega)), .none, _, rfl, rfl, rfl⟩ ?_ hlt (Nat.lt_succ_self _)
  intro q hq
  rcases List.mem_cons.mp hq with rfl | hq
  · exact fun p hp => Nat.ne_of_lt (Nat.lt_succ_of_lt (hlt p hp))
  · rw [List.mem_singleton.mp hq]; exact fun p hp => Nat.ne_of_lt (hlt p hp)
theorem self_enumT {e it l : Addr} {g0 : Array GenState} {i : Nat} {own nx : List (Addr × Obj)} {Q : Value → Shared → Prop} (hst : etSt e it l g0 i own s.gens) (N : News h₀ L s.heap (own ++ nx)) (h : Q (.ref e) s) :
    wpAny (model prog w) A (pyIter (.ref e)) Q E s := by
  refine byC fun hGZ => ?_
  obtain ⟨_, _, old, o, rfl, _⟩ := hst
  refine hGZ ?_; clear hGZ
  exact wpAny_pyIter_enum (N _ (.head _)).1 h
end
end
section
@[reducible] noncomputable def lawB : Lit (List Stmt) (sBody (nth PySem.Challenge.pw_wv0034_01.main.body 21)) := by
  apply Lit.mk; case eq => dsimp only [nth, sBody, PySem.Challenge.pw_wv0034_01]
@[reducible] noncomputable def lawS : Lit Scope (sScope (nth PySem.Challenge.pw_wv0034_01.main.body 21)) := by
  apply Lit.mk; case eq => dsimp only [nth, sScope, PySem.Challenge.pw_wv0034_01]
noncomputable abbrev lawE (L fa : Addr) (cd : Value) : Env := envOfC (Str.ofString "law") lawS.val L fa cd
@[reducible] noncomputable def lt6 : Lit (List Stmt) (lawB.val.drop 6) := by
  apply Lit.mk; case eq => dsimp only [lawB, List.drop]
@[reducible] noncomputable def lt9 : Lit (List Stmt) (lawB.val.drop 9) := by
  apply Lit.mk; case eq => dsimp only [lawB, List.drop]
@[reducible] noncomputable def lt12 : Lit (List Stmt) (lawB.val.drop 12) := by
  apply Lit.mk; case eq => dsimp only [lawB, List.drop]
@[reducible] noncomputable def lt15 : Lit (List Stmt) (lawB.val.drop 15) := by
  apply Lit.mk; case eq => dsimp only [lawB, List.drop]
@[reducible] noncomputable def lt17 : Lit (List Stmt) (lawB.val.drop 17) := by
  apply Lit.mk; case eq => dsimp only [lawB, List.drop]
@[reducible] noncomputable def lt20 : Lit (List Stmt) (lawB.val.drop 20) := by
  apply Lit.mk; case eq => dsimp only [lawB, List.drop]
@[reducible] noncomputable def lt22 : Lit (List Stmt) (lawB.val.drop 22) := by
  apply Lit.mk; case eq => dsimp only [lawB, List.drop]
@[reducible] noncomputable def lt23 : Lit (List Stmt) (lawB.val.drop 23) := by
  apply Lit.mk; case eq => dsimp only [lawB, List.drop]
@[reducible] noncomputable def lt24 : Lit (List Stmt) (lawB.val.drop 24) := by
  apply Lit.mk; case eq => dsimp only [lawB, List.drop]
end
section
open PyProof.V
section
variable {prog : Program} {w : World} {A₀ : Around} {E : Value → Shared → Prop} {s' : Shared} {h₀ h : Heap} {outer : List Env} {L e t : Addr} {m : Str → Option Value} {env : Env}
  {vs : List Value} {n : Str} {b₀ : Stmt} {suite : List Stmt} {pos np : Pos} {rest : List ExceptHandler} {Q : Flow → Shared → Prop} {news : List (Addr × Obj)}
  {mg mb : Str → Option Value} {x : Str} {X T' : String}
theorem caught_E (K : Below A₀ h₀ outer h₀) (hf : env.frame = some L) (F : Fr h₀ L h m) (hsm : h.UpToSlots s'.heap) (R : RaisedK h₀ (env :: outer) e (.type X) t vs news s'.heap)
    (hg : h₀.Ns env.globals mg) (hmiss : mg x = none) (hb : h₀.Ns env.builtins mb) (hv : mb x = some (.type T'))
    (hexc : isSubtype (.type T') (.type "BaseException") = pure true) (hnt : isSubtype (.type ((Manifest.find? T').elim "type" fun y => y.metatype)) (.type "tuple") = pure false) (hsub : isSubtype (.type X) (.type T') = pure true)
    (k : ∀ h' oe ot ws nt, Fr h₀ L h' m → News h₀ L h' ((e, oe) :: (t, ot) :: news) → oe.cls = .type X → oe.data = .fields ws → ws[0]? = some (.ref t) → ot.cls = .type "tuple" → ot.data = .seq vs.toArray nt →
      wpAny (model prog w) ((A₀.deeper env).mark (some (.ref e))) (execs (b₀ :: suite) env) Q Nev { s' with heap := h' })
    (hk : env.scope.kind = .function) (hx : env.kindOf x = some .globalImplicit) (hd : (x == ("__debug__" : Str)) = false) :
    wpAny (model prog w) (A₀.deeper env) (noteFrame (.ref e) env)
      (fun _ s₂ => wpAny (model prog w) (A₀.deeper env) (setFlight (.ref e) none) (fun _ s₃ =>
        wpAny (model prog w) (A₀.deeper env) (handleBy (.ref e) env (.ExceptHandler (some (.Name x np)) none (b₀ :: suite) pos :: rest)) Q E s₃) E s₂) E s' := by
  refine byC fun hGZ => ?_
  obtain ⟨⟨B, hB, hl, hfl, hnew⟩, htup⟩ := R
  refine hGZ ?_; clear hGZ
  have hL : B.get? L = none := by
    obtain ⟨_, ⟨L', _, hf', hn', _⟩, _⟩ := hfl.2.2.1
    rw [hf] at hf'
    obtain rfl : L = L' := Option.some.inj hf'
    exact hn'
  refine wpAny_looks_onW (Around.frames_deeper K.stack) hf hfl fun h₄ hheld₄ hsm₄ => ?_
  refine wpAny_landsW hheld₄ fun h₅ hheld hsm₅' => ?_
  have hsm₅ := hsm₄.trans hsm₅'
  have hheld' := flyingW_base hB hheld
  have F₅ := F.of_stays hheld'.1 (hsm.trans hsm₅)
  obtain ⟨ob, hob, hobc⟩ := hheld'.there
  refine wpAny_handleBy_builtin (X := X) (T := T') (b := true) hexc hnt hsub (Name_function_global hk hx (loadGlobal_builtin (hg.keeps F₅.keep) hmiss (hb.keeps F₅.keep) hv ⟨rfl, ⟨ob, hob, hobc⟩, ?_⟩) hd)
  refine lands_againW hheld fun h₆ hfl₆ hsm₆ => ?_
  have hfl₆' := flyingW_base hB hfl₆
  have F₆ := F.of_stays hfl₆'.1 ((hsm.trans hsm₅).trans hsm₆)
  refine byC fun hGZ => ?_
  obtain ⟨oe, ws, hoe, hoec, hoed, hoe0⟩ := hfl₆'.first
  obtain ⟨ot, nt, hot, hotc, hotd⟩ := (htup.of_slots hsm₅).of_slots hsm₆
  refine hGZ ?_; clear hGZ
  have N₆ := News.more F₆ (News.more F₆ News.nil hot (fun es n q => by rw [hotd] at q; cases q) (fresh_of_stays hB hnew)) hoe (fun es n q => by rw [hoed] at q; cases q) hfl₆'.2.1
  have Nl : News h₀ L h₆ news := fun q hq => ⟨hfl₆.1 _ _ (hl q hq).1, (fun z => by have := (hl q hq).1; rw [z, hL] at this; cases this), (hl q hq).2⟩
  refine wpAny_mono (k h₆ oe ot ws nt F₆ (fun q hq => ?_) hoec hoed hoe0 hotc hotd) (fun _ _ q => q) fun _ _ q => q.elim
  rcases List.mem_cons.mp hq with rfl | hq
  · exact N₆ _ (.head _)
  · rcases List.mem_cons.mp hq with rfl | hq
    · exact N₆ _ (.tail _ (.head _))
    · exact Nl q hq
end
section
variable {prog : Program} {w : World} {A₀ : Around} {E : Value → Shared → Prop} {s' : Shared} {h₀ h : Heap} {outer : List Env} {L e t : Addr} {m : Str → Option Value} {env : Env}
  {vs : List Value} {n : Str} {b₀ : Stmt} {suite : List Stmt} {pos np : Pos} {rest : List ExceptHandler} {Q : Flow → Shared → Prop} {news : List (Addr × Obj)}
  {mg mb : Str → Option Value} {x : Str} {X T' : String}
theorem caught_As (K : Below A₀ h₀ outer h₀) (hf : env.frame = some L) (hL : env.locals = L) (F : Fr h₀ L h m) (hsm : h.UpToSlots s'.heap) (R : RaisedK h₀ (env :: outer) e (.type X) t vs news s'.heap)
    (hg : h₀.Ns env.globals mg) (hmiss : mg x = none) (hb : h₀.Ns env.builtins mb) (hv : mb x = some (.type T'))
    (hexc : isSubtype (.type T') (.type "BaseException") = pure true) (hnt : isSubtype (.type ((Manifest.find? T').elim "type" fun y => y.metatype)) (.type "tuple") = pure false) (hsub : isSubtype (.type X) (.type T') = pure true)
    (k : ∀ h' tk oe ot ws nt, Fr h₀ L h' (fun y => if y = n then some (.ref e) else m y) → News h₀ L h' ((e, oe) :: (t, ot) :: news) → oe.cls = .type X → oe.data = .fields ws → ws[0]? = some (.ref t) → ot.cls = .type "tuple" → ot.data = .seq vs.toArray nt →
      wpAny (model prog w) ((A₀.deeper env).mark (some (.ref e))) (execs (b₀ :: suite) env) (fun f s₄ => wpAny (model prog w) (A₀.deeper env) (do bindName env n .none; unbindBehindTheSuite env n pos) (fun _ s₅ => Q f s₅) E s₄) Nev { s' with heap := h', toks := tk })
    (hk : env.scope.kind = .function) (hlo : env.kindOf n = some .local) (hp : (env.scope.kind == .class || (env.scope.kind == .module && env.locals != env.globals)) = false) (hx : env.kindOf x = some .globalImplicit) (hd : (x == ("__debug__" : Str)) = false) :
    wpAny (model prog w) (A₀.deeper env) (noteFrame (.ref e) env)
      (fun _ s₂ => wpAny (model prog w) (A₀.deeper env) (setFlight (.ref e) none) (fun _ s₃ =>
        wpAny (model prog w) (A₀.deeper env) (handleBy (.ref e) env (.ExceptHandler (some (.Name x np)) (some n) (b₀ :: suite) pos :: rest)) Q E s₃) E s₂) E s' := by
  refine byC fun hGZ => ?_
  obtain ⟨⟨B, hB, hl, hfl, hnew⟩, htup⟩ := R
  refine hGZ ?_; clear hGZ
  have hL' : B.get? L = none := by
    obtain ⟨_, ⟨L', _, hf', hn', _⟩, _⟩ := hfl.2.2.1
    rw [hf] at hf'
    obtain rfl : L = L' := Option.some.inj hf'
    exact hn'
  refine wpAny_looks_onW (Around.frames_deeper K.stack) hf hfl fun h₄ hheld₄ hsm₄ => ?_
  refine wpAny_landsW hheld₄ fun h₅ hheld hsm₅' => ?_
  have hsm₅ := hsm₄.trans hsm₅'
  have hheld' := flyingW_base hB hheld
  have F₅ := F.of_stays hheld'.1 (hsm.trans hsm₅)
  obtain ⟨ob, hob, hobc⟩ := hheld'.there
  refine wpAny_handleBy_builtin_as (X := X) (T := T') (b := true) hexc hnt hsub (Name_function_global hk hx (loadGlobal_builtin (hg.keeps F₅.keep) hmiss (hb.keeps F₅.keep) hv ⟨rfl, ⟨ob, hob, hobc⟩, ?_⟩) hd)
  refine lands_againW hheld fun h₆ hfl₆ hsm₆ => ?_
  have hfl₆' := flyingW_base hB hfl₆
  have F₆ := F.of_stays hfl₆'.1 ((hsm.trans hsm₅).trans hsm₆)
  refine byC fun hGZ => ?_
  obtain ⟨oe, ws, hoe, hoec, hoed, hoe0⟩ := hfl₆'.first
  obtain ⟨ot, nt, hot, hotc, hotd⟩ := (htup.of_slots hsm₅).of_slots hsm₆
  refine hGZ ?_; clear hGZ
  have N₆ := News.more F₆ (News.more F₆ News.nil hot (fun es n q => by rw [hotd] at q; cases q) (fresh_of_stays hB hnew)) hoe (fun es n q => by rw [hoed] at q; cases q) hfl₆'.2.1
  have Nl : News h₀ L h₆ news := fun q hq => ⟨hfl₆.1 _ _ (hl q hq).1, (fun z => by have := (hl q hq).1; rw [z, hL'] at this; cases this), (hl q hq).2⟩
  have Na : News h₀ L h₆ ((e, oe) :: (t, ot) :: news) := fun q hq => by
    rcases List.mem_cons.mp hq with rfl | hq
    · exact N₆ _ (.head _)
    · rcases List.mem_cons.mp hq with rfl | hq
      · exact N₆ _ (.tail _ (.head _))
      · exact Nl q hq
  subst hL
  refine wpAny_storeName_local hlo F₆.ns (fun h₇ hn₇ hs₇ => ?_) hp
  exact wpAny_mono (k h₇ _ oe ot ws nt (F₆.set hn₇ hs₇) (Na.set hs₇) hoec hoed hoe0 hotc hotd) (fun _ _ q => q) fun _ _ q => q.elim
end
section
variable {prog : Program} {w : World} {A : Around} {E : Value → Shared → Prop} {s : Shared} {env : Env} {cls newId initId N I : String}
theorem raise_cls {x : Str} {np pos : Pos} {Q : Flow → Shared → Prop} (hh : A.handled = none) (Fc : ExcCallFacts cls newId initId) (G : ExcRaiseFacts cls) (hc : ExcClass cls N I) (hself : isSubtype (.type cls) (.type cls) = pure true)
    (hx : wpAny (model prog w) A (eval (.Name x np) env) (fun v s₁ => v = .type cls ∧ s₁ = s) E s)
    (h : ∀ h' e, Heap.MadeExc s.heap h' e cls [] → E (.ref e) { s with heap := h' }) :
    wpAny (model prog w) A (exec (.Raise (some (.Name x np)) none pos) env) Q E s := by
  show wpAny (model prog w) A (do standAt pos; raiseStmt env (some (do let v ← eval (.Name x np) env; standAt pos; pure v)) none) Q E s
  refine wpAny_bind (wpAny_standAt ?_)
  unfold raiseStmt
  dsimp only
  refine wpAny_bind (wpAny_bind (wpAny_mono hx (fun v s₁ h₁ => wpAny_bind (wpAny_standAt (wpAny_pure ?_))) fun _ _ e => e))
  obtain ⟨rfl, hs₁⟩ := h₁
  subst s₁
  refine wpAny_bind (wpAny_pure ?_)
  dsimp only
  refine wpAny_bind (wpAny_holding ?_)
  unfold excFromValue isExcClass
  refine wpAny_bind (wpAny_bind (wpAny_pure ?_))
  simp only [if_true]
  rw [G.isExc]
  refine wpAny_pure ?_
  simp only [if_true]
  refine wpAny_bind ?_
  refine byC fun hGZ => ?_
  obtain ⟨hp, g, d, tk, os⟩ := s
  refine hGZ ?_; clear hGZ
  refine wpAny_call_exc Fc (hrest := by decide) fun h' e hn => ?_
  obtain ⟨t, he, _⟩ := hn.there
  have hT : ({ heap := h', gens := g, drawn := d, toks := tk, os := os } : Shared).TypeIs (.ref e) cls := (show ∃ o, h'.get? e = some o ∧ o.cls = .type cls from ⟨_, he, rfl⟩)
  refine wpAny_bind (wpAny_isInstance hT G.isExc ?_)
  simp only [Bool.not_true, Bool.false_eq_true, if_false]
  refine wpAny_pure ?_
  first | (refine wpAny_bind (m := isType (.type cls)) (wpAny_pure ?_)) | (refine wpAny_bind (wpAny_pure ?_))
  first | (rw [if_pos rfl]) | (simp only [if_true]) | dsimp only
  refine wpAny_bind (wpAny_holding ?_)
  unfold raisedFor
  first | (simp only [Bool.false_eq_true, if_false]) | (rw [if_neg (by decide)]) | skip
  first | (refine wpAny_bind (wpAny_typeOf hT ?_)) | (refine wpAny_bind ?_; refine wpAny_bind (wpAny_typeOf hT ?_))
  refine wpAny_bind (call_issubclass (issubclass_self hc hself) ?_)
  first | (refine wpAny_bind (wpAny_truthy_bool ?_)) | (refine wpAny_truthy_bool ?_) | (dsimp only [wants]; first | (refine wpAny_bind (wpAny_truthy_bool ?_)) | (refine wpAny_truthy_bool ?_))
  first | (rw [if_pos rfl]) | (simp only [if_true]) | skip
  refine wpAny_pure ?_
  unfold setFlight raiseNew
  refine wpAny_bind (wpAny_bind (wpAny_field (i := 1) (x := Value.none) he rfl rfl ?_))
  rw [if_neg (by decide)]
  refine wpAny_pure (wpAny_bind (wpAny_handled ?_))
  rw [hh]
  first
    | exact wpAny_throw (h h' e hn)
    | exact wpAny_bind (wpAny_pure (wpAny_throw (h h' e hn)))
end
section
variable {M : Model} {A : Around} {E : Value → Shared → Prop} {s : Shared}
theorem note_first {base h : Heap} {env : Env} {outer : List Env} {L e : Addr} {cls : Value} {args : List Value} {Q : Unit → Shared → Prop}
    (hfr : A.frames = some (env :: outer)) (hf : env.frame = some L) (hkb : base.StaysIn h) (hl : h.FunFrames base (env :: outer)) (hx : Heap.MadeExcOf h s.heap e cls args)
    (hQ : ∀ h' t, Heap.HeldW base (env :: outer) e cls (.ref t) L h' → h'.TupAt t args → base.get? t = none → s.heap.UpToSlots h' → Q () { s with heap := h' }) : wpAny M A (noteFrame (.ref e) env) Q E s := by
  refine byC fun hGZ => ?_
  obtain ⟨t, he, htn, ht⟩ := hx.there
  refine hGZ ?_; clear hGZ
  have fresh : ∀ b, h.get? b = none → base.get? b = none := fun b hb => by
    cases hq : base.get? b with
    | none => rfl
    | some o' => have := hkb b o' hq; rw [hb] at this; cases this
  unfold noteFrame
  simp only [hf]
  refine wpAny_bind (wpAny_field he rfl (x := .none) rfl ?_)
  rw [if_neg (show ¬ (Value.none != Value.none) = true from by simp)]
  refine wpAny_entryW (a0 := .ref t) hfr (hl.of_keeps fun b o hb _ => ⟨o, hx.keeps b o hb, rfl⟩) hf he (fun b o hb => hx.keeps b o (hkb b o hb)) (fresh e hx.new) rfl (by simp) rfl fun h' hN => ?_
  refine byC fun hGZ => ?_
  obtain ⟨k1, k2, k3, k4⟩ := hN
  refine hGZ ?_; clear hGZ
  exact hQ h' t ⟨k1, fresh e hx.new, k2, k3⟩ (Heap.TupAt.of_slots ⟨_, _, ht, rfl, rfl⟩ k4) (fresh t htn) k4
end
section
variable {M : Model} {A : Around} {E : Value → Shared → Prop} {s : Shared}
theorem held_again {base : Heap} {l : List Env} {e L : Addr} {cls a0 : Value} {Q : Unit → Shared → Prop} (hh : Heap.HeldW base l e cls a0 L s.heap)
    (h : ∀ h', Heap.HeldW base l e cls a0 L h' → (∀ b o, s.heap.get? b = some o → (∀ vs, o.data ≠ .fields vs) → h'.get? b = some o) → Q () { s with heap := h' }) :
    wpAny M A (do
      if (← field (.ref e) 1) == .none then unsupported "frame.own-activation:exception-without-traceback"
      setFlight (.ref e) (some L)) Q E s := by
  refine byC fun hGZ => ?_
  obtain ⟨hkb, hb0, hl, oe, vs, T, oT, ts, he, hcls, hd, h1, hnT, hTe, hT, hdT, h3⟩ := hh
  refine hGZ ?_; clear hGZ
  have hsz3 : 3 < ts.size := (Array.getElem?_eq_some_iff.mp h3).1
  refine wpAny_bind (wpAny_field he hd h1 ?_)
  rw [if_neg (show ¬ (Value.ref T == Value.none) = true from by simp)]
  have other : ∀ b, b ≠ T → (s.heap.update T (Obj.mapFields (·.setIfInBounds 3 ((some L : Option Addr).elim Value.none fun f => rawInt f)))).get? b = s.heap.get? b :=
    fun b hb => Heap.get?_update_other _ _ (Ne.symm hb)
  have noRecord : ∀ b o, s.heap.get? b = some o → (∀ vs, o.data ≠ .fields vs) → b ≠ T := fun b o hb hnf q => by
    rw [q, hT] at hb; injection hb with hb; subst hb; exact hnf ts hdT
  unfold setFlight
  refine wpAny_bind (wpAny_field he hd h1 ?_)
  rw [if_pos (show (Value.ref T != Value.none) = true from by simp)]
  refine wpAny_setField hT hdT hsz3 (h _ ⟨fun b o hbo => (other b fun q => by rw [q, hnT] at hbo; cases hbo).trans (hkb b o hbo), hb0,
    hl.of_keeps fun b o hb hnf => ⟨o, (other b (noRecord b o hb hnf)).trans hb, rfl⟩, ?_⟩ fun b o hb hnf => (other b (noRecord b o hb hnf)).trans hb)
  exact ⟨oe, vs, T, _, _, (other e (Ne.symm hTe)).trans he, hcls, hd, h1, hnT, hTe, Heap.get?_update_self _ hT (Obj.isFreed_of_fields (Obj.data_mapFields hdT _)), Obj.data_mapFields hdT _, by simp [hsz3]⟩
end
end
theorem rules_P23 : True := by
  k_with_none
  k_with "call builtin:len" => ((k_here; (with_reducible show wpAny _ _ (call (Value.builtin "len") [Value.ref _]) _ _ _); k_dflt (refine kst_len (by k_asm) (by k_mem) (by exact IntsAre.length (by assumption)) (by omega) ?_); (try dsimp only)))
  k_with "truthy ref" => ((k_here; (with_reducible show wpAny _ _ (truthy (Value.ref _)) _ _ _); k_dflt (refine kgr_truthy (by k_asm) (by k_mem) (by exact rfl) (by exact rfl) (by (have := IntsAre.length (by assumption); omega)) ?_); (try dsimp only)))
  k_with "call builtin:list.append" => ((k_here; (with_reducible show wpAny _ _ (call (Value.builtin _) [Value.ref _, _]) _ _ _); k_dflt (refine append_K (by k_asm) (by k_asm) (by k_upd) ?_ (by (simp only [List.size_toArray]; rw [sizeLine_eq]; omega)); k_whole); intro h'r9 F'r9 N'r9; (try k_sweep)))
  k_with "exec Raise some none" => ((k_here; refine paus ?_))
  exact trivial
section
noncomputable def RE (h₀ : Heap) (Lg : Addr) (outer : List Env) : GenEnd := fun _ s₀ r s' => ∃ (e t : Addr) (tk : Tok) (h B : Heap) (tk2 : Nat), r = .error (.ref e) ∧ s' = { s₀ with heap := h, toks := tk2 } ∧ h₀.StaysIn B ∧
  (∀ b o, s₀.heap.get? b = some o → b ≠ Lg → b ∉ outer.filterMap (·.frame) → B.get? b = some o) ∧ Heap.FlyingW B outer e (.type "ValueError") (.ref t) h ∧ B.get? t = none ∧ h.TupAt t [.str (Str.ofString "invalid grouping") tk] ∧
  (∀ b o, s₀.heap.get? b = some o → b ≠ Lg → (∀ vs, o.data ≠ .fields vs) → ∃ sl, h.get? b = some { o with slots := sl })
theorem funFrames_some {h h' base : Heap} (k : ∀ b o, h.get? b = some o → (∀ vs, o.data ≠ .fields vs) → ∃ o', h'.get? b = some o' ∧ ∀ vs, o'.data ≠ .fields vs) : ∀ {l : List Env}, h.FunFrames base l → h'.FunFrames base l
  | [], _ => trivial
  | _ :: _, ⟨h1, ⟨L, o, hf, hn, ho, hd⟩, hr⟩ => by
    obtain ⟨o', ho', hd'⟩ := k L o ho hd
    exact ⟨h1, ⟨L, o', hf, hn, ho', hd'⟩, funFrames_some k hr⟩
section
variable {w : World} {h₀ : Heap} {Lg l : Addr} {lo : Obj} {YE : Protocol}
end
theorem g_raise_all : ∀ (w : World) (h₀ : Heap) (Lg : Addr) (l : Addr) (lo : Obj) (YE : Protocol) (dp un n : Nat) (outer : List Env) (gd' : Option (List Code)) (hlg : l ≠ Lg) (hl0 : h₀.get? l = none) (X : (hd.heap_1 w.params).In h₀) (p : Program) (loose : List Str) (mean : ExcName → Option Value) (mg mb : Str → Option Value) (T : Top p loose mean mg mb h₀) (vs : List Value) (ns : List Int) (nn : Nat) (hlo : lo = W.listOf vs.toArray nn) (hI : IntsAre vs (0 :: ns)) (s₀ : Shared) (m : Str → Option Value) (F : Fr h₀ Lg s₀.heap m) (hm : m = fun z => if z = Str.ofString "grouping" then some (.ref l) else none) (hl : s₀.heap.get? l = some lo) (hfr : s₀.heap.FunFrames h₀ outer),
    Seg (model PySem.Challenge.rw_wv0034_01.row.prog w) { handled := none, depth := dp, frames := some outer, guards := gd', units := un } (RE h₀ Lg outer) YE n s₀ (.func gF.val (gEnv Lg)) ((model PySem.Challenge.rw_wv0034_01.row.prog w).den (.func gF.val (gEnv Lg))) [] s₀ := by
  intro w h₀ Lg l lo YE dp un n outer gd' hlg hl0 X p loose mean mg mb T vs ns nn hlo hI s₀ m F hm hl hfr
  refine seg_func ?_
  dsimp only [gF]
  refine seg_execs_cons (seg_wrap ?_)
  refine wpAny_Assign_Name ?_
  refine wpAny_Constant_none ?_
  refine wpAny_storeName_local (env := gEnv Lg) rfl F.ns (fun h1 hn1 hs1 => ?_) rfl
  have F1 := F.set hn1 hs1
  refine seg_execs_cons (seg_For ?_)
  refine ld F1 (by rw [hm]; rfl) ?_ rfl rfl (by decide)
  have hl1 : h1.get? l = some lo := (hs1.2 l hlg).trans hl
  have hlm : (l, lo) ∈ allBut h₀ s₀.heap Lg s₀.heap.objs.size := mem_allBut.mpr ⟨hlg, Nat.ne_of_lt (Heap.lt_size hl), hl0, hl⟩
  have hN1 : News h₀ Lg h1 (allBut h₀ s₀.heap Lg s₀.heap.objs.size) := fun p hp => by
    obtain ⟨b, o⟩ := p
    obtain ⟨q1, q2, q3, q4⟩ := mem_allBut.mp hp
    exact ⟨(hs1.2 b q1).trans q4, q1, q3⟩
  have hall : ∀ b o, s₀.heap.get? b = some o → b ≠ Lg → h₀.get? b = some o ∨ (b, o) ∈ allBut h₀ s₀.heap Lg s₀.heap.objs.size := fun b o e hb => by
    cases h0 : h₀.get? b with
    | none => exact .inr (mem_allBut.mpr ⟨hb, Nat.ne_of_lt (Heap.lt_size e), h0, e⟩)
    | some o' =>
      have := F.keep b o' h0
      rw [e] at this
      exact .inl this.symm
  generalize allBut h₀ s₀.heap Lg s₀.heap.objs.size = nx at hlm hN1 hall
  refine pyIter_list (vs := vs) (nn := nn) F1 hN1 (by rw [← hlo]; exact hlm) fun I oI h2 F2 N2 lI hst => ?_
  intro p9 lv9
  refine seg_forLoop ?_
  obtain ⟨t0, hv0⟩ := hI.get 0 0 rfl
  have hlen := hI.length
  refine (it_list (prog := PySem.Challenge.rw_wv0034_01.row.prog) (w := w) (h₀ := h₀) (L := Lg) (I := I) (l := l) (vs := vs) (nn := nn)).item _ _ 0 [(I, oI)] _ nx _ _ rfl (by rw [hlen]; simp) hst F2 N2 (fun p hp => by rw [List.mem_singleton.mp hp, ← hlo]; exact hlm) (fun a ha => by rw [List.mem_singleton.mp ha]; exact fun q hq => Nat.ne_of_lt (lI q hq)) fun v own' ex h3 tk3 hP hst' F3 N3 _ => ?_
  refine byC fun hGZ => ?_
  obtain ⟨hv, rfl⟩ := hP
  obtain ⟨o', rfl, hc', hd'⟩ := hst'
  refine hGZ ?_; clear hGZ
  rw [hv0] at hv
  cases hv
  simp only [List.nil_append, List.cons_append] at N3
  refine wpAny_assign_Name (stN F3 N3 (fun h4 F4 N4 => ?_) rfl rfl)
  rw [hm] at F4
  dsimp only [gB, gT]
  refine seg_execs_cons (seg_If ?_)
  k_steps
  refine seg_execs_nil ?_
  refine seg_execs_cons (seg_If ?_)
  k_steps
  refine seg_execs_cons (seg_If ?_)
  k_steps
  refine seg_execs_cons (seg_wrap ?_)
  refine wpAny_Raise_call PySem.F.excCall_ValueError PySem.F.excRaise_ValueError rfl rfl ?_
  k_steps
  refine evalArgs_kw (rest := []) rfl ?_
  rw [if_neg Bool.false_ne_true]
  refine Calls.spliced_cons (Calls.Constant_str (Calls.spliced_nil (wpAny_pure ?_)))
  refine ⟨rfl, by rw [sizeLine_eq]; exact Nat.le_of_ble_eq_true rfl, fun h5 e5 hm5 => ?_⟩
  have hm5' := hm5.of
  have hLg0 : h₀.get? Lg = none := Heap.get?_none_of_le F.above
  have hff4 : h4.FunFrames h₀ (gEnv Lg :: outer) := by
    obtain ⟨oL, es, ep, hoL, hLd, a3⟩ := F4.ns
    have hLn : ∀ vs, oL.data ≠ .fields vs := fun vs q => by rw [hLd] at q; cases q
    refine ⟨fun q => ScopeKind.noConfusion q, ⟨Lg, oL, rfl, hLg0, hoL, hLn⟩, funFrames_some (fun b o e hn => ?_) hfr⟩
    by_cases hb : b = Lg
    · exact ⟨oL, hb ▸ hoL, hLn⟩
    · refine ⟨o, ?_, hn⟩
      rcases hall b o e hb with q | q
      · exact F4.keep b o q
      · exact (N4 _ (.tail _ q)).1
  obtain ⟨fs, hfs⟩ : ∃ fs, fs = (gEnv Lg :: outer).filterMap (·.frame) := ⟨_, rfl⟩
  obtain ⟨B, hB⟩ : ∃ B, B = hideAll h4 fs := ⟨_, rfl⟩
  have hBst : B.StaysIn h4 := fun b o q => by rw [hB] at q; exact of_hideAll _ q
  have hfB : h4.FunFrames B (gEnv Lg :: outer) := by
    rw [hB, hfs]
    exact funFrames_hide hff4 fun env he a ha => List.mem_filterMap.mpr ⟨env, he, ha⟩
  refine seg_wrap (wpAny_bind (note_first (base := B) (h := h4) (outer := outer) rfl rfl hBst hfB hm5' fun h6 t6 hheld htup ht0 hsm6 => ?_))
  refine wpAny_theTreesLotGoes ?_
  refine seg_leaf (.error (.ref e5)) ?_
  show Seg _ _ _ _ _ _ _ (((do
      if (← field (.ref e5) 1) == .none then unsupported "frame.own-activation:exception-without-traceback"
      setFlight (.ref e5) (some Lg) : Sem Unit).bind fun _ => .raise (.ref e5)).wrap _ (fun e => Sem.wrap (fun x => Sem.raise e) Sem.raise id id (leaving (gEnv Lg) e)) id id) _ _
  rw [Sem.bind_eq_wrap, Sem.wrap_wrap]
  refine seg_wrap (held_again hheld fun h7 hheld7 hk7 => ?_)
  show Seg _ _ _ _ _ _ _ ((leaving (gEnv Lg) (.ref e5)).wrap (fun _ => .raise (.ref e5)) .raise id id) _ _
  refine seg_wrap ?_
  unfold leaving
  refine wpAny_bind (wpAny_noteFrame_againW rfl hheld7.2.2.2 ?_)
  refine wpAny_landsW hheld7 fun h8 hfl8 hsm8 => ?_
  refine seg_end (.error (.ref e5)) ?_
  have hsm7 : h6.UpToSlots h7 := fun b o hb hn => ⟨o.slots, hk7 b o hb hn⟩
  have hsm58 : h5.UpToSlots h8 := (hsm6.trans hsm7).trans hsm8
  have htup8 := (htup.of_slots hsm7).of_slots hsm8
  refine byC fun hGZ => ?_
  obtain ⟨k1, k2, k3, k4⟩ := hfl8
  refine hGZ ?_; clear hGZ
  have hin : ∀ b o, s₀.heap.get? b = some o → b ≠ Lg → h4.get? b = some o := fun b o e hb => by
    rcases hall b o e hb with q | q
    · exact F4.keep b o q
    · exact (N4 _ (.tail _ q)).1
  refine ⟨e5, t6, _, h8, B, _, rfl, rfl, fun b o q => ?_, fun b o q hb hno => ?_, ⟨k1, k2, k3.2.2, k4⟩, ht0, htup8, fun b o q hb hn => ?_⟩
  · rw [hB]
    refine hideAll_get _ (F4.keep b o q) fun hm => ?_
    rw [hfs] at hm
    obtain ⟨env, he, hfe⟩ := List.mem_filterMap.mp hm
    rcases List.mem_cons.mp he with rfl | he
    · rw [← Option.some.inj hfe, hLg0] at q; cases q
    · rw [(hff4.mem hm).1] at q; cases q
  · rw [hB]
    refine hideAll_get _ (hin b o q hb) fun hm => ?_
    rw [hfs] at hm
    obtain ⟨env, he, hfe⟩ := List.mem_filterMap.mp hm
    rcases List.mem_cons.mp he with rfl | he
    · exact hb (Option.some.inj hfe).symm
    · exact hno (List.mem_filterMap.mpr ⟨env, he, hfe⟩)
  · exact hsm58 b o (hm5'.keeps b o (hin b o q hb)) hn
section
variable {w : World} {h₀ : Heap} {Lg l : Addr} {lo : Obj} {YE : Protocol}
theorem g_raise {dp un n : Nat} {outer : List Env} {gd' : Option (List Code)} (hlg : l ≠ Lg) (hl0 : h₀.get? l = none) (X : (hd.heap_1 w.params).In h₀) {p : Program} {loose : List Str} {mean : ExcName → Option Value} {mg mb : Str → Option Value} (T : Top p loose mean mg mb h₀)
    {vs : List Value} {ns : List Int} {nn : Nat} (hlo : lo = W.listOf vs.toArray nn) (hI : IntsAre vs (0 :: ns)) 
    {s₀ : Shared} {m : Str → Option Value} (F : Fr h₀ Lg s₀.heap m) (hm : m = fun z => if z = Str.ofString "grouping" then some (.ref l) else none) (hl : s₀.heap.get? l = some lo) (hfr : s₀.heap.FunFrames h₀ outer) :
      Seg (model PySem.Challenge.rw_wv0034_01.row.prog w) { handled := none, depth := dp, frames := some outer, guards := gd', units := un } (RE h₀ Lg outer) YE n s₀ (.func gF.val (gEnv Lg)) ((model PySem.Challenge.rw_wv0034_01.row.prog w).den (.func gF.val (gEnv Lg))) [] s₀ := g_raise_all w h₀ Lg l lo YE dp un n outer gd' hlg hl0 X p loose mean mg mb T vs ns nn hlo hI s₀ m F hm hl hfr
end
end
section
section
variable {prog : Program} {w : World} {A : Around} {E : Value → Shared → Prop} {s : Shared}
theorem pyNext_genE {a : Addr} {g n : Nat} {gs : GenState} {R : GenEnd} {Y : Protocol} {Q : Option Value → Shared → Prop} {X : String}
    (hl : s.heap.NoLimit) (hroom : A.depth < recursionLimit)
    (hg : s.heap.IsGen a g) (hgs : s.gens[g]? = some gs)
    (hgo : gs.Goes (model prog w) A.in1 R Y n (.send .none) (s.setGen g .running))
    (hY : ∀ v s₁ kap, Y (n - 1) (s.setGen g .running) v s₁ kap → False)
    (hX : isSubtype (.type X) (.type "StopIteration") = pure false)
    (hR : ∀ r s₁, R n (s.setGen g .running) r s₁ → ∃ e, r = .error (.ref e) ∧ s₁.heap.IsGen a g ∧ (∃ o, s₁.heap.get? e = some o ∧ o.cls = .type X) ∧ E (.ref e) (s₁.setGen g .finished)) :
    wpAny (model prog w) A (pyNext (.ref a)) Q E s := by
  unfold pyNext
  refine wpAny_bind (wpAny_attempt (wpAny_callSpecial?_slot (name := Str.ofString "__next__") hg.typeIs slot_gen_next
    (wpAny_call_entry slot_gen_next hg.typeIs entry_gen_next ?_ (args_gen_next _))))
  show wpAny _ A.in1 (Builtin.Generator.genWake (.ref a) (.send .none)) _ _ s
  unfold Builtin.Generator.genWake
  refine wpAny_bind (wpAny_holding (wpAny_genNumber hg (wpAny_bind (wpAny_genState hgs ?_))))
  cases gs with
  | running => exact hgo.elim
  | finished => exact hgo.elim
  | _ =>
    refine wpAny_bind (wpAny_roomToWake hl hroom ?_)
    show wpAny _ A.in1 (.resume g (.send .none) [] _) _ _ s
    refine wpAny_resumeQ hgs hgo (fun x s₁ hx => ?_) (fun v s₁ gs' _ hv => (hY _ _ _ hv).elim)
    refine byC fun hGZ => ?_
    obtain ⟨e, rfl, hga, ⟨o, ho, hoc⟩, hE⟩ := hR _ _ hx
    refine hGZ ?_; clear hGZ
    show wpAny _ A.in1 (Builtin.Generator.genLeft (.ref a) (.ref e)) _ _ _
    refine byC fun hGZ => ?_
    obtain ⟨og, nm, qn, hog, hcg, hdg, _⟩ := hga
    refine hGZ ?_; clear hGZ
    have hT : (s₁.setGen g .finished).TypeIs (.ref e) X := ⟨o, ho, hoc⟩
    unfold Builtin.Generator.genLeft Builtin.Generator.madeByALambda
    refine wpAny_bind (wpAny_bind (wpAny_load hog (wpAny_pure ?_)))
    refine wpAny_bind (wpAny_isInstance hT hX ?_)
    rw [Bool.and_false, if_neg Bool.false_ne_true]
    unfold Builtin.Generator.genEscaped
    refine wpAny_bind (wpAny_isInstance hT hX ?_)
    rw [Bool.not_false, if_pos rfl]
    refine wpAny_throw ?_
    refine wpAny_bind (wpAny_isInstance hT hX ?_)
    rw [if_neg Bool.false_ne_true]
    exact wpAny_throw hE
end
end
section
section
variable {w : World} {E : Value → Shared → Prop} {s : Shared} {h₀ : Heap} {L G Lg l : Addr} {lo : Obj} {gi N : Nat} {out : Nat → Option Int} {m : Str → Option Value} {own nx : List (Addr × Obj)}
theorem ru_raises {dp un : Nat} {outer : List Env} {gd' : Option (List Code)} (hroom : dp < recursionLimit) (X : (hd.heap_1 w.params).In h₀) {p : Program} {loose : List Str} {mean : ExcName → Option Value} {mg mb : Str → Option Value} (T : Top p loose mean mg mb h₀)
    {vs : List Value} {ns : List Int} {nn : Nat} (hlo : lo = W.listOf vs.toArray nn) (hI : IntsAre vs (0 :: ns))
    (hst : ruSt w ⟨none, dp, some outer, gd', un⟩ h₀ G Lg l lo gi N out 0 own s.gens) (F : Fr h₀ L s.heap m) (Ns : News h₀ L s.heap (own ++ nx)) (hl : (l, lo) ∈ nx) (ha : Apart own nx) (hfr : s.heap.FunFrames h₀ outer) {Q : Option Value → Shared → Prop}
    (h : ∀ e t tk h B tk2 g', AllBare g' → h₀.StaysIn B → (∀ b o, s.heap.get? b = some o → b ≠ Lg → b ∉ outer.filterMap (·.frame) → B.get? b = some o) → Heap.FlyingW B outer e (.type "ValueError") (.ref t) h → B.get? t = none → h.TupAt t [.str (Str.ofString "invalid grouping") tk] →
      (∀ b o, s.heap.get? b = some o → b ≠ Lg → (∀ vs, o.data ≠ .fields vs) → ∃ sl, h.get? b = some { o with slots := sl }) → E (.ref e) { s with heap := h, toks := tk2, gens := g' }) :
    wpAny (model PySem.Challenge.rw_wv0034_01.row.prog w) ⟨none, dp, some outer, gd', un⟩ (pyNext (.ref G)) Q E s := by
  refine byC fun hGZ => ?_
  obtain ⟨hb, hGg, habove, oG, oL, rfl, hoG, hns, hgs⟩ := hst
  refine hGZ ?_; clear hGZ
  have hlN := Ns _ (List.mem_append_right _ hl)
  have NG := Ns _ (.head _)
  have NL := Ns _ (.tail _ (.head _))
  have F' : Fr h₀ Lg s.heap (fun z => if z = Str.ofString "grouping" then some (.ref l) else none) := ⟨hns _ NL.1, F.keep, habove⟩
  refine pyNext_genE (X := "ValueError") (n := N) (R := RE h₀ Lg outer) (Y := fun _ _ _ _ _ => False) (T.nolimit.keeps F.keep) hroom (hoG.isGen NG.1) hgs ⟨rfl, ?_⟩ (fun _ _ _ q => q.elim) (by rw [isSubtype_type]; kernel_rfl) ?_
  · exact g_raise (s₀ := s.setGen gi .running) (fun e => ha _ (.tail _ (.head _)) _ hl e) hlN.2.2 X T hlo hI F' rfl hlN.1 hfr
  · intro r s₁ pGZ2
    refine byC fun hGZ => ?_
    obtain ⟨e, t, tk, h1, B, tk2, rfl, rfl, k1, k2, k3, k4, k5, k6⟩ := pGZ2
    refine hGZ ?_; clear hGZ
    refine ⟨e, rfl, ?_, k3.there, ?_⟩
    · refine hoG.isGen (k3.1 _ _ (k2 _ _ NG.1 hGg fun hm => ?_))
      refine byC fun hGZ => ?_
      obtain ⟨_, o, ho, hn⟩ := hfr.mem hm
      obtain ⟨nm, qn, hd⟩ := hoG.2.1
      refine hGZ ?_; clear hGZ
      exact hn _ (by rw [NG.1] at ho; rw [← Option.some.inj ho]; exact hd)
    · exact h e t tk h1 B tk2 _ (setGen_bare (s := { s.setGen gi .running with heap := h1, toks := tk2 }) (setGen_bare hb rfl) rfl) k1 k2 k3 k4 k5 k6
end
section
variable {prog : Program} {w : World} {A₀ : Around} {E : Value → Shared → Prop} {s' : Shared} {h₀ h : Heap} {outer : List Env} {L e t : Addr} {m : Str → Option Value} {env : Env}
  {vs : List Value} {n : Str} {b₀ : Stmt} {suite : List Stmt} {pos np : Pos} {rest : List ExceptHandler} {Q : Flow → Shared → Prop} {news : List (Addr × Obj)}
  {mg mb : Str → Option Value} {x : Str} {X T' : String} {B : Heap}
theorem caught_AsH (hf : env.frame = some L) (hL : env.locals = L) (F : Fr h₀ L h m) (hsm : h.UpToSlots s'.heap) (hB : h₀.StaysIn B) (hl : ∀ q ∈ news, B.get? q.1 = some q.2 ∧ h₀.get? q.1 = none)
    (hheld₄ : Heap.HeldW B (env :: outer) e (.type X) (.ref t) L s'.heap) (hnew : B.get? t = none) (htup : s'.heap.TupAt t vs)
    (hg : h₀.Ns env.globals mg) (hmiss : mg x = none) (hb : h₀.Ns env.builtins mb) (hv : mb x = some (.type T'))
    (hexc : isSubtype (.type T') (.type "BaseException") = pure true) (hnt : isSubtype (.type ((Manifest.find? T').elim "type" fun y => y.metatype)) (.type "tuple") = pure false) (hsub : isSubtype (.type X) (.type T') = pure true)
    (k : ∀ h' tk oe ot ws nt, Fr h₀ L h' (fun y => if y = n then some (.ref e) else m y) → News h₀ L h' ((e, oe) :: (t, ot) :: news) → oe.cls = .type X → oe.data = .fields ws → ws[0]? = some (.ref t) → ot.cls = .type "tuple" → ot.data = .seq vs.toArray nt →
      wpAny (model prog w) ((A₀.deeper env).mark (some (.ref e))) (execs (b₀ :: suite) env) (fun f s₄ => wpAny (model prog w) (A₀.deeper env) (do bindName env n .none; unbindBehindTheSuite env n pos) (fun _ s₅ => Q f s₅) E s₄) Nev { s' with heap := h', toks := tk })
    (hk : env.scope.kind = .function) (hlo : env.kindOf n = some .local) (hp : (env.scope.kind == .class || (env.scope.kind == .module && env.locals != env.globals)) = false) (hx : env.kindOf x = some .globalImplicit) (hd : (x == ("__debug__" : Str)) = false) :
    wpAny (model prog w) (A₀.deeper env) (noteFrame (.ref e) env)
      (fun _ s₂ => wpAny (model prog w) (A₀.deeper env) (setFlight (.ref e) none) (fun _ s₃ =>
        wpAny (model prog w) (A₀.deeper env) (handleBy (.ref e) env (.ExceptHandler (some (.Name x np)) (some n) (b₀ :: suite) pos :: rest)) Q E s₃) E s₂) E s' := by
  have hL' : B.get? L = none := by
    obtain ⟨_, ⟨L', _, hf', hn', _⟩, _⟩ := hheld₄.2.2.1
    rw [hf] at hf'
    obtain rfl : L = L' := Option.some.inj hf'
    exact hn'
  refine wpAny_noteFrame_againW hf hheld₄.2.2.2 ?_
  refine wpAny_landsW hheld₄ fun h₅ hheld hsm₅ => ?_
  have hheld' := flyingW_base hB hheld
  have F₅ := F.of_stays hheld'.1 (hsm.trans hsm₅)
  obtain ⟨ob, hob, hobc⟩ := hheld'.there
  refine wpAny_handleBy_builtin_as (X := X) (T := T') (b := true) hexc hnt hsub (Name_function_global hk hx (loadGlobal_builtin (hg.keeps F₅.keep) hmiss (hb.keeps F₅.keep) hv ⟨rfl, ⟨ob, hob, hobc⟩, ?_⟩) hd)
  refine lands_againW hheld fun h₆ hfl₆ hsm₆ => ?_
  have hfl₆' := flyingW_base hB hfl₆
  have F₆ := F.of_stays hfl₆'.1 ((hsm.trans hsm₅).trans hsm₆)
  refine byC fun hGZ => ?_
  obtain ⟨oe, ws, hoe, hoec, hoed, hoe0⟩ := hfl₆'.first
  obtain ⟨ot, nt, hot, hotc, hotd⟩ := (htup.of_slots hsm₅).of_slots hsm₆
  refine hGZ ?_; clear hGZ
  have N₆ := News.more F₆ (News.more F₆ News.nil hot (fun es n q => by rw [hotd] at q; cases q) (fresh_of_stays hB hnew)) hoe (fun es n q => by rw [hoed] at q; cases q) hfl₆'.2.1
  have Nl : News h₀ L h₆ news := fun q hq => ⟨hfl₆.1 _ _ (hl q hq).1, (fun z => by have := (hl q hq).1; rw [z, hL'] at this; cases this), (hl q hq).2⟩
  have Na : News h₀ L h₆ ((e, oe) :: (t, ot) :: news) := fun q hq => by
    rcases List.mem_cons.mp hq with rfl | hq
    · exact N₆ _ (.head _)
    · rcases List.mem_cons.mp hq with rfl | hq
      · exact N₆ _ (.tail _ (.head _))
      · exact Nl q hq
  subst hL
  refine wpAny_storeName_local hlo F₆.ns (fun h₇ hn₇ hs₇ => ?_) hp
  exact wpAny_mono (k h₇ _ oe ot ws nt (F₆.set hn₇ hs₇) (Na.set hs₇) hoec hoed hoe0 hotc hotd) (fun _ _ q => q) fun _ _ q => q.elim
end
end
theorem rules_P21 : True := by
  k_with_none
  k_with "call builtin:len" => ((k_here; (with_reducible show wpAny _ _ (call (Value.builtin "len") [Value.ref _]) _ _ _); k_dflt (refine kst_len (by k_asm) (by k_mem) (by exact IntsAre.length (by assumption)) (by omega) ?_); (try dsimp only)))
  k_with "truthy ref" => ((k_here; (with_reducible show wpAny _ _ (truthy (Value.ref _)) _ _ _); k_dflt (refine kgr_truthy (by k_asm) (by k_mem) (by exact rfl) (by exact rfl) (by (have := IntsAre.length (by assumption); omega)) ?_); (try dsimp only)))
  k_with "call builtin:list.append" => ((k_here; (with_reducible show wpAny _ _ (call (Value.builtin _) [Value.ref _, _]) _ _ _); k_dflt (refine append_K (by k_asm) (by k_asm) (by k_upd) ?_ (by (simp only [List.size_toArray]; rw [sizeLine_eq]; omega)); k_whole); intro h'r9 F'r9 N'r9; (try k_sweep)))
  k_with "exec Try" => ((k_here; (with_reducible show wpAny _ _ (exec (Stmt.Try _ (_ :: _) _ [] _) _) _ _ _); k_dflt (refine wpAny_Try_except ?_)))
  k_with "noteFrame ref" => ((k_here; refine paus ?_))
  k_with "exec Raise some none" => ((k_here; (with_reducible show wpAny _ _ (exec (Stmt.Raise (some (Expr.Name _ _)) none _) _) _ _ _); refine paus ?_))
  k_with "call ref" => ((k_here; (with_reducible show wpAny _ _ (call (Value.ref 81) _) _ _ _); refine paus ?_))
  k_with "pyIter ref" => ((k_here; (with_reducible show wpAny _ _ (pyIter (Value.ref _)) _ _ _); refine paus ?_))
  k_with "exec For Name Call cons nil" => ((k_here; (with_reducible show wpAny _ _ (exec (Stmt.For _ _ _ [] _) _) _ _ _); k_dflt (refine wpAny_For ?_)))
  k_with "call type:str cons nil" => ((k_here; (with_reducible show wpAny _ _ (call (Value.type "str") [Value.ref _]) _ _ _); refine paus ?_))
  k_with "call ref" => ((k_here; (with_reducible show wpAny _ _ (call (Value.ref 74) _) _ _ _); refine paus ?_))
  k_with "exec Raise some none" => ((k_here; (with_reducible show wpAny _ _ (exec (Stmt.Raise (some (Expr.Call _ _ _ _)) none _) _) _ _ _); refine paus ?_))
  k_with "bind" => ((k_here; (with_reducible show wpAny _ _ (do bindName _ _ Value.none; unbindBehindTheSuite _ _ _) _ _ _); k_dflt (refine goes_E (by k_asm) (by k_asm) (by exact rfl) (by exact rfl) (by exact rfl) ?_; k_whole); intro h'r9 v'r9 F'r9 N'r9))
  exact trivial
noncomputable section
theorem raised_ne {h₀ h : Heap} {l : List Env} {e t : Addr} {cls : Value} {vs : List Value} {news : List (Addr × Obj)} (R : RaisedK h₀ l e cls t vs news h) : ∀ q ∈ news, @Ne Nat e q.1 ∧ @Ne Nat t q.1 := by
  obtain ⟨⟨B, hB, hl, hfl, hnew⟩, _⟩ := R
  intro q hq
  have h1 := (hl q hq).1
  refine ⟨fun z => ?_, fun z => ?_⟩
  · rw [← z, hfl.2.1] at h1; cases h1
  · rw [← z, hnew] at h1; cases h1
theorem str_exc {prog : Program} {w : World} {A : Around} {E : Value → Shared → Prop} {s : Shared} {h₀ : Heap} {L e t : Addr} {oe ot : Obj} {ws : Array Value} {nt : Nat} {X n : String} {ld : List (Addr × Obj)} {x : Str} {tk : Tok} {Q : Value → Shared → Prop} (FX : ExcStrFacts X n) (hu : A.units + 2 < cLine)
    (N : News h₀ L s.heap ld) (he : (e, oe) ∈ ld) (ht : (t, ot) ∈ ld) (d1 : oe.cls = .type X) (d2 : oe.data = .fields ws) (d3 : ws[0]? = some (.ref t)) (d4 : ot.cls = .type "tuple") (d5 : ot.data = .seq [Value.str x tk].toArray nt) (h : Q (.str x tk) s) :
    wpAny (model prog w) A (call (.type "str") [.ref e]) Q E s :=
  PySem.P.str_of_exc_one FX hu ⟨oe, ws, (N _ he).1, d1, d2, d3⟩ ⟨ot, nt, (N _ ht).1, d4, d5⟩ h
theorem goes_E {M : Model} {A : Around} {E : Value → Shared → Prop} {s : Shared} {env : Env} {n : Str} {pos : Pos} {h₀ : Heap} {L : Addr} {m : Str → Option Value} {news : List (Addr × Obj)} {Q : Unit → Shared → Prop} (F : Fr h₀ L s.heap m) (N : News h₀ L s.heap news) (hL : env.locals = L) (hl : env.kindOf n = some .local)
    (hp : (env.scope.kind == .class || (env.scope.kind == .module && env.locals != env.globals)) = false)
    (h : ∀ h' v, Fr h₀ L h' (fun x => if x = n then v else m x) → News h₀ L h' news → Q () { s with heap := h', toks := s.toks + 1 }) :
    wpAny M A (do bindName env n .none; unbindBehindTheSuite env n pos) Q E s := by
  subst hL
  exact wpAny_nameGoes_keeps hl F.ns hp fun h' v hn hs => h h' v (F.set hn hs) (N.set hs)
namespace seg_law_s22
noncomputable def body : (P_1 : World → Addr → Value → Heap → Addr → Program → List Str → (ExcName → Option Value) → (Str → Option Value) → (Str → Option Value) → (Str → Option Value) → List (Addr × Obj) → Shared → (Flow → Shared → Prop) → (Value → Shared → Prop) → Addr → List Value → List Int → Nat → Int → Int → Tok → Tok → Prop) ×' ((∀ a b c d e f g h i j k l m n o p q r s t u v w, P_1 a b c d e f g h i j k l m n o p q r s t u v w) → (∀ (w : World) (fa : Addr) (cd : Value) (h₀ : Heap) (L : Addr) (p : Program) (loose : List Str) (mean : ExcName → Option Value) (mg mb : Str → Option Value) (u : Str → Option Value) (news : List (Addr × Obj)) (s : Shared)
  (Q : Flow → Shared → Prop) (E : Value → Shared → Prop) (CU : Addr) (cs : List Value) (cuts : List Int) (nc : Nat) (total ring : Int) (t1 t2 : Tok),
  Below callerA h₀ [] h₀ → (hd.heap_1 w.params).In h₀ → Top p loose mean mg mb h₀ → CodeHd h₀ 34 30 → CodeHd h₀ 41 37 →
  Fr h₀ L s.heap (fun z => if z = Str.ofString "total" then some (.int total t1) else if z = Str.ofString "ring" then some (.int ring t2) else if z = Str.ofString "cuts" then some (.ref CU) else u z) →
  News h₀ L s.heap news → (CU, W.listOf cs.toArray nc) ∈ news → IntsAre cs cuts → AllBare s.gens →
  (∀ h' tk' g' m', Fr h₀ L h' m' → News h₀ L h' news → AllBare g' → Q (.ret (.bool true)) { s with heap := h', toks := tk', gens := g' }) →
  wpAny (model Prog w) (callerA.deeper (lawE L fa cd)) (execs lt22.val (lawE L fa cd)) Q E s)) := by
  refine' ⟨_, fun k_1 => ?main⟩
  case main =>
    unfold Prog
    intro w fa cd h₀ L p loose mean mg mb u news s Q E CU cs cuts nc total ring t1 t2 B X T C1 C2 F N hCU hIc hgb hfin
    revert B X T C1 C2 F N hCU hIc hgb hfin
    exact k_1 w fa cd h₀ L p loose mean mg mb u news s Q E CU cs cuts nc total ring t1 t2
namespace sA
noncomputable abbrev tyC := (World × Addr × Value × Heap × Addr × Program × List Str × (ExcName → Option Value)) × ((Str → Option Value) × (Str → Option Value) × (Str → Option Value) × (List (Addr × Obj)) × Shared × (Flow → Shared → Prop) × (Value → Shared → Prop) × Addr) × (List Value × List Int × Nat × Int × Int × Tok × Tok)
def prP := body.1
def prQ (x : tyC) : Prop := prP x.1.1 x.1.2.1 x.1.2.2.1 x.1.2.2.2.1 x.1.2.2.2.2.1 x.1.2.2.2.2.2.1 x.1.2.2.2.2.2.2.1 x.1.2.2.2.2.2.2.2 x.2.1.1 x.2.1.2.1 x.2.1.2.2.1 x.2.1.2.2.2.1 x.2.1.2.2.2.2.1 x.2.1.2.2.2.2.2.1 x.2.1.2.2.2.2.2.2.1 x.2.1.2.2.2.2.2.2.2 x.2.2.1 x.2.2.2.1 x.2.2.2.2.1 x.2.2.2.2.2.1 x.2.2.2.2.2.2.1 x.2.2.2.2.2.2.2.1 x.2.2.2.2.2.2.2.2
noncomputable def inI : tyC := ((aWorld 0, default, default, default, default, default, default, default), (default, default, default, default, {}, default, default, default), default)
def epC : tyC := eps inI prQ
@[irreducible] def fa := epC.1.2.1
@[irreducible] def cd := epC.1.2.2.1
@[irreducible] def h₀ := epC.1.2.2.2.1
@[irreducible] def L := epC.1.2.2.2.2.1
@[irreducible] def p := epC.1.2.2.2.2.2.1
@[irreducible] def news := epC.2.1.2.2.2.1
@[irreducible] def ring := epC.2.2.2.2.2.2.1
@[irreducible] def t2 := epC.2.2.2.2.2.2.2.2
theorem sA_main : prP epC.1.1 fa cd h₀ L p epC.1.2.2.2.2.2.2.1 epC.1.2.2.2.2.2.2.2 epC.2.1.1 epC.2.1.2.1 epC.2.1.2.2.1 news epC.2.1.2.2.2.2.1 epC.2.1.2.2.2.2.2.1 epC.2.1.2.2.2.2.2.2.1 epC.2.1.2.2.2.2.2.2.2 epC.2.2.1 epC.2.2.2.1 epC.2.2.2.2.1 epC.2.2.2.2.2.1 ring epC.2.2.2.2.2.2.2.1 t2 := by
  intro B X T C1 C2 F N hCU hIc hgb hfin
  dsimp only [lawE, lt22, lawS]
  k_steps
  refine raise_cls rfl PySem.F.excCall_ZeroDivisionError PySem.F.excRaise_ZeroDivisionError excClass_ZeroDivisionError (by rw [isSubtype_type]; kernel_rfl) ?hx ?_
  case hx => k_steps
  intro h1 e1 hm1
  k_steps
  rename RaisedK _ _ _ _ _ _ _ _ => R1
  rename Heap.UpToSlots _ _ => U1
  rename Fr h₀ L _ _ => F1
  refine caught_E (T' := "ZeroDivisionError") B rfl F1 U1 R1 T.g (mg_none_of X T.g (by k_is)) T.b ((T.builtins _ (by decide +kernel)).trans (ExcClass.boot excClass_ZeroDivisionError)) PySem.F.excRaise_ZeroDivisionError.isExc (by rw [isSubtype_type]; kernel_rfl) (by rw [isSubtype_type]; kernel_rfl) (fun h2 oe ot ws nt F2 N2 c1 c2 c3 c4 c5 => ?_) rfl rfl (by decide)
  clear R1 U1 F1
  k_steps
  rename Fr h₀ L _ _ => F3
  rename News h₀ L _ _ => N3
  refine' call_ruler ?room X T ?hgb F3 N3 fun G Lg own h1 tk1 g1 hru F4 N4 lL lG ha => ?_
  case hgb => exact hgb
  case room => exact (by decide : callerA.depth + 1 < recursionLimit)
  k_steps
  refine ru_self (hru (W.listOf #[] 0) 1 (fun _ => none)) N4 ?_
  refine codeAny_forLoop_any (fun _ s' => s' = _) ?turn 0 rfl
  rintro n9 s9 rfl
  have hfrL : h1.FunFrames h₀ [lawE L fa cd] := Heap.FunFrames.cons (fun q => ScopeKind.noConfusion q) rfl F4.ns (Heap.get?_none_of_le F4.above) trivial
  refine' ru_raises (outer := [lawE L fa cd]) (lo := W.listOf [Value.int 0 _, .int ring t2].toArray 0) (vs := [Value.int 0 _, .int ring t2]) (N := 1) (out := fun _ => none) (by decide : callerA.depth + 1 < recursionLimit) X T rfl (.cons _ _ (.cons _ _ .nil)) ?hst F4 N4 (by k_mem) ha hfrL ?_
  case hst => exact hru _ 1 (fun _ => none)
  intro e t tk9 h2 B2 tk2 g2 hg2 k1 k2 k3 k4 k5 k6
  have hLg : Lg ≠ L := by
    obtain ⟨_, _, _, oG, oL, e9, _⟩ := hru default 1 (fun _ => none)
    exact (N4 (Lg, oL) (by rw [e9]; simp)).2.1
  have hL2 : h2.Ns L (frm F4) := by
    obtain ⟨o, es, ep, ho, hd, r0, r1⟩ := F4.ns
    obtain ⟨sl, hs⟩ := k6 L o ho (fun q => hLg q.symm) (fun vs q => by rw [hd] at q; cases q)
    exact ⟨{ o with slots := sl }, es, ep, hs, hd, r0, r1⟩
  have F5 : Fr h₀ L h2 (frm F4) := ⟨hL2, fun b o hb => k3.1 _ _ (k1 _ _ hb), F4.above⟩
  show wpAny _ _ (noteFrame (.ref e) (lawE L fa cd)) _ _ _
  refine wpAny_looks_onW (Around.frames_deeper B.stack) rfl k3 fun h3 hH3 u3 => ?_
  dsimp only
  unfold cameBackBy
  refine held_again hH3 fun h4 hH4 u4 => ?_
  have u4' : h3.UpToSlots h4 := fun b o hb hn => ⟨o.slots, u4 b o hb hn⟩
  obtain ⟨WD, hWD⟩ : ∃ d, d = adrAt (led N3) 1 := ⟨_, rfl⟩
  dsimp only [adrAt, led] at hWD
  subst hWD
  have hown : ∃ oG oL, own = [(G, oG), (Lg, oL)] := by
    obtain ⟨_, _, _, oG, oL, e9, _⟩ := hru default 1 (fun _ => none)
    exact ⟨oG, oL, e9⟩
  have NB : ∀ q ∈ ((WD, W.listOf ([] : List Value).toArray 0) :: news : List (Addr × Obj)), B2.get? q.1 = some q.2 ∧ h₀.get? q.1 = none := by
    intro q hq
    have hq' := N4 q (List.mem_append_right _ (.tail _ ((List.mem_cons.mp hq).elim (fun e9 => by rw [e9]; exact .head _) fun e9 => .tail _ (.tail _ (.tail _ e9)))))
    have hlq := lL q (.tail _ ((List.mem_cons.mp hq).elim (fun e9 => by rw [e9]; exact .head _) fun e9 => .tail _ (.tail _ (.tail _ e9))))
    refine ⟨k2 _ _ hq'.1 (Nat.ne_of_lt hlq) ?_, hq'.2.2⟩
    exact fun e9 => hq'.2.1 (List.mem_singleton.mp e9)
  have nWe : @Ne Nat e WD := fun q => by
    have q2 := (NB _ (.head _)).1
    dsimp only at q2
    rw [← q, k3.2.1] at q2
    cases q2
  have nWt : @Ne Nat t WD := fun q => by
    have q2 := (NB _ (.head _)).1
    dsimp only at q2
    rw [← q, k4] at q2
    cases q2
  refine caught_AsH (T' := "ValueError") (outer := []) rfl rfl F5 (u3.trans u4') k1 NB hH4 k4 ((k5.of_slots u3).of_slots u4') T.g (mg_none_of X T.g (by k_is)) T.b ((T.builtins _ (by decide +kernel)).trans (ExcClass.boot excClass_ValueError)) PySem.F.excRaise_ValueError.isExc (by rw [isSubtype_type]; kernel_rfl) (by rw [isSubtype_type]; kernel_rfl) (fun h5 tk5 oe5 ot5 ws5 nt5 F6 N6 d1 d2 d3 d4 d5 => ?_) rfl rfl rfl rfl (by decide)
  k_steps
  refine str_exc PySem.F.excStr_ValueError (show callerA.units + 3 + 2 < cLine by decide) N6 (by k_mem) (by k_mem) d1 d2 d3 d4 d5 ?_
  k_steps
  rename Fr h₀ L _ _ => F7
  refine wpAny_call ?_
  k_dflt (refine' code_def ?k1 ?k2 ?k3 ?k4 ?k5 ?kA ?kF ?kK ?k6 ?k7 ?k8 ?k9 ?kB ?_ ?c2 ?c3 ?c4 ?c5; (case kA => exact Around.frames_deeper B.stack); (case kF => exact rfl); (case kK => exact rfl); (case k1 => k_asm); (case k2 => k_asm); (case k3 => k_asm); (case k4 => k_asm); (case k5 => k_asm); (case k6 => k_is); (case k7 => k_is); (case k8 => exact (by decide : callerA.depth + 1 < recursionLimit)); (case k9 => exact kp_binds (X.keeps F7.keep) (fun _ => rfl)); (case c5 => decide); (case kB => exact locs rfl); (case c2 => exact rfl); (case c3 => exact rfl); (case c4 => exact rfl); k_whole; intro g9 L9 h9 FG9 F9 N9 B9 X9 T9; (try dsimp only); (try k_lift B9); (try k_fold))
  k_steps
  refine wpAny_Raise_call PySem.F.excCall_ValueError PySem.F.excRaise_ValueError rfl rfl ?_
  k_steps
  refine evalArgs_kw (rest := []) rfl ?_
  rw [if_neg Bool.false_ne_true]
  refine Calls.spliced_cons (Calls.Constant_str (Calls.spliced_nil (wpAny_pure ?_)))
  refine ⟨rfl, by rw [sizeLine_eq]; exact Nat.le_of_ble_eq_true rfl, fun h6 e6 hm6 => ?_⟩
  have hm6' := hm6.of
  clear hm6
  k_steps
  rename RaisedK _ _ _ _ _ _ _ _ => R2
  rename Heap.UpToSlots _ _ => U2
  rename Fr h₀ L _ _ => F8
  refine caught_As (T' := "ValueError") B rfl rfl F8 U2 R2 T.g (mg_none_of X T.g (by k_is)) T.b ((T.builtins _ (by decide +kernel)).trans (ExcClass.boot excClass_ValueError)) PySem.F.excRaise_ValueError.isExc (by rw [isSubtype_type]; kernel_rfl) (by rw [isSubtype_type]; kernel_rfl) (fun h7 tk7 oe7 ot7 ws7 nt7 F10 N10 d6 d7 d8 d9 d10 => ?_) rfl rfl rfl rfl (by decide)
  obtain ⟨nW6, nWt6⟩ := raised_ne R2 (WD, _) (.tail _ (.tail _ (.head _)))
  clear R2 U2 F8
  k_steps
  refine str_exc PySem.F.excStr_ValueError (show callerA.units + 3 + 2 < cLine by decide) N10 (by k_mem) (by k_mem) d6 d7 d8 d9 d10 ?_
  k_steps
  rename News h₀ L _ _ => N11
  exact hfin _ _ _ _ (by assumption) (news_sub N11 (by intro p hp; repeat (first | exact hp | apply List.mem_cons_of_mem))) hg2
theorem all : ∀ x, prQ x := @sk tyC inI prQ (by with_unfolding_all exact @sA_main)
end sA
end seg_law_s22
theorem law_s22 : ∀ (w : World) (fa : Addr) (cd : Value) (h₀ : Heap) (L : Addr) (p : Program) (loose : List Str) (mean : ExcName → Option Value) (mg mb : Str → Option Value) (u : Str → Option Value) (news : List (Addr × Obj)) (s : Shared)
  (Q : Flow → Shared → Prop) (E : Value → Shared → Prop) (CU : Addr) (cs : List Value) (cuts : List Int) (nc : Nat) (total ring : Int) (t1 t2 : Tok),
  Below callerA h₀ [] h₀ → (hd.heap_1 w.params).In h₀ → Top p loose mean mg mb h₀ → CodeHd h₀ 34 30 → CodeHd h₀ 41 37 →
  Fr h₀ L s.heap (fun z => if z = Str.ofString "total" then some (.int total t1) else if z = Str.ofString "ring" then some (.int ring t2) else if z = Str.ofString "cuts" then some (.ref CU) else u z) →
  News h₀ L s.heap news → (CU, W.listOf cs.toArray nc) ∈ news → IntsAre cs cuts → AllBare s.gens →
  (∀ h' tk' g' m', Fr h₀ L h' m' → News h₀ L h' news → AllBare g' → Q (.ret (.bool true)) { s with heap := h', toks := tk', gens := g' }) →
  wpAny (model Prog w) (callerA.deeper (lawE L fa cd)) (execs lt22.val (lawE L fa cd)) Q E s := @PSigma.snd _ _ seg_law_s22.body (fun a b c d e f g h i j k l m n o p q r s t u v w => @seg_law_s22.sA.all ((a, b, c, d, e, f, g, h), (i, j, k, l, m, n, o, p), (q, r, s, t, u, v, w)))
end
section
noncomputable def LawEnd (tabs : List (Addr × Addr)) (s₁ : Shared) (r : Result) (s' : Shared) : Prop :=
  r = .ok (.ret (.bool true)) ∧ (∀ b o, (ghostOf s₁.heap tabs).get? b = some o → s'.heap.get? b = some o) ∧ GrownAll tabs s'.heap ∧ s'.os = s₁.os ∧ AllBare s'.gens
theorem lawEnd_post {M : Model} {A : Around} {cd : Code} {s s₁ : Shared} {cw : ClaimW} {cl : Str → Option Addr} {mean : ExcName → Option Value} {args : List WData} {tabs : List (Addr × Addr)} (hT : TabsAt tabs s₁.heap)
    (hr : ∀ x, cw.raises args x = false) (hp : cw.post args (.bool true) args = true) (h : codeAny M A cd (LawEnd tabs s₁) s) : codeAny M A cd (GoodWG cw cl mean args s₁) s := by
  refine codeAny_mono h ?_
  rintro r s' ⟨rfl, hk, hg, hos, hb⟩
  have two : ∀ b o, s₁.heap.get? b = some o → s'.heap.get? b = some o ∨ (isCodeTable s₁.heap b ∧ o = tabObj #[] ∧ ∃ ps, s'.heap.get? b = some (tabObj ps)) := by
    intro b o e
    by_cases hm : b ∈ tabs.map (·.2)
    · right
      obtain ⟨q, hq, rfl⟩ := List.mem_map.mp hm
      have e2 := (hT q hq).2
      rw [e] at e2
      exact ⟨((hT q hq).1.tab (hT q hq).2).isCodeTable, Option.some.inj e2, hg.get q hq⟩
    · exact .inl (hk b o (ghost_ne e hm))
  refine ⟨.inl ⟨.bool true, .bool true, [], rfl, hr, .bool true, hp, fun _ => ⟨List.nodup_nil, fun _ h9 => nomatch h9⟩⟩, ⟨fun b o e => ?_, fun b o e => ?_⟩, hos, hb⟩
  · rcases two b o e with q | ⟨ht, rfl, ps, q⟩
    · exact .inl q
    · exact .inr (.inl ⟨ht, rfl, #[], ps, rfl, by rw [Array.empty_append]; exact q⟩)
  · rcases two b o e with q | ⟨_, _, ps, q⟩
    · exact ⟨_, q⟩
    · exact ⟨_, q⟩
end
theorem rules_P17 : True := by
  k_with_none
  k_with "call builtin:len" => ((k_here; (with_reducible show wpAny _ _ (call (Value.builtin "len") [Value.ref _]) _ _ _); k_dflt (refine kst_len (by k_asm) (by k_mem) (by exact IntsAre.length (by assumption)) (by omega) ?_); (try dsimp only)))
  k_with "truthy ref" => ((k_here; (with_reducible show wpAny _ _ (truthy (Value.ref _)) _ _ _); k_dflt (refine kgr_truthy (by k_asm) (by k_mem) (by exact rfl) (by exact rfl) (by (have := IntsAre.length (by assumption); omega)) ?_); (try dsimp only)))
  k_with "call builtin:list.append" => ((k_here; (with_reducible show wpAny _ _ (call (Value.builtin _) [Value.ref _, _]) _ _ _); k_dflt (refine append_K (by k_asm) (by k_asm) (by k_upd) ?_ (by (simp only [List.size_toArray]; rw [sizeLine_eq]; omega)); k_whole); intro h'r9 F'r9 N'r9; (try k_sweep)))
  k_with "call ref" => ((k_here; (with_reducible show wpAny _ _ (call (Value.ref _) _) _ _ _); refine paus ?_))
  k_with "subscriptTail Name Constant ref int" => ((k_here; (with_reducible show wpAny _ _ (subscriptTail _ _ (Value.ref _) (Value.int _ _)) _ _ _); refine paus ?_))
  k_with "exec For Name Name cons nil" => ((k_here; (with_reducible show wpAny _ _ (exec (Stmt.For _ _ _ [] _) _) _ _ _); k_dflt (refine wpAny_For ?_)))
  exact trivial
local macro_rules | `(tactic| k_all) => `(tactic| with_reducible assumption)
noncomputable section
inductive RowsAre (news : List (Addr × Obj)) : List Value → List (List Int) → Prop
  | nil : RowsAre news [] []
  | cons {r : Addr} {ds : List Value} {nn : Nat} {ns : List Int} {vs : List Value} {rows : List (List Int)} : (r, W.listOf ds.toArray nn) ∈ news → IntsAre ds ns → RowsAre news vs rows → RowsAre news (.ref r :: vs) (ns :: rows)
theorem RowsAre.length {news : List (Addr × Obj)} {vs : List Value} {rows : List (List Int)} (h : RowsAre news vs rows) : vs.length = rows.length := by
  induction h with
  | nil => rfl
  | cons _ _ _ ih => simp [ih]
theorem RowsAre.get {news : List (Addr × Obj)} {vs : List Value} {rows : List (List Int)} (h : RowsAre news vs rows) : ∀ (i : Nat) (ns : List Int), rows[i]? = some ns → ∃ (r : Addr) (ds : List Value) (nn : Nat), vs[i]? = some (Value.ref r) ∧ (r, W.listOf ds.toArray nn) ∈ news ∧ IntsAre ds ns := by
  induction h with
  | nil => intro i ns h; cases h
  | @cons r ds nn ns vs rows h1 h2 _ ih =>
    intro i ns' h
    cases i with
    | zero => cases h; exact ⟨r, ds, nn, rfl, h1, h2⟩
    | succ i => exact ih i ns' h
theorem ov11 {m m0 : Str → Option Value} {a b : Str} {v : Value} (hb : m b = some v) (h' : ∀ z, z ≠ a → z ≠ b → m z = m0 z) : m = fun z => if z = a then m z else if z = b then some v else m0 z := by
  funext z
  by_cases h1 : z = a
  · rw [if_pos h1]
  · rw [if_neg h1]
    by_cases h2 : z = b
    · rw [if_pos h2, h2, hb]
    · rw [if_neg h2]; exact h' z h1 h2
noncomputable abbrev prodOf (n : Nat) (rows : List (List Int)) : Int := (rows.map (bval n)).foldl (· * ·) 1
theorem prodOf_snoc (n : Nat) (rows : List (List Int)) (r : List Int) : prodOf n (rows ++ [r]) = prodOf n rows * bval n r := by simp [prodOf]
theorem foldl_bits {b : Nat} : ∀ (l : List Int) (a : Int), (∀ x ∈ l, Builtin.Int.intBits x ≤ b) → Builtin.Int.intBits (l.foldl (· * ·) a) ≤ Builtin.Int.intBits a + b * l.length
  | [], a, _ => Nat.le_add_right _ _
  | x :: l, a, h => by
    have h1 := foldl_bits l (a * x) fun y hy => h y (.tail _ hy)
    have h2 := PySem.intBits_mul_le (x := a) (y := x) (Nat.le_refl _) (h x (.head _))
    rw [List.foldl_cons, List.length_cons, Nat.mul_succ]
    (first | exact om239 h1 h2 | omega)
theorem bval_bits {n ring : Nat} {r : List Int} (hr : r.length = ring) (h : ∀ a ∈ r, 0 ≤ a ∧ a < 2) (hn : 1 ≤ n) : Builtin.Int.intBits (bval n r) ≤ n * ring := by
  have h2 : (2 : Int) ≤ 2 ^ n := by
    have h3 := Nat.pow_le_pow_right (n := 2) (by decide) hn
    exact_mod_cast h3
  have h1 := bval_bound n r fun a ha => ⟨(h a ha).1, Int.lt_of_lt_of_le (h a ha).2 h2⟩
  rw [hr] at h1
  refine PySem.intBits_le_iff.mpr ?_
  have h4 : ((bval n r).natAbs : Int) < ((2 ^ (n * ring) : Nat) : Int) := by
    rw [Int.natAbs_of_nonneg h1.1]
    exact_mod_cast h1.2
  exact_mod_cast h4
theorem prodOf_bits {n ring : Nat} {rows : List (List Int)} (hn : 1 ≤ n) (h : ∀ r ∈ rows, r.length = ring ∧ ∀ a ∈ r, 0 ≤ a ∧ a < 2) : Builtin.Int.intBits (prodOf n rows) ≤ 1 + n * ring * rows.length := by
  have h1 := foldl_bits (b := n * ring) (rows.map (bval n)) 1 fun x hx => by
    obtain ⟨r, hr, rfl⟩ := List.mem_map.mp hx
    exact bval_bits (h r hr).1 (h r hr).2 hn
  rw [List.length_map] at h1
  exact h1
theorem digs_top {n x k : Nat} (hn : 0 < n) (hk : (((Builtin.Int.intBits (x : Int) : Nat) : Int) + n - 1).fdiv n = (k : Int)) (h : (digs n k x).drop (k - 1) = [0]) : False := by
  cases k with
  | zero => simp [digs] at h
  | succ j =>
    rw [show j + 1 - 1 = j from rfl, digs_append n j 1 x, List.drop_append, digs_length, List.drop_of_length_le (by rw [digs_length]; exact Nat.le_refl _), Nat.sub_self] at h
    simp only [List.nil_append, List.drop_zero, digs] at h
    have h1 : x / 2 ^ (n * j) % 2 ^ n = 0 := by
      have := (List.cons.inj h).1
      exact_mod_cast this
    rw [Int.fdiv_eq_ediv_of_nonneg _ (by (first | exact om53 | omega))] at hk
    have e1 := Int.mul_ediv_self_le (x := ((Builtin.Int.intBits (x : Int) : Nat) : Int) + n - 1) (k := (n : Int)) (by (first | exact om240 hn | omega))
    have e2 := Int.lt_mul_ediv_self_add (x := ((Builtin.Int.intBits (x : Int) : Nat) : Int) + n - 1) (k := (n : Int)) (by (first | exact om241 hn | omega))
    rw [hk] at e1 e2
    have e3 : (n : Int) * ((j + 1 : Nat) : Int) = ((n * j : Nat) : Int) + n := by rw [Int.natCast_mul, Int.natCast_add, Int.mul_add]; simp
    rw [e3] at e1 e2
    have h2 : x < 2 ^ (n * j + n) := by
      have := (PySem.intBits_le_iff (m := n * j + n) (x := (x : Int))).mp (by (first | exact om242 e2 | omega))
      simpa using this
    have h3 : x / 2 ^ (n * j) < 2 ^ n := by
      rw [Nat.div_lt_iff_lt_mul (Nat.two_pow_pos _), ← Nat.pow_add, Nat.add_comm]
      exact h2
    rw [Nat.mod_eq_of_lt h3] at h1
    have h4 : x < 2 ^ (n * j) := (Nat.div_eq_zero_iff_lt (Nat.two_pow_pos _)).mp h1
    have h5 : Builtin.Int.intBits (x : Int) ≤ n * j := PySem.intBits_le_iff.mpr (by simpa using h4)
    omega
theorem digs_pad (n : Nat) : ∀ (k r x : Nat), k ≤ r → x < 2 ^ (n * k) → digs n r x = digs n k x ++ List.replicate (r - k) 0
  | k, r, x, h, hx => by
    obtain ⟨d, rfl⟩ : ∃ d, r = k + d := ⟨r - k, by (first | exact om243 h | omega)⟩
    rw [digs_append, Nat.div_eq_of_lt hx, Nat.add_sub_cancel_left]
    congr 1
    induction d with
    | zero => rfl
    | succ d ih => simp [digs, List.replicate_succ] at ih ⊢; exact ih
noncomputable def JFold (g0 : Array GenState) (m0 : Str → Option Value) (I c1 c2 : Addr) (o1 k1 : Obj) (news : List (Addr × Obj)) (rows : List (List Int)) (n : Nat) (sign : Int) (i : Nat) (m : Str → Option Value) (nx : List (Addr × Obj)) (g : Array GenState) : Prop :=
  g = g0 ∧ ∃ (u : Str → Option Value) (o2' k2' : Obj) (c2' : Addr) (t : Tok), nx = (30, o1) :: (c1, k1) :: (37, o2') :: (c2', k2') :: news ∧ TabSt 37 47 4 q37 o2' c2' k2' ∧ (c2' = c2 ∨ (@LT.lt Nat _ I c2' ∧ @LT.lt Nat _ 30 c2' ∧ ∀ q ∈ news, @LT.lt Nat _ q.1 c2')) ∧
    m = (fun z => if z = Str.ofString "row" then u z else if z = Str.ofString "number" then some (.int (sign * prodOf n (rows.take i)) t) else m0 z)
namespace seg_law_folded
noncomputable def body : (P_1 : World → Heap → Addr → (Str → Option Value) → List (Addr × Obj) → Shared → (Value → Shared → Prop) → (Value → Shared → Prop) → Addr → Nat → Nat → Int → Tok → Tok → Obj → Obj → Obj → Obj → Addr → Addr → Addr → List Value → Nat → List Value → List Int → List (List Int) → Nat → Option (List Code) → Nat → Program → List Str → (ExcName → Option Value) → (Str → Option Value) → (Str → Option Value) → Around → Heap → List Env → Env → Heap → Addr → Heap → Prop) ×' ((∀ a b c d e f g h i j k l m n o p q r s t u v w x y z a1 b1 c1 d1 e1 f1 g1 h1 i1 j1 k1 l1 m1 n1 o1, P_1 a b c d e f g h i j k l m n o p q r s t u v w x y z a1 b1 c1 d1 e1 f1 g1 h1 i1 j1 k1 l1 m1 n1 o1) → (∀ (w : World) (A : Around) (h₀ : Heap) (L : Addr) (m : Str → Option Value) (news : List (Addr × Obj)) (s : Shared)
  (Q E : Value → Shared → Prop) (R : Addr) (vs : List Value) (rows : List (List Int)) (nR ring : Nat) (wide sign : Int) (t2 t3 : Tok) (o1 k1 o2 k2 : Obj) (c1 c2 : Addr),
  Site w A h₀ L → Fr h₀ L s.heap m → News h₀ L s.heap ((30, o1) :: (c1, k1) :: (37, o2) :: (c2, k2) :: news) → Off 30 news → Off 37 news → @Ne Nat c1 37 → @Ne Nat c2 30 → TabSt 30 32 4 q30 o1 c1 k1 → TabSt 37 47 4 q37 o2 c2 k2 →
  A.depth + 200 < recursionLimit → A.units + 2000 < cLine →
  (R, W.listOf vs.toArray nR) ∈ news → RowsAre news vs rows → rows ≠ [] → rows.length ≤ 5 → (∀ r ∈ rows, r.length = ring ∧ ∀ a ∈ r, 0 ≤ a ∧ a < 2) → 5 ≤ ring → ring ≤ 9 → 13 ≤ wide → wide ≤ 16 → (sign = 1 ∨ sign = -1) →
  (∀ r ds nD o1' k1' c1' o2' k2' c2' h' tk', Fr h₀ L h' m → News h₀ L h' ((r, W.listOf ds.toArray nD) :: (30, o1') :: (c1', k1') :: (37, o2') :: (c2', k2') :: news) → TabSt 30 32 4 q30 o1' c1' k1' → TabSt 37 47 4 q37 o2' c2' k2' →
     (c1' = c1 ∨ ∀ q ∈ news, q.1 < c1') → (c2' = c2 ∨ ∀ q ∈ news, q.1 < c2') → @Ne Nat c1' 37 → @Ne Nat c2' 30 → (∀ q ∈ (30, o1') :: (c1', k1') :: (37, o2') :: (c2', k2') :: news, @LT.lt Nat _ q.1 r) →
     IntsAre ds (digs wide.toNat ring (((rows.map (bval wide.toNat)).foldl (· * ·) 1) % (2 ^ (wide.toNat * ring) - 1)).toNat) → Q (.ref r) { s with heap := h', toks := tk' }) →
  wpAny (model Prog w) A (call (.ref 107) [.ref R, .int wide t2, .int sign t3]) Q E s)) := by
  refine' ⟨_, fun k_1 => ?main⟩
  case main =>
    unfold Site Prog
    intro w A h₀ L m news s Q E R vs rows nR ring wide sign t2 t3 o1 k1 o2 k2 c1 c2 hS F N hR1 hR2 hn1 hn2 hT1 hT2 hd hu hR hrows hne hlen hrow hring5 hring9 hw13 hw16 hsg hret
    have hall := hrows
    refine byC fun hGZ => ?_
    obtain ⟨r0, d0, n0, vs', row0, rows', rfl, rfl, hr0, hI0⟩ : ∃ (r0 : Addr) (d0 : List Value) (n0 : Nat) (vs' : List Value) (row0 : List Int) (rows' : List (List Int)), vs = .ref r0 :: vs' ∧ rows = row0 :: rows' ∧ (r0, W.listOf d0.toArray n0) ∈ news ∧ IntsAre d0 row0 := by
      cases hrows with
      | nil => exact absurd rfl hne
      | cons h1 h2 h3 => exact ⟨_, _, _, _, _, _, rfl, rfl, h1, h2⟩
    refine hGZ ?_; clear hGZ
    have hlen0 : row0.length = ring := (hrow _ (.head _)).1
    have hex0 : 0 ≤ wide * (row0.length : Int) := Int.mul_nonneg (by (first | exact om244 hw13 | omega)) (by (first | exact om53 | omega))
    have hex1 : wide * (row0.length : Int) ≤ 144 := by
      rw [hlen0]
      exact Int.le_trans (Int.mul_le_mul_of_nonneg_right hw16 (by (first | exact om53 | omega))) (by (first | exact om245 hring9 | omega))
    refine byC fun hGZ => ?_
    obtain ⟨hd0, dp, fr, gd, un⟩ := A
    obtain ⟨p, loose, mean, mg, mb, A₀, base, outer, env, B, X, T, hA, hf, hke, hh, C1, C2⟩ := hS
    dsimp only at hA hh hd hu
    subst hA
    subst hh
    refine hGZ ?_; clear hGZ
    refine wpAny_call ?_
    k_dflt (refine' code_def ?k1 ?k2 ?k3 ?k4 ?k5 ?kA ?kF ?kK ?k6 ?k7 ?k8 ?k9 ?kB ?_ ?c2 ?c3 ?c4 ?c5; (case kA => exact rfl); (case kF => exact hf); (case kK => exact hke); (case k1 => k_asm); (case k2 => k_asm); (case k3 => k_asm); (case k4 => k_asm); (case k5 => k_asm); (case k6 => k_is); (case k7 => k_is); (case k8 => ktr_room); (case k9 => exact BindsTo.of_eq rfl); (case c5 => decide); (case kB => exact locs rfl); (case c2 => exact rfl); (case c3 => exact rfl); (case c4 => exact rfl); k_whole; intro g' L' h' FG' F' N' B' X' T'; (try dsimp only); (try k_fold))
    have C1' : CodeHd g' 34 30 := C1.keeps FG'.keep
    have C2' : CodeHd g' 41 37 := C2.keeps FG'.keep
    revert sign F N hR1 hR2 hn1 hn2 hT1 hT2 hring5 hring9 hw13 hw16 hsg hR hne hlen hrow hret hrows hall hr0 hI0 hlen0 hex0 hex1 hd hu B X T hf hke C1 C2 FG' F' N' B' X' T' qk ek C1' C2'
    exact k_1 w h₀ L m news s Q E R nR ring wide t2 t3 o1 k1 o2 k2 c1 c2 r0 d0 n0 vs' row0 rows' dp gd un p loose mean mg mb A₀ base outer env g' L' h'
namespace sA
noncomputable abbrev tyC := (World × Heap × Addr × (Str → Option Value) × (List (Addr × Obj)) × Shared × (Value → Shared → Prop) × (Value → Shared → Prop)) × (Addr × Nat × Nat × Int × Tok × Tok × Obj × Obj) × (Obj × Obj × Addr × Addr × Addr × List Value × Nat × List Value) × (List Int × List (List Int) × Nat × Option (List Code) × Nat × Program × List Str × (ExcName → Option Value)) × ((Str → Option Value) × (Str → Option Value) × Around × Heap × List Env × Env × Heap × Addr) × Heap
def prP := body.1
def prQ (x : tyC) : Prop := prP x.1.1 x.1.2.1 x.1.2.2.1 x.1.2.2.2.1 x.1.2.2.2.2.1 x.1.2.2.2.2.2.1 x.1.2.2.2.2.2.2.1 x.1.2.2.2.2.2.2.2 x.2.1.1 x.2.1.2.1 x.2.1.2.2.1 x.2.1.2.2.2.1 x.2.1.2.2.2.2.1 x.2.1.2.2.2.2.2.1 x.2.1.2.2.2.2.2.2.1 x.2.1.2.2.2.2.2.2.2 x.2.2.1.1 x.2.2.1.2.1 x.2.2.1.2.2.1 x.2.2.1.2.2.2.1 x.2.2.1.2.2.2.2.1 x.2.2.1.2.2.2.2.2.1 x.2.2.1.2.2.2.2.2.2.1 x.2.2.1.2.2.2.2.2.2.2 x.2.2.2.1.1 x.2.2.2.1.2.1 x.2.2.2.1.2.2.1 x.2.2.2.1.2.2.2.1 x.2.2.2.1.2.2.2.2.1 x.2.2.2.1.2.2.2.2.2.1 x.2.2.2.1.2.2.2.2.2.2.1 x.2.2.2.1.2.2.2.2.2.2.2 x.2.2.2.2.1.1 x.2.2.2.2.1.2.1 x.2.2.2.2.1.2.2.1 x.2.2.2.2.1.2.2.2.1 x.2.2.2.2.1.2.2.2.2.1 x.2.2.2.2.1.2.2.2.2.2.1 x.2.2.2.2.1.2.2.2.2.2.2.1 x.2.2.2.2.1.2.2.2.2.2.2.2 x.2.2.2.2.2
noncomputable def inI : tyC := ((aWorld 0, default, default, default, default, {}, default, default), default, default, default, (default, default, callerA, default, default, default, default, default), default)
def epC : tyC := eps inI prQ
@[irreducible] def w := epC.1.1
@[irreducible] def h₀ := epC.1.2.1
@[irreducible] def L := epC.1.2.2.1
@[irreducible] def m := epC.1.2.2.2.1
@[irreducible] def news := epC.1.2.2.2.2.1
@[irreducible] def s := epC.1.2.2.2.2.2.1
@[irreducible] def R := epC.2.1.1
@[irreducible] def nR := epC.2.1.2.1
@[irreducible] def ring := epC.2.1.2.2.1
@[irreducible] def wide := epC.2.1.2.2.2.1
@[irreducible] def o1 := epC.2.1.2.2.2.2.2.2.1
@[irreducible] def k1 := epC.2.1.2.2.2.2.2.2.2
@[irreducible] def o2 := epC.2.2.1.1
@[irreducible] def k2 := epC.2.2.1.2.1
@[irreducible] def c1 := epC.2.2.1.2.2.1
@[irreducible] def c2 := epC.2.2.1.2.2.2.1
@[irreducible] def r0 := epC.2.2.1.2.2.2.2.1
@[irreducible] def vs' := epC.2.2.1.2.2.2.2.2.2.2
@[irreducible] def row0 := epC.2.2.2.1.1
@[irreducible] def rows' := epC.2.2.2.1.2.1
@[irreducible] def p := epC.2.2.2.1.2.2.2.2.2.1
@[irreducible] def g' := epC.2.2.2.2.1.2.2.2.2.2.2.1
@[irreducible] def L' := epC.2.2.2.2.1.2.2.2.2.2.2.2
namespace seg_sA_main
noncomputable def body : (P_1 : Addr → Heap → Nat → Nat → Obj → Heap → Nat → (Str → Option Value) → Heap → Nat → Obj → (Str → Option Value) → Obj → Obj → Tok → Addr → List Value → Nat → List Int → Prop) ×' (P_2 : Addr → Heap → Nat → Nat → Obj → Heap → (Str → Option Value) → Heap → Nat → (Str → Option Value) → Obj → Obj → Tok → Prop) ×' ((∀ a b c d e f g h i j k l m n o p q r s, P_1 a b c d e f g h i j k l m n o p q r s) → (∀ a b c d e f g h i j k l m, P_2 a b c d e f g h i j k l m) → (prP w h₀ L m news s epC.1.2.2.2.2.2.2.1 epC.1.2.2.2.2.2.2.2 R nR ring wide epC.2.1.2.2.2.2.1 epC.2.1.2.2.2.2.2.1 o1 k1 o2 k2 c1 c2 r0 epC.2.2.1.2.2.2.2.2.1 epC.2.2.1.2.2.2.2.2.2.1 vs' row0 rows' epC.2.2.2.1.2.2.1 epC.2.2.2.1.2.2.2.1 epC.2.2.2.1.2.2.2.2.1 p epC.2.2.2.1.2.2.2.2.2.2.1 epC.2.2.2.1.2.2.2.2.2.2.2 epC.2.2.2.2.1.1 epC.2.2.2.2.1.2.1 epC.2.2.2.2.1.2.2.1 epC.2.2.2.2.1.2.2.2.1 epC.2.2.2.2.1.2.2.2.2.1 epC.2.2.2.2.1.2.2.2.2.2.1 g' L' epC.2.2.2.2.2)) := by
  refine' ⟨_, _, fun k_1 k_2 => ?main⟩
  case main =>
    intro sign F N hR1 hR2 hn1 hn2 hT1 hT2 hring5 hring9 hw13 hw16 hsg hR hne hlen hrow hret hrows hall hr0 hI0 hlen0 hex0 hex1 hd hu B X T hf hke C1 C2 FG' F' N' B' X' T' qk ek C1' C2'
    k_steps
    refine' kim_list (lo := W.listOf (.ref r0 :: vs' : List Value).toArray nR) (l := .ref r0 :: vs') (n := nR) (x := .ref r0) ?N ?hm rfl rfl (by decide) (by decide) rfl ?_
    case N => assumption
    case hm => k_mem
    k_steps
    rename Fr g' _ _ _ => F8
    rename News g' _ _ _ => N8
    have N8' : News g' L' _ ((30, o1) :: (c1, k1) :: (37, o2) :: (c2, k2) :: news) := news_sub N8 fun p hp => .tail _ hp
    refine pyIter_list F8 N8' (by k_mem) fun I oI h9 F9 N9 lI hli => ?_
    clear N8 N8'
    have lI30 : @LT.lt Nat _ 30 I := lI _ (.head _)
    have lIc1 : @LT.lt Nat _ c1 I := lI _ (.tail _ (.head _))
    have lI37 : @LT.lt Nat _ 37 I := lI _ (.tail _ (.tail _ (.head _)))
    have lIc2 : @LT.lt Nat _ c2 I := lI _ (.tail _ (.tail _ (.tail _ (.head _))))
    have lIn : ∀ q ∈ news, @LT.lt Nat _ q.1 I := fun q hq => lI q (.tail _ (.tail _ (.tail _ (.tail _ hq))))
    refine' loop_it (it_list (l := R) (vs := .ref r0 :: vs') (nn := nR)) (JFold s.gens (frm F9) I c1 c2 o1 k1 news (row0 :: rows') wide.toNat sign) ?hh hli F9 N9 ?j0 ?hJ ?turn ?fin
    case hh => exact rfl
    case j0 =>
      refine ⟨rfl, frm F9, o2, k2, c2, tokOf (frm F9 (Str.ofString "number")), rfl, hT2, .inl rfl, ov11 ?_ (fun z _ _ => rfl)⟩
      rw [List.take_zero, show sign * prodOf wide.toNat [] = sign from Int.mul_one _]
      rfl
    case hJ =>
      intro i m nx g pGZ4
      refine byC fun hGZ => ?_
      obtain ⟨_, u, o2', k2', c2', t, rfl, _, hc, _⟩ := pGZ4
      refine hGZ ?_; clear hGZ
      refine ⟨(fun p hp => ?_), fun y hy => ?_⟩
      · rw [List.mem_singleton.mp hp]; k_mem
      · rw [List.mem_singleton.mp hy]
        refine off_cons.mpr ⟨neN (by (first | exact om246 lI37 | omega)), off_cons.mpr ⟨neN (by (first | exact om230 lIc1 | omega)), off_cons.mpr ⟨neN (by (first | exact om247 lI37 | omega)), off_cons.mpr ⟨?_, fun q hq => ?_⟩⟩⟩⟩
        · rcases hc with rfl | hc
          · exact neN (by (first | exact om230 lIc2 | omega))
          · exact neN (by (first | exact om248 hc | omega))
        · have := lIn q hq; exact neN (by (first | exact om230 this | omega))
    case turn =>
      intro i v ex own m9 nx h8 tk8 g8 hi pGZ10 pGZ11 pGZ12
      refine byC fun hGZ => ?_
      obtain ⟨hv, rfl⟩ := pGZ10
      obtain ⟨o9, rfl, _, _⟩ := pGZ11
      obtain ⟨rfl, u, o2', k2', c2', t, rfl, hT2', hc, hm⟩ := pGZ12
      refine hGZ ?_; clear hGZ
      intro F7 N7 _ hap
      refine byC fun hGZ => ?_
      obtain ⟨r, ds, nn, hvr, hmem, hints⟩ := hall.get i ((row0 :: rows')[i]'(by rw [← hall.length]; exact hi)) (List.getElem?_eq_getElem _)
      refine hGZ ?_; clear hGZ
      rw [hvr] at hv
      cases hv
      obtain ⟨row, hrowe⟩ : ∃ row, row = (row0 :: rows')[i]'(by rw [← hall.length]; exact hi) := ⟨_, rfl⟩
      rw [← hrowe] at hints
      have hrm := hrow row (by rw [hrowe]; exact List.getElem_mem _)
      refine wpAny_assign_Name ?_
      simp only [List.nil_append, List.cons_append] at N7
      rw [hm] at F7
      dsimp only [frm] at F7
      rename_i tnz1 _ tnz2 tnz3 tnz4 tnz5 tnz6 _ _ tnz7 tnz8 tnz9 tnz10
      revert sign F N hR1 hR2 hn1 hn2 hT1 hT2 hring5 hring9 hw13 hw16 hsg hR hne hlen hrow hret hrows hall hr0 hI0 hlen0 hex0 hex1 hd hu B X T hf hke C1 C2 FG' B' X' T' qk ek C1' C2' tnz2 tnz3 tnz4 tnz5 tnz6 F8 F9 N9 lI hli lI30 lIc1 lI37 lIc2 lIn hi tnz8 tnz9 c2' hT2' hc hm F7 N7 tnz10 hap hvr hmem hints hrowe hrm
      exact k_1 tnz1 tnz7 tk I oI h9 i m9 h8 tk8 o9 u o2' k2' t r ds nn row
    case fin =>
      intro m9 nx h8 tk8 g8 pGZ5
      refine byC fun hGZ => ?_
      obtain ⟨rfl, u, o2', k2', c2', t, rfl, hT2', hc, hm⟩ := pGZ5
      refine hGZ ?_; clear hGZ
      intro F7 N7
      rw [List.take_of_length_le (by rw [← hall.length]; exact Nat.le_refl _)] at hm
      rw [hm] at F7
      dsimp only [frm] at F7
      rename_i fnz1 _ fnz2 fnz3 fnz4 fnz5 fnz6 _ _ fnz7
      revert sign F N hR1 hR2 hn1 hn2 hT1 hT2 hring5 hring9 hw13 hw16 hsg hR hne hlen hrow hret hrows hall hr0 hI0 hlen0 hex0 hex1 hd hu B X T hf hke C1 C2 FG' B' X' T' qk ek C1' C2' fnz2 fnz3 fnz4 fnz5 fnz6 F8 F9 N9 lI hli lI30 lIc1 lI37 lIc2 lIn c2' hT2' hc hm F7 N7
      exact k_2 fnz1 fnz7 tk I oI h9 m9 h8 tk8 u o2' k2' t
namespace tn
noncomputable abbrev tyC := (Addr × Heap × Nat × Nat × Obj × Heap × Nat × (Str → Option Value)) × (Heap × Nat × Obj × (Str → Option Value) × Obj × Obj × Tok × Addr) × (List Value × Nat × List Int)
def prP := body.1
def prQ (x : tyC) : Prop := prP x.1.1 x.1.2.1 x.1.2.2.1 x.1.2.2.2.1 x.1.2.2.2.2.1 x.1.2.2.2.2.2.1 x.1.2.2.2.2.2.2.1 x.1.2.2.2.2.2.2.2 x.2.1.1 x.2.1.2.1 x.2.1.2.2.1 x.2.1.2.2.2.1 x.2.1.2.2.2.2.1 x.2.1.2.2.2.2.2.1 x.2.1.2.2.2.2.2.2.1 x.2.1.2.2.2.2.2.2.2 x.2.2.1 x.2.2.2.1 x.2.2.2.2
noncomputable def inI : tyC := default
def epC : tyC := eps inI prQ
@[irreducible] def I := epC.1.2.2.2.1
@[irreducible] def i := epC.1.2.2.2.2.2.2.1
@[irreducible] def o9 := epC.2.1.2.2.1
@[irreducible] def u := epC.2.1.2.2.2.1
@[irreducible] def o2' := epC.2.1.2.2.2.2.1
@[irreducible] def k2' := epC.2.1.2.2.2.2.2.1
@[irreducible] def r := epC.2.1.2.2.2.2.2.2.2
@[irreducible] def ds := epC.2.2.1
@[irreducible] def nn := epC.2.2.2.1
@[irreducible] def row := epC.2.2.2.2
theorem tn_main : prP epC.1.1 epC.1.2.1 epC.1.2.2.1 I epC.1.2.2.2.2.1 epC.1.2.2.2.2.2.1 i epC.1.2.2.2.2.2.2.2 epC.2.1.1 epC.2.1.2.1 o9 u o2' k2' epC.2.1.2.2.2.2.2.2.1 r ds nn row := by
  intro sign F N hR1 hR2 hn1 hn2 hT1 hT2 hring5 hring9 hw13 hw16 hsg hR hne hlen hrow hret hrows hall hr0 hI0 hlen0 hex0 hex1 hd hu B X T hf hke C1 C2 FG' B' X' T' qk ek C1' C2' tnz2 tnz3 tnz4 tnz5 tnz6 F8 F9 N9 lI hli lI30 lIc1 lI37 lIc2 lIn hi tnz8 tnz9 c2' hT2' hc hm F7 N7 tnz10 hap hvr hmem hints hrowe hrm
  have e30 : @LT.lt Nat _ 30 c2' ∨ c2' = c2 := hc.elim .inr fun h => .inl h.2.1
  have eprod : sign * prodOf wide.toNat ((row0 :: rows').take (i + 1)) = sign * prodOf wide.toNat ((row0 :: rows').take i) * bval wide.toNat row := by
    rw [List.take_add_one, List.getElem?_eq_getElem (by rw [← hall.length]; exact hi), ← hrowe]
    show sign * prodOf wide.toNat (_ ++ [row]) = _
    rw [prodOf_snoc, Int.mul_assoc]
  have hmul : IntMulOk (sign * prodOf wide.toNat ((row0 :: rows').take i)) (bval wide.toNat row) := by
    have hwr : wide.toNat * ring ≤ 144 := Nat.le_trans (Nat.mul_le_mul (show wide.toNat ≤ 16 by (first | exact om249 hw16 | omega)) hring9) (by decide)
    have h1 := prodOf_bits (n := wide.toNat) (ring := ring) (rows := (row0 :: rows').take i) (by (first | exact om250 hw13 | omega)) fun r hr => hrow r (List.mem_of_mem_take hr)
    have h2 := bval_bits (n := wide.toNat) hrm.1 hrm.2 (by (first | exact om250 hw13 | omega))
    have h3 : ((row0 :: rows').take i).length ≤ 5 := Nat.le_trans (List.length_take_le' ..) hlen
    have h4 : wide.toNat * ring * ((row0 :: rows').take i).length ≤ 144 * 5 := Nat.mul_le_mul hwr h3
    have h5 : Builtin.Int.intBits sign ≤ 1 := by rcases hsg with rfl | rfl <;> decide
    have h6 := PySem.intBits_mul_le (x := sign) h5 h1
    exact IntMulOk.of_bits (Nat.le_trans h6 (by (first | exact om251 h4 | omega))) (by (first | exact om252 hwr h2 | omega))
  k_steps
  rename Fr g' _ _ _ => F6
  rename News g' _ _ _ => N6
  refine' digits2int w _ g' L' _ ((30, o1) :: (c1, k1) :: (I, o9) :: news) _ _ _ wide _ o2' k2' c2' r ds row nn (site_in B' X' T' rfl rfl rfl C1' C2') F6 (news_sub N6 ?hs) ?off hT2' ?mem hints ?d ?u (by (first | exact om253 hw13 | omega)) (by (first | exact om254 hw16 | omega)) ?dg ?ln ?nl ?h
  case hs => (repeat (refine' List.forall_mem_cons.mpr ⟨by k_mem, ?_⟩)); (intro p hp; repeat (first | exact hp | apply List.mem_cons_of_mem))
  case off => exact off_cons.mpr ⟨by decide, off_cons.mpr ⟨hn1, off_cons.mpr ⟨neN (by (first | exact om255 lI37 | omega)), hR2⟩⟩⟩
  case mem => exact .tail _ (.tail _ (.tail _ hmem))
  case d => simp only [depth_deeper]; (first | exact om256 hd | omega)
  case u => simp only [units_deeper]; (first | exact om257 hu | omega)
  case dg =>
    intro a ha
    have h2 := hrm.2 a ha
    refine ⟨h2.1, Int.lt_of_lt_of_le h2.2 ?_⟩
    have h3 := Nat.pow_le_pow_right (n := 2) (by decide) (show 1 ≤ wide.toNat by (first | exact om250 hw13 | omega))
    exact_mod_cast h3
  case ln => rw [hrm.1]; (first | exact om258 hring9 | omega)
  case nl =>
    rw [hrm.1]
    exact Int.le_trans (Int.mul_le_mul_of_nonneg_right hw16 (by (first | exact om53 | omega))) (by (first | exact om259 hring9 | omega))
  case h =>
    intro o2'' k2'' c2'' h5 tk5 t5 F5 N5 S5 e5
    k_steps
    rename Fr g' _ _ _ => F4
    rename News g' _ _ _ => N4
    refine ⟨_, _, _, frm F4, _, rfl, F4, news_sub N4 ?_, rfl, frm F4, o2'', k2'', c2'', tokOf (frm F4 (Str.ofString "number")), rfl, S5, ?_, ov11 (by rw [eprod]; rfl) (fun z h1 h2 => by dsimp only [frm]; simp [h1, h2])⟩
    · (repeat (refine' List.forall_mem_cons.mpr ⟨by k_mem, ?_⟩)); (intro p hp; repeat (first | exact hp | apply List.mem_cons_of_mem))
    · rcases e5 with rfl | e5
      · exact hc
      · exact .inr ⟨e5 _ (.tail _ (.tail _ (.head _))), e5 _ (.head _), fun q hq => e5 q (.tail _ (.tail _ (.tail _ hq)))⟩
theorem all : ∀ x, prQ x := @sk tyC inI prQ (by with_unfolding_all exact @tn_main)
end tn
namespace fn
noncomputable abbrev tyC := (Addr × Heap × Nat × Nat × Obj × Heap × (Str → Option Value) × Heap) × (Nat × (Str → Option Value) × Obj × Obj × Tok)
def prP := body.2.1
def prQ (x : tyC) : Prop := prP x.1.1 x.1.2.1 x.1.2.2.1 x.1.2.2.2.1 x.1.2.2.2.2.1 x.1.2.2.2.2.2.1 x.1.2.2.2.2.2.2.1 x.1.2.2.2.2.2.2.2 x.2.1 x.2.2.1 x.2.2.2.1 x.2.2.2.2.1 x.2.2.2.2.2
noncomputable def inI : tyC := default
def epC : tyC := eps inI prQ
@[irreducible] def u := epC.2.2.1
@[irreducible] def o2' := epC.2.2.2.1
@[irreducible] def k2' := epC.2.2.2.2.1
theorem fn_main : prP epC.1.1 epC.1.2.1 epC.1.2.2.1 epC.1.2.2.2.1 epC.1.2.2.2.2.1 epC.1.2.2.2.2.2.1 epC.1.2.2.2.2.2.2.1 epC.1.2.2.2.2.2.2.2 epC.2.1 u o2' k2' epC.2.2.2.2.2 := by
  intro sign F N hR1 hR2 hn1 hn2 hT1 hT2 hring5 hring9 hw13 hw16 hsg hR hne hlen hrow hret hrows hall hr0 hI0 hlen0 hex0 hex1 hd hu B X T hf hke C1 C2 FG' B' X' T' qk ek C1' C2' fnz2 fnz3 fnz4 fnz5 fnz6 F8 F9 N9 lI hli lI30 lIc1 lI37 lIc2 lIn c2' hT2' hc hm F7 N7
  obtain ⟨P, hP⟩ : ∃ P, P = prodOf wide.toNat (row0 :: rows') := ⟨_, rfl⟩
  rw [← hP] at F7
  obtain ⟨Mi, hMi⟩ : ∃ Mi : Int, Mi = 2 ^ (wide * (row0.length : Int)).toNat - 1 := ⟨_, rfl⟩
  have hwr : wide.toNat * ring ≤ 144 := Nat.le_trans (Nat.mul_le_mul (show wide.toNat ≤ 16 by (first | exact om249 hw16 | omega)) hring9) (by decide)
  have hPb : Builtin.Int.intBits P ≤ 800 := by
    have h1 := prodOf_bits (n := wide.toNat) (ring := ring) (rows := row0 :: rows') (by (first | exact om250 hw13 | omega)) hrow
    have h4 : wide.toNat * ring * (row0 :: rows').length ≤ 144 * 5 := Nat.mul_le_mul hwr hlen
    rw [hP]; (first | exact om260 h1 h4 | omega)
  have hMn : Mi = ((2 ^ (wide.toNat * ring) - 1 : Nat) : Int) := by
    have e : (wide * (row0.length : Int)).toNat = wide.toNat * ring := by
      rw [hlen0, Int.toNat_mul (by (first | exact om244 hw13 | omega)) (by (first | exact om53 | omega)), Int.toNat_natCast]
    have h2 := Nat.one_le_two_pow (n := wide.toNat * ring)
    rw [hMi, e, Int.ofNat_sub h2]
    simp
  have hM2 : 2 ≤ 2 ^ (wide.toNat * ring) - 1 := by
    have h2 := Nat.pow_le_pow_right (n := 2) (by decide) (show 2 ≤ wide.toNat * ring from Nat.le_trans (by decide) (Nat.mul_le_mul (show 13 ≤ wide.toNat by (first | exact om15 hw13 | omega)) hring5))
    (first | exact om261 h2 | omega)
  have hMb : Builtin.Int.intBits Mi ≤ 144 := by
    refine PySem.intBits_le_iff.mpr ?_
    have h2 := Nat.pow_le_pow_right (n := 2) (by decide) hwr
    (first | exact om262 hMn h2 | omega)
  have hMb2 : Builtin.Int.intBits (sign * Mi) ≤ 145 := by
    have h5 : Builtin.Int.intBits sign ≤ 1 := by rcases hsg with rfl | rfl <;> decide
    have := PySem.intBits_mul_le (x := sign) (y := Mi) h5 hMb
    (first | exact om263 this | omega)
  have hPb2 : Builtin.Int.intBits (sign * P) ≤ 801 := by
    have h5 : Builtin.Int.intBits sign ≤ 1 := by rcases hsg with rfl | rfl <;> decide
    have := PySem.intBits_mul_le (x := sign) (y := P) h5 hPb
    (first | exact om264 this | omega)
  have hM0 : sign * Mi ≠ 0 := by rcases hsg with rfl | rfl <;> (first | exact om265 hMn hM2 | exact om266 hMn hM2 | omega)
  rw [← hMi] at F7
  k_steps
  rename Fr g' _ _ _ => F6
  rename News g' _ _ _ => N6
  refine' int_divmod 3 w _ g' L' _ news _ _ _ (sign * P) (sign * Mi) _ _ o1 k1 o2' k2' c1 c2' (site_in B' X' T' rfl rfl rfl C1' C2') F6 (news_sub N6 ?hs) hR1 hR2 hn1 ?n2 hT1 hT2' ?d ?u hM0 ?rk (Nat.le_trans hPb2 (by decide)) (Nat.le_trans hMb2 (by decide)) ?h
  case hs => (repeat (refine' List.forall_mem_cons.mpr ⟨by k_mem, ?_⟩)); (intro p hp; repeat (first | exact hp | apply List.mem_cons_of_mem))
  case n2 =>
    rcases hc with rfl | hc
    · exact hn2
    · exact neN (by (first | exact om267 hc | omega))
  case d => simp only [depth_deeper]; (first | exact om268 hd | omega)
  case u => simp only [units_deeper]; (first | exact om269 hu | omega)
  case rk => split <;> split <;> (first | exact om270 | exact om271 | exact om272 | exact om273 | omega)
  case h =>
    intro r9 u1 u2 o1a k1a c1a o2a k2a c2a h5 tk5 F5 N5 S1a S2a e1a e2a n1a n2a l5
    have hP0 : 0 ≤ P := by
      have : ∀ (l : List Int) (a : Int), 0 ≤ a → (∀ x ∈ l, 0 ≤ x) → 0 ≤ l.foldl (· * ·) a := by
        intro l
        induction l with
        | nil => intro a h _; exact h
        | cons x l ih => intro a h1 h2; exact ih (a * x) (Int.mul_nonneg h1 (h2 x (.head _))) fun y hy => h2 y (.tail _ hy)
      rw [hP]
      refine this _ 1 (by decide) fun x hx => ?_
      obtain ⟨r, hr, rfl⟩ := List.mem_map.mp hx
      have h2 : (2 : Int) ≤ 2 ^ wide.toNat := by
        have h3 := Nat.pow_le_pow_right (n := 2) (by decide) (show 1 ≤ wide.toNat by (first | exact om250 hw13 | omega))
        exact_mod_cast h3
      exact (bval_bound wide.toNat r fun a ha => ⟨((hrow r hr).2 a ha).1, Int.lt_of_lt_of_le ((hrow r hr).2 a ha).2 h2⟩).1
    obtain ⟨xr, hxr⟩ : ∃ xr : Nat, (xr : Int) = P % Mi := ⟨(P % Mi).toNat, Int.toNat_of_nonneg (Int.emod_nonneg _ (by (first | exact om274 hMn hM2 | omega)))⟩
    have hfm : sign * Int.fmod (sign * P) (sign * Mi) = (xr : Int) := by
      rw [hxr]
      rcases hsg with rfl | rfl
      · rw [Int.one_mul, Int.one_mul, Int.one_mul, Int.fmod_eq_emod_of_nonneg _ (by (first | exact om275 hMn | omega))]
      · rw [show (-1 : Int) * P = -P from by (first | exact om276 | omega), show (-1 : Int) * Mi = -Mi from by (first | exact om276 | omega)]
        have := (neg_fdiv (a := -P) (b := -Mi) (by (first | exact om277 hMn hM2 | omega))).2
        rw [Int.neg_neg, Int.neg_neg] at this
        rw [← this, Int.fmod_eq_emod_of_nonneg _ (by (first | exact om275 hMn | omega))]
        (first | exact om278 | omega)
    have hxlt : xr < 2 ^ (wide.toNat * ring) := by
      have := Int.emod_lt_of_pos P (show 0 < Mi by (first | exact om279 hMn hM2 | omega))
      (first | exact om280 hMn hxr this | omega)
    have hfd : Int.fdiv (sign * P) (sign * Mi) = P / Mi := by
      rcases hsg with rfl | rfl
      · rw [Int.one_mul, Int.one_mul, Int.fdiv_eq_ediv_of_nonneg _ (by (first | exact om275 hMn | omega))]
      · rw [show (-1 : Int) * P = -P from by (first | exact om276 | omega), show (-1 : Int) * Mi = -Mi from by (first | exact om276 | omega), Int.neg_fdiv_neg, Int.fdiv_eq_ediv_of_nonneg _ (by (first | exact om275 hMn | omega))]
    have hqb : Builtin.Int.intBits (P / Mi) ≤ 800 := PySem.intBits_le_of_natAbs (y := P) (by
      have h1 := Int.ediv_nonneg hP0 (show 0 ≤ Mi by (first | exact om275 hMn | omega))
      have h2 := Int.ediv_le_self Mi hP0
      (first | exact om281 h1 h2 | omega)) hPb
    obtain ⟨kk, hkk⟩ : ∃ kk : Nat, (((Builtin.Int.intBits (xr : Int) : Nat) : Int) + wide - 1).fdiv wide = (kk : Int) := by
      rw [Int.fdiv_eq_ediv_of_nonneg _ (by (first | exact om244 hw13 | omega))]
      exact ⟨_, (Int.toNat_of_nonneg (Int.ediv_nonneg (by (first | exact om282 hw13 | omega)) (by (first | exact om244 hw13 | omega)))).symm⟩
    have hkr : kk ≤ ring := by
      have h1 : Builtin.Int.intBits (xr : Int) ≤ wide.toNat * ring := PySem.intBits_le_iff.mpr (by simpa using hxlt)
      rw [Int.fdiv_eq_ediv_of_nonneg _ (by (first | exact om244 hw13 | omega))] at hkk
      have h2 : (((Builtin.Int.intBits (xr : Int) : Nat) : Int) + wide - 1) / wide < (ring : Int) + 1 := by
        refine Int.ediv_lt_of_lt_mul (by (first | exact om253 hw13 | omega)) ?_
        have h3 : ((wide.toNat * ring : Nat) : Int) = wide * (ring : Int) := by rw [Int.natCast_mul, Int.toNat_of_nonneg (by (first | exact om244 hw13 | omega))]
        have h4 : ((ring : Int) + 1) * wide = wide * (ring : Int) + wide := by rw [Int.add_mul, Int.one_mul, Int.mul_comm]
        (first | exact om283 h1 h3 h4 | omega)
      (first | exact om284 hkk h2 | omega)
    have hfinal : digs wide.toNat kk (xr : Int).toNat ++ List.replicate (ring - kk) 0 = digs wide.toNat ring (P % (2 ^ (wide.toNat * ring) - 1)).toNat := by
      have hx1 : (P % (2 ^ (wide.toNat * ring) - 1)).toNat = xr := by
        have : Mi = 2 ^ (wide.toNat * ring) - 1 := by
          rw [hMn, Int.ofNat_sub (Nat.one_le_two_pow)]; simp
        rw [← this, ← hxr]; exact Int.toNat_natCast _
      rw [hx1, Int.toNat_natCast]
      refine (digs_pad _ kk ring xr hkr ?_).symm
      have h1 : Builtin.Int.intBits (xr : Int) ≤ wide.toNat * kk := by
        rw [Int.fdiv_eq_ediv_of_nonneg _ (by (first | exact om244 hw13 | omega))] at hkk
        have h2 := Int.lt_mul_ediv_self_add (x := ((Builtin.Int.intBits (xr : Int) : Nat) : Int) + wide - 1) (k := wide) (by (first | exact om253 hw13 | omega))
        rw [hkk] at h2
        have h3 : ((wide.toNat * kk : Nat) : Int) = wide * (kk : Int) := by rw [Int.natCast_mul, Int.toNat_of_nonneg (by (first | exact om244 hw13 | omega))]
        (first | exact om285 h2 h3 | omega)
      have := PySem.intBits_le_iff.mp h1
      simpa using this
    have hmulq : IntMulOk (Int.fdiv (sign * P) (sign * Mi)) (sign * Mi) := by
      rw [hfd]; exact IntMulOk.of_bits (Nat.le_trans hqb (by decide)) (Nat.le_trans hMb2 (by decide))
    have hback : Int.fdiv (sign * P) (sign * Mi) * (sign * Mi) + Int.fmod (sign * P) (sign * Mi) = sign * P := by
      rw [Int.mul_comm]; exact Int.mul_fdiv_add_fmod ..
    have hmuls : IntMulOk sign (Int.fmod (sign * P) (sign * Mi)) := by
      have h1 : Builtin.Int.intBits sign ≤ 1 := by rcases hsg with rfl | rfl <;> decide
      have h2 : Builtin.Int.intBits (xr : Int) ≤ wide.toNat * ring := PySem.intBits_le_iff.mpr (by simpa using hxlt)
      have h3 : Builtin.Int.intBits (Int.fmod (sign * P) (sign * Mi)) ≤ 144 := by
        refine Nat.le_trans (PySem.intBits_le_of_natAbs (y := (xr : Int)) ?_ (Nat.le_refl _)) (Nat.le_trans h2 hwr)
        rw [← hfm]
        rcases hsg with rfl | rfl <;> (first | exact om286 | exact om287 | omega)
      exact IntMulOk.of_bits (Nat.le_trans h1 (by (first | exact om288 | omega))) (Nat.le_trans h3 (by (first | exact om289 | omega)))
    clear hPb hMb hwr hM2 hMn hxlt hMb2 hPb2 hqb hfd hM0 hMi hex0 hex1 hxr lI30 lIc1 lI37 lIc2 hP0 hlen
    replace hsg : Hid _ := hsg
    replace hc : Hid _ := hc
    replace hn1 : Hid _ := hn1
    replace hn2 : Hid _ := hn2
    replace n1a : Hid _ := n1a
    replace n2a : Hid _ := n2a
    replace e1a : Hid _ := e1a
    replace e2a : Hid _ := e2a
    replace hkk : Hid _ := hkk
    replace hback : Hid _ := hback
    k_steps
    rw [hfm]
    rename Fr g' _ _ _ => F4
    rename News g' _ _ _ => N4
    refine' int2digits w _ g' L' _ ((37, o2a) :: (c2a, k2a) :: news) _ _ _ (xr : Int) wide _ _ o1a k1a c1a (site_in B' X' T' rfl rfl rfl C1' C2') F4 (news_sub N4 ?hs) ?off S1a ?d ?u (by (first | exact om53 | omega)) (by (first | exact om253 hw13 | omega)) (by (first | exact om254 hw16 | omega)) kk hkk (by (first | exact om290 hring9 hkr | omega)) ?nk ?h
    case hs => (repeat (refine' List.forall_mem_cons.mpr ⟨by k_mem, ?_⟩)); (intro p hp; repeat (first | exact hp | apply List.mem_cons_of_mem))
    case off => exact off_cons.mpr ⟨by decide, off_cons.mpr ⟨n2a, hR1⟩⟩
    case d => simp only [depth_deeper]; (first | exact om256 hd | omega)
    case u => simp only [units_deeper]; (first | exact om257 hu | omega)
    case nk => exact Int.le_trans (Int.mul_le_mul_of_nonneg_right hw16 (by (first | exact om53 | omega))) (by (first | exact om291 hring9 hkr | omega))
    case h =>
      intro Da ds nD o1b k1b c1b h3 tk3 F3 N3 S1b e1b lD nD1 gD hID
      replace e1b : Hid _ := e1b
      replace nD1 : Hid _ := nD1
      obtain ⟨tl, htl⟩ : ∃ tl, tl = digs wide.toNat kk (xr : Int).toNat := ⟨_, rfl⟩
      rw [← htl] at hID
      have htll : tl.length = kk := by rw [htl, digs_length]
      k_steps
      · exact absurd hback (by assumption)
      · rename List.drop _ _ = _ => hz
        rw [htl, digs_length] at hz
        refine (digs_top (x := xr) (by (first | exact om292 hw13 | omega)) ?_ hz).elim
        rw [Int.toNat_of_nonneg (by (first | exact om244 hw13 | omega))]; exact hkk
      · refine' kim_list (lo := W.listOf (.ref r0 :: vs' : List Value).toArray nR) (l := .ref r0 :: vs') (n := nR) (x := .ref r0) ?N ?hm rfl rfl (by decide) (by decide) rfl ?_
        case N => assumption
        case hm => k_mem
        k_steps
        rename News h₀ L _ _ => N3
        rename IntsAre _ (tl ++ _) => I3
        rw [htll, hlen0] at I3
        rw [htl] at I3
        rw [show (List.replicate ((ring : Int) - (kk : Int)).toNat [(0 : Int)]).flatten = List.replicate (ring - kk) 0 from by
          rw [show ((ring : Int) - (kk : Int)).toNat = ring - kk from by (first | exact om293 | omega)]
          generalize ring - kk = d
          induction d with
          | zero => rfl
          | succ d ih => rw [List.replicate_succ, List.flatten_cons, ih]; rfl, hfinal] at I3
        rw [hP] at I3
        refine hret _ _ 0 o1b k1b c1b o2a k2a c2a _ _ (by assumption) (news_sub N3 ?_) S1b S2a ?_ ?_ ?_ n2a ?_ I3
        · (repeat (refine' List.forall_mem_cons.mpr ⟨by k_mem, ?_⟩)); (intro p hp; repeat (first | exact hp | apply List.mem_cons_of_mem))
        · rcases e1b with rfl | e1b
          · exact e1a
          · exact .inr fun q hq => e1b q (.tail _ (.tail _ hq))
        · rcases e2a with rfl | e2a
          · exact hc.imp_right fun h => h.2.2
          · exact .inr e2a
        · rcases e1b with rfl | e1b
          · exact n1a
          · exact Nat.ne_of_gt (e1b _ (.head _))
        · (repeat (refine' List.forall_mem_cons.mpr ⟨by (try dsimp only); (first | exact om294 (by assumption) | exact om295 (by assumption) | exact om296 (by assumption) | omega), ?_⟩)); exact allLt_mem (by assumption)
theorem all : ∀ x, prQ x := @sk tyC inI prQ (by with_unfolding_all exact @fn_main)
end fn
end seg_sA_main
theorem sA_main : prP w h₀ L m news s epC.1.2.2.2.2.2.2.1 epC.1.2.2.2.2.2.2.2 R nR ring wide epC.2.1.2.2.2.2.1 epC.2.1.2.2.2.2.2.1 o1 k1 o2 k2 c1 c2 r0 epC.2.2.1.2.2.2.2.2.1 epC.2.2.1.2.2.2.2.2.2.1 vs' row0 rows' epC.2.2.2.1.2.2.1 epC.2.2.2.1.2.2.2.1 epC.2.2.2.1.2.2.2.2.1 p epC.2.2.2.1.2.2.2.2.2.2.1 epC.2.2.2.1.2.2.2.2.2.2.2 epC.2.2.2.2.1.1 epC.2.2.2.2.1.2.1 epC.2.2.2.2.1.2.2.1 epC.2.2.2.2.1.2.2.2.1 epC.2.2.2.2.1.2.2.2.2.1 epC.2.2.2.2.1.2.2.2.2.2.1 g' L' epC.2.2.2.2.2 := @PSigma.snd _ _ (@PSigma.snd _ _ seg_sA_main.body) (fun a b c d e f g h i j k l m n o p q r s => @seg_sA_main.tn.all ((a, b, c, d, e, f, g, h), (i, j, k, l, m, n, o, p), (q, r, s))) (fun a b c d e f g h i j k l m => @seg_sA_main.fn.all ((a, b, c, d, e, f, g, h), (i, j, k, l, m)))
theorem all : ∀ x, prQ x := @sk tyC inI prQ (by with_unfolding_all exact @sA_main)
end sA
end seg_law_folded
theorem law_folded : ∀ (w : World) (A : Around) (h₀ : Heap) (L : Addr) (m : Str → Option Value) (news : List (Addr × Obj)) (s : Shared)
  (Q E : Value → Shared → Prop) (R : Addr) (vs : List Value) (rows : List (List Int)) (nR ring : Nat) (wide sign : Int) (t2 t3 : Tok) (o1 k1 o2 k2 : Obj) (c1 c2 : Addr),
  Site w A h₀ L → Fr h₀ L s.heap m → News h₀ L s.heap ((30, o1) :: (c1, k1) :: (37, o2) :: (c2, k2) :: news) → Off 30 news → Off 37 news → @Ne Nat c1 37 → @Ne Nat c2 30 → TabSt 30 32 4 q30 o1 c1 k1 → TabSt 37 47 4 q37 o2 c2 k2 →
  A.depth + 200 < recursionLimit → A.units + 2000 < cLine →
  (R, W.listOf vs.toArray nR) ∈ news → RowsAre news vs rows → rows ≠ [] → rows.length ≤ 5 → (∀ r ∈ rows, r.length = ring ∧ ∀ a ∈ r, 0 ≤ a ∧ a < 2) → 5 ≤ ring → ring ≤ 9 → 13 ≤ wide → wide ≤ 16 → (sign = 1 ∨ sign = -1) →
  (∀ r ds nD o1' k1' c1' o2' k2' c2' h' tk', Fr h₀ L h' m → News h₀ L h' ((r, W.listOf ds.toArray nD) :: (30, o1') :: (c1', k1') :: (37, o2') :: (c2', k2') :: news) → TabSt 30 32 4 q30 o1' c1' k1' → TabSt 37 47 4 q37 o2' c2' k2' →
     (c1' = c1 ∨ ∀ q ∈ news, q.1 < c1') → (c2' = c2 ∨ ∀ q ∈ news, q.1 < c2') → @Ne Nat c1' 37 → @Ne Nat c2' 30 → (∀ q ∈ (30, o1') :: (c1', k1') :: (37, o2') :: (c2', k2') :: news, @LT.lt Nat _ q.1 r) →
     IntsAre ds (digs wide.toNat ring (((rows.map (bval wide.toNat)).foldl (· * ·) 1) % (2 ^ (wide.toNat * ring) - 1)).toNat) → Q (.ref r) { s with heap := h', toks := tk' }) →
  wpAny (model Prog w) A (call (.ref 107) [.ref R, .int wide t2, .int sign t3]) Q E s := @PSigma.snd _ _ seg_law_folded.body (fun a b c d e f g h i j k l m n o p q r s t u v w x y z a1 b1 c1 d1 e1 f1 g1 h1 i1 j1 k1 l1 m1 n1 o1 => @seg_law_folded.sA.all ((a, b, c, d, e, f, g, h), (i, j, k, l, m, n, o, p), (q, r, s, t, u, v, w, x), (y, z, a1, b1, c1, d1, e1, f1), (g1, h1, i1, j1, k1, l1, m1, n1), o1))
end
theorem rules_P18 : True := by
  k_with_none
  k_with "call builtin:len" => ((k_here; (with_reducible show wpAny _ _ (call (Value.builtin "len") [Value.ref _]) _ _ _); k_dflt (refine kst_len (by k_asm) (by k_mem) (by exact IntsAre.length (by assumption)) (by omega) ?_); (try dsimp only)))
  k_with "truthy ref" => ((k_here; (with_reducible show wpAny _ _ (truthy (Value.ref _)) _ _ _); k_dflt (refine kgr_truthy (by k_asm) (by k_mem) (by exact rfl) (by exact rfl) (by (have := IntsAre.length (by assumption); omega)) ?_); (try dsimp only)))
  k_with "call builtin:list.append" => ((k_here; (with_reducible show wpAny _ _ (call (Value.builtin _) [Value.ref _, _]) _ _ _); k_dflt (refine append_K (by k_asm) (by k_asm) (by k_upd) ?_ (by (simp only [List.size_toArray]; rw [sizeLine_eq]; omega)); k_whole); intro h'r9 F'r9 N'r9; (try k_sweep)))
  k_with "call ref" => ((k_here; (with_reducible show wpAny _ _ (call (Value.ref _) _) _ _ _); refine paus ?_))
  k_with "subscriptTail Name Constant ref int" => ((k_here; (with_reducible show wpAny _ _ (subscriptTail _ _ (Value.ref _) (Value.int _ _)) _ _ _); refine paus ?_))
  k_with "binaryOp Add ref ref" => ((k_here; (with_reducible show wpAny _ _ (binaryOp _ (Value.ref _) (Value.ref _)) _ _ _); k_dflt (refine add_K (by k_asm) (by k_asm) (by k_mem) (by k_mem) ?_ (by ((try simp only [List.length_append, List.length_cons, List.length_nil, PySem.sizeLine_eq]); omega))); intro D'r9 h'r9 F'r9 N'r9 l1r9; (try k_lt l1r9); (try k_sweep)))
  k_with "exec For Tuple Call cons nil" => ((k_here; (with_reducible show wpAny _ _ (exec (Stmt.For _ _ _ [] _) _) _ _ _); k_dflt (refine wpAny_For ?_)))
  k_with "binaryOp FloorDiv int int" => ((k_here; (with_reducible refine floordiv_int (by assumption) ?_ (Or.inl (by assumption)))))
  k_with "subscriptTail Name Name ref int" => ((k_here; (with_reducible show wpAny _ _ (subscriptTail _ _ (Value.ref _) (Value.int _ _)) _ _ _); refine paus ?_))
  k_with "subscriptTail Name BinOp ref int" => ((k_here; (with_reducible show wpAny _ _ (subscriptTail _ _ (Value.ref _) (Value.int _ _)) _ _ _); refine paus ?_))
  exact trivial
noncomputable section
local macro_rules | `(tactic| size_fits) => `(tactic| ((try simp only [Str.length_append, List.length_append, List.length_cons, List.length_nil, List.size_toArray, Array.size_append, List.toList_toArray, PySem.sizeLine_eq, len_z, len_q, len_c, len_e]); omega))
theorem ov43 {m m0 : Str → Option Value} {a b c d e f g : Str} {v w y : Value} (he : m e = some v) (hf : m f = some w) (hg : m g = some y) (h' : ∀ z, z ≠ a → z ≠ b → z ≠ c → z ≠ d → z ≠ e → z ≠ f → z ≠ g → m z = m0 z) :
    m = fun z => if z = a then m z else if z = b then m z else if z = c then m z else if z = d then m z else if z = e then some v else if z = f then some w else if z = g then some y else m0 z := by
  funext z
  by_cases h1 : z = a
  · rw [if_pos h1]
  rw [if_neg h1]
  by_cases h2 : z = b
  · rw [if_pos h2]
  rw [if_neg h2]
  by_cases h3 : z = c
  · rw [if_pos h3]
  rw [if_neg h3]
  by_cases h4 : z = d
  · rw [if_pos h4]
  rw [if_neg h4]
  by_cases h5 : z = e
  · rw [if_pos h5, h5, he]
  rw [if_neg h5]
  by_cases h6 : z = f
  · rw [if_pos h6, h6, hf]
  rw [if_neg h6]
  by_cases h7 : z = g
  · rw [if_pos h7, h7, hg]
  rw [if_neg h7]
  exact h' z h1 h2 h3 h4 h5 h6 h7
theorem str_some {x : Str} (h : (x != Str.ofString "") = true) : x.length ≠ 0 := by
  intro h0
  have e : x = Str.ofString "" := by
    obtain ⟨c⟩ := x
    have hc : c.size = 0 := h0
    rw [Array.eq_empty_of_size_eq_zero hc]
    rfl
  rw [e] at h
  exact absurd h (by decide +kernel)
theorem str_none {x : Str} (h : (x != Str.ofString "") = false) : x.length = 0 := by
  have e : x = Str.ofString "" := by simpa using h
  rw [e]; decide +kernel
noncomputable def FourP (rest : List (Addr × Obj)) (l : Addr) (b : Bool) : Prop :=
  ∃ (items : List Value) (n : Nat), (l, W.listOf items.toArray n) ∈ rest ∧ items.length = 4 ∧ ∀ j, j < 4 → ∃ (T : Addr) (raw read : Str) (tr td : Tok), items[j]? = some (.ref T) ∧ (T, ({ cls := .type "tuple", data := .seq #[.str raw tr, .str read td] } : Obj)) ∈ rest ∧ Piece b raw read
noncomputable def PiecesAt (rest : List (Addr × Obj)) (PL : Addr) : Prop :=
  ∃ (l0 l1 : Addr) (n : Nat), (PL, W.listOf [Value.ref l0, Value.ref l1].toArray n) ∈ rest ∧ FourP rest l0 false ∧ FourP rest l1 true
theorem fourP {rest : List (Addr × Obj)} {l T0 T1 T2 T3 : Addr} {b : Bool} {n : Nat} {r0 r1 r2 r3 d0 d1 d2 d3 : Str} {a0 a1 a2 a3 b0 b1 b2 b3 : Tok}
    (h : (l, W.listOf [Value.ref T0, Value.ref T1, Value.ref T2, Value.ref T3].toArray n) ∈ rest)
    (h0 : (T0, ({ cls := .type "tuple", data := .seq #[.str r0 a0, .str d0 b0] } : Obj)) ∈ rest) (h1 : (T1, ({ cls := .type "tuple", data := .seq #[.str r1 a1, .str d1 b1] } : Obj)) ∈ rest) (h2 : (T2, ({ cls := .type "tuple", data := .seq #[.str r2 a2, .str d2 b2] } : Obj)) ∈ rest) (h3 : (T3, ({ cls := .type "tuple", data := .seq #[.str r3 a3, .str d3 b3] } : Obj)) ∈ rest)
    (p0 : Piece b r0 d0) (p1 : Piece b r1 d1) (p2 : Piece b r2 d2) (p3 : Piece b r3 d3) : FourP rest l b := by
  refine ⟨_, n, h, rfl, fun j hj => ?_⟩
  match j, hj with
  | 0, _ => exact ⟨T0, r0, d0, a0, b0, rfl, h0, p0⟩
  | 1, _ => exact ⟨T1, r1, d1, a1, b1, rfl, h1, p1⟩
  | 2, _ => exact ⟨T2, r2, d2, a2, b2, rfl, h2, p2⟩
  | 3, _ => exact ⟨T3, r3, d3, a3, b3, rfl, h3, p3⟩
theorem fourP_sub {rest more : List (Addr × Obj)} {l : Addr} {b : Bool} (h : FourP rest l b) (hs : ∀ p ∈ rest, p ∈ more) : FourP more l b := by
  obtain ⟨i, n, h1, h2, h3⟩ := h
  refine ⟨i, n, hs _ h1, h2, fun j hj => ?_⟩
  obtain ⟨T, r, d, a, b, e, m, P⟩ := h3 j hj
  exact ⟨T, r, d, a, b, e, hs _ m, P⟩
theorem news_cut2 {h₀ h : Heap} {L : Addr} {a b : Addr × Obj} {r news : List (Addr × Obj)} (N : News h₀ L h (a :: b :: r)) (hs : ∀ p ∈ news, p ∈ r) : News h₀ L h (a :: b :: news) := news_sub N fun p hp => by
  rcases List.mem_cons.mp hp with rfl | hp
  · exact .head _
  · rcases List.mem_cons.mp hp with rfl | hp
    · exact .tail _ (.head _)
    · exact .tail _ (.tail _ (hs p hp))
theorem h_parsed2 {m : Str → Option Value} {x y : Str} {t u : Tok} {res : List Str} {b : Bool} (_ : m (Str.ofString "text") = some (.str x t)) (_ : m (Str.ofString "item") = some (.str y u)) (h : PS.run x.cps.toList = ⟨res, y, false, b⟩) :
    parsed x = res.map Txt.strip ++ (if y.length = 0 then [] else [Txt.strip y]) := h_parsed h
theorem pieces_pick {rest : List (Addr × Obj)} {PL : Addr} {x : Int} (h : PiecesAt rest PL) (hb : x = 0 ∨ x = 1) : ∃ (l : Addr) (items : List Value) (n n0 : Nat) (lv : List Value), (PL, W.listOf lv.toArray n0) ∈ rest ∧ (l, W.listOf items.toArray n) ∈ rest ∧ items.length = 4 ∧ lv[x.toNat]? = some (.ref l) ∧ ∀ j, j < 4 → ∃ (T : Addr) (raw read : Str) (tr td : Tok), items[j]? = some (.ref T) ∧ (T, ({ cls := .type "tuple", data := .seq #[.str raw tr, .str read td] } : Obj)) ∈ rest ∧ Piece (decide (x = 1)) raw read := by
  obtain ⟨l0, l1, n0, h0, ⟨i0, m0, a0, b0, c0⟩, i1, m1, a1, b1, c1⟩ := h
  rcases hb with rfl | rfl
  · exact ⟨l0, i0, m0, n0, _, h0, a0, b0, rfl, c0⟩
  · exact ⟨l1, i1, m1, n0, _, h0, a1, b1, rfl, c1⟩
theorem bit_lo {x : Int} (hb : x = 0 ∨ x = 1) : 0 ≤ x := by rcases hb with rfl | rfl <;> decide
theorem bit_hi {x : Int} (hb : x = 0 ∨ x = 1) : x < 2 ^ 63 := by rcases hb with rfl | rfl <;> decide
noncomputable def HMid (res : List Str) (i : Nat) (item : Str) (k : Int) (text2 item2 : Str) : Prop :=
  PS.run text2.cps.toList = ⟨res, item2, false, decide (k = 1)⟩ ∧ text2.length ≤ 5 * i + 4 ∧ item2.length ≤ 5 * i + 4 ∧ cc item2 = cc item
section
variable {kinds : List Int} {i : Nat} {text item raw read text2 item2 : Str} {res : List Str} {inside k : Int}
theorem h_mid_same (H : HInv kinds i text item res inside) (hp : Piece (decide (inside = 1)) raw read) (h1 : k = inside) : HMid res i item k (text ++ raw) (item ++ read) := by
  subst h1
  obtain ⟨h1, h2, h3, h4⟩ := h_piece H hp
  exact ⟨h1, Nat.le_succ_of_le h2, Nat.le_succ_of_le h3, h4⟩
theorem h_mid_flip (hb : k = 0 ∨ k = 1) (H : HInv kinds i text item res inside) (hp : Piece (decide (inside = 1)) raw read) (h1 : k ≠ inside) : HMid res i item k (text ++ raw ++ Str.ofString "\"") (item ++ read ++ Str.ofString "\"") := by
  obtain ⟨h2, h3, h4, h5⟩ := h_piece H hp
  refine ⟨?_, by rw [Str.length_append, len_q]; exact Nat.succ_le_succ h3, by rw [Str.length_append, len_q]; exact Nat.succ_le_succ h4, by rw [cc_append, cc_q]; exact h5⟩
  rw [PS.run_app, h2, go_quote]
  congr 1
  rcases hb with rfl | rfl <;> rcases H.bit with rfl | rfl <;> first | rfl | exact absurd rfl h1
theorem h_mid1 (H : HInv kinds i text item res inside) (hk : kinds[i]? = some k) (h1 : k = 1) (h : HMid res i item k text2 item2) : HInv kinds (i + 1) (text2 ++ Str.ofString ",") (item2 ++ Str.ofString ",") res k := by
  subst h1
  exact h_end1 H hk h.1 h.2.1 h.2.2.1 h.2.2.2
theorem h_mid0 (hb : k = 0 ∨ k = 1) (H : HInv kinds i text item res inside) (hk : kinds[i]? = some k) (h1 : k ≠ 1) (h : HMid res i item k text2 item2) : HInv kinds (i + 1) (text2 ++ Str.ofString ",") (Str.ofString "") (res ++ [item2]) k := by
  rcases hb with rfl | rfl
  · exact h_end0 H hk h.1 h.2.1 h.2.2.2
  · exact absurd rfl h1
end
theorem h_mid_inside {x y : Int} {t : Tok} (h : x = y) : some (Value.int y t) = some (Value.int x t) := by rw [h]
theorem due_eq {m : Str → Option Value} {c z : Str} {v : Value} {x : Option Value} (h : m c = some v) (e : m z = x) : (if z = c then some v else m z) = x := by
  split
  · next q => rw [← e, q, h]
  · exact e
noncomputable def JMid (g : Heap) (L : Addr) (s : Shared) (g8 : Array GenState) (m0 : Str → Option Value) (nw : List (Addr × Obj)) (res : List Str) (i : Nat) (item : Str) (k : Int) (s' : Shared) : Prop :=
  ∃ (m : Str → Option Value) (text2 item2 : Str) (t2 t3 t4 : Tok) (h : Heap) (tk : Nat), s' = { s with heap := h, toks := tk, gens := g8 } ∧ Fr g L h m ∧
    m (Str.ofString "text") = some (.str text2 t2) ∧ m (Str.ofString "item") = some (.str item2 t3) ∧ m (Str.ofString "inside") = some (.int k t4) ∧
    (∀ z, z ≠ Str.ofString "place" → z ≠ Str.ofString "kind" → z ≠ Str.ofString "raw" → z ≠ Str.ofString "read" → z ≠ Str.ofString "text" → z ≠ Str.ofString "item" → z ≠ Str.ofString "inside" → m z = m0 z) ∧
    News g L h nw ∧ HMid res i item k text2 item2
noncomputable def JTail (g : Heap) (L : Addr) (s : Shared) (D : Addr) (o : Obj) (rest : List (Addr × Obj)) (res : List Str) (s' : Shared) : Prop :=
  ∃ (u : Str → Option Value) (text item : Str) (t2 t3 : Tok) (h : Heap) (tk : Nat), s' = { s with heap := h, toks := tk } ∧
    Fr g L h (fun z => if z = Str.ofString "text" then some (.str text t2) else if z = Str.ofString "item" then some (.str item t3) else if z = Str.ofString "due" then some (.ref D) else u z) ∧
    News g L h ((D, o) :: rest) ∧ (∃ b, PS.run text.cps.toList = ⟨res, item, false, b⟩) ∧ text.length ≤ 50 ∧ item.length ≤ 50
theorem jt_z {x y : Str} {res : List Str} {b : Bool} (h : PS.run x.cps.toList = ⟨res, y, false, b⟩) : PS.run (x ++ Str.ofString "z").cps.toList = ⟨res, y ++ Str.ofString "z", false, b⟩ := by rw [PS.run_app, h, go_z]
theorem jt_q {x y : Str} {res : List Str} {b : Bool} (h : PS.run x.cps.toList = ⟨res, y, false, b⟩) : PS.run (x ++ Str.ofString "\"").cps.toList = ⟨res, y ++ Str.ofString "\"", false, !b⟩ := by rw [PS.run_app, h, go_quote]
theorem jt_1 {a : Nat} : a + 1 ≤ a + 2 := Nat.le_succ _
theorem jt_2 {a : Nat} : a + 1 + 1 ≤ a + 2 := Nat.le_refl _
theorem jt_len {a b c : Nat} (h : a ≤ 9) (h1 : b ≤ 5 * a) (h2 : c ≤ b + 2) : c ≤ 50 := Nat.le_trans h2 (Nat.le_trans (Nat.add_le_add_right (Nat.le_trans h1 (Nat.mul_le_mul_left 5 h)) 2) (by decide))
noncomputable def JHead (m0 : Str → Option Value) (D : Addr) (rest : List (Addr × Obj)) (kinds : List Int) (i : Nat) (m : Str → Option Value) (nx : List (Addr × Obj)) : Prop :=
  ∃ (u : Str → Option Value) (text item : Str) (res : List Str) (inside : Int) (ob : Obj) (tt ti tn : Tok),
    m = (fun z => if z = Str.ofString "place" then u z else if z = Str.ofString "kind" then u z else if z = Str.ofString "raw" then u z else if z = Str.ofString "read" then u z else if z = Str.ofString "text" then some (.str text tt) else if z = Str.ofString "item" then some (.str item ti) else if z = Str.ofString "inside" then some (.int inside tn) else m0 z) ∧
    nx = (D, ob) :: rest ∧ (∃ (vq : List Value) (nq : Nat), ob = W.listOf (List.toArray vq) nq ∧ StrsAre vq (res.map Txt.strip)) ∧ HInv kinds i text item res inside
namespace seg_law_header
noncomputable def body : (P_1 : World → Heap → Addr → (Str → Option Value) → List (Addr × Obj) → Shared → (Value → Shared → Prop) → (Value → Shared → Prop) → Addr → List Value → List Int → Nat → Int → Tok → Nat → Option (List Code) → Nat → Program → List Str → (ExcName → Option Value) → (Str → Option Value) → (Str → Option Value) → Around → Heap → List Env → Env → Heap → Addr → Heap → Prop) ×' ((∀ a b c d e f g h i j k l m n o p q r s t u v w x y z a1 b1 c1, P_1 a b c d e f g h i j k l m n o p q r s t u v w x y z a1 b1 c1) → (∀ (w : World) (A : Around) (h₀ : Heap) (L : Addr) (m : Str → Option Value) (news : List (Addr × Obj)) (s : Shared)
  (Q E : Value → Shared → Prop) (K : Addr) (ks : List Value) (kinds : List Int) (nK : Nat) (noise : Int) (t : Tok),
  Site w A h₀ L → Fr h₀ L s.heap m → News h₀ L s.heap news →
  A.depth + 20 < recursionLimit → A.units + 300 < cLine →
  (K, W.listOf ks.toArray nK) ∈ news → IntsAre ks kinds → 5 ≤ kinds.length → kinds.length ≤ 9 → (∀ k ∈ kinds, k = 0 ∨ k = 1) →
  (∀ T D text tt du nD res rest h' tk', Fr h₀ L h' m → News h₀ L h' ((T, { cls := .type "tuple", data := .seq #[.str text tt, .ref D] }) :: (D, W.listOf (List.toArray du) nD) :: news) → StrsAre du (parsed text) → text.length ≤ 100 →
    parsed text = List.map Txt.strip res ++ rest → runs (-1) (sizesOf res) = cutsFrom 0 kinds → (∀ q ∈ news, @LT.lt Nat _ q.1 D) → @LT.lt Nat _ D T → Q (.ref T) { s with heap := h', toks := tk' }) →
  wpAny (model Prog w) A (call (.ref 93) [.ref K, .int noise t]) Q E s)) := by
  refine' ⟨_, fun k_1 => ?main⟩
  case main =>
    unfold Site Prog
    intro w A h₀ L m news s Q E K ks kinds nK noise t hS F N hd hu hK hI h5 h9 hb hret
    refine byC fun hGZ => ?_
    obtain ⟨hd0, dp, fr, gd, un⟩ := A
    obtain ⟨p, loose, mean, mg, mb, A₀, base, outer, env, B, X, T, hA, hf, hke, hh, C1, C2⟩ := hS
    dsimp only at hA hh hd hu
    subst hA
    subst hh
    refine hGZ ?_; clear hGZ
    refine wpAny_call ?_
    k_dflt (refine' code_def ?k1 ?k2 ?k3 ?k4 ?k5 ?kA ?kF ?kK ?k6 ?k7 ?k8 ?k9 ?kB ?_ ?c2 ?c3 ?c4 ?c5; (case kA => exact rfl); (case kF => exact hf); (case kK => exact hke); (case k1 => k_asm); (case k2 => k_asm); (case k3 => k_asm); (case k4 => k_asm); (case k5 => k_asm); (case k6 => k_is); (case k7 => k_is); (case k8 => ktr_room); (case k9 => exact BindsTo.of_eq rfl); (case c5 => decide); (case kB => exact locs rfl); (case c2 => exact rfl); (case c3 => exact rfl); (case c4 => exact rfl); k_whole; intro g' L' h' FG' F' N' B' X' T'; (try dsimp only); (try k_fold))
    have C1' : CodeHd g' 34 30 := C1.keeps FG'.keep
    have C2' : CodeHd g' 41 37 := C2.keeps FG'.keep
    revert F N hK hI h5 h9 hb hret hd hu B X T hf hke C1 C2 FG' F' N' B' X' T' qk ek C1' C2'
    exact k_1 w h₀ L m news s Q E K ks kinds nK noise t dp gd un p loose mean mg mb A₀ base outer env g' L' h'
namespace sA
noncomputable abbrev tyC := (World × Heap × Addr × (Str → Option Value) × (List (Addr × Obj)) × Shared × (Value → Shared → Prop) × (Value → Shared → Prop)) × (Addr × List Value × List Int × Nat × Int × Tok × Nat × Option (List Code)) × (Nat × Program × List Str × (ExcName → Option Value) × (Str → Option Value) × (Str → Option Value) × Around × Heap) × (List Env × Env × Heap × Addr × Heap)
def prP := body.1
def prQ (x : tyC) : Prop := prP x.1.1 x.1.2.1 x.1.2.2.1 x.1.2.2.2.1 x.1.2.2.2.2.1 x.1.2.2.2.2.2.1 x.1.2.2.2.2.2.2.1 x.1.2.2.2.2.2.2.2 x.2.1.1 x.2.1.2.1 x.2.1.2.2.1 x.2.1.2.2.2.1 x.2.1.2.2.2.2.1 x.2.1.2.2.2.2.2.1 x.2.1.2.2.2.2.2.2.1 x.2.1.2.2.2.2.2.2.2 x.2.2.1.1 x.2.2.1.2.1 x.2.2.1.2.2.1 x.2.2.1.2.2.2.1 x.2.2.1.2.2.2.2.1 x.2.2.1.2.2.2.2.2.1 x.2.2.1.2.2.2.2.2.2.1 x.2.2.1.2.2.2.2.2.2.2 x.2.2.2.1 x.2.2.2.2.1 x.2.2.2.2.2.1 x.2.2.2.2.2.2.1 x.2.2.2.2.2.2.2
noncomputable def inI : tyC := ((aWorld 0, default, default, default, default, {}, default, default), default, (0, default, default, default, default, default, callerA, default), default)
def epC : tyC := eps inI prQ
@[irreducible] def h₀ := epC.1.2.1
@[irreducible] def L := epC.1.2.2.1
@[irreducible] def m := epC.1.2.2.2.1
@[irreducible] def news := epC.1.2.2.2.2.1
@[irreducible] def s := epC.1.2.2.2.2.2.1
@[irreducible] def K := epC.2.1.1
@[irreducible] def ks := epC.2.1.2.1
@[irreducible] def kinds := epC.2.1.2.2.1
@[irreducible] def nK := epC.2.1.2.2.2.1
@[irreducible] def noise := epC.2.1.2.2.2.2.1
@[irreducible] def t := epC.2.1.2.2.2.2.2.1
@[irreducible] def p := epC.2.2.1.2.1
@[irreducible] def g' := epC.2.2.2.2.2.1
@[irreducible] def L' := epC.2.2.2.2.2.2.1
namespace seg_sA_main
noncomputable def body : (P_1 : Heap → Heap → List (Addr × Obj) → Addr → Prop) ×' ((∀ a b c d, P_1 a b c d) → (prP epC.1.1 h₀ L m news s epC.1.2.2.2.2.2.2.1 epC.1.2.2.2.2.2.2.2 K ks kinds nK noise t epC.2.1.2.2.2.2.2.2.1 epC.2.1.2.2.2.2.2.2.2 epC.2.2.1.1 p epC.2.2.1.2.2.1 epC.2.2.1.2.2.2.1 epC.2.2.1.2.2.2.2.1 epC.2.2.1.2.2.2.2.2.1 epC.2.2.1.2.2.2.2.2.2.1 epC.2.2.1.2.2.2.2.2.2.2 epC.2.2.2.1 epC.2.2.2.2.1 g' L' epC.2.2.2.2.2.2.2)) := by
  refine' ⟨_, fun k_1 => ?main⟩
  case main =>
    intro F N hK hI h5 h9 hb hret hd hu B X T hf hke C1 C2 FG' F' N' B' X' T' qk ek C1' C2'
    replace hd : Hid _ := hd
    replace hu : Hid _ := hu
    (repeat ((fail_if_success (with_reducible rename News _ _ _ ((_, W.listOf _ _) :: _) => hX)); first | (k_unfold; (try dsimp only)) | walk1 | (dsimp only; walk1)))
    rename Fr _ _ _ _ => F9
    rename News _ _ _ _ => N9
    obtain ⟨R1, hR1⟩ : ∃ R1, R1 = led N9 := ⟨_, rfl⟩
    obtain ⟨l0, hl0⟩ : ∃ d, d = adrAt (led N9) 0 := ⟨_, rfl⟩
    have hF0 : FourP R1 l0 false := by
      rw [hR1, hl0]; exact fourP (by k_mem) (by k_mem) (by k_mem) (by k_mem) (by k_mem) pc0 pc1 pc2 pc3
    have hK1 : (K, W.listOf ks.toArray nK) ∈ R1 := by rw [hR1]; dsimp only [led]; k_mem
    have hn1 : ∀ p ∈ news, p ∈ R1 := by rw [hR1]; dsimp only [led]; intro p hp; repeat (first | exact hp | apply List.mem_cons_of_mem)
    have N1 := news_sub (news' := R1) N9 (by rw [hR1]; exact fun _ h => h)
    dsimp only [adrAt, led] at hl0
    clear hR1 N9
    subst hl0
    (repeat ((with_reducible rename AllLt _ _ => h9z); clear h9z))
    (repeat ((with_reducible rename @LT.lt Nat _ _ _ => h9z); clear h9z))
    rename_i _ _ _ _ _ _ _ sBz1 sBz2
    revert F N hK hI h5 h9 hb hret B X T hf hke C1 C2 FG' B' X' T' qk ek C1' C2' hd hu F9 hF0 hK1 hn1 N1
    exact k_1 sBz1 sBz2 R1 l0
namespace sB
noncomputable abbrev tyC := Heap × Heap × (List (Addr × Obj)) × Addr
def prP := body.1
def prQ (x : tyC) : Prop := prP x.1 x.2.1 x.2.2.1 x.2.2.2
noncomputable def inI : tyC := default
def epC : tyC := eps inI prQ
@[irreducible] def R1 := epC.2.2.1
@[irreducible] def l0 := epC.2.2.2
namespace seg_sB_main
noncomputable def body : (P_1 : Heap → Heap → List (Addr × Obj) → Addr → Prop) ×' ((∀ a b c d, P_1 a b c d) → (prP epC.1 epC.2.1 R1 l0)) := by
  refine' ⟨_, fun k_1 => ?main⟩
  case main =>
    intro F N hK hI h5 h9 hb hret B X T hf hke C1 C2 FG' B' X' T' qk ek C1' C2' hd hu F9 hF0 hK1 hn1 N1
    (repeat ((fail_if_success (with_reducible rename News _ _ _ ((_, W.listOf _ _) :: _) => hX)); first | (k_unfold; (try dsimp only)) | walk1 | (dsimp only; walk1)))
    rename Fr _ _ _ _ => F9
    rename News _ _ _ _ => N9
    obtain ⟨R2, hR2⟩ : ∃ R2, R2 = led N9 := ⟨_, rfl⟩
    obtain ⟨l1, hl1⟩ : ∃ d, d = adrAt (led N9) 0 := ⟨_, rfl⟩
    have hF1 : FourP R2 l1 true := by
      rw [hR2, hl1]; exact fourP (by k_mem) (by k_mem) (by k_mem) (by k_mem) (by k_mem) pq0 pq1 pq2 pq3
    have hs : ∀ p ∈ R1, p ∈ R2 := by rw [hR2]; dsimp only [led]; intro p hp; repeat (first | exact hp | apply List.mem_cons_of_mem)
    have hF2 := fourP_sub hF0 hs
    have hK2 := hs _ hK1
    have hn2 : ∀ p ∈ news, p ∈ R2 := fun p hp => hs p (hn1 p hp)
    have N2 := news_sub (news' := R2) N9 (by rw [hR2]; exact fun _ h => h)
    dsimp only [adrAt, led] at hl1
    clear hR2 N9 hs hn1 hK1 hF0
    subst hl1
    (repeat ((with_reducible rename AllLt _ _ => h9z); clear h9z))
    (repeat ((with_reducible rename @LT.lt Nat _ _ _ => h9z); clear h9z))
    rename_i _ _ _ _ _ _ _ sCz1 sCz2
    revert F N hK hI h5 h9 hb hret B X T hf hke C1 C2 FG' B' X' T' qk ek C1' C2' hd hu F9 hF1 hF2 hK2 hn2 N2
    exact k_1 sCz1 sCz2 R2 l1
namespace sC
noncomputable abbrev tyC := Heap × Heap × (List (Addr × Obj)) × Addr
def prP := body.1
def prQ (x : tyC) : Prop := prP x.1 x.2.1 x.2.2.1 x.2.2.2
noncomputable def inI : tyC := default
def epC : tyC := eps inI prQ
@[irreducible] def R2 := epC.2.2.1
@[irreducible] def l1 := epC.2.2.2
namespace seg_sC_main
noncomputable def body : (P_1 : Nat → Heap → Nat → List (Addr × Obj) → Addr → Addr → Addr → Addr → List (Addr × Obj) → Heap → Nat → (Str → Option Value) → Heap → Nat → Array GenState → Addr → Tok → Value → Obj → (Str → Option Value) → Str → Str → List Str → Int → Tok → Tok → Tok → List Value → Nat → Int → Tok → Prop) ×' (P_2 : Nat → Heap → List (Addr × Obj) → Addr → Addr → Addr → Heap → Nat → (Str → Option Value) → Str → Str → List Str → Int → Tok → Tok → Tok → List Value → Nat → Prop) ×' ((∀ a b c d e f g h i j k l m n o p q r s t u v w x y z a1 b1 c1 d1 e1, P_1 a b c d e f g h i j k l m n o p q r s t u v w x y z a1 b1 c1 d1 e1) → (∀ a b c d e f g h i j k l m n o p q r, P_2 a b c d e f g h i j k l m n o p q r) → (prP epC.1 epC.2.1 R2 l1)) := by
  refine' ⟨_, _, fun k_1 k_2 => ?main⟩
  case main =>
    intro F N hK hI h5 h9 hb hret B X T hf hke C1 C2 FG' B' X' T' qk ek C1' C2' hd hu F9 hF1 hF2 hK2 hn2 N2
    k_steps
    rename Fr _ _ _ _ => F9
    rename News _ _ _ _ => N9
    refine byC fun hGZ => ?_
    obtain ⟨rest, hrest⟩ : ∃ rest, rest = (led N9).drop 2 := ⟨_, rfl⟩
    obtain ⟨Dq, hDq⟩ : ∃ d, d = adrAt (led N9) 1 := ⟨_, rfl⟩
    obtain ⟨PL, hPL⟩ : ∃ d, d = adrAt (led N9) 2 := ⟨_, rfl⟩
    refine hGZ ?_; clear hGZ
    have hs : ∀ p ∈ R2, p ∈ rest := by
      rw [hrest]; dsimp only [led, List.drop]; intro p hp; repeat (first | exact hp | apply List.mem_cons_of_mem)
    have hP : PiecesAt rest PL := by
      have h1 := fourP_sub hF2 hs
      have h2 := fourP_sub hF1 hs
      rw [hrest] at h1 h2 ⊢
      rw [hPL]
      dsimp only [adrAt, led, List.drop] at h1 h2 ⊢
      exact ⟨l0, l1, _, .head _, h1, h2⟩
    have hKr : (K, W.listOf ks.toArray nK) ∈ rest := hs _ hK2
    have hnr : ∀ p ∈ news, p ∈ rest := fun p hp => hs p (hn2 p hp)
    have hDr : ∀ p ∈ rest, @LT.lt Nat _ p.1 Dq := by
      rw [hrest, hDq]; dsimp only [adrAt, led, List.drop]
      (repeat (refine' List.forall_mem_cons.mpr ⟨by (try dsimp only); (first | exact om295 (by assumption) | omega), ?_⟩)); exact allLt_mem (by assumption)
    have hPm : frm F9 (Str.ofString "pieces") = some (.ref PL) := by rw [hPL]; rfl
    have hDm : frm F9 (Str.ofString "due") = some (.ref Dq) := by rw [hDq]; rfl
    have hkm : frm F9 (Str.ofString "kinds") = some (.ref K) := rfl
    have hnm : frm F9 (Str.ofString "noise") = some (.int noise t) := rfl
    have j0 : JHead (frm F9) Dq rest kinds 0 (frm F9) ((Dq, W.listOf (List.toArray []) 0) :: rest) := by
      refine ⟨frm F9, Str.ofString "", Str.ofString "", [], 0, _, tokOf (frm F9 (Str.ofString "text")), tokOf (frm F9 (Str.ofString "item")), tokOf (frm F9 (Str.ofString "inside")), ov43 rfl rfl rfl (fun _ _ _ _ _ _ _ _ => rfl), rfl, ⟨[], 0, rfl, .nil⟩, h_start kinds⟩
    have N8 := news_sub (news' := (Dq, W.listOf (List.toArray []) 0) :: rest) N9 (by rw [hrest, hDq]; exact fun p hp => .tail _ hp)
    dsimp only [adrAt, led] at hDq hPL
    clear hrest N9 hs hF1 hF2 hK2 hn2
    subst hDq hPL
    (repeat ((with_reducible rename AllLt _ _ => h9z); clear h9z))
    (repeat ((with_reducible rename @LT.lt Nat _ _ _ => h9z); clear h9z))
    refine call_enum F9 N8 (.tail _ hKr) fun e it own h1 F1 N1 hst hap lit lie => ?_
    refine pyIter_enum N1 hst ?_
    have hDo' : ∀ p ∈ rest, p.1 ≠ Dq := fun p hp => Nat.ne_of_lt (hDr p hp)
    have hDo : Off Dq rest := fun p hp => Nat.ne_of_lt (hDr p hp)
    refine' loop_t (it_enum (h₀ := g') (l := K) (vs := ks) (nn := nK) rfl) (JHead (frm F9) Dq rest kinds) ?h0 F1 N1 hap j0 ?hJ ?turn ?fin
    case h0 => exact hst
    case hJ =>
      intro i m nx pGZ3
      refine byC fun hGZ => ?_
      obtain ⟨u, text, item, res, inside, _, tt, ti, tn, hm, rfl, ⟨vq, nq, rfl, hq⟩, H⟩ := pGZ3
      refine hGZ ?_; clear hGZ
      intro p hp
      rw [List.mem_singleton.mp hp]
      exact .tail _ hKr
    case turn =>
      intro i v ex own m9 nx h8 tk8 g8 hi pGZ10 pGZ11 pGZ12
      refine byC fun hGZ => ?_
      obtain ⟨Dx, tx, x, rfl, hx, rfl⟩ := pGZ10
      obtain ⟨hg, hei, old, o, rfl, hoc, hod⟩ := pGZ11
      obtain ⟨u, text, item, res, inside, _, tt, ti, tn, hm, rfl, ⟨vq, nq, rfl, hq⟩, H⟩ := pGZ12
      refine hGZ ?_; clear hGZ
      intro F7 N7 hex hap7
      have hi' : i < kinds.length := by rw [← hI.length]; exact hi
      refine byC fun hGZ => ?_
      obtain ⟨k, hki, hkb⟩ : ∃ k, kinds[i]? = some k ∧ (k = 0 ∨ k = 1) := ⟨kinds[i], List.getElem?_eq_getElem hi', hb _ (List.getElem_mem hi')⟩
      obtain ⟨tk0, hx0⟩ := hI.get i k hki
      refine hGZ ?_; clear hGZ
      rw [hx0] at hx
      cases hx
      dsimp only at hg
      rename_i _ _ tnz1 _ _ _ _ _ _ _ tnz2
      revert F N hK hI h5 h9 hb hret B X T hf hke C1 C2 FG' B' X' T' qk ek C1' C2' hd hu hP hKr hnr hDr N8 F9 hPm hDm hkm hnm j0 F1 N1 hst hap lit lie hDo' hDo hi hg hei hoc hod hm H hq F7 hap7 hi' hki hkb hx0 N7 hex
      exact k_1 tnz1 tnz2 tk rest Dq PL e it own h1 i m9 h8 tk8 g8 Dx tx old o u text item res inside tt ti tn vq nq k tk0
    case fin =>
      intro m9 nx h8 tk8 g8 hg pGZ6
      refine byC fun hGZ => ?_
      obtain ⟨u, text, item, res, inside, _, tt, ti, tn, hm, rfl, ⟨vq, nq, rfl, hq⟩, H⟩ := pGZ6
      refine hGZ ?_; clear hGZ
      intro F7 N7
      rw [hm] at F7
      dsimp only [frm] at F7
      rw [hI.length] at H
      have hlen := H.len
      have hlen2 := H.len2
      have hp4 : (4 : Int) ^ (kinds.length : Int).toNat ≠ 0 := Int.ne_of_gt (Int.pow_pos (by decide))
      have hnp : Builtin.divisionGoesByPylong noise (4 ^ (kinds.length : Int).toNat) = false := by
        refine PyProof.noPylong_small ?_
        have h1 := Nat.pow_le_pow_right (n := 4) (by decide) (show kinds.length ≤ 9 by (first | exact om303 h9 | omega))
        rw [Int.natAbs_pow, Int.toNat_natCast]
        exact Nat.lt_of_le_of_lt h1 (by decide)
      have hjj : 0 ≤ Int.fmod (Int.fdiv noise (4 ^ (kinds.length : Int).toNat)) 4 ∧ Int.fmod (Int.fdiv noise (4 ^ (kinds.length : Int).toNat)) 4 < 4 := ⟨by rw [Int.fmod_eq_emod_of_nonneg _ (by decide)]; (first | exact om299 | omega), by rw [Int.fmod_eq_emod_of_nonneg _ (by decide)]; (first | exact om300 | omega)⟩
      obtain ⟨jj1, jj2⟩ := hjj
      have q5 := hq.length
      rw [List.length_map] at q5
      have q6 := h_reslen H
      clear hm j0 lie hPm hDm hkm hnm F1 N1 hap hst N8
      dsimp only at hg
      subst hg
      dsimp only
      rename_i _ _ fnz1 _ _ _ _ _ _ _ fnz2
      revert F N hK hI h5 h9 hb hret B X T hf hke C1 C2 FG' B' X' T' qk ek C1' C2' hd hu hP hKr hnr hDr F9 lit hDo' hDo H hq F7 N7 hlen hlen2 hp4 hnp jj1 jj2 q5 q6
      exact k_2 fnz1 fnz2 rest Dq PL it h8 tk8 u text item res inside tt ti tn vq nq
namespace tn
noncomputable abbrev tyC := (Nat × Heap × Nat × (List (Addr × Obj)) × Addr × Addr × Addr × Addr) × ((List (Addr × Obj)) × Heap × Nat × (Str → Option Value) × Heap × Nat × Array GenState × Addr) × (Tok × Value × Obj × (Str → Option Value) × Str × Str × List Str × Int) × (Tok × Tok × Tok × List Value × Nat × Int × Tok)
def prP := body.1
def prQ (x : tyC) : Prop := prP x.1.1 x.1.2.1 x.1.2.2.1 x.1.2.2.2.1 x.1.2.2.2.2.1 x.1.2.2.2.2.2.1 x.1.2.2.2.2.2.2.1 x.1.2.2.2.2.2.2.2 x.2.1.1 x.2.1.2.1 x.2.1.2.2.1 x.2.1.2.2.2.1 x.2.1.2.2.2.2.1 x.2.1.2.2.2.2.2.1 x.2.1.2.2.2.2.2.2.1 x.2.1.2.2.2.2.2.2.2 x.2.2.1.1 x.2.2.1.2.1 x.2.2.1.2.2.1 x.2.2.1.2.2.2.1 x.2.2.1.2.2.2.2.1 x.2.2.1.2.2.2.2.2.1 x.2.2.1.2.2.2.2.2.2.1 x.2.2.1.2.2.2.2.2.2.2 x.2.2.2.1 x.2.2.2.2.1 x.2.2.2.2.2.1 x.2.2.2.2.2.2.1 x.2.2.2.2.2.2.2.1 x.2.2.2.2.2.2.2.2.1 x.2.2.2.2.2.2.2.2.2
noncomputable def inI : tyC := default
def epC : tyC := eps inI prQ
@[irreducible] def rest := epC.1.2.2.2.1
@[irreducible] def Dq := epC.1.2.2.2.2.1
@[irreducible] def e := epC.1.2.2.2.2.2.2.1
@[irreducible] def it := epC.1.2.2.2.2.2.2.2
@[irreducible] def h1 := epC.2.1.2.1
@[irreducible] def i := epC.2.1.2.2.1
@[irreducible] def g8 := epC.2.1.2.2.2.2.2.2.1
@[irreducible] def Dx := epC.2.1.2.2.2.2.2.2.2
@[irreducible] def text := epC.2.2.1.2.2.2.2.1
@[irreducible] def item := epC.2.2.1.2.2.2.2.2.1
@[irreducible] def res := epC.2.2.1.2.2.2.2.2.2.1
@[irreducible] def inside := epC.2.2.1.2.2.2.2.2.2.2
@[irreducible] def tt := epC.2.2.2.1
@[irreducible] def vq := epC.2.2.2.2.2.2.1
@[irreducible] def nq := epC.2.2.2.2.2.2.2.1
@[irreducible] def k := epC.2.2.2.2.2.2.2.2.1
namespace seg_tn_main
noncomputable def body : (P_1 : Addr → List Value → Nat → Nat → List Value → Int → Addr → Str → Str → Tok → Tok → (Str → Option Value) → Str → Str → Tok → Tok → Tok → Heap → Nat → Prop) ×' ((∀ a b c d e f g h i j k l m n o p q r s, P_1 a b c d e f g h i j k l m n o p q r s) → (prP epC.1.1 epC.1.2.1 epC.1.2.2.1 rest Dq epC.1.2.2.2.2.2.1 e it epC.2.1.1 h1 i epC.2.1.2.2.2.1 epC.2.1.2.2.2.2.1 epC.2.1.2.2.2.2.2.1 g8 Dx epC.2.2.1.1 epC.2.2.1.2.1 epC.2.2.1.2.2.1 epC.2.2.1.2.2.2.1 text item res inside tt epC.2.2.2.2.1 epC.2.2.2.2.2.1 vq nq k epC.2.2.2.2.2.2.2.2.2)) := by
  refine' ⟨_, fun k_1 => ?main⟩
  case main =>
    intro F N hK hI h5 h9 hb hret B X T hf hke C1 C2 FG' B' X' T' qk ek C1' C2' hd hu hP hKr hnr hDr N8 F9 hPm hDm hkm hnm j0 F1 N1 hst hap lit lie hDo' hDo hi hg hei hoc hod hm H hq F7 hap7 hi' hki hkb hx0 N7 hex
    have hlt := hex _ (.head _)
    simp only [List.nil_append, List.cons_append] at N7 hlt
    rw [hm] at F7
    dsimp only [frm] at F7
    have le : @LT.lt Nat _ e Dx := hlt _ (.head _)
    have lt : @LT.lt Nat _ it Dx := hlt _ (.tail _ (.head _))
    have lD : @LT.lt Nat _ Dq Dx := hlt _ (.tail _ (.tail _ (.head _)))
    have neq1 : @Ne Nat Dq e := hap7 _ (.head _) _ (.head _)
    have neq2 : @Ne Nat Dq it := hap7 _ (.tail _ (.head _)) _ (.head _)
    have hlen := H.len
    have hlen2 := H.len2
    have hi9 : i < 9 := by (first | exact om297 h9 hi' | omega)
    refine byC fun hGZ => ?_
    obtain ⟨lX, iX, nX, n0, lv, hPLm, hlX, hX4, hgX, hitX⟩ := pieces_pick hP H.bit
    have hp4 : (4 : Int) ^ (i : Int).toNat ≠ 0 := Int.ne_of_gt (Int.pow_pos (by decide))
    have hnp : Builtin.divisionGoesByPylong noise (4 ^ (i : Int).toNat) = false := by
      refine PyProof.noPylong_small ?_
      have h1 := Nat.pow_le_pow_right (n := 4) (by decide) (show i ≤ 8 by (first | exact om298 hi9 | omega))
      rw [Int.natAbs_pow, Int.toNat_natCast]
      exact Nat.lt_of_le_of_lt h1 (by decide)
    obtain ⟨jj, hjj, hj0, hj4⟩ : ∃ jj : Int, jj = Int.fmod (Int.fdiv noise (4 ^ (i : Int).toNat)) 4 ∧ 0 ≤ jj ∧ jj < 4 := ⟨_, rfl, by rw [Int.fmod_eq_emod_of_nonneg _ (by decide)]; (first | exact om299 | omega), by rw [Int.fmod_eq_emod_of_nonneg _ (by decide)]; (first | exact om300 | omega)⟩
    obtain ⟨TX, raw, read, tr, td, hg, hT, hpc⟩ := hitX jj.toNat (by (first | exact om301 hj4 | omega))
    refine hGZ ?_; clear hGZ
    have q1 := hpc.len
    have q2 := hpc.len2
    have q5 := hq.length
    rw [List.length_map] at q5
    have q6 := h_reslen H
    have hap8 : ∀ o1 : Obj, Apart _ ((Dq, o1) :: rest) := fun o1 q hq => off_cons.mpr ⟨(off_cons.mp (hap7 q hq)).1, (off_cons.mp (hap7 q hq)).2⟩
    have hb2 := H.bit
    replace hb2 : Hid _ := hb2
    refine turn_join (J := JMid g' L' s g8 (frm F9) (led N7) res i item k) (a := [_, _, _]) (b := [_, _]) ?walk ?tail
    case walk =>
      k_steps
      refine' kim_list (lo := W.listOf lv.toArray n0) (l := lv) (n := n0) (x := .ref lX) (by assumption) ?hm rfl rfl (bit_lo H.bit) (bit_hi H.bit) hgX ?_
      case hm => exact .tail _ (.tail _ (.tail _ (.tail _ hPLm)))
      k_steps
      rw [← hjj]
      refine' kim_list (lo := W.listOf iX.toArray nX) (l := iX) (n := nX) (x := .ref TX) (by assumption) ?hm rfl rfl hj0 (by (first | exact om302 hj4 | omega)) hg ?_
      case hm => exact .tail _ (.tail _ (.tail _ (.tail _ hlX)))
      k_steps
      all_goals (
        rename Fr g' L' _ _ => F5
        rename News g' L' _ _ => N5
        refine ⟨frm F5, _, _, tokOf (frm F5 (Str.ofString "text")), tokOf (frm F5 (Str.ofString "item")), tokOf (frm F5 (Str.ofString "inside")), _, _, rfl, F5, rfl, rfl, ?_, (fun z h1 h2 h3 h4 h5 h6 h7 => by dsimp only [frm]; simp [h1, h2, h3, h4, h5, h6, h7]), news_sub N5 (fun p hp => by dsimp only [led] at hp; repeat (first | exact hp | apply List.mem_cons_of_mem)), ?_⟩)
      · rfl
      · exact h_mid_flip hkb H hpc (by assumption)
      · exact h_mid_inside (by assumption)
      · exact h_mid_same H hpc (by assumption)
    case tail =>
      intro s' pGZ1
      refine byC fun hGZ => ?_
      obtain ⟨mm, text2, item2, t2, t3, t4, h6, tk6, rfl, F6, e1, e2, e3, e4, N6, HM⟩ := pGZ1
      refine hGZ ?_; clear hGZ
      have e5 := (e4 (Str.ofString "due") (by decide) (by decide) (by decide) (by decide) (by decide) (by decide) (by decide)).trans hDm
      have hl := HM.2.1
      have hl2 := HM.2.2.1
      replace F6 := fr_knows [(Str.ofString "text", _), (Str.ofString "item", _), (Str.ofString "inside", _), (Str.ofString "due", _)] F6 ⟨e1, e2, e3, e5, trivial⟩
      dsimp only [told] at F6
      dsimp only [led] at N6
      rename_i ttz1
      revert F N hK hI h5 h9 hb hret B X T hf hke C1 C2 FG' B' X' T' qk ek C1' C2' hd hu hP hKr hnr hDr N8 F9 hPm hDm hkm hnm j0 F1 N1 hst hap lit lie hDo' hDo hi ttz1 hei hoc hod hm H hq F7 hap7 hi' hki hkb hx0 N7 hex hlt le lt lD neq1 neq2 hlen hlen2 hi9 hPLm hlX hX4 hgX hitX hp4 hnp hjj hj0 hj4 hg hT hpc q1 q2 q5 q6 hap8 hb2 e1 e2 e3 e4 N6 HM e5 hl hl2 F6
      exact k_1 lX iX nX n0 lv jj TX raw read tr td mm text2 item2 t2 t3 t4 h6 tk6
namespace tt
noncomputable abbrev tyC := (Addr × List Value × Nat × Nat × List Value × Int × Addr × Str) × (Str × Tok × Tok × (Str → Option Value) × Str × Str × Tok × Tok) × (Tok × Heap × Nat)
def prP := body.1
def prQ (x : tyC) : Prop := prP x.1.1 x.1.2.1 x.1.2.2.1 x.1.2.2.2.1 x.1.2.2.2.2.1 x.1.2.2.2.2.2.1 x.1.2.2.2.2.2.2.1 x.1.2.2.2.2.2.2.2 x.2.1.1 x.2.1.2.1 x.2.1.2.2.1 x.2.1.2.2.2.1 x.2.1.2.2.2.2.1 x.2.1.2.2.2.2.2.1 x.2.1.2.2.2.2.2.2.1 x.2.1.2.2.2.2.2.2.2 x.2.2.1 x.2.2.2.1 x.2.2.2.2
noncomputable def inI : tyC := default
def epC : tyC := eps inI prQ
@[irreducible] def item2 := epC.2.1.2.2.2.2.2.1
@[irreducible] def h6 := epC.2.2.2.1
theorem tt_main : prP epC.1.1 epC.1.2.1 epC.1.2.2.1 epC.1.2.2.2.1 epC.1.2.2.2.2.1 epC.1.2.2.2.2.2.1 epC.1.2.2.2.2.2.2.1 epC.1.2.2.2.2.2.2.2 epC.2.1.1 epC.2.1.2.1 epC.2.1.2.2.1 epC.2.1.2.2.2.1 epC.2.1.2.2.2.2.1 item2 epC.2.1.2.2.2.2.2.2.1 epC.2.1.2.2.2.2.2.2.2 epC.2.2.1 h6 epC.2.2.2.2 := by
  intro F N hK hI h5 h9 hb hret B X T hf hke C1 C2 FG' B' X' T' qk ek C1' C2' hd hu hP hKr hnr hDr N8 F9 hPm hDm hkm hnm j0 F1 N1 hst hap lit lie hDo' hDo hi ttz1 hei hoc hod hm H hq F7 hap7 hi' hki hkb hx0 N7 hex hlt le lt lD neq1 neq2 hlen hlen2 hi9 hPLm hlX hX4 hgX hitX hp4 hnp hjj hj0 hj4 hg hT hpc q1 q2 q5 q6 hap8 hb2 e1 e2 e3 e4 N6 HM e5 hl hl2 F6
  k_steps
  · rename Fr g' _ _ _ => F5
    rename News g' _ _ _ => N5
    refine ⟨_, _, frm F5, _, rfl, F5, news_sub N5 ?_, hap8 _, frm F5, _, _, res, k, W.listOf vq.toArray nq, tokOf (frm F5 (Str.ofString "text")), tokOf (frm F5 (Str.ofString "item")), tokOf (frm F5 (Str.ofString "inside")), ov43 rfl rfl rfl (fun z h1 h2 h3 h4 h5 h6 h7 => Eq.trans (by dsimp only [frm]; simp only [h5, h6, h7, if_false]; exact due_eq e5 rfl) (e4 z h1 h2 h3 h4 h5 h6 h7)), rfl, ⟨_, _, rfl, hq⟩, h_mid1 H hki (by assumption) HM⟩
    intro p hp
    rcases List.mem_cons.mp hp with rfl | hp
    · k_mem
    · rcases List.mem_cons.mp hp with rfl | hp
      · k_mem
      · exact .tail _ (.tail _ (.tail _ hp))
  · rename Fr g' _ _ _ => F5
    rename News g' _ _ _ => N5
    rw [List.push_toArray] at N5
    refine ⟨_, _, frm F5, _, rfl, F5, news_sub N5 ?_, hap8 _, frm F5, _, _, res ++ [item2], k, objAt (led N5) 3, tokOf (frm F5 (Str.ofString "text")), tokOf (frm F5 (Str.ofString "item")), tokOf (frm F5 (Str.ofString "inside")), ov43 rfl rfl rfl (fun z h1 h2 h3 h4 h5 h6 h7 => Eq.trans (by dsimp only [frm]; simp only [h5, h6, h7, if_false]; exact due_eq e5 rfl) (e4 z h1 h2 h3 h4 h5 h6 h7)), rfl, ⟨_, _, rfl, ?_⟩, h_mid0 hkb H hki (by assumption) HM⟩
    · intro p hp
      rcases List.mem_cons.mp hp with rfl | hp
      · k_mem
      · rcases List.mem_cons.mp hp with rfl | hp
        · k_mem
        · rcases List.mem_cons.mp hp with rfl | hp
          · k_mem
          · exact .tail _ (.tail _ (.tail _ (.tail _ hp)))
    · rw [List.map_append]; exact PySem.W.KStt.strs_snoc hq
theorem all : ∀ x, prQ x := @sk tyC inI prQ (by with_unfolding_all exact @tt_main)
end tt
end seg_tn_main
theorem tn_main : prP epC.1.1 epC.1.2.1 epC.1.2.2.1 rest Dq epC.1.2.2.2.2.2.1 e it epC.2.1.1 h1 i epC.2.1.2.2.2.1 epC.2.1.2.2.2.2.1 epC.2.1.2.2.2.2.2.1 g8 Dx epC.2.2.1.1 epC.2.2.1.2.1 epC.2.2.1.2.2.1 epC.2.2.1.2.2.2.1 text item res inside tt epC.2.2.2.2.1 epC.2.2.2.2.2.1 vq nq k epC.2.2.2.2.2.2.2.2.2 := @PSigma.snd _ _ seg_tn_main.body (fun a b c d e f g h i j k l m n o p q r s => @seg_tn_main.tt.all ((a, b, c, d, e, f, g, h), (i, j, k, l, m, n, o, p), (q, r, s)))
theorem all : ∀ x, prQ x := @sk tyC inI prQ (by with_unfolding_all exact @tn_main)
end tn
namespace fn
noncomputable abbrev tyC := (Nat × Heap × (List (Addr × Obj)) × Addr × Addr × Addr × Heap × Nat) × ((Str → Option Value) × Str × Str × List Str × Int × Tok × Tok × Tok) × (List Value × Nat)
def prP := body.2.1
def prQ (x : tyC) : Prop := prP x.1.1 x.1.2.1 x.1.2.2.1 x.1.2.2.2.1 x.1.2.2.2.2.1 x.1.2.2.2.2.2.1 x.1.2.2.2.2.2.2.1 x.1.2.2.2.2.2.2.2 x.2.1.1 x.2.1.2.1 x.2.1.2.2.1 x.2.1.2.2.2.1 x.2.1.2.2.2.2.1 x.2.1.2.2.2.2.2.1 x.2.1.2.2.2.2.2.2.1 x.2.1.2.2.2.2.2.2.2 x.2.2.1 x.2.2.2
noncomputable def inI : tyC := default
def epC : tyC := eps inI prQ
@[irreducible] def rest := epC.1.2.2.1
@[irreducible] def Dq := epC.1.2.2.2.1
@[irreducible] def u := epC.2.1.1
@[irreducible] def text := epC.2.1.2.1
@[irreducible] def item := epC.2.1.2.2.1
@[irreducible] def res := epC.2.1.2.2.2.1
@[irreducible] def vq := epC.2.2.1
@[irreducible] def nq := epC.2.2.2
namespace seg_fn_main
noncomputable def body : (P_1 : (Str → Option Value) → Str → Str → Tok → Tok → Heap → Nat → Bool → Prop) ×' ((∀ a b c d e f g h, P_1 a b c d e f g h) → (prP epC.1.1 epC.1.2.1 rest Dq epC.1.2.2.2.2.1 epC.1.2.2.2.2.2.1 epC.1.2.2.2.2.2.2.1 epC.1.2.2.2.2.2.2.2 u text item res epC.2.1.2.2.2.2.1 epC.2.1.2.2.2.2.2.1 epC.2.1.2.2.2.2.2.2.1 epC.2.1.2.2.2.2.2.2.2 vq nq)) := by
  refine' ⟨_, fun k_1 => ?main⟩
  case main =>
    intro F N hK hI h5 h9 hb hret B X T hf hke C1 C2 FG' B' X' T' qk ek C1' C2' hd hu hP hKr hnr hDr F9 lit hDo' hDo H hq F7 N7 hlen hlen2 hp4 hnp jj1 jj2 q5 q6
    refine execs_join (J := JTail g' L' s Dq (W.listOf vq.toArray nq) rest res) (a := [_, _, _]) (b := [_]) ?walk ?tail
    case walk =>
      k_steps
      all_goals (
        rename Fr g' L' _ _ => F5
        rename News g' L' _ _ => N5
        have F6 := fr_knows [(Str.ofString "text", _), (Str.ofString "item", _), (Str.ofString "due", _)] F5 ⟨rfl, rfl, rfl, trivial⟩
        dsimp only [told] at F6
        refine ⟨_, _, _, _, _, _, _, rfl, F6, news_sub N5 (fun p hp => by repeat (first | exact hp | apply List.mem_cons_of_mem)), ?_, ?_, ?_⟩
        · first
          | exact ⟨_, H.run⟩
          | exact ⟨_, jt_z H.run⟩
          | exact ⟨_, jt_q H.run⟩
          | exact ⟨_, jt_q (jt_z H.run)⟩
        · exact jt_len h9 hlen (by (try simp only [Str.length_append, len_z, len_q]); (first | with_reducible exact Nat.le_refl _ | with_reducible exact Nat.le_add_right _ 2 | with_reducible exact Nat.le_add_right_of_le (Nat.le_refl _) | exact jt_1 | exact jt_2))
        · exact jt_len h9 hlen2 (by (try simp only [Str.length_append, len_z, len_q]); (first | with_reducible exact Nat.le_refl _ | with_reducible exact Nat.le_add_right _ 2 | with_reducible exact Nat.le_add_right_of_le (Nat.le_refl _) | exact jt_1 | exact jt_2)))
    case tail =>
      intro s' pGZ1
      refine byC fun hGZ => ?_
      obtain ⟨u, text2, item2, t2, t3, h6, tk6, rfl, F6, N6, ⟨b, hrun⟩, hl, hl2⟩ := pGZ1
      refine hGZ ?_; clear hGZ
      clear hlen hlen2 hp4 hnp jj1 jj2
      revert F N hK hI h5 h9 hb hret B X T hf hke C1 C2 FG' B' X' T' qk ek C1' C2' hd hu hP hKr hnr hDr F9 lit hDo' hDo H hq F7 N7 q5 q6 F6 N6 hrun hl hl2
      exact k_1 u text2 item2 t2 t3 h6 tk6 b
namespace ft
noncomputable abbrev tyC := (Str → Option Value) × Str × Str × Tok × Tok × Heap × Nat × Bool
def prP := body.1
def prQ (x : tyC) : Prop := prP x.1 x.2.1 x.2.2.1 x.2.2.2.1 x.2.2.2.2.1 x.2.2.2.2.2.1 x.2.2.2.2.2.2.1 x.2.2.2.2.2.2.2
noncomputable def inI : tyC := default
def epC : tyC := eps inI prQ
theorem ft_main : prP epC.1 epC.2.1 epC.2.2.1 epC.2.2.2.1 epC.2.2.2.2.1 epC.2.2.2.2.2.1 epC.2.2.2.2.2.2.1 epC.2.2.2.2.2.2.2 := by
  intro F N hK hI h5 h9 hb hret B X T hf hke C1 C2 FG' B' X' T' qk ek C1' C2' hd hu hP hKr hnr hDr F9 lit hDo' hDo H hq F7 N7 q5 q6 F6 N6 hrun hl hl2
  k_steps
  all_goals (
    rename Fr g' L' _ _ => F5
    rename News h₀ L _ _ => N3
    have N4 := news_cut2 N3 (news := news) (fun p hp => by repeat (first | exact hnr p hp | apply List.mem_cons_of_mem))
    have hpar := h_parsed hrun
    have hmk := H.marks
    rw [List.take_length] at hmk
    refine hret _ _ _ _ _ 0 res _ _ _ (by assumption) N4 ?_ ?_ hpar hmk ?_ ?_
    · rw [hpar]
      first
      | (rw [if_neg (str_some (by with_reducible assumption))]; exact PySem.W.KStt.strs_snoc (by with_reducible assumption))
      | (rw [if_pos (str_none (by with_reducible assumption)), List.append_nil, List.append_nil]; with_reducible assumption)
    · exact Nat.le_trans hl (by decide)
    · exact fun q hq => allLt_mem (by assumption) q (hnr q hq)
    · (first | exact om295 (by assumption) | omega))
theorem all : ∀ x, prQ x := @sk tyC inI prQ (by with_unfolding_all exact @ft_main)
end ft
end seg_fn_main
theorem fn_main : prP epC.1.1 epC.1.2.1 rest Dq epC.1.2.2.2.2.1 epC.1.2.2.2.2.2.1 epC.1.2.2.2.2.2.2.1 epC.1.2.2.2.2.2.2.2 u text item res epC.2.1.2.2.2.2.1 epC.2.1.2.2.2.2.2.1 epC.2.1.2.2.2.2.2.2.1 epC.2.1.2.2.2.2.2.2.2 vq nq := @PSigma.snd _ _ seg_fn_main.body (fun a b c d e f g h => @seg_fn_main.ft.all (a, b, c, d, e, f, g, h))
theorem all : ∀ x, prQ x := @sk tyC inI prQ (by with_unfolding_all exact @fn_main)
end fn
end seg_sC_main
theorem sC_main : prP epC.1 epC.2.1 R2 l1 := @PSigma.snd _ _ (@PSigma.snd _ _ seg_sC_main.body) (fun a b c d e f g h i j k l m n o p q r s t u v w x y z a1 b1 c1 d1 e1 => @seg_sC_main.tn.all ((a, b, c, d, e, f, g, h), (i, j, k, l, m, n, o, p), (q, r, s, t, u, v, w, x), (y, z, a1, b1, c1, d1, e1))) (fun a b c d e f g h i j k l m n o p q r => @seg_sC_main.fn.all ((a, b, c, d, e, f, g, h), (i, j, k, l, m, n, o, p), (q, r)))
theorem all : ∀ x, prQ x := @sk tyC inI prQ (by with_unfolding_all exact @sC_main)
end sC
end seg_sB_main
theorem sB_main : prP epC.1 epC.2.1 R1 l0 := @PSigma.snd _ _ seg_sB_main.body (fun a b c d => @seg_sB_main.sC.all (a, b, c, d))
theorem all : ∀ x, prQ x := @sk tyC inI prQ (by with_unfolding_all exact @sB_main)
end sB
end seg_sA_main
theorem sA_main : prP epC.1.1 h₀ L m news s epC.1.2.2.2.2.2.2.1 epC.1.2.2.2.2.2.2.2 K ks kinds nK noise t epC.2.1.2.2.2.2.2.2.1 epC.2.1.2.2.2.2.2.2.2 epC.2.2.1.1 p epC.2.2.1.2.2.1 epC.2.2.1.2.2.2.1 epC.2.2.1.2.2.2.2.1 epC.2.2.1.2.2.2.2.2.1 epC.2.2.1.2.2.2.2.2.2.1 epC.2.2.1.2.2.2.2.2.2.2 epC.2.2.2.1 epC.2.2.2.2.1 g' L' epC.2.2.2.2.2.2.2 := @PSigma.snd _ _ seg_sA_main.body (fun a b c d => @seg_sA_main.sB.all (a, b, c, d))
theorem all : ∀ x, prQ x := @sk tyC inI prQ (by with_unfolding_all exact @sA_main)
end sA
end seg_law_header
theorem law_header : ∀ (w : World) (A : Around) (h₀ : Heap) (L : Addr) (m : Str → Option Value) (news : List (Addr × Obj)) (s : Shared)
  (Q E : Value → Shared → Prop) (K : Addr) (ks : List Value) (kinds : List Int) (nK : Nat) (noise : Int) (t : Tok),
  Site w A h₀ L → Fr h₀ L s.heap m → News h₀ L s.heap news →
  A.depth + 20 < recursionLimit → A.units + 300 < cLine →
  (K, W.listOf ks.toArray nK) ∈ news → IntsAre ks kinds → 5 ≤ kinds.length → kinds.length ≤ 9 → (∀ k ∈ kinds, k = 0 ∨ k = 1) →
  (∀ T D text tt du nD res rest h' tk', Fr h₀ L h' m → News h₀ L h' ((T, { cls := .type "tuple", data := .seq #[.str text tt, .ref D] }) :: (D, W.listOf (List.toArray du) nD) :: news) → StrsAre du (parsed text) → text.length ≤ 100 →
    parsed text = List.map Txt.strip res ++ rest → runs (-1) (sizesOf res) = cutsFrom 0 kinds → (∀ q ∈ news, @LT.lt Nat _ q.1 D) → @LT.lt Nat _ D T → Q (.ref T) { s with heap := h', toks := tk' }) →
  wpAny (model Prog w) A (call (.ref 93) [.ref K, .int noise t]) Q E s := @PSigma.snd _ _ seg_law_header.body (fun a b c d e f g h i j k l m n o p q r s t u v w x y z a1 b1 c1 => @seg_law_header.sA.all ((a, b, c, d, e, f, g, h), (i, j, k, l, m, n, o, p), (q, r, s, t, u, v, w, x), (y, z, a1, b1, c1)))
end
theorem rules_P19 : True := by
  k_with_none
  k_with "call builtin:len" => ((k_here; (with_reducible show wpAny _ _ (call (Value.builtin "len") [Value.ref _]) _ _ _); k_dflt (refine kst_len (by k_asm) (by k_mem) (by exact IntsAre.length (by assumption)) (by omega) ?_); (try dsimp only)))
  k_with "truthy ref" => ((k_here; (with_reducible show wpAny _ _ (truthy (Value.ref _)) _ _ _); k_dflt (refine kgr_truthy (by k_asm) (by k_mem) (by exact rfl) (by exact rfl) (by (have := IntsAre.length (by assumption); omega)) ?_); (try dsimp only)))
  k_with "call builtin:list.append" => ((k_here; (with_reducible show wpAny _ _ (call (Value.builtin _) [Value.ref _, _]) _ _ _); k_dflt (refine append_K (by k_asm) (by k_asm) (by k_upd) ?_ (by (simp only [List.size_toArray]; rw [sizeLine_eq]; omega)); k_whole); intro h'r9 F'r9 N'r9; (try k_sweep)))
  k_with "call ref" => ((k_here; (with_reducible show wpAny _ _ (call (Value.ref _) _) _ _ _); refine paus ?_))
  k_with "subscriptTail Name Constant ref int" => ((k_here; (with_reducible show wpAny _ _ (subscriptTail _ _ (Value.ref _) (Value.int _ _)) _ _ _); refine paus ?_))
  k_with "exec For Name Name cons nil" => ((k_here; (with_reducible show wpAny _ _ (exec (Stmt.For _ _ _ [] _) _) _ _ _); k_dflt (refine wpAny_For ?_)))
  k_with "exec For Tuple Call cons nil" => ((k_here; (with_reducible show wpAny _ _ (exec (Stmt.For _ _ _ [] _) _) _ _ _); k_dflt (refine wpAny_For ?_)))
  k_with "call type:zip" => ((k_here; (with_reducible show wpAny _ _ (call (Value.type _) _) _ _ _); refine paus ?_))
  k_with "pyIter ref" => ((k_here; (with_reducible show wpAny _ _ (pyIter (Value.ref _)) _ _ _); refine paus ?_))
  exact trivial
noncomputable section
theorem RowsAre.mono {a b : List (Addr × Obj)} {vs : List Value} {rows : List (List Int)} (h : RowsAre a vs rows) (hs : ∀ p ∈ a, p ∈ b) : RowsAre b vs rows := by
  induction h with
  | nil => exact .nil
  | cons h1 h2 _ ih => exact .cons (hs _ h1) h2 ih
theorem RowsAre.snoc {a : List (Addr × Obj)} {vs : List Value} {rows : List (List Int)} (h : RowsAre a vs rows) {r : Addr} {ds : List Value} {nn : Nat} {ns : List Int} (hr : (r, W.listOf ds.toArray nn) ∈ a) (hi : IntsAre ds ns) : RowsAre a (vs ++ [.ref r]) (rows ++ [ns]) := by
  induction h with
  | nil => exact .cons hr hi .nil
  | cons h1 h2 _ ih => exact .cons h1 h2 ih
noncomputable def markAt (ring : Nat) (term : Int) : Nat → Int
  | 0 => 0
  | i + 1 => ring + i * term
noncomputable def outOf (ring : Nat) (term : Int) : Nat → Option Int
  | 0 => some ring
  | _ + 1 => some term
theorem go_out {ring : Nat} {term : Int} (h0 : 5 ≤ ring) (h9 : ring ≤ 9) (ht : Term term) : ∀ j, go [(ring : Int), term, 0, 7] none j = outOf ring term j
  | 0 => by simp [go, outOf]; omega
  | 1 => by rcases ht with rfl | rfl | rfl | rfl <;> (simp [go, outOf]; try omega)
  | j + 2 => by rcases ht with rfl | rfl | rfl | rfl <;> (simp [go, outOf]; try omega)
theorem mark_step {ring : Nat} {term : Int} (i : Nat) {x : Int} (h : outOf ring term i = some x) : markAt ring term i + x = markAt ring term (i + 1) := by
  cases i with
  | zero => cases h; simp [markAt]
  | succ i => cases h; simp only [markAt]; rw [Int.natCast_add, Int.add_mul]; omega
theorem mark_bounds {ring : Nat} {term : Int} (h9 : ring ≤ 9) (ht : Term term) : ∀ {i : Nat}, i ≤ 9 → -20 ≤ markAt ring term i ∧ markAt ring term i ≤ 30
  | 0, _ => by simp [markAt]
  | i + 1, h => by rcases ht with rfl | rfl | rfl | rfl <;> simp only [markAt] <;> omega
theorem ov41 {m m0 : Str → Option Value} {a b c d e : Str} {v : Value} (he : m e = some v) (h' : ∀ z, z ≠ a → z ≠ b → z ≠ c → z ≠ d → z ≠ e → m z = m0 z) :
    m = fun z => if z = a then m z else if z = b then m z else if z = c then m z else if z = d then m z else if z = e then some v else m0 z := by
  funext z
  by_cases h1 : z = a
  · rw [if_pos h1]
  rw [if_neg h1]
  by_cases h2 : z = b
  · rw [if_pos h2]
  rw [if_neg h2]
  by_cases h3 : z = c
  · rw [if_pos h3]
  rw [if_neg h3]
  by_cases h4 : z = d
  · rw [if_pos h4]
  rw [if_neg h4]
  by_cases h5 : z = e
  · rw [if_pos h5, h5, he]
  rw [if_neg h5]
  exact h' z h1 h2 h3 h4 h5
theorem ov70 {m m0 : Str → Option Value} {a b c d e f g : Str} (h' : ∀ z, z ≠ a → z ≠ b → z ≠ c → z ≠ d → z ≠ e → z ≠ f → z ≠ g → m z = m0 z) :
    m = fun z => if z = a then m z else if z = b then m z else if z = c then m z else if z = d then m z else if z = e then m z else if z = f then m z else if z = g then m z else m0 z := by
  funext z
  by_cases h1 : z = a
  · rw [if_pos h1]
  rw [if_neg h1]
  by_cases h2 : z = b
  · rw [if_pos h2]
  rw [if_neg h2]
  by_cases h3 : z = c
  · rw [if_pos h3]
  rw [if_neg h3]
  by_cases h4 : z = d
  · rw [if_pos h4]
  rw [if_neg h4]
  by_cases h5 : z = e
  · rw [if_pos h5]
  rw [if_neg h5]
  by_cases h6 : z = f
  · rw [if_pos h6]
  rw [if_neg h6]
  by_cases h7 : z = g
  · rw [if_pos h7]
  rw [if_neg h7]
  exact h' z h1 h2 h3 h4 h5 h6 h7
noncomputable def JOut (m0 : Str → Option Value) (I R : Addr) (news : List (Addr × Obj)) (seen terms : List Int) (i : Nat) (m : Str → Option Value) (nx : List (Addr × Obj)) (g : Array GenState) : Prop :=
  AllBare g ∧ ∃ (u : Str → Option Value) (vq : List Value) (nq : Nat) (nw : List (Addr × Obj)) (o1 k1 o2 k2 : Obj) (c1 c2 : Addr),
    nx = (R, W.listOf vq.toArray nq) :: (30, o1) :: (c1, k1) :: (37, o2) :: (c2, k2) :: nw ∧ TabSt 30 32 4 q30 o1 c1 k1 ∧ TabSt 37 47 4 q37 o2 c2 k2 ∧ @Ne Nat c1 37 ∧ @Ne Nat c2 30 ∧
    @Ne Nat c1 R ∧ @Ne Nat c2 R ∧ @Ne Nat c1 I ∧ @Ne Nat c2 I ∧ (∀ p ∈ news, p ∈ nw) ∧ Off 30 nw ∧ Off 37 nw ∧ Off R nw ∧ Off I nw ∧ RowsAre nw vq ((terms.take i).map (rowOf seen seen.length)) ∧ vq.length = i ∧
    m = (fun z => if z = Str.ofString "term" then u z else if z = Str.ofString "row" then u z else if z = Str.ofString "mark" then u z else if z = Str.ofString "kind" then u z else if z = Str.ofString "size" then u z else if z = Str.ofString "rounds" then u z else if z = Str.ofString "spot" then u z else m0 z)
noncomputable def JIn (m0 : Str → Option Value) (D : Addr) (rest : List (Addr × Obj)) (seen : List Int) (term : Int) (c10 c20 : Addr) (i : Nat) (m : Str → Option Value) (nx : List (Addr × Obj)) : Prop :=
  ∃ (u : Str → Option Value) (dv : List Value) (nd : Nat) (o1 k1 o2 k2 : Obj) (c1 c2 : Addr) (t : Tok),
    nx = (D, W.listOf dv.toArray nd) :: (30, o1) :: (c1, k1) :: (37, o2) :: (c2, k2) :: rest ∧ TabSt 30 32 4 q30 o1 c1 k1 ∧ TabSt 37 47 4 q37 o2 c2 k2 ∧ @Ne Nat c1 37 ∧ @Ne Nat c2 30 ∧
    (c1 = c10 ∨ @LT.lt Nat _ D c1 ∧ ∀ q ∈ rest, @LT.lt Nat _ q.1 c1) ∧ (c2 = c20 ∨ @LT.lt Nat _ D c2 ∧ ∀ q ∈ rest, @LT.lt Nat _ q.1 c2) ∧ IntsAre dv (rowAt seen seen.length term i) ∧
    m = (fun z => if z = Str.ofString "kind" then u z else if z = Str.ofString "size" then u z else if z = Str.ofString "rounds" then u z else if z = Str.ofString "spot" then u z else if z = Str.ofString "mark" then some (.int (markAt seen.length term i) t) else m0 z)
namespace seg_law_wound
noncomputable def body : (P_1 : World → Heap → Addr → (Str → Option Value) → List (Addr × Obj) → Shared → (Value → Shared → Prop) → (Value → Shared → Prop) → Addr → Addr → List Value → List Value → List Int → List Int → Nat → Nat → Obj → Obj → Obj → Obj → Addr → Addr → Nat → Option (List Code) → Nat → Program → List Str → (ExcName → Option Value) → (Str → Option Value) → (Str → Option Value) → Around → Heap → List Env → Env → Heap → Addr → Heap → Prop) ×' ((∀ a b c d e f g h i j k l m n o p q r s t u v w x y z a1 b1 c1 d1 e1 f1 g1 h1 i1 j1 k1, P_1 a b c d e f g h i j k l m n o p q r s t u v w x y z a1 b1 c1 d1 e1 f1 g1 h1 i1 j1 k1) → (∀ (w : World) (A : Around) (h₀ : Heap) (L : Addr) (m : Str → Option Value) (news : List (Addr × Obj)) (s : Shared)
  (Q E : Value → Shared → Prop) (SE TE : Addr) (ss ts : List Value) (seen terms : List Int) (nS nT : Nat) (o1 k1 o2 k2 : Obj) (c1 c2 : Addr),
  Site w A h₀ L → Fr h₀ L s.heap m → News h₀ L s.heap ((30, o1) :: (c1, k1) :: (37, o2) :: (c2, k2) :: news) → Off 30 news → Off 37 news → @Ne Nat c1 37 → @Ne Nat c2 30 → TabSt 30 32 4 q30 o1 c1 k1 → TabSt 37 47 4 q37 o2 c2 k2 →
  AllBare s.gens → A.depth + 200 < recursionLimit → A.units + 2000 < cLine →
  (SE, W.listOf ss.toArray nS) ∈ news → (TE, W.listOf ts.toArray nT) ∈ news → IntsAre ss seen → IntsAre ts terms → 5 ≤ seen.length → seen.length ≤ 9 → terms.length ≤ 5 → (∀ t ∈ terms, Term t) →
  (∀ R vs nR nw o1' k1' c1' o2' k2' c2' h' tk' g', AllBare g' → Fr h₀ L h' m → News h₀ L h' ((R, W.listOf (List.toArray vs) nR) :: (30, o1') :: (c1', k1') :: (37, o2') :: (c2', k2') :: nw) → TabSt 30 32 4 q30 o1' c1' k1' → TabSt 37 47 4 q37 o2' c2' k2' →
     @Ne Nat c1' 37 → @Ne Nat c2' 30 → Off 30 nw → Off 37 nw → (∀ p ∈ news, p ∈ nw) → RowsAre nw vs (terms.map (rowOf seen seen.length)) → @LT.lt Nat _ 30 R → @LT.lt Nat _ 37 R → Q (.ref R) { s with heap := h', toks := tk', gens := g' }) →
  wpAny (model Prog w) A (call (.ref 100) [.ref SE, .ref TE]) Q E s)) := by
  refine' ⟨_, fun k_1 => ?main⟩
  case main =>
    unfold Site Prog
    intro w A h₀ L m news s Q E SE TE ss ts seen terms nS nT o1 k1 o2 k2 c1 c2 hS F N hR1 hR2 hn1 hn2 hT1 hT2 hgb hd hu hSE hTE hIs hIt h5 hs9 hl5 htm hret
    refine byC fun hGZ => ?_
    obtain ⟨hd0, dp, fr, gd, un⟩ := A
    obtain ⟨p, loose, mean, mg, mb, A₀, base, outer, env, B, X, T, hA, hf, hke, hh, C1, C2⟩ := hS
    dsimp only at hA hh hd hu
    subst hA
    subst hh
    refine hGZ ?_; clear hGZ
    refine wpAny_call ?_
    k_dflt (refine' code_def ?k1 ?k2 ?k3 ?k4 ?k5 ?kA ?kF ?kK ?k6 ?k7 ?k8 ?k9 ?kB ?_ ?c2 ?c3 ?c4 ?c5; (case kA => exact rfl); (case kF => exact hf); (case kK => exact hke); (case k1 => k_asm); (case k2 => k_asm); (case k3 => k_asm); (case k4 => k_asm); (case k5 => k_asm); (case k6 => k_is); (case k7 => k_is); (case k8 => ktr_room); (case k9 => exact BindsTo.of_eq rfl); (case c5 => decide); (case kB => exact locs rfl); (case c2 => exact rfl); (case c3 => exact rfl); (case c4 => exact rfl); k_whole; intro g' L' h' FG' F' N' B' X' T'; (try dsimp only); (try k_fold))
    have C1' : CodeHd g' 34 30 := C1.keeps FG'.keep
    have C2' : CodeHd g' 41 37 := C2.keeps FG'.keep
    revert F N hR1 hR2 hn1 hn2 hT1 hT2 hgb hSE hTE hIs hIt h5 hs9 hl5 htm hret hd hu B X T hf hke C1 C2 FG' F' N' B' X' T' qk ek C1' C2'
    exact k_1 w h₀ L m news s Q E SE TE ss ts seen terms nS nT o1 k1 o2 k2 c1 c2 dp gd un p loose mean mg mb A₀ base outer env g' L' h'
namespace sA
noncomputable abbrev tyC := (World × Heap × Addr × (Str → Option Value) × (List (Addr × Obj)) × Shared × (Value → Shared → Prop) × (Value → Shared → Prop)) × (Addr × Addr × List Value × List Value × List Int × List Int × Nat × Nat) × (Obj × Obj × Obj × Obj × Addr × Addr × Nat × Option (List Code)) × (Nat × Program × List Str × (ExcName → Option Value) × (Str → Option Value) × (Str → Option Value) × Around × Heap) × (List Env × Env × Heap × Addr × Heap)
def prP := body.1
def prQ (x : tyC) : Prop := prP x.1.1 x.1.2.1 x.1.2.2.1 x.1.2.2.2.1 x.1.2.2.2.2.1 x.1.2.2.2.2.2.1 x.1.2.2.2.2.2.2.1 x.1.2.2.2.2.2.2.2 x.2.1.1 x.2.1.2.1 x.2.1.2.2.1 x.2.1.2.2.2.1 x.2.1.2.2.2.2.1 x.2.1.2.2.2.2.2.1 x.2.1.2.2.2.2.2.2.1 x.2.1.2.2.2.2.2.2.2 x.2.2.1.1 x.2.2.1.2.1 x.2.2.1.2.2.1 x.2.2.1.2.2.2.1 x.2.2.1.2.2.2.2.1 x.2.2.1.2.2.2.2.2.1 x.2.2.1.2.2.2.2.2.2.1 x.2.2.1.2.2.2.2.2.2.2 x.2.2.2.1.1 x.2.2.2.1.2.1 x.2.2.2.1.2.2.1 x.2.2.2.1.2.2.2.1 x.2.2.2.1.2.2.2.2.1 x.2.2.2.1.2.2.2.2.2.1 x.2.2.2.1.2.2.2.2.2.2.1 x.2.2.2.1.2.2.2.2.2.2.2 x.2.2.2.2.1 x.2.2.2.2.2.1 x.2.2.2.2.2.2.1 x.2.2.2.2.2.2.2.1 x.2.2.2.2.2.2.2.2
noncomputable def inI : tyC := ((aWorld 0, default, default, default, default, {}, default, default), default, default, (0, default, default, default, default, default, callerA, default), default)
def epC : tyC := eps inI prQ
@[irreducible] def w := epC.1.1
@[irreducible] def h₀ := epC.1.2.1
@[irreducible] def m := epC.1.2.2.2.1
@[irreducible] def news := epC.1.2.2.2.2.1
@[irreducible] def SE := epC.2.1.1
@[irreducible] def TE := epC.2.1.2.1
@[irreducible] def ss := epC.2.1.2.2.1
@[irreducible] def ts := epC.2.1.2.2.2.1
@[irreducible] def seen := epC.2.1.2.2.2.2.1
@[irreducible] def terms := epC.2.1.2.2.2.2.2.1
@[irreducible] def nS := epC.2.1.2.2.2.2.2.2.1
@[irreducible] def nT := epC.2.1.2.2.2.2.2.2.2
@[irreducible] def o1 := epC.2.2.1.1
@[irreducible] def k1 := epC.2.2.1.2.1
@[irreducible] def o2 := epC.2.2.1.2.2.1
@[irreducible] def k2 := epC.2.2.1.2.2.2.1
@[irreducible] def c1 := epC.2.2.1.2.2.2.2.1
@[irreducible] def c2 := epC.2.2.1.2.2.2.2.2.1
@[irreducible] def un := epC.2.2.2.1.1
@[irreducible] def p := epC.2.2.2.1.2.1
@[irreducible] def g' := epC.2.2.2.2.2.2.1
@[irreducible] def L' := epC.2.2.2.2.2.2.2.1
namespace seg_sA_main
noncomputable def body : (P_1 : Addr → Heap → Nat → Addr → Nat → Obj → Heap → Nat → (Str → Option Value) → Heap → Nat → Array GenState → Obj → (Str → Option Value) → List Value → Nat → List (Addr × Obj) → Obj → Obj → Obj → Obj → Addr → Addr → Int → Tok → Prop) ×' ((∀ a b c d e f g h i j k l m n o p q r s t u v w x y, P_1 a b c d e f g h i j k l m n o p q r s t u v w x y) → (prP w h₀ epC.1.2.2.1 m news epC.1.2.2.2.2.2.1 epC.1.2.2.2.2.2.2.1 epC.1.2.2.2.2.2.2.2 SE TE ss ts seen terms nS nT o1 k1 o2 k2 c1 c2 epC.2.2.1.2.2.2.2.2.2.1 epC.2.2.1.2.2.2.2.2.2.2 un p epC.2.2.2.1.2.2.1 epC.2.2.2.1.2.2.2.1 epC.2.2.2.1.2.2.2.2.1 epC.2.2.2.1.2.2.2.2.2.1 epC.2.2.2.1.2.2.2.2.2.2.1 epC.2.2.2.1.2.2.2.2.2.2.2 epC.2.2.2.2.1 epC.2.2.2.2.2.1 g' L' epC.2.2.2.2.2.2.2.2)) := by
  refine' ⟨_, fun k_1 => ?main⟩
  case main =>
    intro F N hR1 hR2 hn1 hn2 hT1 hT2 hgb hSE hTE hIs hIt h5 hs9 hl5 htm hret hd hu B X T hf hke C1 C2 FG' F' N' B' X' T' qk ek C1' C2'
    k_steps
    rename Fr g' _ _ _ => F8
    rename News g' _ _ _ => N8
    obtain ⟨R, hR⟩ : ∃ d, d = adrAt (led N8) 1 := ⟨_, rfl⟩
    dsimp only [adrAt, led] at hR
    subst hR
    have N8' := news_sub (news' := (R, W.listOf (List.toArray []) 0) :: (30, o1) :: (c1, k1) :: (37, o2) :: (c2, k2) :: news) N8 fun p hp => .tail _ hp
    have lR : ∀ q ∈ (30, o1) :: (c1, k1) :: (37, o2) :: (c2, k2) :: news, @LT.lt Nat _ q.1 R := by
      (repeat (refine' List.forall_mem_cons.mpr ⟨by (try dsimp only); (first | exact om294 (by assumption) | exact om295 (by assumption) | exact om296 (by assumption) | omega), ?_⟩)); exact allLt_mem (by assumption)
    refine pyIter_list F8 N8' (by k_mem) fun I oI h9 F9 N9 lI hli => ?_
    clear N8 N8'
    (repeat ((with_reducible rename AllLt _ _ => h9z); clear h9z))
    have lRI : @LT.lt Nat _ R I := lI _ (.head _)
    have lR30 : @LT.lt Nat _ 30 R := lR _ (.head _)
    have lR37 : @LT.lt Nat _ 37 R := lR _ (.tail _ (.tail _ (.head _)))
    have lRn : ∀ q ∈ news, @LT.lt Nat _ q.1 R := fun q hq => lR q (.tail _ (.tail _ (.tail _ (.tail _ hq))))
    have lRc1 : @LT.lt Nat _ c1 R := lR _ (.tail _ (.head _))
    have lRc2 : @LT.lt Nat _ c2 R := lR _ (.tail _ (.tail _ (.tail _ (.head _))))
    clear lR
    refine' loop_it (it_list (l := TE) (vs := ts) (nn := nT)) (JOut (frm F9) I R news seen terms) ?hh hli F9 N9 ?j0 ?hJ ?turn ?fin
    case hh => exact rfl
    case j0 =>
      refine ⟨hgb, frm F9, [], 0, news, o1, k1, o2, k2, c1, c2, rfl, hT1, hT2, hn1, hn2, neN (by (first | exact om230 (by assumption) | omega)), neN (by (first | exact om230 (by assumption) | omega)), neN (by (first | exact om307 (by assumption) lRI | omega)), neN (by (first | exact om307 (by assumption) lRI | omega)), fun _ h => h, hR1, hR2, fun q hq => Nat.ne_of_lt (lRn q hq), fun q hq => Nat.ne_of_lt (Nat.lt_trans (lRn q hq) lRI), .nil, rfl, ov70 fun _ _ _ _ _ _ _ _ => rfl⟩
    case hJ =>
      intro i m nx g pGZ4
      refine byC fun hGZ => ?_
      obtain ⟨_, u, vq, nq, nw, o1', k1', o2', k2', c1', c2', rfl, _, _, _, _, e1, e2, e3, e4, hs, f1, f2, f3, f4, _⟩ := pGZ4
      refine hGZ ?_; clear hGZ
      refine ⟨fun p hp => ?_, fun y hy => ?_⟩
      · rw [List.mem_singleton.mp hp]
        exact .tail _ (.tail _ (.tail _ (.tail _ (.tail _ (hs _ hTE)))))
      · rw [List.mem_singleton.mp hy]
        exact off_cons.mpr ⟨neN (by (first | exact om230 lRI | omega)), off_cons.mpr ⟨neN (by (first | exact om308 (by assumption) lRI | omega)), off_cons.mpr ⟨e3, off_cons.mpr ⟨neN (by (first | exact om309 (by assumption) lRI | omega)), off_cons.mpr ⟨e4, f4⟩⟩⟩⟩⟩
    case turn =>
      intro i v ex own m9 nx h8 tk8 g8 hi pGZ10 pGZ11 pGZ12
      refine byC fun hGZ => ?_
      obtain ⟨hv, rfl⟩ := pGZ10
      obtain ⟨o9, rfl, hoc, hod⟩ := pGZ11
      obtain ⟨hgb8, u, vq, nq, nw, o1', k1', o2', k2', c1', c2', rfl, hT1', hT2', en1, en2, e1, e2, e3, e4, hs, f1, f2, f3, f4, hrows, hvl, hm⟩ := pGZ12
      refine hGZ ?_; clear hGZ
      intro F7 N7 _ hap
      have hi' : i < terms.length := by rw [← hIt.length]; exact hi
      refine byC fun hGZ => ?_
      obtain ⟨term, hti, htt⟩ : ∃ t, terms[i]? = some t ∧ Term t := ⟨terms[i], List.getElem?_eq_getElem hi', htm _ (List.getElem_mem hi')⟩
      obtain ⟨tt, hx0⟩ := hIt.get i term hti
      refine hGZ ?_; clear hGZ
      rw [hx0] at hv
      cases hv
      refine wpAny_assign_Name ?_
      simp only [List.nil_append, List.cons_append] at N7
      rw [hm] at F7
      dsimp only [frm] at F7
      replace e1 : Hid _ := e1
      replace e2 : Hid _ := e2
      replace e3 : Hid _ := e3
      replace e4 : Hid _ := e4
      replace hn1 : Hid _ := hn1
      replace hn2 : Hid _ := hn2
      replace en1 : Hid _ := en1
      replace en2 : Hid _ := en2
      have htt' : Hid (Term term) := htt
      clear htt
      rename_i _ tnz1 _ tnz2 tnz3 tnz4 tnz5 _ _ tnz6 tnz7 tnz8 tnz9 tnz10 tnz11 tnz12
      revert F N hR1 hR2 hT1 hT2 hgb hSE hTE hIs hIt h5 hs9 hl5 htm hret hd hu B X T hf hke C1 C2 FG' B' X' T' qk ek C1' C2' tnz2 tnz3 tnz4 tnz5 tnz7 tnz8 tnz9 tnz10 tnz11 F8 F9 N9 lI hli lRI lR30 lR37 lRn lRc1 lRc2 hi hoc hod hgb8 hT1' hT2' hs f1 f2 f3 f4 hrows hvl hm F7 N7 tnz12 hap hi' hti hx0 e1 e2 e3 e4 hn1 hn2 en1 en2 htt'
      exact k_1 tnz1 tnz6 tk R I oI h9 i m9 h8 tk8 g8 o9 u vq nq nw o1' k1' o2' k2' c1' c2' term tt
    case fin =>
      intro m9 nx h8 tk8 g8 pGZ5
      refine byC fun hGZ => ?_
      obtain ⟨hgb8, u, vq, nq, nw, o1', k1', o2', k2', c1', c2', rfl, hT1', hT2', en1, en2, e1, e2, e3, e4, hs, f1, f2, f3, f4, hrows, hvl, hm⟩ := pGZ5
      refine hGZ ?_; clear hGZ
      intro F7 N7
      rw [hm] at F7
      dsimp only [frm] at F7
      rw [List.take_of_length_le (by rw [hIt.length]; exact Nat.le_refl _)] at hrows
      k_steps
      exact hret R vq nq nw o1' k1' c1' o2' k2' c2' _ _ _ hgb8 (by assumption) (by assumption) hT1' hT2' en1 en2 f1 f2 hs hrows lR30 lR37
namespace tn
noncomputable abbrev tyC := (Addr × Heap × Nat × Addr × Nat × Obj × Heap × Nat) × ((Str → Option Value) × Heap × Nat × Array GenState × Obj × (Str → Option Value) × List Value × Nat) × ((List (Addr × Obj)) × Obj × Obj × Obj × Obj × Addr × Addr × Int) × Tok
def prP := body.1
def prQ (x : tyC) : Prop := prP x.1.1 x.1.2.1 x.1.2.2.1 x.1.2.2.2.1 x.1.2.2.2.2.1 x.1.2.2.2.2.2.1 x.1.2.2.2.2.2.2.1 x.1.2.2.2.2.2.2.2 x.2.1.1 x.2.1.2.1 x.2.1.2.2.1 x.2.1.2.2.2.1 x.2.1.2.2.2.2.1 x.2.1.2.2.2.2.2.1 x.2.1.2.2.2.2.2.2.1 x.2.1.2.2.2.2.2.2.2 x.2.2.1.1 x.2.2.1.2.1 x.2.2.1.2.2.1 x.2.2.1.2.2.2.1 x.2.2.1.2.2.2.2.1 x.2.2.1.2.2.2.2.2.1 x.2.2.1.2.2.2.2.2.2.1 x.2.2.1.2.2.2.2.2.2.2 x.2.2.2
noncomputable def inI : tyC := default
def epC : tyC := eps inI prQ
@[irreducible] def R := epC.1.2.2.2.1
@[irreducible] def I := epC.1.2.2.2.2.1
@[irreducible] def i := epC.1.2.2.2.2.2.2.2
@[irreducible] def m9 := epC.2.1.1
@[irreducible] def h8 := epC.2.1.2.1
@[irreducible] def tk8 := epC.2.1.2.2.1
@[irreducible] def g8 := epC.2.1.2.2.2.1
@[irreducible] def o9 := epC.2.1.2.2.2.2.1
@[irreducible] def u := epC.2.1.2.2.2.2.2.1
@[irreducible] def vq := epC.2.1.2.2.2.2.2.2.1
@[irreducible] def nq := epC.2.1.2.2.2.2.2.2.2
@[irreducible] def nw := epC.2.2.1.1
@[irreducible] def o1' := epC.2.2.1.2.1
@[irreducible] def k1' := epC.2.2.1.2.2.1
@[irreducible] def o2' := epC.2.2.1.2.2.2.1
@[irreducible] def k2' := epC.2.2.1.2.2.2.2.1
@[irreducible] def c1' := epC.2.2.1.2.2.2.2.2.1
@[irreducible] def c2' := epC.2.2.1.2.2.2.2.2.2.1
@[irreducible] def term := epC.2.2.1.2.2.2.2.2.2.2
namespace seg_tn_main
noncomputable def body : (P_1 : Nat → Addr → Nat → Addr → Nat → Heap → Addr → Addr → List Value → List Value → List (Addr × Obj) → Addr → Addr → Heap → Nat → Array GenState → Addr → Addr → Addr → Addr → List (Addr × Obj) → Heap → Nat → Nat → List (Addr × Obj) → (Str → Option Value) → Heap → Nat → Array GenState → Addr → Int → Tok → (Str → Option Value) → List Value → Nat → Obj → Obj → Obj → Obj → Tok → Int → Tok → Prop) ×' (P_2 : Nat → Addr → Nat → Addr → Nat → Heap → Addr → Addr → List Value → List Value → List (Addr × Obj) → Addr → Addr → Heap → Nat → Array GenState → Addr → Addr → Addr → Addr → List (Addr × Obj) → Heap → Nat → (Str → Option Value) → Heap → Nat → Array GenState → (Str → Option Value) → List Value → Nat → Obj → Obj → Obj → Obj → Tok → Prop) ×' ((∀ a b c d e f g h i j k l m n o p q r s t u v w x y z a1 b1 c1 d1 e1 f1 g1 h1 i1 j1 k1 l1 m1 n1 o1 p1, P_1 a b c d e f g h i j k l m n o p q r s t u v w x y z a1 b1 c1 d1 e1 f1 g1 h1 i1 j1 k1 l1 m1 n1 o1 p1) → (∀ a b c d e f g h i j k l m n o p q r s t u v w x y z a1 b1 c1 d1 e1 f1 g1 h1 i1, P_2 a b c d e f g h i j k l m n o p q r s t u v w x y z a1 b1 c1 d1 e1 f1 g1 h1 i1) → (prP epC.1.1 epC.1.2.1 epC.1.2.2.1 R I epC.1.2.2.2.2.2.1 epC.1.2.2.2.2.2.2.1 i m9 h8 tk8 g8 o9 u vq nq nw o1' k1' o2' k2' c1' c2' term epC.2.2.2)) := by
  refine' ⟨_, _, fun k_1 k_2 => ?main⟩
  case main =>
    intro F N hR1 hR2 hT1 hT2 hgb hSE hTE hIs hIt h5 hs9 hl5 htm hret hd hu B X T hf hke C1 C2 FG' B' X' T' qk ek C1' C2' tnz2 tnz3 tnz4 tnz5 tnz7 tnz8 tnz9 tnz10 tnz11 F8 F9 N9 lI hli lRI lR30 lR37 lRn lRc1 lRc2 hi hoc hod hgb8 hT1' hT2' hs f1 f2 f3 f4 hrows hvl hm F7 N7 tnz12 hap hi' hti hx0 e1 e2 e3 e4 hn1 hn2 en1 en2 htt'
    k_steps
    rename Fr g' _ _ _ => F6
    rename News g' _ _ _ => N6
    obtain ⟨lr, hlr⟩ : ∃ d, d = adrAt (led N6) 0 := ⟨_, rfl⟩
    obtain ⟨D, hD⟩ : ∃ d, d = adrAt (led N6) 2 := ⟨_, rfl⟩
    dsimp only [adrAt, led] at hlr hD
    subst hlr
    subst hD
    rename IntsAre _ (List.flatten _) => i1
    have lDlr : @LT.lt Nat _ D lr := by (first | exact om295 (by assumption) | omega)
    have lRD : @LT.lt Nat _ R D := by (first | exact om295 (by assumption) | omega)
    have l30D : @LT.lt Nat _ 30 D := by (first | exact om294 (by assumption) | omega)
    have l37D : @LT.lt Nat _ 37 D := by (first | exact om296 (by assumption) | omega)
    have lc1D : @LT.lt Nat _ c1' D := by (first | exact om295 (by assumption) | omega)
    have lc2D : @LT.lt Nat _ c2' D := by (first | exact om295 (by assumption) | omega)
    have lID : @LT.lt Nat _ I D := by (first | exact om295 (by assumption) | omega)
    have lnD : AllLt D nw := by assumption
    have lnr : AllLt lr nw := by assumption
    refine byC fun hGZ => ?_
    obtain ⟨rv, hrm, hIr⟩ : ∃ rv : List Value, (lr, W.listOf rv.toArray 0) ∈ led N6 ∧ IntsAre rv [(seen.length : Int), term, 0, 7] := ⟨_, List.Mem.head _, .cons _ _ (.cons _ _ (.cons _ _ (.cons _ _ .nil)))⟩
    obtain ⟨dv, hdm, hId⟩ : ∃ dv : List Value, (D, W.listOf dv.toArray 0) ∈ led N6 ∧ IntsAre dv (rowAt seen seen.length term 0) := by
      refine ⟨_, .tail _ (.tail _ (.head _)), ?_⟩
      rw [flat_rep, Int.toNat_natCast] at i1
      exact i1
    refine hGZ ?_; clear hGZ
    clear i1
    (repeat ((with_reducible rename IntsAre _ (List.flatten _) => h9z); clear h9z))
    obtain ⟨rest, hrest⟩ : ∃ rest, rest = (lr, W.listOf rv.toArray 0) :: (I, o9) :: (R, W.listOf vq.toArray nq) :: nw := ⟨_, rfl⟩
    have N5 := news_sub (news' := (D, W.listOf dv.toArray 0) :: (30, o1') :: (c1', k1') :: (37, o2') :: (c2', k2') :: rest) N6 (by
      rw [hrest]
      (repeat (refine' List.forall_mem_cons.mpr ⟨by first | exact hrm | exact hdm | k_mem, ?_⟩)); (intro p hp; repeat (first | exact hp | apply List.mem_cons_of_mem)))
    have hrr : (lr, W.listOf rv.toArray 0) ∈ rest := by rw [hrest]; exact .head _
    have hSr : (SE, W.listOf ss.toArray nS) ∈ rest := by rw [hrest]; exact .tail _ (.tail _ (.tail _ (hs _ hSE)))
    have hDr : ∀ q ∈ rest, q.1 ≠ D := by
      rw [hrest]
      refine List.forall_mem_cons.mpr ⟨neN (by (try dsimp only); (first | exact om228 (by assumption) | omega)), List.forall_mem_cons.mpr ⟨neN (by (try dsimp only); (first | exact om230 (by assumption) | omega)), List.forall_mem_cons.mpr ⟨neN (by (try dsimp only); (first | exact om230 (by assumption) | omega)), fun q hq => Nat.ne_of_lt (allLt_mem lnD q hq)⟩⟩⟩
    have h30r : Off 30 rest := by
      rw [hrest]
      exact off_cons.mpr ⟨neN (by (first | exact om310 (by assumption) | omega)), off_cons.mpr ⟨neN (by (first | exact om311 (by assumption) lRI | omega)), off_cons.mpr ⟨neN (by (first | exact om310 (by assumption) | omega)), f1⟩⟩⟩
    have h37r : Off 37 rest := by
      rw [hrest]
      exact off_cons.mpr ⟨neN (by (first | exact om255 (by assumption) | omega)), off_cons.mpr ⟨neN (by (first | exact om312 (by assumption) lRI | omega)), off_cons.mpr ⟨neN (by (first | exact om255 (by assumption) | omega)), f2⟩⟩⟩
    clear hrm hdm N6
    (repeat ((with_reducible rename AllLt lr _ => h9z); clear h9z))
    refine call_ruler (l := lr) ?room X' T' hgb8 F6 N5 fun G Lg own h1 tk1 g1 hru F1 N1 lL lG ha => ?_
    case room => (try simp only [depth_deeper]); (try dsimp only); (first | exact om313 hd | omega)
    k_steps
    refine call_zip (lo := W.listOf rv.toArray 0) (N := seen.length + 5) (out := outOf seen.length term) (hru (W.listOf rv.toArray 0) (seen.length + 5) (outOf seen.length term)) F1 N1 ha (.tail _ (.tail _ (.tail _ (.tail _ (.tail _ hSr))))) fun z TI TO i1 own2 h2 tk2 hzp F2 N2 ha2 => ?_
    k_steps
    have hzI : IsZip h2 z TI TO .none := by
      obtain ⟨_, _, _, _, rfl, _⟩ := hzp
      exact (N2 _ (.head _)).1
    refine wpAny_pyIter_zip hzI ?_
    clear hzI N1 F1 N5 F6 ha hru
    have hmk0 : frm F2 (Str.ofString "mark") = some (.int 0 (tokOf (frm F2 (Str.ofString "mark")))) := rfl
    have hroom : un = un := rfl
    refine' loop_t (it_zip (h₀ := g') (N := seen.length + 5) (out := outOf seen.length term) rfl ?hroom2 X' T' rfl hIr ?hz2 (go_out h5 hs9 htt') ?hN2 ?hx2) (JIn (frm F2) D rest seen term c1' c2') ?h02 F2 N2 ha2 ?j02 ?hJ2 ?turn2 ?fin2
    case hroom2 => (try simp only [depth_deeper]); (try dsimp only); (first | exact om313 hd | omega)
    case hz2 => intro e; have := Option.some.inj e; omega
    case hN2 => rw [hIs.length]; (first | exact om314 | omega)
    case hx2 => intro i _; cases i; exact ⟨_, rfl⟩; exact ⟨_, rfl⟩
    case h02 => exact hzp
    case j02 => exact ⟨frm F2, dv, 0, o1', k1', o2', k2', c1', c2', _, rfl, hT1', hT2', en1, en2, .inl rfl, .inl rfl, hId, ov41 hmk0 fun _ _ _ _ _ _ => rfl⟩
    case hJ2 =>
      intro i m nx pGZ3
      refine byC fun hGZ => ?_
      obtain ⟨u, dv, nd, o1, k1, o2, k2, c1, c2, t, rfl, _⟩ := pGZ3
      refine hGZ ?_; clear hGZ
      intro p hp
      rcases List.mem_cons.mp hp with rfl | hp
      · exact .tail _ (.tail _ (.tail _ (.tail _ (.tail _ hSr))))
      · rw [List.mem_singleton.mp hp]
        exact .tail _ (.tail _ (.tail _ (.tail _ (.tail _ hrr))))
    case turn2 =>
      intro i9 v ex own m9 nx h8 tk8 g8 hi9 pGZ10 hst8 pGZ12
      refine byC fun hGZ => ?_
      obtain ⟨Dx, x, tx, y, rfl, hy, hox, rfl⟩ := pGZ10
      obtain ⟨u, dv8, nd, p1, q1, p2, q2, d1, d2, t, rfl, hU1, hU2, en1, en2, hd1, hd2, hId8, hm⟩ := pGZ12
      refine hGZ ?_; clear hGZ
      intro F7 N7 hex hap7
      have hi9' : i9 < seen.length := by rw [← hIs.length]; exact hi9
      obtain ⟨sv, hsv⟩ : ∃ v, seen[i9]? = some v := ⟨seen[i9], List.getElem?_eq_getElem hi9'⟩
      obtain ⟨tsv, hx1⟩ := hIs.get i9 sv hsv
      rw [hx1] at hy
      cases hy
      rw [hm] at F7
      dsimp only [frm] at F7
      rename_i t2z1 t2z2 t2z3 _ t2z4 t2z5 _ t2z6 t2z7 t2z8 t2z9 t2z10 t2z11 t2z12 _ t2z13 t2z14 t2z15 t2z16 t2z17 t2z18 _ t2z19 t2z20 t2z21 t2z22 t2z23 t2z24 t2z25 t2z26 _ _ _ t2z27 t2z28 t2z29 t2z30 t2z31 t2z32 t2z33 t2z34 t2z35 t2z36 t2z37 t2z38 t2z39 t2z40 t2z41 t2z42 t2z43 t2z44 t2z45 _
      revert F N hR1 hR2 hT1 hT2 hgb hSE hTE hIs hIt h5 hs9 hl5 htm hret hd hu B X T hf hke C1 C2 FG' B' X' T' qk ek C1' C2' tnz2 tnz3 tnz4 tnz5 tnz7 tnz8 tnz9 tnz10 tnz11 F9 lI hli lRI lR30 lR37 lRn lRc1 lRc2 hi hoc hod hgb8 hT1' hT2' hs f1 f2 f3 f4 hrows hvl t2z1 tnz12 hap hi' hti hx0 e1 e2 e3 e4 hn1 hn2 t2z2 t2z3 htt' t2z6 t2z7 t2z8 t2z9 t2z10 t2z11 t2z12 t2z14 t2z15 t2z16 t2z17 t2z19 t2z20 t2z21 t2z22 t2z23 t2z24 t2z25 t2z26 t2z28 t2z29 t2z30 t2z31 t2z32 t2z33 t2z34 t2z35 t2z36 t2z37 t2z38 t2z39 t2z40 t2z41 t2z42 t2z43 t2z44 t2z45 lDlr lRD l30D l37D lc1D lc2D lID lnD hIr hId hrest hrr hSr hDr h30r h37r lL lG hzp F2 N2 ha2 hmk0 hroom hi9 hst8 hox d1 d2 hU1 hU2 en1 en2 hd1 hd2 hId8 hm F7 hap7 hi9' hsv hx1 N7 hex
      exact k_1 t2z4 t2z5 t2z13 t2z18 tk t2z27 lr D rv dv rest G Lg h1 tk1 g1 z TI TO i1 own2 h2 tk2 i9 own m9 h8 tk8 g8 Dx x tx u dv8 nd p1 q1 p2 q2 t sv tsv
    case fin2 =>
      intro m9 nx h8 tk8 g8 hg8 pGZ6
      refine byC fun hGZ => ?_
      obtain ⟨u, dv8, nd, p1, q1, p2, q2, d1, d2, t, rfl, hU1, hU2, en1, en2, hd1, hd2, hId8, hm⟩ := pGZ6
      refine hGZ ?_; clear hGZ
      intro F7 N7
      rw [hm] at F7
      dsimp only [frm] at F7
      rename_i f2z1 f2z2 f2z3 _ f2z4 f2z5 _ f2z6 f2z7 f2z8 f2z9 f2z10 f2z11 f2z12 _ f2z13 f2z14 f2z15 f2z16 f2z17 f2z18 _ f2z19 f2z20 f2z21 f2z22 f2z23 f2z24 f2z25 f2z26 _ _ _ f2z27 f2z28 f2z29 f2z30 f2z31 f2z32 f2z33 f2z34 f2z35 f2z36 f2z37 f2z38 f2z39 f2z40 f2z41 f2z42 f2z43 f2z44 f2z45
      revert F N hR1 hR2 hT1 hT2 hgb hSE hTE hIs hIt h5 hs9 hl5 htm hret hd hu B X T hf hke C1 C2 FG' B' X' T' qk ek C1' C2' tnz2 tnz3 tnz4 tnz5 tnz7 tnz8 tnz9 tnz10 tnz11 F9 lI hli lRI lR30 lR37 lRn lRc1 lRc2 hi hoc hod hgb8 hT1' hT2' hs f1 f2 f3 f4 hrows hvl f2z1 tnz12 hap hi' hti hx0 e1 e2 e3 e4 hn1 hn2 f2z2 f2z3 htt' f2z6 f2z7 f2z8 f2z9 f2z10 f2z11 f2z12 f2z14 f2z15 f2z16 f2z17 f2z19 f2z20 f2z21 f2z22 f2z23 f2z24 f2z25 f2z26 f2z28 f2z29 f2z30 f2z31 f2z32 f2z33 f2z34 f2z35 f2z36 f2z37 f2z38 f2z39 f2z40 f2z41 f2z42 f2z43 f2z44 f2z45 lDlr lRD l30D l37D lc1D lc2D lID lnD hIr hId hrest hrr hSr hDr h30r h37r lL lG hzp F2 N2 ha2 hmk0 hroom hg8 d1 d2 hU1 hU2 en1 en2 hd1 hd2 hId8 hm F7 N7
      exact k_2 f2z4 f2z5 f2z13 f2z18 tk f2z27 lr D rv dv rest G Lg h1 tk1 g1 z TI TO i1 own2 h2 tk2 m9 h8 tk8 g8 u dv8 nd p1 q1 p2 q2 t
namespace t2
noncomputable abbrev tyC := (Nat × Addr × Nat × Addr × Nat × Heap × Addr × Addr) × (List Value × List Value × (List (Addr × Obj)) × Addr × Addr × Heap × Nat × Array GenState) × (Addr × Addr × Addr × Addr × (List (Addr × Obj)) × Heap × Nat × Nat) × ((List (Addr × Obj)) × (Str → Option Value) × Heap × Nat × Array GenState × Addr × Int × Tok) × ((Str → Option Value) × List Value × Nat × Obj × Obj × Obj × Obj × Tok) × (Int × Tok)
def prP := body.1
def prQ (x : tyC) : Prop := prP x.1.1 x.1.2.1 x.1.2.2.1 x.1.2.2.2.1 x.1.2.2.2.2.1 x.1.2.2.2.2.2.1 x.1.2.2.2.2.2.2.1 x.1.2.2.2.2.2.2.2 x.2.1.1 x.2.1.2.1 x.2.1.2.2.1 x.2.1.2.2.2.1 x.2.1.2.2.2.2.1 x.2.1.2.2.2.2.2.1 x.2.1.2.2.2.2.2.2.1 x.2.1.2.2.2.2.2.2.2 x.2.2.1.1 x.2.2.1.2.1 x.2.2.1.2.2.1 x.2.2.1.2.2.2.1 x.2.2.1.2.2.2.2.1 x.2.2.1.2.2.2.2.2.1 x.2.2.1.2.2.2.2.2.2.1 x.2.2.1.2.2.2.2.2.2.2 x.2.2.2.1.1 x.2.2.2.1.2.1 x.2.2.2.1.2.2.1 x.2.2.2.1.2.2.2.1 x.2.2.2.1.2.2.2.2.1 x.2.2.2.1.2.2.2.2.2.1 x.2.2.2.1.2.2.2.2.2.2.1 x.2.2.2.1.2.2.2.2.2.2.2 x.2.2.2.2.1.1 x.2.2.2.2.1.2.1 x.2.2.2.2.1.2.2.1 x.2.2.2.2.1.2.2.2.1 x.2.2.2.2.1.2.2.2.2.1 x.2.2.2.2.1.2.2.2.2.2.1 x.2.2.2.2.1.2.2.2.2.2.2.1 x.2.2.2.2.1.2.2.2.2.2.2.2 x.2.2.2.2.2.1 x.2.2.2.2.2.2
noncomputable def inI : tyC := default
def epC : tyC := eps inI prQ
@[irreducible] def D := epC.1.2.2.2.2.2.2.2
@[irreducible] def rest := epC.2.1.2.2.1
@[irreducible] def h1 := epC.2.1.2.2.2.2.2.1
@[irreducible] def z := epC.2.2.1.1
@[irreducible] def h2 := epC.2.2.1.2.2.2.2.2.1
@[irreducible] def i9 := epC.2.2.1.2.2.2.2.2.2.2
@[irreducible] def own := epC.2.2.2.1.1
@[irreducible] def Dx := epC.2.2.2.1.2.2.2.2.2.1
@[irreducible] def x := epC.2.2.2.1.2.2.2.2.2.2.1
@[irreducible] def tx := epC.2.2.2.1.2.2.2.2.2.2.2
@[irreducible] def dv8 := epC.2.2.2.2.1.2.1
@[irreducible] def nd := epC.2.2.2.2.1.2.2.1
@[irreducible] def p1 := epC.2.2.2.2.1.2.2.2.1
@[irreducible] def q1 := epC.2.2.2.2.1.2.2.2.2.1
@[irreducible] def p2 := epC.2.2.2.2.1.2.2.2.2.2.1
@[irreducible] def q2 := epC.2.2.2.2.1.2.2.2.2.2.2.1
@[irreducible] def sv := epC.2.2.2.2.2.1
@[irreducible] def tsv := epC.2.2.2.2.2.2
theorem t2_main : prP epC.1.1 epC.1.2.1 epC.1.2.2.1 epC.1.2.2.2.1 epC.1.2.2.2.2.1 epC.1.2.2.2.2.2.1 epC.1.2.2.2.2.2.2.1 D epC.2.1.1 epC.2.1.2.1 rest epC.2.1.2.2.2.1 epC.2.1.2.2.2.2.1 h1 epC.2.1.2.2.2.2.2.2.1 epC.2.1.2.2.2.2.2.2.2 z epC.2.2.1.2.1 epC.2.2.1.2.2.1 epC.2.2.1.2.2.2.1 epC.2.2.1.2.2.2.2.1 h2 epC.2.2.1.2.2.2.2.2.2.1 i9 own epC.2.2.2.1.2.1 epC.2.2.2.1.2.2.1 epC.2.2.2.1.2.2.2.1 epC.2.2.2.1.2.2.2.2.1 Dx x tx epC.2.2.2.2.1.1 dv8 nd p1 q1 p2 q2 epC.2.2.2.2.1.2.2.2.2.2.2.2 sv tsv := by
  intro F N hR1 hR2 hT1 hT2 hgb hSE hTE hIs hIt h5 hs9 hl5 htm hret hd hu B X T hf hke C1 C2 FG' B' X' T' qk ek C1' C2' tnz2 tnz3 tnz4 tnz5 tnz7 tnz8 tnz9 tnz10 tnz11 F9 lI hli lRI lR30 lR37 lRn lRc1 lRc2 hi hoc hod hgb8 hT1' hT2' hs f1 f2 f3 f4 hrows hvl t2z1 tnz12 hap hi' hti hx0 e1 e2 e3 e4 hn1 hn2 t2z2 t2z3 htt' t2z6 t2z7 t2z8 t2z9 t2z10 t2z11 t2z12 t2z14 t2z15 t2z16 t2z17 t2z19 t2z20 t2z21 t2z22 t2z23 t2z24 t2z25 t2z26 t2z28 t2z29 t2z30 t2z31 t2z32 t2z33 t2z34 t2z35 t2z36 t2z37 t2z38 t2z39 t2z40 t2z41 t2z42 t2z43 t2z44 t2z45 lDlr lRD l30D l37D lc1D lc2D lID lnD hIr hId hrest hrr hSr hDr h30r h37r lL lG hzp F2 N2 ha2 hmk0 hroom hi9 hst8 hox d1 d2 hU1 hU2 en1 en2 hd1 hd2 hId8 hm F7 hap7 hi9' hsv hx1 N7 hex
  have hlt := hex _ (.head _)
  dsimp only at hlt
  simp only [List.nil_append, List.cons_append] at N7
  have N6 := news_sub (news' := (D, W.listOf dv8.toArray nd) :: (Dx, ({ cls := .type "tuple", data := .seq #[.int sv tsv, .int x tx] } : Obj)) :: (30, p1) :: (d1, q1) :: (37, p2) :: (d2, q2) :: (own ++ rest)) N7 (by
    (repeat (refine' List.forall_mem_cons.mpr ⟨by k_mem, ?_⟩))
    intro p hp
    rcases List.mem_append.mp hp with hp | hp
    · exact .tail _ (List.mem_append_left _ hp)
    · exact .tail _ (List.mem_append_right _ (.tail _ (.tail _ (.tail _ (.tail _ (.tail _ hp)))))))
  have lDx : @LT.lt Nat _ D Dx := hlt _ (List.mem_append_right _ (.head _))
  have hDo : ∀ q ∈ own, q.1 ≠ D := fun q hq e => hap7 q hq _ (.head _) e.symm
  have h30o : ∀ q ∈ own, @Ne Nat q.1 30 := fun q hq e => hap7 q hq _ (.tail _ (.head _)) e.symm
  have h37o : ∀ q ∈ own, @Ne Nat q.1 37 := fun q hq e => hap7 q hq _ (.tail _ (.tail _ (.tail _ (.head _)))) e.symm
  have hmb := mark_bounds hs9 htt' (i := i9 + 1) (by (first | exact om315 hs9 hi9' | omega))
  rw [← mark_step i9 hox] at hmb
  obtain ⟨hmb1, hmb2⟩ := hmb
  clear hex hlt N7
  replace hd1 : Hid _ := hd1
  replace hd2 : Hid _ := hd2
  k_steps
  rename Fr g' _ _ _ => F5
  rename News g' _ _ _ => N5
  refine' int_divmod 3 w _ g' L' _ ((D, W.listOf dv8.toArray nd) :: (Dx, _) :: (own ++ rest)) _ _ _ (markAt seen.length term i9 + x) (seen.length : Int) _ _ p1 q1 p2 q2 d1 d2 (site_in B' X' T' rfl rfl rfl C1' C2') F5 (news_sub N5 ?hs3) ?o30 ?o37 en1 en2 hU1 hU2 ?d3 ?u3 (by (first | exact om316 h5 | omega)) ?rk3 ?ba3 ?bb3 ?h3
  case hs3 => (repeat (refine' List.forall_mem_cons.mpr ⟨by k_mem, ?_⟩)); (intro p hp; repeat (first | exact hp | apply List.mem_cons_of_mem))
  case o30 => exact off_cons.mpr ⟨neN (by (first | exact om310 (by assumption) | omega)), off_cons.mpr ⟨neN (by (first | exact om317 (by assumption) lRI (by assumption) lDx | omega)), off_app h30o h30r⟩⟩
  case o37 => exact off_cons.mpr ⟨neN (by (first | exact om255 (by assumption) | omega)), off_cons.mpr ⟨neN (by (first | exact om318 (by assumption) lRI (by assumption) lDx | omega)), off_app h37o h37r⟩⟩
  case d3 => (try simp only [depth_deeper]); (try dsimp only); (first | exact om268 hd | omega)
  case u3 => (try simp only [units_deeper]); (try dsimp only); (first | exact om269 hu | omega)
  case rk3 => split <;> split <;> (first | exact om270 | exact om271 | exact om272 | exact om273 | omega)
  case ba3 => exact Nat.le_trans (intBits_le_64 (by (first | exact om319 hmb1 | omega)) (by (first | exact om320 hmb2 | omega))) (by decide)
  case bb3 => exact Nat.le_trans (intBits_le_64 (by (first | exact om321 | omega)) (by (first | exact om322 hs9 | omega))) (by decide)
  case h3 =>
    intro r9 u1 u2 p1a q1a d1a p2a q2a d2a h5 tk5 F4 N4 S1a S2a e1a e2a n1a n2a l5
    obtain ⟨M, hM⟩ : ∃ M, M = markAt seen.length term i9 + x := ⟨_, rfl⟩
    rw [← hM] at hmb1 hmb2 N4
    have hs0 : 0 ≤ Int.fmod M (seen.length : Int) := by rw [Int.fmod_eq_emod_of_nonneg _ (by (first | exact om53 | omega))]; exact Int.emod_nonneg _ (by (first | exact om316 (by assumption) | omega))
    have hs1 : Int.fmod M (seen.length : Int) < (seen.length : Int) := by rw [Int.fmod_eq_emod_of_nonneg _ (by (first | exact om53 | omega))]; exact Int.emod_lt_of_pos _ (by (first | exact om26 (by assumption) | omega))
    have hback : Int.fdiv M (seen.length : Int) * (seen.length : Int) + Int.fmod M (seen.length : Int) = M := by rw [Int.mul_comm]; exact Int.mul_fdiv_add_fmod ..
    have hq0 : -20 ≤ Int.fdiv M (seen.length : Int) ∧ Int.fdiv M (seen.length : Int) ≤ 30 := by
      rw [Int.fdiv_eq_ediv_of_nonneg _ (by (first | exact om53 | omega))]
      exact ⟨Int.le_ediv_of_mul_le (by (first | exact om26 (by assumption) | omega)) (by (first | exact om323 hmb1 hs0 hs1 | omega)), by
        have := Int.ediv_lt_of_lt_mul (a := M) (b := 31) (c := (seen.length : Int)) (by (first | exact om26 (by assumption) | omega)) (by (first | exact om324 hmb2 hs0 hs1 | omega))
        (first | exact om325 this | omega)⟩
    have hmulq : IntMulOk (Int.fdiv M (seen.length : Int)) (seen.length : Int) := IntMulOk.of_left (intBits_le_64 (by (first | exact om326 hq0 | omega)) (by (first | exact om327 hq0 | omega)))
    have hrl := hId8.length
    rw [rowAt_length] at hrl
    have hs2 : Int.fmod M (seen.length : Int) < ((rowAt seen seen.length term i9).length : Int) := by rw [rowAt_length]; exact hs1
    have ne1 : @Ne Nat d1a D := by
      rcases e1a with rfl | e1a
      · rcases hd1 with rfl | hd1
        · exact neN (by (first | exact om230 (by assumption) | omega))
        · have := hd1.1; exact neN (by (first | exact om328 hd1 | omega))
      · have h99 : @LT.lt Nat _ D d1a := e1a _ (.head _)
        exact neN (by (first | exact om228 h99 | omega))
    have ne2 : @Ne Nat d2a D := by
      rcases e2a with rfl | e2a
      · rcases hd2 with rfl | hd2
        · exact neN (by (first | exact om230 (by assumption) | omega))
        · have := hd2.1; exact neN (by (first | exact om328 hd2 | omega))
      · have h99 : @LT.lt Nat _ D d2a := e2a _ (.head _)
        exact neN (by (first | exact om228 h99 | omega))
    replace e1a : Hid _ := e1a
    replace e2a : Hid _ := e2a
    replace n1a : Hid _ := n1a
    replace n2a : Hid _ := n2a
    have lr9 : @LT.lt Nat _ D r9 := l5 _ (.tail _ (.tail _ (.tail _ (.tail _ (.head _)))))
    k_steps
    · exact absurd (hback.trans hM) (by assumption)
    rename Fr g' _ _ _ => F3
    rename News g' _ _ _ => N3
    rename IntsAre _ (List.set _ _ _) => I3
    have hrow : (rowAt seen seen.length term i9).set (Int.fmod M (seen.length : Int)).toNat sv = rowAt seen seen.length term (i9 + 1) := by
      simp only [rowAt]
      rw [hM, mark_step i9 hox, Int.fmod_eq_emod_of_nonneg _ (by (first | exact om53 | omega)), List.getD_eq_getElem?_getD, hsv]
      simp only [markAt, Int.add_emod_left, Option.getD_some]
    rw [hrow] at I3
    refine ⟨_, _, frm F3, (D, _) :: (30, p1a) :: (d1a, q1a) :: (37, p2a) :: (d2a, q2a) :: rest, rfl, F3, news_sub N3 ?sub3, ?ap3, frm F3, _, nd, p1a, q1a, p2a, q2a, d1a, d2a, tokOf (frm F3 (Str.ofString "mark")), rfl, S1a, S2a, n1a, n2a, ?c13, ?c23, I3, ov41 ?mk3 (fun z h1 h2 h3 h4 h5 => by dsimp only [frm]; simp [h1, h2, h3, h4, h5])⟩
    case sub3 =>
      intro p hp
      rcases List.mem_append.mp hp with hp | hp
      · exact .tail _ (.tail _ (.tail _ (.tail _ (.tail _ (.tail _ (.tail _ (List.mem_append_left _ hp)))))))
      · (iterate 5 (rcases List.mem_cons.mp hp with rfl | hp; · k_mem))
        exact .tail _ (.tail _ (.tail _ (.tail _ (.tail _ (.tail _ (.tail _ (List.mem_append_right _ hp)))))))
    case ap3 =>
      intro q hq
      have h7 := hap7 q hq
      refine off_cons.mpr ⟨h7 _ (.head _), off_cons.mpr ⟨h7 _ (.tail _ (.head _)), off_cons.mpr ⟨?_, off_cons.mpr ⟨h7 _ (.tail _ (.tail _ (.tail _ (.head _)))), off_cons.mpr ⟨?_, fun p hp => h7 p (.tail _ (.tail _ (.tail _ (.tail _ (.tail _ hp)))))⟩⟩⟩⟩⟩
      · rcases e1a with rfl | e1a
        · exact h7 _ (.tail _ (.tail _ (.head _)))
        · exact Nat.ne_of_gt (e1a q (.tail _ (.tail _ (List.mem_append_left _ hq))))
      · rcases e2a with rfl | e2a
        · exact h7 _ (.tail _ (.tail _ (.tail _ (.tail _ (.head _)))))
        · exact Nat.ne_of_gt (e2a q (.tail _ (.tail _ (List.mem_append_left _ hq))))
    case c13 =>
      rcases e1a with rfl | e1a
      · exact hd1
      · exact .inr ⟨e1a _ (.head _), fun q hq => e1a q (.tail _ (.tail _ (List.mem_append_right _ hq)))⟩
    case c23 =>
      rcases e2a with rfl | e2a
      · exact hd2
      · exact .inr ⟨e2a _ (.head _), fun q hq => e2a q (.tail _ (.tail _ (List.mem_append_right _ hq)))⟩
    case mk3 => rw [← mark_step i9 hox]; rfl
theorem all : ∀ x, prQ x := @sk tyC inI prQ (by with_unfolding_all exact @t2_main)
end t2
namespace f2
noncomputable abbrev tyC := (Nat × Addr × Nat × Addr × Nat × Heap × Addr × Addr) × (List Value × List Value × (List (Addr × Obj)) × Addr × Addr × Heap × Nat × Array GenState) × (Addr × Addr × Addr × Addr × (List (Addr × Obj)) × Heap × Nat × (Str → Option Value)) × (Heap × Nat × Array GenState × (Str → Option Value) × List Value × Nat × Obj × Obj) × (Obj × Obj × Tok)
def prP := body.2.1
def prQ (x : tyC) : Prop := prP x.1.1 x.1.2.1 x.1.2.2.1 x.1.2.2.2.1 x.1.2.2.2.2.1 x.1.2.2.2.2.2.1 x.1.2.2.2.2.2.2.1 x.1.2.2.2.2.2.2.2 x.2.1.1 x.2.1.2.1 x.2.1.2.2.1 x.2.1.2.2.2.1 x.2.1.2.2.2.2.1 x.2.1.2.2.2.2.2.1 x.2.1.2.2.2.2.2.2.1 x.2.1.2.2.2.2.2.2.2 x.2.2.1.1 x.2.2.1.2.1 x.2.2.1.2.2.1 x.2.2.1.2.2.2.1 x.2.2.1.2.2.2.2.1 x.2.2.1.2.2.2.2.2.1 x.2.2.1.2.2.2.2.2.2.1 x.2.2.1.2.2.2.2.2.2.2 x.2.2.2.1.1 x.2.2.2.1.2.1 x.2.2.2.1.2.2.1 x.2.2.2.1.2.2.2.1 x.2.2.2.1.2.2.2.2.1 x.2.2.2.1.2.2.2.2.2.1 x.2.2.2.1.2.2.2.2.2.2.1 x.2.2.2.1.2.2.2.2.2.2.2 x.2.2.2.2.1 x.2.2.2.2.2.1 x.2.2.2.2.2.2
noncomputable def inI : tyC := default
def epC : tyC := eps inI prQ
@[irreducible] def D := epC.1.2.2.2.2.2.2.2
@[irreducible] def rest := epC.2.1.2.2.1
@[irreducible] def h1 := epC.2.1.2.2.2.2.2.1
@[irreducible] def z := epC.2.2.1.1
@[irreducible] def h2 := epC.2.2.1.2.2.2.2.2.1
@[irreducible] def g8 := epC.2.2.2.1.2.2.1
@[irreducible] def dv8 := epC.2.2.2.1.2.2.2.2.1
@[irreducible] def nd := epC.2.2.2.1.2.2.2.2.2.1
@[irreducible] def p1 := epC.2.2.2.1.2.2.2.2.2.2.1
@[irreducible] def q1 := epC.2.2.2.1.2.2.2.2.2.2.2
@[irreducible] def p2 := epC.2.2.2.2.1
@[irreducible] def q2 := epC.2.2.2.2.2.1
theorem f2_main : prP epC.1.1 epC.1.2.1 epC.1.2.2.1 epC.1.2.2.2.1 epC.1.2.2.2.2.1 epC.1.2.2.2.2.2.1 epC.1.2.2.2.2.2.2.1 D epC.2.1.1 epC.2.1.2.1 rest epC.2.1.2.2.2.1 epC.2.1.2.2.2.2.1 h1 epC.2.1.2.2.2.2.2.2.1 epC.2.1.2.2.2.2.2.2.2 z epC.2.2.1.2.1 epC.2.2.1.2.2.1 epC.2.2.1.2.2.2.1 epC.2.2.1.2.2.2.2.1 h2 epC.2.2.1.2.2.2.2.2.2.1 epC.2.2.1.2.2.2.2.2.2.2 epC.2.2.2.1.1 epC.2.2.2.1.2.1 g8 epC.2.2.2.1.2.2.2.1 dv8 nd p1 q1 p2 q2 epC.2.2.2.2.2.2 := by
  intro F N hR1 hR2 hT1 hT2 hgb hSE hTE hIs hIt h5 hs9 hl5 htm hret hd hu B X T hf hke C1 C2 FG' B' X' T' qk ek C1' C2' tnz2 tnz3 tnz4 tnz5 tnz7 tnz8 tnz9 tnz10 tnz11 F9 lI hli lRI lR30 lR37 lRn lRc1 lRc2 hi hoc hod hgb8 hT1' hT2' hs f1 f2 f3 f4 hrows hvl f2z1 tnz12 hap hi' hti hx0 e1 e2 e3 e4 hn1 hn2 f2z2 f2z3 htt' f2z6 f2z7 f2z8 f2z9 f2z10 f2z11 f2z12 f2z14 f2z15 f2z16 f2z17 f2z19 f2z20 f2z21 f2z22 f2z23 f2z24 f2z25 f2z26 f2z28 f2z29 f2z30 f2z31 f2z32 f2z33 f2z34 f2z35 f2z36 f2z37 f2z38 f2z39 f2z40 f2z41 f2z42 f2z43 f2z44 f2z45 lDlr lRD l30D l37D lc1D lc2D lID lnD hIr hId hrest hrr hSr hDr h30r h37r lL lG hzp F2 N2 ha2 hmk0 hroom hg8 d1 d2 hU1 hU2 en1 en2 hd1 hd2 hId8 hm F7 N7
  have hRr : (R, W.listOf vq.toArray nq) ∈ rest := by rw [hrest]; exact .tail _ (.tail _ (.head _))
  have hIr9 : (I, o9) ∈ rest := by rw [hrest]; exact .tail _ (.head _)
  have er1 : @Ne Nat d1 R := by
    rcases hd1 with rfl | hd1
    · exact e1
    · exact Nat.ne_of_gt (hd1.2 _ hRr)
  have er2 : @Ne Nat d2 R := by
    rcases hd2 with rfl | hd2
    · exact e2
    · exact Nat.ne_of_gt (hd2.2 _ hRr)
  have ei1 : @Ne Nat d1 I := by
    rcases hd1 with rfl | hd1
    · exact e3
    · exact Nat.ne_of_gt (hd1.2 _ hIr9)
  have ei2 : @Ne Nat d2 I := by
    rcases hd2 with rfl | hd2
    · exact e4
    · exact Nat.ne_of_gt (hd2.2 _ hIr9)
  replace hd1 : Hid _ := hd1
  replace hd2 : Hid _ := hd2
  replace en1 : Hid _ := en1
  replace en2 : Hid _ := en2
  have f3' : ∀ q ∈ nw, q.1 ≠ R := f3
  have hvq5 : vq.length ≤ 5 := by rw [hvl]; (first | exact om329 hl5 hi' | omega)
  rw [hIs.length] at hId8
  rw [hrest] at N7
  k_steps
  rename Fr g' _ _ _ => F3
  rename News g' _ _ _ => N3
  rw [List.push_toArray] at N3
  refine ⟨_, _, g8, frm F3, (R, W.listOf (List.toArray (vq ++ [.ref D])) (nq + 1)) :: (30, p1) :: (d1, q1) :: (37, p2) :: (d2, q2) :: ((D, W.listOf dv8.toArray nd) :: nw), rfl, F3, news_sub N3 ?sub3, hg8, frm F3, vq ++ [.ref D], nq + 1, _, p1, q1, p2, q2, d1, d2, rfl, hU1, hU2, en1, en2, er1, er2, ei1, ei2, fun p hp => .tail _ (hs p hp), off_cons.mpr ⟨neN (by (first | exact om310 (by assumption) | omega)), f1⟩, off_cons.mpr ⟨neN (by (first | exact om255 (by assumption) | omega)), f2⟩, off_cons.mpr ⟨neN (by (first | exact om228 (by assumption) | omega)), f3⟩, off_cons.mpr ⟨neN (by (first | exact om228 (by assumption) | omega)), f4⟩, ?rows3, by rw [List.length_append, hvl]; rfl, ov70 (fun z h1 h2 h3 h4 h5 h6 h7 => by dsimp only [frm]; simp [h1, h2, h3, h4, h5, h6, h7])⟩
  case sub3 =>
    (repeat (refine' List.forall_mem_cons.mpr ⟨by k_mem, ?_⟩)); (intro p hp; repeat (first | exact hp | apply List.mem_cons_of_mem))
  case rows3 =>
    rw [List.take_add_one, hti, Option.toList_some, List.map_append, List.map_singleton]
    exact (hrows.mono fun p hp => .tail _ hp).snoc (.head _) hId8
theorem all : ∀ x, prQ x := @sk tyC inI prQ (by with_unfolding_all exact @f2_main)
end f2
end seg_tn_main
theorem tn_main : prP epC.1.1 epC.1.2.1 epC.1.2.2.1 R I epC.1.2.2.2.2.2.1 epC.1.2.2.2.2.2.2.1 i m9 h8 tk8 g8 o9 u vq nq nw o1' k1' o2' k2' c1' c2' term epC.2.2.2 := @PSigma.snd _ _ (@PSigma.snd _ _ seg_tn_main.body) (fun a b c d e f g h i j k l m n o p q r s t u v w x y z a1 b1 c1 d1 e1 f1 g1 h1 i1 j1 k1 l1 m1 n1 o1 p1 => @seg_tn_main.t2.all ((a, b, c, d, e, f, g, h), (i, j, k, l, m, n, o, p), (q, r, s, t, u, v, w, x), (y, z, a1, b1, c1, d1, e1, f1), (g1, h1, i1, j1, k1, l1, m1, n1), (o1, p1))) (fun a b c d e f g h i j k l m n o p q r s t u v w x y z a1 b1 c1 d1 e1 f1 g1 h1 i1 => @seg_tn_main.f2.all ((a, b, c, d, e, f, g, h), (i, j, k, l, m, n, o, p), (q, r, s, t, u, v, w, x), (y, z, a1, b1, c1, d1, e1, f1), (g1, h1, i1)))
theorem all : ∀ x, prQ x := @sk tyC inI prQ (by with_unfolding_all exact @tn_main)
end tn
end seg_sA_main
theorem sA_main : prP w h₀ epC.1.2.2.1 m news epC.1.2.2.2.2.2.1 epC.1.2.2.2.2.2.2.1 epC.1.2.2.2.2.2.2.2 SE TE ss ts seen terms nS nT o1 k1 o2 k2 c1 c2 epC.2.2.1.2.2.2.2.2.2.1 epC.2.2.1.2.2.2.2.2.2.2 un p epC.2.2.2.1.2.2.1 epC.2.2.2.1.2.2.2.1 epC.2.2.2.1.2.2.2.2.1 epC.2.2.2.1.2.2.2.2.2.1 epC.2.2.2.1.2.2.2.2.2.2.1 epC.2.2.2.1.2.2.2.2.2.2.2 epC.2.2.2.2.1 epC.2.2.2.2.2.1 g' L' epC.2.2.2.2.2.2.2.2 := @PSigma.snd _ _ seg_sA_main.body (fun a b c d e f g h i j k l m n o p q r s t u v w x y => @seg_sA_main.tn.all ((a, b, c, d, e, f, g, h), (i, j, k, l, m, n, o, p), (q, r, s, t, u, v, w, x), y))
theorem all : ∀ x, prQ x := @sk tyC inI prQ (by with_unfolding_all exact @sA_main)
end sA
end seg_law_wound
theorem law_wound : ∀ (w : World) (A : Around) (h₀ : Heap) (L : Addr) (m : Str → Option Value) (news : List (Addr × Obj)) (s : Shared)
  (Q E : Value → Shared → Prop) (SE TE : Addr) (ss ts : List Value) (seen terms : List Int) (nS nT : Nat) (o1 k1 o2 k2 : Obj) (c1 c2 : Addr),
  Site w A h₀ L → Fr h₀ L s.heap m → News h₀ L s.heap ((30, o1) :: (c1, k1) :: (37, o2) :: (c2, k2) :: news) → Off 30 news → Off 37 news → @Ne Nat c1 37 → @Ne Nat c2 30 → TabSt 30 32 4 q30 o1 c1 k1 → TabSt 37 47 4 q37 o2 c2 k2 →
  AllBare s.gens → A.depth + 200 < recursionLimit → A.units + 2000 < cLine →
  (SE, W.listOf ss.toArray nS) ∈ news → (TE, W.listOf ts.toArray nT) ∈ news → IntsAre ss seen → IntsAre ts terms → 5 ≤ seen.length → seen.length ≤ 9 → terms.length ≤ 5 → (∀ t ∈ terms, Term t) →
  (∀ R vs nR nw o1' k1' c1' o2' k2' c2' h' tk' g', AllBare g' → Fr h₀ L h' m → News h₀ L h' ((R, W.listOf (List.toArray vs) nR) :: (30, o1') :: (c1', k1') :: (37, o2') :: (c2', k2') :: nw) → TabSt 30 32 4 q30 o1' c1' k1' → TabSt 37 47 4 q37 o2' c2' k2' →
     @Ne Nat c1' 37 → @Ne Nat c2' 30 → Off 30 nw → Off 37 nw → (∀ p ∈ news, p ∈ nw) → RowsAre nw vs (terms.map (rowOf seen seen.length)) → @LT.lt Nat _ 30 R → @LT.lt Nat _ 37 R → Q (.ref R) { s with heap := h', toks := tk', gens := g' }) →
  wpAny (model Prog w) A (call (.ref 100) [.ref SE, .ref TE]) Q E s := @PSigma.snd _ _ seg_law_wound.body (fun a b c d e f g h i j k l m n o p q r s t u v w x y z a1 b1 c1 d1 e1 f1 g1 h1 i1 j1 k1 => @seg_law_wound.sA.all ((a, b, c, d, e, f, g, h), (i, j, k, l, m, n, o, p), (q, r, s, t, u, v, w, x), (y, z, a1, b1, c1, d1, e1, f1), (g1, h1, i1, j1, k1)))
end
theorem rules_P20 : True := by
  k_with_none
  k_with "call builtin:len" => ((k_here; (with_reducible show wpAny _ _ (call (Value.builtin "len") [Value.ref _]) _ _ _); k_dflt (refine kst_len (by k_asm) (by k_mem) (by exact IntsAre.length (by assumption)) (by omega) ?_); (try dsimp only)))
  k_with "truthy ref" => ((k_here; (with_reducible show wpAny _ _ (truthy (Value.ref _)) _ _ _); k_dflt (refine kgr_truthy (by k_asm) (by k_mem) (by exact rfl) (by exact rfl) (by (have := IntsAre.length (by assumption); omega)) ?_); (try dsimp only)))
  k_with "call builtin:list.append" => ((k_here; (with_reducible show wpAny _ _ (call (Value.builtin _) [Value.ref _, _]) _ _ _); k_dflt (refine append_K (by k_asm) (by k_asm) (by k_upd) ?_ (by (simp only [List.size_toArray]; rw [sizeLine_eq]; omega)); k_whole); intro h'r9 F'r9 N'r9; (try k_sweep)))
  k_with "call ref" => ((k_here; (with_reducible show wpAny _ _ (call (Value.ref _) _) _ _ _); refine paus ?_))
  k_with "subscriptTail Name Constant ref int" => ((k_here; (with_reducible show wpAny _ _ (subscriptTail _ _ (Value.ref _) (Value.int _ _)) _ _ _); refine paus ?_))
  k_with "exec For Name Name cons nil" => ((k_here; (with_reducible show wpAny _ _ (exec (Stmt.For _ _ _ [] _) _) _ _ _); k_dflt (refine wpAny_For ?_)))
  k_with "pyIter ref" => ((k_here; (with_reducible show wpAny _ _ (pyIter (Value.ref _)) _ _ _); refine paus ?_))
  k_with "eval ListComp" => ((k_here; k_dflt (refine lc_eval (by exact rfl) (by exact rfl) (by decide) ?_)))
  k_with "exec Assign cons ListComp" => ((k_here; k_dflt (refine wpAny_Assign_Name ?_)))
  k_with "call type:range" => ((k_here; refine paus ?_))
  k_with "call builtin:sum" => ((k_here; refine paus ?_))
  k_with "subscriptTail Name Name ref int" => ((k_here; (with_reducible show wpAny _ _ (subscriptTail _ _ (Value.ref _) (Value.int _ _)) _ _ _); k_dflt (refine ksa_sub (by k_asm) (by k_mem) (by with_reducible assumption) (by omega) (by omega) (by omega) ?_); intro t'r9))
  k_with "subscriptTail Name BinOp ref int" => ((k_here; (with_reducible show wpAny _ _ (subscriptTail _ _ (Value.ref _) (Value.int _ _)) _ _ _); k_dflt (refine ksa_sub (by k_asm) (by k_mem) (by with_reducible assumption) (by omega) (by omega) (by omega) ?_); intro t'r9))
  k_with "eval Name" => ((k_here; (with_reducible show wpAny _ _ (eval _ (compEnvC _ _ _ _)) _ _ _); k_dflt (refine ldC (by k_asm) (by exact rfl) ?_ (by exact rfl) (by exact rfl) (by decide))))
  exact trivial
noncomputable section
noncomputable def preC (kinds : List Int) (terms : List Int) (i : Nat) : List Int := (terms.take i).foldl (fun c t => cstep kinds kinds.length t c) (1 :: List.replicate (kinds.length - 1) 0)
theorem preC_length {kinds terms : List Int} (h : 1 ≤ kinds.length) : ∀ i, (preC kinds terms i).length = kinds.length := by
  intro i
  unfold preC
  suffices h2 : ∀ (l c : List Int), c.length = kinds.length → (l.foldl (fun c t => cstep kinds kinds.length t c) c).length = kinds.length by
    exact h2 _ _ (by simp; (first | exact om93 h | omega))
  intro l
  induction l with
  | nil => intro c h; exact h
  | cons t l ih => intro c _; exact ih _ cstep_length
theorem preC_snoc {kinds terms : List Int} {i : Nat} {t : Int} (h : terms[i]? = some t) : preC kinds terms (i + 1) = cstep kinds kinds.length t (preC kinds terms i) := by
  unfold preC
  rw [List.take_add_one, h, Option.toList_some, List.foldl_append]
  rfl
noncomputable def innerL (kinds pre : List Int) (term : Int) (j q : Nat) : List Int := ((List.range q).filter fun (i : Nat) => kinds.getD i 0 = 0).map fun (i : Nat) => pre.getD (((j : Int) - term * (i : Int)) % (kinds.length : Int)).toNat 0
theorem innerL_length {kinds pre : List Int} {term : Int} {j : Nat} (q : Nat) : (innerL kinds pre term j q).length ≤ q := by
  unfold innerL
  rw [List.length_map]
  exact Nat.le_trans (List.length_filter_le ..) (by simp)
theorem innerL_yes {kinds pre : List Int} {term : Int} {j q : Nat} (h : kinds.getD q 0 = 0) : innerL kinds pre term j (q + 1) = innerL kinds pre term j q ++ [pre.getD (((j : Int) - term * (q : Int)) % (kinds.length : Int)).toNat 0] := by
  unfold innerL
  rw [List.range_succ, List.filter_append, List.map_append, List.filter_cons, if_pos (by simpa using h)]
  rfl
theorem innerL_no {kinds pre : List Int} {term : Int} {j q : Nat} (h : kinds.getD q 0 ≠ 0) : innerL kinds pre term j (q + 1) = innerL kinds pre term j q := by
  unfold innerL
  rw [List.range_succ, List.filter_append, List.map_append, List.filter_cons, if_neg (by simpa using h)]
  simp
theorem innerL_all {kinds pre : List Int} {term : Int} {j : Nat} (h : j < kinds.length) : (cstep kinds kinds.length term pre)[j]? = some (innerL kinds pre term j kinds.length).sum := by
  unfold cstep innerL
  rw [List.getElem?_map, List.getElem?_range h]
  rfl
noncomputable def JC (g0 : Array GenState) (m0 : Str → Option Value) (I at3 at4 : Addr) (rest : List (Addr × Obj)) (kinds terms : List Int) (i : Nat) (m : Str → Option Value) (nx : List (Addr × Obj)) (g : Array GenState) : Prop :=
  g = g0 ∧ m = m0 ∧ ∃ (Dc : Addr) (dv : List Value) (nd : Nat) (oc ot : Obj) (ct : Option Value),
    nx = (Dc, W.listOf dv.toArray nd) :: (at3, oc) :: (at4, ot) :: rest ∧ oc.data = .cell (some (.ref Dc)) ∧ ot.data = .cell ct ∧ IntsAre dv (preC kinds terms i) ∧ @LT.lt Nat _ at4 Dc ∧ @Ne Nat Dc I ∧ (∀ q ∈ rest, @LT.lt Nat _ q.1 Dc)
namespace seg_law_counts
noncomputable def body : (P_1 : World → Heap → Addr → (Str → Option Value) → List (Addr × Obj) → Shared → (Value → Shared → Prop) → (Value → Shared → Prop) → Addr → Addr → List Value → List Value → List Int → List Int → Nat → Nat → Nat → Option (List Code) → Nat → Program → List Str → (ExcName → Option Value) → (Str → Option Value) → (Str → Option Value) → Around → Heap → List Env → Env → Heap → Addr → Heap → Nat → Obj → Obj → Obj → Obj → Prop) ×' ((∀ a b c d e f g h i j k l m n o p q r s t u v w x y z a1 b1 c1 d1 e1 f1 g1 h1 i1 j1, P_1 a b c d e f g h i j k l m n o p q r s t u v w x y z a1 b1 c1 d1 e1 f1 g1 h1 i1 j1) → (∀ (w : World) (A : Around) (h₀ : Heap) (L : Addr) (m : Str → Option Value) (news : List (Addr × Obj)) (s : Shared)
  (Q E : Value → Shared → Prop) (K TE : Addr) (ks ts : List Value) (kinds terms : List Int) (nK nT : Nat),
  Site w A h₀ L → Fr h₀ L s.heap m → News h₀ L s.heap news →
  A.depth + 20 < recursionLimit → A.units + 300 < cLine →
  (K, W.listOf ks.toArray nK) ∈ news → (TE, W.listOf ts.toArray nT) ∈ news → IntsAre ks kinds → IntsAre ts terms → 5 ≤ kinds.length → kinds.length ≤ 9 → terms.length ≤ 5 → (∀ t ∈ terms, Term t) →
  (∀ D vs n h' tk', Fr h₀ L h' m → News h₀ L h' ((D, W.listOf (List.toArray vs) n) :: news) → IntsAre vs (counted kinds kinds.length terms) → (∀ q ∈ news, @LT.lt Nat _ q.1 D) → Q (.ref D) { s with heap := h', toks := tk' }) →
  wpAny (model Prog w) A (call (.ref 112) [.ref K, .ref TE]) Q E s)) := by
  refine' ⟨_, fun k_1 => ?main⟩
  case main =>
    unfold Site Prog
    intro w A h₀ L m news s Q E K TE ks ts kinds terms nK nT hS F N hd hu hK hTE hIk hIt h5 hs9 hl5 htm hret
    refine byC fun hGZ => ?_
    obtain ⟨hd0, dp, fr, gd, un⟩ := A
    obtain ⟨p, loose, mean, mg, mb, A₀, base, outer, env, B, X, T, hA, hf, hke, hh, C1, C2⟩ := hS
    dsimp only at hA hh hd hu
    subst hA
    subst hh
    refine hGZ ?_; clear hGZ
    refine wpAny_call ?_
    k_dflt (refine' code_defC ?k1 ?k2 ?k3 ?k4 ?k5 ?kA ?kF ?kK ?k6 ?k7 ?k8 ?k9 ?kB ?kD ?_ ?c2 ?c3 ?c4; (case kA => exact rfl); (case kF => exact hf); (case kK => exact hke); (case k1 => k_asm); (case k2 => k_asm); (case k3 => k_asm); (case k4 => k_asm); (case k5 => k_asm); (case k6 => k_is); (case k7 => k_is); (case k8 => ktr_room); (case k9 => exact BindsTo.of_eq rfl); (case kB => exact rfl); (case kD => decide +kernel); (case c2 => exact rfl); (case c3 => exact rfl); (case c4 => exact rfl); k_whole; intro g' L' h' tk' cells' FG' F' N' Y' B' X' T' l1; (try k_lt l1); k_cells Y'; (try simp only [List.cons_append, List.nil_append] at N'); (try dsimp only); (try k_lift B'); (try k_fold))
    have C1' : CodeHd g' 34 30 := C1.keeps FG'.keep
    have C2' : CodeHd g' 41 37 := C2.keeps FG'.keep
    rename_i sAz1 sAz2 sAz3 sAz4 sAz5 sAz6 sAz7 sAz8
    revert F N hK hTE hIk hIt h5 hs9 hl5 htm hret hd hu B X T hf hke C1 C2 FG' F' B' X' T' l1 sAz5 sAz6 sAz7 sAz8 N' C1' C2'
    exact k_1 w h₀ L m news s Q E K TE ks ts kinds terms nK nT dp gd un p loose mean mg mb A₀ base outer env g' L' h' tk' sAz1 sAz2 sAz3 sAz4
namespace sA
noncomputable abbrev tyC := (World × Heap × Addr × (Str → Option Value) × (List (Addr × Obj)) × Shared × (Value → Shared → Prop) × (Value → Shared → Prop)) × (Addr × Addr × List Value × List Value × List Int × List Int × Nat × Nat) × (Nat × Option (List Code) × Nat × Program × List Str × (ExcName → Option Value) × (Str → Option Value) × (Str → Option Value)) × (Around × Heap × List Env × Env × Heap × Addr × Heap × Nat) × (Obj × Obj × Obj × Obj)
def prP := body.1
def prQ (x : tyC) : Prop := prP x.1.1 x.1.2.1 x.1.2.2.1 x.1.2.2.2.1 x.1.2.2.2.2.1 x.1.2.2.2.2.2.1 x.1.2.2.2.2.2.2.1 x.1.2.2.2.2.2.2.2 x.2.1.1 x.2.1.2.1 x.2.1.2.2.1 x.2.1.2.2.2.1 x.2.1.2.2.2.2.1 x.2.1.2.2.2.2.2.1 x.2.1.2.2.2.2.2.2.1 x.2.1.2.2.2.2.2.2.2 x.2.2.1.1 x.2.2.1.2.1 x.2.2.1.2.2.1 x.2.2.1.2.2.2.1 x.2.2.1.2.2.2.2.1 x.2.2.1.2.2.2.2.2.1 x.2.2.1.2.2.2.2.2.2.1 x.2.2.1.2.2.2.2.2.2.2 x.2.2.2.1.1 x.2.2.2.1.2.1 x.2.2.2.1.2.2.1 x.2.2.2.1.2.2.2.1 x.2.2.2.1.2.2.2.2.1 x.2.2.2.1.2.2.2.2.2.1 x.2.2.2.1.2.2.2.2.2.2.1 x.2.2.2.1.2.2.2.2.2.2.2 x.2.2.2.2.1 x.2.2.2.2.2.1 x.2.2.2.2.2.2.1 x.2.2.2.2.2.2.2
noncomputable def inI : tyC := ((aWorld 0, default, default, default, default, {}, default, default), default, default, (callerA, default, default, default, default, default, default, 0), default)
def epC : tyC := eps inI prQ
@[irreducible] def h₀ := epC.1.2.1
@[irreducible] def L := epC.1.2.2.1
@[irreducible] def m := epC.1.2.2.2.1
@[irreducible] def news := epC.1.2.2.2.2.1
@[irreducible] def s := epC.1.2.2.2.2.2.1
@[irreducible] def K := epC.2.1.1
@[irreducible] def TE := epC.2.1.2.1
@[irreducible] def ks := epC.2.1.2.2.1
@[irreducible] def ts := epC.2.1.2.2.2.1
@[irreducible] def kinds := epC.2.1.2.2.2.2.1
@[irreducible] def terms := epC.2.1.2.2.2.2.2.1
@[irreducible] def nK := epC.2.1.2.2.2.2.2.2.1
@[irreducible] def nT := epC.2.1.2.2.2.2.2.2.2
@[irreducible] def p := epC.2.2.1.2.2.2.1
@[irreducible] def g' := epC.2.2.2.1.2.2.2.2.1
@[irreducible] def L' := epC.2.2.2.1.2.2.2.2.2.1
namespace seg_sA_main
noncomputable def body : (P_1 : Obj → Nat → Addr → Addr → Addr → Nat → List Value → Heap → Obj → Nat → Addr → List (Addr × Obj) → Obj → Tok → Obj → Obj → Obj → Option Value → Nat → Obj → Heap → Nat → (Str → Option Value) → Heap → Nat → Obj → Addr → List Value → Nat → Obj → Obj → Option Value → Int → Tok → Prop) ×' (P_2 : Obj → Nat → Addr → Addr → Addr → Nat → List Value → Heap → Obj → Nat → Addr → List (Addr × Obj) → Obj → Tok → Obj → Obj → Obj → Option Value → Nat → Obj → Heap → (Str → Option Value) → Heap → Nat → Addr → List Value → Nat → Obj → Obj → Option Value → Prop) ×' ((∀ a b c d e f g h i j k l m n o p q r s t u v w x y z a1 b1 c1 d1 e1 f1 g1 h1, P_1 a b c d e f g h i j k l m n o p q r s t u v w x y z a1 b1 c1 d1 e1 f1 g1 h1) → (∀ a b c d e f g h i j k l m n o p q r s t u v w x y z a1 b1 c1 d1, P_2 a b c d e f g h i j k l m n o p q r s t u v w x y z a1 b1 c1 d1) → (prP epC.1.1 h₀ L m news s epC.1.2.2.2.2.2.2.1 epC.1.2.2.2.2.2.2.2 K TE ks ts kinds terms nK nT epC.2.2.1.1 epC.2.2.1.2.1 epC.2.2.1.2.2.1 p epC.2.2.1.2.2.2.2.1 epC.2.2.1.2.2.2.2.2.1 epC.2.2.1.2.2.2.2.2.2.1 epC.2.2.1.2.2.2.2.2.2.2 epC.2.2.2.1.1 epC.2.2.2.1.2.1 epC.2.2.2.1.2.2.1 epC.2.2.2.1.2.2.2.1 g' L' epC.2.2.2.1.2.2.2.2.2.2.1 epC.2.2.2.1.2.2.2.2.2.2.2 epC.2.2.2.2.1 epC.2.2.2.2.2.1 epC.2.2.2.2.2.2.1 epC.2.2.2.2.2.2.2)) := by
  refine' ⟨_, _, fun k_1 k_2 => ?main⟩
  case main =>
    intro F N hK hTE hIk hIt h5 hs9 hl5 htm hret hd hu B X T hf hke C1 C2 FG' F' B' X' T' l1 sAz5 sAz6 sAz7 sAz8 N' C1' C2'
    k_steps
    rename Fr g' _ _ _ => F8
    rename News g' _ _ _ => N8
    rename IntsAre _ ([1] ++ List.flatten _) => I8
    refine byC fun hGZ => ?_
    obtain ⟨Dc, hDc⟩ : ∃ d, d = adrAt (led N8) 0 := ⟨_, rfl⟩
    dsimp only [adrAt, led] at hDc
    subst hDc
    have lD4 : @LT.lt Nat _ (L' + 1 + 1 + 1 + 1) Dc := by (first | exact om330 (by assumption) | omega)
    have lDn : AllLt Dc news := by assumption
    obtain ⟨rest, hrest⟩ : ∃ rest, rest = (led N8).drop 6 := ⟨_, rfl⟩
    have N7 := news_sub (news' := (Dc, _) :: (L' + 1 + 1 + 1, _) :: (L' + 1 + 1 + 1 + 1, _) :: rest) N8 (by
      rw [hrest]; dsimp only [led, List.drop]
      (repeat (refine' List.forall_mem_cons.mpr ⟨by k_mem, ?_⟩)); (intro p hp; repeat (first | exact hp | apply List.mem_cons_of_mem)))
    have hKr : (K, W.listOf ks.toArray nK) ∈ rest := by
      rw [hrest]; dsimp only [led, List.drop]; k_mem
    have hTr : (TE, W.listOf ts.toArray nT) ∈ rest := by
      rw [hrest]; dsimp only [led, List.drop]; k_mem
    have hnr : ∀ p ∈ news, p ∈ rest := by
      rw [hrest]; dsimp only [led, List.drop]; intro p hp; repeat (first | exact hp | apply List.mem_cons_of_mem)
    have lDr : ∀ q ∈ rest, @LT.lt Nat _ q.1 Dc := by
      rw [hrest]; dsimp only [led, List.drop]
      (repeat (refine' List.forall_mem_cons.mpr ⟨by (try dsimp only); (first | exact om331 (by assumption) | exact om332 (by assumption) | omega), ?_⟩)); exact allLt_mem lDn
    have lLn : AllLt L' news := by assumption
    have h3r : ∀ q ∈ rest, q.1 ≠ L' + 1 + 1 + 1 := by
      rw [hrest]; dsimp only [led, List.drop]
      (repeat (refine' List.forall_mem_cons.mpr ⟨neN (by (try dsimp only); (first | exact om333 | exact om334 | omega)), ?_⟩)); exact fun q hq => by have := allLt_mem lLn q hq; exact neN (by (first | exact om335 this | omega))
    have h4r : ∀ q ∈ rest, q.1 ≠ L' + 1 + 1 + 1 + 1 := by
      rw [hrest]; dsimp only [led, List.drop]
      (repeat (refine' List.forall_mem_cons.mpr ⟨neN (by (try dsimp only); (first | exact om336 | exact om337 | omega)), ?_⟩)); exact fun q hq => by have := allLt_mem lLn q hq; exact neN (by (first | exact om338 this | omega))
    obtain ⟨oR, toR, hoRm, hoR⟩ : ∃ (o : Obj) (t : Tok), (L' + 1 + 1, o) ∈ rest ∧ o.data = .cell (some (.int (kinds.length : Int) t)) := ⟨objAt (led N8) 6, _, by rw [hrest]; dsimp only [led, List.drop, objAt]; k_mem, by dsimp only [led, objAt]; assumption⟩
    obtain ⟨oK, hoKm, hoK⟩ : ∃ (o : Obj), (L' + 1, o) ∈ rest ∧ o.data = .cell (some (.ref K)) := ⟨objAt (led N8) 7, by rw [hrest]; dsimp only [led, List.drop, objAt]; k_mem, by dsimp only [led, objAt]; assumption⟩
    obtain ⟨oC, oT, cT, N6, hoC, hoT⟩ : ∃ (oC oT : Obj) (cT : Option Value), News g' L' _ ((Dc, _) :: (L' + 1 + 1 + 1, oC) :: (L' + 1 + 1 + 1 + 1, oT) :: rest) ∧ oC.data = .cell (some (.ref Dc)) ∧ oT.data = .cell cT := ⟨_, _, _, N7, by assumption, by assumption⟩
    refine hGZ ?_; clear hGZ
    rw [flat_rep] at I8
    have e0 : [1] ++ List.replicate ((kinds.length : Int) - 1).toNat 0 = preC kinds terms 0 := by
      unfold preC
      rw [show ((kinds.length : Int) - 1).toNat = kinds.length - 1 from by (first | exact om339 | omega)]
      rfl
    rw [e0] at I8
    clear hrest N8 N7
    (repeat ((with_reducible rename AllLt _ _ => h9z); clear h9z))
    refine pyIter_list F8 N6 (.tail _ (.tail _ (.tail _ hTr))) fun I oI h9 F9 N9 lI hli => ?_
    obtain ⟨m0, F9'⟩ : ∃ m0, Fr g' L' h9 m0 := ⟨_, F9⟩
    clear F9 F8
    have lID : @LT.lt Nat _ Dc I := lI _ (.head _)
    have lI3 : @LT.lt Nat _ (L' + 1 + 1 + 1) I := lI _ (.tail _ (.head _))
    have lI4 : @LT.lt Nat _ (L' + 1 + 1 + 1 + 1) I := lI _ (.tail _ (.tail _ (.head _)))
    have lIr : ∀ q ∈ rest, @LT.lt Nat _ q.1 I := fun q hq => lI q (.tail _ (.tail _ (.tail _ hq)))
    have lD4h : Hid _ := lD4
    have hd' : Hid _ := hd
    have hu' : Hid _ := hu
    clear hd hu
    (repeat ((with_reducible rename @LT.lt Nat _ _ Dc => h9z); clear h9z))
    have lD4 : @LT.lt Nat _ (L' + 1 + 1 + 1 + 1) Dc := lD4h
    refine' loop_it (it_list (l := TE) (vs := ts) (nn := nT)) (JC s.gens m0 I (L' + 1 + 1 + 1) (L' + 1 + 1 + 1 + 1) rest kinds terms) ?hh hli F9' N9 ?j0 ?hJ ?turn ?fin
    case hh => exact rfl
    case j0 => exact ⟨rfl, rfl, Dc, _, 0, oC, oT, cT, rfl, hoC, hoT, I8, lD4, Nat.ne_of_lt lID, lDr⟩
    case hJ =>
      intro i m nx g pGZ4
      refine byC fun hGZ => ?_
      obtain ⟨_, _, D1, dv, nd, oc, ot, ct, rfl, hoc, hot, hId, l4D, nDI, lrD⟩ := pGZ4
      refine hGZ ?_; clear hGZ
      refine ⟨fun p hp => ?_, fun y hy => ?_⟩
      · rw [List.mem_singleton.mp hp]
        exact .tail _ (.tail _ (.tail _ hTr))
      · rw [List.mem_singleton.mp hy]
        exact off_cons.mpr ⟨nDI, off_cons.mpr ⟨neN (by (first | exact om340 lI4 | omega)), off_cons.mpr ⟨neN (by (first | exact om341 lI4 | omega)), fun q hq => Nat.ne_of_lt (lIr q hq)⟩⟩⟩
    case turn =>
      intro i v ex own m9 nx h8 tk8 g8 hi pGZ10 pGZ11 pGZ12
      refine byC fun hGZ => ?_
      obtain ⟨hv, rfl⟩ := pGZ10
      obtain ⟨o9, rfl, hoc9, hod9⟩ := pGZ11
      obtain ⟨rfl, rfl, D1, dv, nd, oc, ot, ct, rfl, hoc, hot, hId, l4D, nDI, lrD⟩ := pGZ12
      refine hGZ ?_; clear hGZ
      intro F7 N7 _ hap
      have hi' : i < terms.length := by rw [← hIt.length]; exact hi
      refine byC fun hGZ => ?_
      obtain ⟨term, hti, htt⟩ : ∃ t, terms[i]? = some t ∧ Term t := ⟨terms[i], List.getElem?_eq_getElem hi', htm _ (List.getElem_mem hi')⟩
      obtain ⟨tt, hx0⟩ := hIt.get i term hti
      refine hGZ ?_; clear hGZ
      rw [hx0] at hv
      cases hv
      refine wpAny_assign_Name ?_
      simp only [List.nil_append, List.cons_append] at N7
      have htt' : Hid (Term term) := htt
      clear htt N9 N6 F9'
      rename_i _ tnz1 tnz2 tnz3 tnz4 _ tnz5 tnz6 tnz7 tnz8 tnz9 _ tnz10 tnz11 tnz12 tnz13 tnz14 tnz15 _ tnz16 tnz17 tnz18 tnz19 tnz20 tnz21 tnz22 tnz23 tnz24 tnz25 tnz26 tnz27 tnz28 _ tnz29 tnz30 tnz31 tnz32
      revert F N hK hTE hIk hIt h5 hs9 hl5 htm hret B X T hf hke C1 C2 FG' B' X' T' sAz5 sAz6 sAz7 sAz8 C1' C2' tnz2 tnz5 tnz6 tnz7 tnz8 tnz10 tnz11 tnz12 tnz13 tnz14 tnz16 tnz18 tnz19 tnz20 tnz21 tnz22 tnz23 tnz24 tnz25 tnz26 tnz27 I8 tnz31 hKr hTr hnr lDr h3r h4r hoRm hoR hoKm hoK hoC hoT e0 lI hli lID lI3 lI4 lIr lD4h hd' hu' lD4 hi hoc9 hod9 hoc hot hId l4D nDI lrD F7 N7 tnz32 hap hi' hti hx0 htt'
      exact k_1 tnz1 tnz3 tnz4 tnz9 tnz15 tnz17 tnz28 tnz29 tnz30 tk Dc rest oR toR oK oC oT cT I oI h9 i m9 h8 tk8 o9 D1 dv nd oc ot ct term tt
    case fin =>
      intro m9 nx h8 tk8 g8 pGZ5
      refine byC fun hGZ => ?_
      obtain ⟨rfl, rfl, D1, dv, nd, oc, ot, ct, rfl, hoc, hot, hId, l4D, nDI, lrD⟩ := pGZ5
      refine hGZ ?_; clear hGZ
      intro F7 N7
      rename_i _ fnz1 fnz2 fnz3 fnz4 _ fnz5 fnz6 fnz7 fnz8 fnz9 _ fnz10 fnz11 fnz12 fnz13 fnz14 fnz15 _ fnz16 fnz17 fnz18 fnz19 fnz20 fnz21 fnz22 fnz23 fnz24 fnz25 fnz26 fnz27 fnz28 _ fnz29 fnz30 fnz31
      revert F N hK hTE hIk hIt h5 hs9 hl5 htm hret B X T hf hke C1 C2 FG' B' X' T' sAz5 sAz6 sAz7 sAz8 C1' C2' fnz2 fnz5 fnz6 fnz7 fnz8 fnz10 fnz11 fnz12 fnz13 fnz14 fnz16 fnz18 fnz19 fnz20 fnz21 fnz22 fnz23 fnz24 fnz25 fnz26 fnz27 I8 fnz31 hKr hTr hnr lDr h3r h4r hoRm hoR hoKm hoK N6 hoC hoT e0 N9 lI hli lID lI3 lI4 lIr lD4h hd' hu' lD4 F9' hoc hot hId l4D nDI lrD F7 N7
      exact k_2 fnz1 fnz3 fnz4 fnz9 fnz15 fnz17 fnz28 fnz29 fnz30 tk Dc rest oR toR oK oC oT cT I oI h9 m9 h8 tk8 D1 dv nd oc ot ct
namespace tn
noncomputable abbrev tyC := (Obj × Nat × Addr × Addr × Addr × Nat × List Value × Heap) × (Obj × Nat × Addr × (List (Addr × Obj)) × Obj × Tok × Obj × Obj) × (Obj × Option Value × Nat × Obj × Heap × Nat × (Str → Option Value) × Heap) × (Nat × Obj × Addr × List Value × Nat × Obj × Obj × Option Value) × (Int × Tok)
def prP := body.1
def prQ (x : tyC) : Prop := prP x.1.1 x.1.2.1 x.1.2.2.1 x.1.2.2.2.1 x.1.2.2.2.2.1 x.1.2.2.2.2.2.1 x.1.2.2.2.2.2.2.1 x.1.2.2.2.2.2.2.2 x.2.1.1 x.2.1.2.1 x.2.1.2.2.1 x.2.1.2.2.2.1 x.2.1.2.2.2.2.1 x.2.1.2.2.2.2.2.1 x.2.1.2.2.2.2.2.2.1 x.2.1.2.2.2.2.2.2.2 x.2.2.1.1 x.2.2.1.2.1 x.2.2.1.2.2.1 x.2.2.1.2.2.2.1 x.2.2.1.2.2.2.2.1 x.2.2.1.2.2.2.2.2.1 x.2.2.1.2.2.2.2.2.2.1 x.2.2.1.2.2.2.2.2.2.2 x.2.2.2.1.1 x.2.2.2.1.2.1 x.2.2.2.1.2.2.1 x.2.2.2.1.2.2.2.1 x.2.2.2.1.2.2.2.2.1 x.2.2.2.1.2.2.2.2.2.1 x.2.2.2.1.2.2.2.2.2.2.1 x.2.2.2.1.2.2.2.2.2.2.2 x.2.2.2.2.1 x.2.2.2.2.2
noncomputable def inI : tyC := default
def epC : tyC := eps inI prQ
@[irreducible] def tk := epC.2.1.2.1
@[irreducible] def rest := epC.2.1.2.2.2.1
@[irreducible] def I := epC.2.2.1.2.2.1
@[irreducible] def i := epC.2.2.1.2.2.2.2.2.1
@[irreducible] def o9 := epC.2.2.2.1.2.1
@[irreducible] def D1 := epC.2.2.2.1.2.2.1
@[irreducible] def term := epC.2.2.2.2.1
@[irreducible] def tt := epC.2.2.2.2.2
namespace seg_tn_main
noncomputable def body : (P_1 : Heap → Nat → Obj → Nat → List (Addr × Obj) → Heap → Nat → Nat → Heap → Nat → List Value → Nat → Prop) ×' ((∀ a b c d e f g h i j k l, P_1 a b c d e f g h i j k l) → (prP epC.1.1 epC.1.2.1 epC.1.2.2.1 epC.1.2.2.2.1 epC.1.2.2.2.2.1 epC.1.2.2.2.2.2.1 epC.1.2.2.2.2.2.2.1 epC.1.2.2.2.2.2.2.2 epC.2.1.1 tk epC.2.1.2.2.1 rest epC.2.1.2.2.2.2.1 epC.2.1.2.2.2.2.2.1 epC.2.1.2.2.2.2.2.2.1 epC.2.1.2.2.2.2.2.2.2 epC.2.2.1.1 epC.2.2.1.2.1 I epC.2.2.1.2.2.2.1 epC.2.2.1.2.2.2.2.1 i epC.2.2.1.2.2.2.2.2.2.1 epC.2.2.1.2.2.2.2.2.2.2 epC.2.2.2.1.1 o9 D1 epC.2.2.2.1.2.2.2.1 epC.2.2.2.1.2.2.2.2.1 epC.2.2.2.1.2.2.2.2.2.1 epC.2.2.2.1.2.2.2.2.2.2.1 epC.2.2.2.1.2.2.2.2.2.2.2 term tt)) := by
  refine' ⟨_, fun k_1 => ?main⟩
  case main =>
    intro F N hK hTE hIk hIt h5 hs9 hl5 htm hret B X T hf hke C1 C2 FG' B' X' T' sAz5 sAz6 sAz7 sAz8 C1' C2' tnz2 tnz5 tnz6 tnz7 tnz8 tnz10 tnz11 tnz12 tnz13 tnz14 tnz16 tnz18 tnz19 tnz20 tnz21 tnz22 tnz23 tnz24 tnz25 tnz26 tnz27 I8 tnz31 hKr hTr hnr lDr h3r h4r hoRm hoR hoKm hoK hoC hoT e0 lI hli lID lI3 lI4 lIr lD4h hd' hu' lD4 hi hoc9 hod9 hoc hot hId l4D nDI lrD F7 N7 tnz32 hap hi' hti hx0 htt'
    k_steps
    rename Fr g' _ _ _ => F6
    rename News g' _ _ _ => N6
    rename _ = Data.cell (some (Value.int term tt)) => hot'
    obtain ⟨ot', hot2⟩ : ∃ o, o = objAt (led N6) 3 := ⟨_, rfl⟩
    dsimp only [objAt, led] at hot2
    subst hot2
    clear hot
    refine range_iter (n := kinds.length) (by (first | exact om342 hs9 | omega)) F6 N6 fun I2 own2 h2 tk2 F5 N5 l2 hst2 => ?_
    have hwr2 : own2 = [(I2, _)] := hst2
    refine lc_constC (own := own2) (fun C => it_range) self_range (fun j ys => IntsAre ys ((cstep kinds kinds.length term (preC kinds terms i)).take j)) rfl (fun a => rfl) (fun h => rfl) (by (first | exact om342 hs9 | omega)) hst2 F5 N5 ?hwr2 (fun p hp => nomatch hp) ?hoff2 .nil (fun i ys h => ?len2) ?turn2 ?fin2
    case hwr2 => rw [hwr2]; exact fun a ha => ha
    case hoff2 => exact fun a ha => by rw [List.mem_singleton.mp ha]; exact fun q hq => Nat.ne_of_lt (l2 q hq)
    case len2 => have := h.length; rw [List.length_take] at this; (first | exact om203 this | omega)
    case turn2 =>
      intro C Cc j v ex own' mc oc2 cv ys dl h tk hj hPj hst3 hRj hoc2 F4 N4 hl hn1 hn2 hn3
      obtain ⟨⟨tj, rfl⟩, rfl⟩ := hPj
      refine wpAny_assign_Name ?_
      rw [List.nil_append] at N4
      refine stCell (pre := own') F4 N4 hoc2 hn1 (fun q hq => (List.mem_append.mp hq).elim (hn2 q) fun hq => Nat.ne_of_lt (hn3 q hq)) rfl rfl rfl fun h3 oc3 hoc3 F3 N3 => ?_
      refine wpAny_tests_nil ?_
      rw [if_pos rfl]
      clear N4 F4 N5 F5
      k_steps
      refine range_iter (n := kinds.length) (by (first | exact om342 hs9 | omega)) F3 N3 fun I3 own3 h4 tk4 F2 N2 l3 hst4 => ?_
      have hwr3 : own3 = [(I3, _)] := hst4
      have hpl := preC_length (kinds := kinds) (terms := terms) (by (first | exact om343 h5 | omega)) i
      refine lc_const (own := own3) (fun C => it_range) self_range (fun q ys => IntsAre ys (innerL kinds (preC kinds terms i) term j q)) rfl (by decide) rfl (by (first | exact om342 hs9 | omega)) hst4 F2 N2 ?hwr3 (fun p hp => nomatch hp) ?hoff3 .nil (fun q ys h => ?len3) ?turn3 ?fin3
      case hwr3 => rw [hwr3]; exact fun a ha => ha
      case hoff3 => exact fun a ha => by rw [List.mem_singleton.mp ha]; exact fun q hq => Nat.ne_of_lt (l3 q hq)
      case len3 => rw [h.length]; exact innerL_length q
      case turn3 =>
        intro C3 q v ex own'' mc3 ys3 dl3 h5 tk5 hq hPq hst5 hR3 F8 N8
        obtain ⟨⟨tq, rfl⟩, rfl⟩ := hPq
        rw [List.nil_append] at N8
        refine wpAny_assign_Name (stC F8 N8 rfl (fun h6 F6 N6 => ?_) rfl)
        refine wpAny_tests_one ?_
        clear F8 N8 F2 N2 F3 N3
        have hx0 : 0 ≤ Int.fmod ((j : Int) - term * (q : Int)) (kinds.length : Int) := by rw [Int.fmod_eq_emod_of_nonneg _ (by (first | exact om53 | omega))]; exact Int.emod_nonneg _ (by (first | exact om316 (by assumption) | omega))
        have hx1 : Int.fmod ((j : Int) - term * (q : Int)) (kinds.length : Int) < (kinds.length : Int) := by rw [Int.fmod_eq_emod_of_nonneg _ (by (first | exact om53 | omega))]; exact Int.emod_lt_of_pos _ (by (first | exact om26 (by assumption) | omega))
        have hx2 : IntMulOk term (q : Int) := IntMulOk.of_left (intBits_le_64 (by rcases htt' with h | h | h | h <;> rw [h] <;> decide) (by rcases htt' with h | h | h | h <;> rw [h] <;> decide))
        k_steps
        · exact ⟨_, _, _, rfl, by assumption, by assumption⟩
        · rename kinds.getD _ 0 = 0 => hz
          rw [Int.toNat_natCast] at hz
          rw [innerL_yes hz, Int.fmod_eq_emod_of_nonneg _ (by (first | exact om53 | omega))]
          exact ints_snoc hR3
        · exact ⟨_, _, _, rfl, by assumption, by assumption⟩
        · rename kinds.getD _ 0 ≠ 0 => hz
          rw [Int.toNat_natCast] at hz
          rw [innerL_no hz]
          exact hR3
      case fin3 =>
        intro D3 h5 tk5 ys3 k3 hD3 hR3 F2 N2
        k_steps
        refine sumK rfl F2 N2 ⟨_, (N2 _ (.head _)).1, rfl, k3, rfl⟩ hR3 fun h6 tk6 t6 F1 N1 => ?_
        refine ⟨⟨_, _, _, oc3, _, rfl, hoc3, F1, news_sub N1 (fun p hp => .tail _ hp)⟩, ?_⟩
        rw [List.take_add_one, innerL_all hj]
        exact ints_snoc hRj
    case fin2 =>
      intro D2 h3 tk3 ys2 k2 hD2 hR2 F4 N4
      rename_i f2z1
      revert F N hK hTE hIk hIt h5 hs9 hl5 htm hret B X T hf hke C1 C2 FG' B' X' T' sAz5 sAz6 sAz7 sAz8 C1' C2' tnz2 tnz5 tnz6 tnz7 tnz8 tnz10 tnz11 tnz12 tnz13 tnz14 tnz16 tnz18 tnz19 tnz20 tnz21 tnz22 tnz23 tnz24 tnz25 tnz26 tnz27 I8 tnz31 hKr hTr hnr lDr h3r h4r hoRm hoR hoKm hoK hoC hoT e0 lI hli lID lI3 lI4 lIr lD4h hd' hu' lD4 hi hoc9 hod9 hoc hId l4D nDI lrD tnz32 hap hi' hti hx0 htt' F6 N6 hot' F5 N5 l2 hst2 hwr2 hD2 hR2 F4 N4
      exact k_1 f2z1 tk ot' I2 own2 h2 tk2 D2 h3 tk3 ys2 k2
namespace f2
noncomputable abbrev tyC := (Heap × Nat × Obj × Nat × (List (Addr × Obj)) × Heap × Nat × Nat) × (Heap × Nat × List Value × Nat)
def prP := body.1
def prQ (x : tyC) : Prop := prP x.1.1 x.1.2.1 x.1.2.2.1 x.1.2.2.2.1 x.1.2.2.2.2.1 x.1.2.2.2.2.2.1 x.1.2.2.2.2.2.2.1 x.1.2.2.2.2.2.2.2 x.2.1 x.2.2.1 x.2.2.2.1 x.2.2.2.2
noncomputable def inI : tyC := default
def epC : tyC := eps inI prQ
@[irreducible] def ot' := epC.1.2.2.1
@[irreducible] def D2 := epC.1.2.2.2.2.2.2.2
@[irreducible] def ys2 := epC.2.2.2.1
@[irreducible] def k2 := epC.2.2.2.2
theorem f2_main : prP epC.1.1 epC.1.2.1 ot' epC.1.2.2.2.1 epC.1.2.2.2.2.1 epC.1.2.2.2.2.2.1 epC.1.2.2.2.2.2.2.1 D2 epC.2.1 epC.2.2.1 ys2 k2 := by
  intro F N hK hTE hIk hIt h5 hs9 hl5 htm hret B X T hf hke C1 C2 FG' B' X' T' sAz5 sAz6 sAz7 sAz8 C1' C2' tnz2 tnz5 tnz6 tnz7 tnz8 tnz10 tnz11 tnz12 tnz13 tnz14 tnz16 tnz18 tnz19 tnz20 tnz21 tnz22 tnz23 tnz24 tnz25 tnz26 tnz27 I8 tnz31 hKr hTr hnr lDr h3r h4r hoRm hoR hoKm hoK hoC hoT e0 lI hli lID lI3 lI4 lIr lD4h hd' hu' lD4 hi hoc9 hod9 hoc hId l4D nDI lrD tnz32 hap hi' hti hx0 htt' F6 N6 hot' F5 N5 l2 hst2 hwr2 hD2 hR2 F4 N4
  rw [List.take_of_length_le (by rw [cstep_length]; exact Nat.le_refl _), ← preC_snoc hti] at hR2
  have hD2' : ∀ q ∈ rest, @LT.lt Nat _ q.1 D2 := fun q hq => hD2 q (List.mem_append_right _ (.tail _ (.tail _ (.tail _ (.tail _ hq)))))
  have lD2I : @LT.lt Nat _ I D2 := hD2 _ (List.mem_append_right _ (.head _))
  have lD21 : @LT.lt Nat _ D1 D2 := hD2 _ (List.mem_append_right _ (.tail _ (.head _)))
  clear N5 F5
  k_steps
  rename Fr g' _ _ _ => F3
  rename News g' _ _ _ => N3
  rename _ = Data.cell (some (Value.ref D2)) => hoc2
  refine ⟨_, _, _, _, _, rfl, F3, news_sub (news' := [(I, o9)] ++ ((D2, W.listOf (List.toArray ys2) k2) :: (L' + 1 + 1 + 1, objAt (led N3) 3) :: (L' + 1 + 1 + 1 + 1, ot') :: rest)) N3 ?sub3, rfl, rfl, D2, ys2, k2, objAt (led N3) 3, ot', _, rfl, hoc2, hot', hR2, by (first | exact om344 l4D lD21 | omega), neN (by (first | exact om228 lD2I | omega)), hD2'⟩
  case sub3 =>
    dsimp only [objAt, led]
    simp only [List.cons_append, List.nil_append]
    (repeat (refine' List.forall_mem_cons.mpr ⟨by k_mem, ?_⟩)); (intro p hp; repeat (first | exact hp | apply List.mem_cons_of_mem))
theorem all : ∀ x, prQ x := @sk tyC inI prQ (by with_unfolding_all exact @f2_main)
end f2
end seg_tn_main
theorem tn_main : prP epC.1.1 epC.1.2.1 epC.1.2.2.1 epC.1.2.2.2.1 epC.1.2.2.2.2.1 epC.1.2.2.2.2.2.1 epC.1.2.2.2.2.2.2.1 epC.1.2.2.2.2.2.2.2 epC.2.1.1 tk epC.2.1.2.2.1 rest epC.2.1.2.2.2.2.1 epC.2.1.2.2.2.2.2.1 epC.2.1.2.2.2.2.2.2.1 epC.2.1.2.2.2.2.2.2.2 epC.2.2.1.1 epC.2.2.1.2.1 I epC.2.2.1.2.2.2.1 epC.2.2.1.2.2.2.2.1 i epC.2.2.1.2.2.2.2.2.2.1 epC.2.2.1.2.2.2.2.2.2.2 epC.2.2.2.1.1 o9 D1 epC.2.2.2.1.2.2.2.1 epC.2.2.2.1.2.2.2.2.1 epC.2.2.2.1.2.2.2.2.2.1 epC.2.2.2.1.2.2.2.2.2.2.1 epC.2.2.2.1.2.2.2.2.2.2.2 term tt := @PSigma.snd _ _ seg_tn_main.body (fun a b c d e f g h i j k l => @seg_tn_main.f2.all ((a, b, c, d, e, f, g, h), (i, j, k, l)))
theorem all : ∀ x, prQ x := @sk tyC inI prQ (by with_unfolding_all exact @tn_main)
end tn
namespace fn
noncomputable abbrev tyC := (Obj × Nat × Addr × Addr × Addr × Nat × List Value × Heap) × (Obj × Nat × Addr × (List (Addr × Obj)) × Obj × Tok × Obj × Obj) × (Obj × Option Value × Nat × Obj × Heap × (Str → Option Value) × Heap × Nat) × (Addr × List Value × Nat × Obj × Obj × Option Value)
def prP := body.2.1
def prQ (x : tyC) : Prop := prP x.1.1 x.1.2.1 x.1.2.2.1 x.1.2.2.2.1 x.1.2.2.2.2.1 x.1.2.2.2.2.2.1 x.1.2.2.2.2.2.2.1 x.1.2.2.2.2.2.2.2 x.2.1.1 x.2.1.2.1 x.2.1.2.2.1 x.2.1.2.2.2.1 x.2.1.2.2.2.2.1 x.2.1.2.2.2.2.2.1 x.2.1.2.2.2.2.2.2.1 x.2.1.2.2.2.2.2.2.2 x.2.2.1.1 x.2.2.1.2.1 x.2.2.1.2.2.1 x.2.2.1.2.2.2.1 x.2.2.1.2.2.2.2.1 x.2.2.1.2.2.2.2.2.1 x.2.2.1.2.2.2.2.2.2.1 x.2.2.1.2.2.2.2.2.2.2 x.2.2.2.1 x.2.2.2.2.1 x.2.2.2.2.2.1 x.2.2.2.2.2.2.1 x.2.2.2.2.2.2.2.1 x.2.2.2.2.2.2.2.2
noncomputable def inI : tyC := default
def epC : tyC := eps inI prQ
@[irreducible] def D1 := epC.2.2.2.1
@[irreducible] def dv := epC.2.2.2.2.1
@[irreducible] def nd := epC.2.2.2.2.2.1
theorem fn_main : prP epC.1.1 epC.1.2.1 epC.1.2.2.1 epC.1.2.2.2.1 epC.1.2.2.2.2.1 epC.1.2.2.2.2.2.1 epC.1.2.2.2.2.2.2.1 epC.1.2.2.2.2.2.2.2 epC.2.1.1 epC.2.1.2.1 epC.2.1.2.2.1 epC.2.1.2.2.2.1 epC.2.1.2.2.2.2.1 epC.2.1.2.2.2.2.2.1 epC.2.1.2.2.2.2.2.2.1 epC.2.1.2.2.2.2.2.2.2 epC.2.2.1.1 epC.2.2.1.2.1 epC.2.2.1.2.2.1 epC.2.2.1.2.2.2.1 epC.2.2.1.2.2.2.2.1 epC.2.2.1.2.2.2.2.2.1 epC.2.2.1.2.2.2.2.2.2.1 epC.2.2.1.2.2.2.2.2.2.2 D1 dv nd epC.2.2.2.2.2.2.1 epC.2.2.2.2.2.2.2.1 epC.2.2.2.2.2.2.2.2 := by
  intro F N hK hTE hIk hIt h5 hs9 hl5 htm hret B X T hf hke C1 C2 FG' B' X' T' sAz5 sAz6 sAz7 sAz8 C1' C2' fnz2 fnz5 fnz6 fnz7 fnz8 fnz10 fnz11 fnz12 fnz13 fnz14 fnz16 fnz18 fnz19 fnz20 fnz21 fnz22 fnz23 fnz24 fnz25 fnz26 fnz27 I8 fnz31 hKr hTr hnr lDr h3r h4r hoRm hoR hoKm hoK N6 hoC hoT e0 N9 lI hli lID lI3 lI4 lIr lD4h hd' hu' lD4 F9' hoc hot hId l4D nDI lrD F7 N7
  have hall : preC kinds terms ts.length = counted kinds kinds.length terms := by
    unfold preC counted
    rw [List.take_of_length_le (by rw [hIt.length]; exact Nat.le_refl _)]
  rw [hall] at hId
  clear N9 N6
  k_steps
  rename News h₀ L _ _ => N3
  refine hret D1 dv nd _ _ (by assumption) (news_sub N3 ?_) hId fun q hq => lrD q (hnr q hq)
  intro p hp
  rcases List.mem_cons.mp hp with rfl | hp
  · exact .head _
  · exact .tail _ (.tail _ (.tail _ (hnr p hp)))
theorem all : ∀ x, prQ x := @sk tyC inI prQ (by with_unfolding_all exact @fn_main)
end fn
end seg_sA_main
theorem sA_main : prP epC.1.1 h₀ L m news s epC.1.2.2.2.2.2.2.1 epC.1.2.2.2.2.2.2.2 K TE ks ts kinds terms nK nT epC.2.2.1.1 epC.2.2.1.2.1 epC.2.2.1.2.2.1 p epC.2.2.1.2.2.2.2.1 epC.2.2.1.2.2.2.2.2.1 epC.2.2.1.2.2.2.2.2.2.1 epC.2.2.1.2.2.2.2.2.2.2 epC.2.2.2.1.1 epC.2.2.2.1.2.1 epC.2.2.2.1.2.2.1 epC.2.2.2.1.2.2.2.1 g' L' epC.2.2.2.1.2.2.2.2.2.2.1 epC.2.2.2.1.2.2.2.2.2.2.2 epC.2.2.2.2.1 epC.2.2.2.2.2.1 epC.2.2.2.2.2.2.1 epC.2.2.2.2.2.2.2 := @PSigma.snd _ _ (@PSigma.snd _ _ seg_sA_main.body) (fun a b c d e f g h i j k l m n o p q r s t u v w x y z a1 b1 c1 d1 e1 f1 g1 h1 => @seg_sA_main.tn.all ((a, b, c, d, e, f, g, h), (i, j, k, l, m, n, o, p), (q, r, s, t, u, v, w, x), (y, z, a1, b1, c1, d1, e1, f1), (g1, h1))) (fun a b c d e f g h i j k l m n o p q r s t u v w x y z a1 b1 c1 d1 => @seg_sA_main.fn.all ((a, b, c, d, e, f, g, h), (i, j, k, l, m, n, o, p), (q, r, s, t, u, v, w, x), (y, z, a1, b1, c1, d1)))
theorem all : ∀ x, prQ x := @sk tyC inI prQ (by with_unfolding_all exact @sA_main)
end sA
end seg_law_counts
theorem law_counts : ∀ (w : World) (A : Around) (h₀ : Heap) (L : Addr) (m : Str → Option Value) (news : List (Addr × Obj)) (s : Shared)
  (Q E : Value → Shared → Prop) (K TE : Addr) (ks ts : List Value) (kinds terms : List Int) (nK nT : Nat),
  Site w A h₀ L → Fr h₀ L s.heap m → News h₀ L s.heap news →
  A.depth + 20 < recursionLimit → A.units + 300 < cLine →
  (K, W.listOf ks.toArray nK) ∈ news → (TE, W.listOf ts.toArray nT) ∈ news → IntsAre ks kinds → IntsAre ts terms → 5 ≤ kinds.length → kinds.length ≤ 9 → terms.length ≤ 5 → (∀ t ∈ terms, Term t) →
  (∀ D vs n h' tk', Fr h₀ L h' m → News h₀ L h' ((D, W.listOf (List.toArray vs) n) :: news) → IntsAre vs (counted kinds kinds.length terms) → (∀ q ∈ news, @LT.lt Nat _ q.1 D) → Q (.ref D) { s with heap := h', toks := tk' }) →
  wpAny (model Prog w) A (call (.ref 112) [.ref K, .ref TE]) Q E s := @PSigma.snd _ _ seg_law_counts.body (fun a b c d e f g h i j k l m n o p q r s t u v w x y z a1 b1 c1 d1 e1 f1 g1 h1 i1 j1 => @seg_law_counts.sA.all ((a, b, c, d, e, f, g, h), (i, j, k, l, m, n, o, p), (q, r, s, t, u, v, w, x), (y, z, a1, b1, c1, d1, e1, f1), (g1, h1, i1, j1)))
end
section
theorem ne_step {c c' x : Addr} {nw : List (Addr × Obj)} {o : Obj} (e : c' = c ∨ ∀ q ∈ nw, @LT.lt Nat _ q.1 c') (hm : (x, o) ∈ nw) (h : @Ne Nat c x) : @Ne Nat c' x := by
  rcases e with rfl | e
  · exact h
  · exact Nat.ne_of_gt (e _ hm)
theorem ne_step2 {c c' : Addr} {nw news : List (Addr × Obj)} (e : c' = c ∨ ∀ q ∈ nw, @LT.lt Nat _ q.1 c') (hs : ∀ q ∈ news, q ∈ nw) (h : ∀ q ∈ news, @Ne Nat c q.1) : ∀ q ∈ news, @Ne Nat c' q.1 := by
  rcases e with rfl | e
  · exact h
  · exact fun q hq => Nat.ne_of_gt (e _ (hs _ hq))
section
variable {prog : Program} {w : World} {A : Around} {E : Value → Shared → Prop} {s : Shared} {h₀ : Heap} {L I : Addr} {src : List (Addr × Obj)} {wr : List Addr} {n : Nat} {P : Nat → Value → List (Addr × Obj) → Prop} {st : Nat → List (Addr × Obj) → Prop}
  {target elt iter : PySem.Expr} {ifs : List PySem.Expr} {scope : Scope} {pos spos py : Pos} {cl : List (Str × Addr)} {env : Env} {m : Str → Option Value} {news own : List (Addr × Obj)} {y : Str}
theorem lc_goB {Q : Shared → Prop} (hI : ∀ C, It prog w h₀ C I src wr n P st) (hself : ItSelf prog w h₀ I st) (J : Addr → Nat → List Value → List (Addr × Obj) → Array GenState → Prop) (hh : A.handled = none)
    (hcell : ∀ y ∈ scope.names, y.2 ≠ .cell) (hkind : scope.kind = .function) (hn : n ≤ 100000)
    (hL : env.locals = L) (hy : env.kindOf y = some .local) (hp : (env.scope.kind == .class || (env.scope.kind == .module && env.locals != env.globals)) = false)
    (h0 : st 0 own) (F : Fr h₀ L s.heap m) (N : News h₀ L s.heap (own ++ news)) (hwr : ∀ a ∈ wr, @LT.lt Nat _ a s.heap.objs.size ∧ a ≠ L)
    (j0 : ∀ D, (∀ q ∈ own ++ news, @LT.lt Nat _ q.1 D) → J D 0 [] news s.gens)
    (hJ : ∀ D i ys nx g, J D i ys nx g → (∀ p ∈ src, p ∈ nx) ∧ (∀ a ∈ wr, Off a nx) ∧ Off D nx ∧ Off L nx ∧ ys.length ≤ i)
    (turn : LcTurn prog w A s h₀ L n P st target elt ifs scope cl env (own ++ news) J)
    (fin : ∀ D h tk g ys k nx, (∀ q ∈ own ++ news, @LT.lt Nat _ q.1 D) → J D n ys nx g → Fr h₀ L h (fun z => if z = y then some (.ref D) else m z) → News h₀ L h ((D, W.listOf (List.toArray ys) k) :: nx) → Q { s with heap := h, toks := tk, gens := g })
    (ht : ∀ v, letOwnedTupleGo target (.ref I) v = pure () := by intro _; rfl) :
    LcGo prog w A elt target iter ifs scope pos cl env (compPost (model prog w) A E (some (assign (.Name y py) env)) (fun _ s' => Q s')) E (.ref I) s :=
  lc_goA (Q := fun _ s' => Q s') hI hself J hh hcell hkind hn hL hy hp h0 F N hwr j0 hJ turn fin ht
theorem lc_constB {Q : Shared → Prop} (hI : ∀ C, It prog w h₀ C I src wr n P st) (hself : ItSelf prog w h₀ I st) (R : Nat → List Value → Prop) (hh : A.handled = none)
    (hcell : ∀ y ∈ scope.names, y.2 ≠ .cell) (hkind : scope.kind = .function) (hn : n ≤ 100000)
    (hL : env.locals = L) (hy : env.kindOf y = some .local) (hp : (env.scope.kind == .class || (env.scope.kind == .module && env.locals != env.globals)) = false)
    (h0 : st 0 own) (F : Fr h₀ L s.heap m) (N : News h₀ L s.heap (own ++ news)) (hwr : ∀ a ∈ wr, a ∈ own.map (·.1)) (hsrc : ∀ p ∈ src, p ∈ news) (hoffw : ∀ a ∈ wr, Off a news)
    (r0 : R 0 []) (hR : ∀ i ys, R i ys → ys.length ≤ i)
    (turn : ∀ C i v ex own' mc ys dl h tk, i < n → P i v ex → st (i + 1) own' → R i ys → Fr h₀ C h mc → News h₀ C h (ex ++ (own' ++ (dl ++ news))) →
      wpAny (model prog w) A (assign target (compEnvC scope cl C env) v) (fun _ s₂ =>
        wpAny (model prog w) A (forIn ifs true fun c r => if r = true then do let ok ← isTrue c (compEnvC scope cl C env) (eval c (compEnvC scope cl C env)); pure (ForInStep.yield ok) else pure (ForInStep.yield r)) (fun ok s₃ =>
          if ok = true then wpAny (model prog w) A (eval elt (compEnvC scope cl C env)) (fun y s₄ => CKeep h₀ C s (own' ++ (dl ++ news)) s₄ ∧ R (i + 1) (ys ++ [y])) Nev s₃
          else CKeep h₀ C s (own' ++ (dl ++ news)) s₃ ∧ R (i + 1) ys) Nev s₂) Nev { s with heap := h, toks := tk })
    (fin : ∀ D h tk ys k, (∀ q ∈ own ++ news, @LT.lt Nat _ q.1 D) → R n ys → Fr h₀ L h (fun z => if z = y then some (.ref D) else m z) → News h₀ L h ((D, W.listOf (List.toArray ys) k) :: news) → Q { s with heap := h, toks := tk })
    (ht : ∀ v, letOwnedTupleGo target (.ref I) v = pure () := by intro _; rfl) :
    LcGo prog w A elt target iter ifs scope pos cl env (compPost (model prog w) A E (some (assign (.Name y py) env)) (fun _ s' => Q s')) E (.ref I) s :=
  lc_constA (Q := fun _ s' => Q s') hI hself R hh hcell hkind hn hL hy hp h0 F N hwr hsrc hoffw r0 hR turn fin ht
end
theorem tabst_obj {P : Addr} {line col : Nat} {q : Str} {o k : Obj} {c : Addr} (h : TabSt P line col q o c k) : ∃ ps, o = tabObj ps := by
  rcases h with ⟨rfl, _⟩ | ⟨rfl, _⟩
  · exact ⟨_, rfl⟩
  · exact ⟨_, rfl⟩
end
section
theorem cuts_ge : ∀ (l : List Int) (p : Int), ∀ x ∈ cutsFrom p l, p ≤ x ∧ x < p + l.length
  | [], _ => by simp [cutsFrom]
  | k :: r, p => by
    intro x hx
    simp only [cutsFrom] at hx
    have ih := cuts_ge r (p + 1)
    rw [List.length_cons]
    split at hx
    · rcases List.mem_cons.mp hx with rfl | hx
      · (first | exact om137 | omega)
      · have := ih x hx; (first | exact om138 this | omega)
    · have := ih x hx; (first | exact om138 this | omega)
theorem cuts_sorted : ∀ (l : List Int) (p : Int), (cutsFrom p l).Pairwise (· < ·)
  | [], _ => List.Pairwise.nil
  | k :: r, p => by
    simp only [cutsFrom]
    split
    · refine List.Pairwise.cons (fun x hx => ?_) (cuts_sorted r (p + 1))
      have := cuts_ge r (p + 1) x hx
      (first | exact om139 this | omega)
    · exact cuts_sorted r (p + 1)
theorem cuts_mem : ∀ (l : List Int) (p : Int) (j : Nat), j < l.length → ((p + j) ∈ cutsFrom p l ↔ l.getD j 0 = 0)
  | [], _, _, h => by simp at h
  | k :: r, p, 0, _ => by
    simp only [cutsFrom]
    split
    · rename_i hk; simp [hk]
    · rename_i hk
      constructor
      · intro hx
        have := cuts_ge r (p + 1) _ hx
        omega
      · intro h; exact absurd (by simpa using h) hk
  | k :: r, p, j + 1, h => by
    have ih := cuts_mem r (p + 1) j (by simpa using h)
    have e : p + ((j + 1 : Nat) : Int) = p + 1 + (j : Int) := by (first | exact om140 | omega)
    rw [e]
    simp only [cutsFrom, List.getD_cons_succ]
    split
    · rw [List.mem_cons]
      constructor
      · rintro (h9 | h9)
        · omega
        · exact ih.mp h9
      · exact fun h9 => .inr (ih.mpr h9)
    · exact ih
theorem cuts_len : ∀ (l : List Int) (p : Int), (cutsFrom p l).length ≤ l.length
  | [], _ => by simp [cutsFrom]
  | k :: r, p => by
    simp only [cutsFrom]
    have := cuts_len r (p + 1)
    split <;> simp <;> (first | exact om118 this | exact om141 this | omega)
theorem cuts_len_eq : ∀ (l : List Int) (p : Int), (∀ k ∈ l, k = 0 ∨ k = 1) → ((cutsFrom p l).length : Int) = l.length - l.sum
  | [], _, _ => by simp [cutsFrom]
  | k :: r, p, h => by
    have ih := cuts_len_eq r (p + 1) fun x hx => h x (.tail _ hx)
    simp only [cutsFrom]
    rcases h k (.head _) with rfl | rfl
    · rw [if_pos rfl, List.length_cons, List.length_cons, List.sum_cons]; (first | exact om142 ih | omega)
    · rw [if_neg (by decide), List.length_cons, List.sum_cons]; (first | exact om143 ih | omega)
theorem cuts_lt {l : List Int} {a b : Nat} (h : a < b) (hb : b < (cutsFrom 0 l).length) : (cutsFrom 0 l).getD a 0 < (cutsFrom 0 l).getD b 0 := by
  have := List.pairwise_iff_getElem.mp (cuts_sorted l 0) a b (by (first | exact om144 h hb | omega)) hb h
  rw [List.getD_eq_getElem?_getD, List.getD_eq_getElem?_getD, List.getElem?_eq_getElem (by (first | exact om144 h hb | omega)), List.getElem?_eq_getElem hb]
  exact this
theorem cuts_le {l : List Int} : ∀ i j : Nat, i ≤ j → j < (cutsFrom 0 l).length → (cutsFrom 0 l).getD i 0 ≤ (cutsFrom 0 l).getD j 0 := by
  intro i j h hj
  rcases Nat.lt_or_eq_of_le h with h | rfl
  · exact Int.le_of_lt (cuts_lt h hj)
  · exact Int.le_refl _
theorem bis_count {l : List Int} {j : Nat} (hj : j < l.length) (hb : ∀ k ∈ l, k = 0 ∨ k = 1) {low high : Int}
    (BL : BisL (cutsFrom 0 l) j 0 (cutsFrom 0 l).length low) (BR : BisR (cutsFrom 0 l) j 0 (cutsFrom 0 l).length high) : high - low = 1 - l.getD j 0 := by
  obtain ⟨a1, a2, a3, a4⟩ := BL
  obtain ⟨b1, b2, b3, b4⟩ := BR
  have hm := cuts_mem l 0 j hj
  rw [Int.zero_add] at hm
  have hbit : l.getD j 0 = 0 ∨ l.getD j 0 = 1 := by
    rw [List.getD_eq_getElem?_getD, List.getElem?_eq_getElem hj]; exact hb _ (List.getElem_mem _)
  have get : ∀ i : Nat, i < (cutsFrom 0 l).length → (cutsFrom 0 l).getD i 0 ∈ cutsFrom 0 l := fun i hi => by
    rw [List.getD_eq_getElem?_getD, List.getElem?_eq_getElem hi]; exact List.getElem_mem _
  have h1 : low ≤ high := by
    refine Int.not_lt.mp fun h => ?_
    have q1 := a3 high.toNat (by (first | exact om145 | omega)) (by (first | exact om146 b1 h | omega))
    have q2 := b4 high.toNat (by (first | exact om147 | omega)) (by (first | exact om148 a2 b1 h | omega))
    omega
  have h2 : high < low + 2 := by
    refine Int.not_le.mp fun h => ?_
    have q1 := a4 low.toNat (by (first | exact om147 | omega)) (by (first | exact om149 a1 b2 h | omega))
    have q2 := b3 low.toNat (by (first | exact om145 | omega)) (by (first | exact om150 a1 h | omega))
    have q3 := a4 (low.toNat + 1) (by (first | exact om151 | omega)) (by (first | exact om152 a1 b2 h | omega))
    have q4 := b3 (low.toNat + 1) (by (first | exact om153 | omega)) (by (first | exact om154 a1 h | omega))
    have q5 := cuts_lt (l := l) (a := low.toNat) (b := low.toNat + 1) (by (first | exact om155 | omega)) (by (first | exact om156 a1 b2 h | omega))
    omega
  rcases Int.lt_or_le low high with h | h
  · have q1 := a4 low.toNat (by (first | exact om147 | omega)) (by (first | exact om157 a1 b2 h | omega))
    have q2 := b3 low.toNat (by (first | exact om145 | omega)) (by (first | exact om146 a1 h | omega))
    have q3 := get low.toNat (by (first | exact om158 a1 b2 h | omega))
    have e : (cutsFrom 0 l).getD low.toNat 0 = j := by (first | exact om159 q1 q2 | omega)
    rw [e] at q3
    have := hm.mp q3
    (first | exact om160 h2 h this | omega)
  · have hne : l.getD j 0 ≠ 0 := fun q => by
      obtain ⟨i, hi, he⟩ := List.getElem_of_mem (hm.mpr q)
      have e : (cutsFrom 0 l).getD i 0 = j := by rw [List.getD_eq_getElem?_getD, List.getElem?_eq_getElem hi]; exact he
      rcases Int.lt_or_le (i : Int) low with h9 | h9
      · have := a3 i (by (first | exact om53 | omega)) h9
        omega
      · have := b4 i (by (first | exact om161 h h9 | omega)) (by (first | exact om162 hi | omega))
        omega
    rcases hbit with h9 | h9
    · exact absurd h9 hne
    · (first | exact om163 h1 h h9 | omega)
theorem bisL_hi {ns : List Int} {x hi : Int} {low : Int} {n : Int} (BL : BisL ns x 0 n low) {r hi : Int} (h : BisL ns x 0 hi r) (hh : hi ≤ low) (_h0 : 0 ≤ hi) : r = hi := by
  obtain ⟨_, a2, a3, _⟩ := BL
  obtain ⟨b1, b2, _, b4⟩ := h
  refine Int.le_antisymm b2 (Int.not_lt.mp fun h9 => ?_)
  have q1 := b4 r.toNat (by (first | exact om147 | omega)) (by (first | exact om146 b1 h9 | omega))
  have q2 := a3 r.toNat (by (first | exact om145 | omega)) (by (first | exact om164 hh b1 h9 | omega))
  omega
theorem bisL_lo {ns : List Int} {x high n : Int} (BR : BisR ns x 0 n high) {r : Int} (h : BisL ns x high n r) : r = high := by
  obtain ⟨c1, _, _, a4⟩ := BR
  obtain ⟨b1, b2, b3, _⟩ := h
  refine Int.le_antisymm (Int.not_lt.mp fun h9 => ?_) b1
  have q1 := b3 high.toNat (by (first | exact om147 | omega)) (by (first | exact om146 c1 h9 | omega))
  have q2 := a4 high.toNat (by (first | exact om147 | omega)) (by (first | exact om165 c1 b2 h9 | omega))
  omega
theorem bisR_hi {ns : List Int} {x low n : Int} (BL : BisL ns x 0 n low) {r : Int} (h : BisR ns x 0 low r) : r = low := by
  obtain ⟨_, a2, a3, _⟩ := BL
  obtain ⟨b1, b2, _, b4⟩ := h
  refine Int.le_antisymm b2 (Int.not_lt.mp fun h9 => ?_)
  have q1 := b4 r.toNat (by (first | exact om147 | omega)) (by (first | exact om146 b1 h9 | omega))
  have q2 := a3 r.toNat (by (first | exact om145 | omega)) (by (first | exact om146 b1 h9 | omega))
  omega
theorem runs_length : ∀ (l : List Int) (a : Int), (runs a l).length = l.length
  | [], _ => rfl
  | x :: r, a => by simp only [runs, List.length_cons, runs_length r]
theorem runs_last (l : List Int) (x a : Int) : a + (l.sum + x) ∈ runs a (l ++ [x]) := by
  rw [runs_snoc]
  exact List.mem_append_right _ (by rw [List.mem_singleton]; (first | exact om55 | omega))
theorem sizes_pos (res : List Str) : ∀ x ∈ sizesOf res, 1 ≤ x := by
  intro x hx
  obtain ⟨r, _, rfl⟩ := List.mem_map.mp hx
  (first | exact om166 | omega)
theorem mem_le_sum : ∀ (l : List Int), (∀ x ∈ l, 1 ≤ x) → 0 ≤ l.sum ∧ ∀ x ∈ l, x ≤ l.sum
  | [], _ => ⟨by simp, fun _ h => nomatch h⟩
  | y :: l, h => by
    have h1 := h y (.head _)
    obtain ⟨h2, h3⟩ := mem_le_sum l fun x hx => h x (.tail _ hx)
    rw [List.sum_cons]
    refine ⟨by (first | exact om167 h1 h2 | omega), fun x hx => ?_⟩
    rcases List.mem_cons.mp hx with rfl | hx
    · (first | exact om168 h2 | omega)
    · have := h3 x hx; (first | exact om169 h1 this | omega)
theorem sizes_small {res : List Str} {kinds : List Int} (h : runs (-1) (sizesOf res) = cutsFrom 0 kinds) (hk : kinds.length ≤ 9) : (∀ x ∈ sizesOf res, 1 ≤ x ∧ x ≤ 9) ∧ (sizesOf res).sum ≤ 9 := by
  have hp := sizes_pos res
  obtain ⟨hs0, hs⟩ := mem_le_sum _ hp
  have hle : (sizesOf res).sum ≤ 9 := by
    rcases List.eq_nil_or_concat (sizesOf res) with h0 | ⟨l, x, h0⟩
    · rw [h0]; decide
    · rw [List.concat_eq_append] at h0
      have := runs_last l x (-1)
      rw [← h0, h] at this
      have := cuts_ge kinds 0 _ this
      rw [h0, List.sum_append, List.sum_singleton]
      (first | exact om170 hk this | omega)
  exact ⟨fun x hx => ⟨hp x hx, Int.le_trans (hs x hx) hle⟩, hle⟩
theorem go_sizes : ∀ (l : List Int) (last : Option Int) (j : Nat), (∀ x ∈ l, 1 ≤ x ∧ x ≤ 9) → go (l ++ [127, 3]) last j = l[j]?
  | [], last, j, _ => by simp [go]
  | x :: l, last, j, h => by
    have hx := h x (.head _)
    have h1 : x ≠ 127 := by (first | exact om171 hx | omega)
    have h2 : x ≠ 0 := by (first | exact om172 hx | omega)
    cases j with
    | zero => simp [go, h1, h2]
    | succ j => simpa [go, h1, h2] using go_sizes l (some x) j fun y hy => h y (.tail _ hy)
theorem sum_take_succ {l : List Int} {i : Nat} {x : Int} (h : l[i]? = some x) : (l.take (i + 1)).sum = (l.take i).sum + x := by
  rw [List.take_add_one, h, Option.toList_some, List.sum_append, List.sum_singleton]
theorem runs_take_succ {l : List Int} {i : Nat} {x a : Int} (h : l[i]? = some x) : runs a (l.take (i + 1)) = runs a (l.take i) ++ [a + (l.take i).sum + x] := by
  rw [List.take_add_one, h, Option.toList_some, runs_snoc]
theorem sum_bits : ∀ l : List Int, (∀ k ∈ l, k = 0 ∨ k = 1) → 0 ≤ l.sum ∧ l.sum ≤ l.length
  | [], _ => by simp
  | k :: l, h => by
    have h1 := h k (.head _)
    have h2 := sum_bits l fun x hx => h x (.tail _ hx)
    rw [List.sum_cons, List.length_cons]
    rcases h1 with rfl | rfl <;> (first | exact om173 h2 | exact om174 h2 | omega)
end
theorem rules_S0 : True := by
  k_with_none
  k_with "call builtin:len" => ((k_here; (with_reducible show wpAny _ _ (call (Value.builtin "len") [Value.ref _]) _ _ _); k_dflt (refine kst_len (by k_asm) (by k_mem) (by exact IntsAre.length (by assumption)) (by omega) ?_); (try dsimp only)))
  k_with "truthy ref" => ((k_here; (with_reducible show wpAny _ _ (truthy (Value.ref _)) _ _ _); k_dflt (refine kgr_truthy (by k_asm) (by k_mem) (by exact rfl) (by exact rfl) (by (have := IntsAre.length (by assumption); omega)) ?_); (try dsimp only)))
  k_with "call builtin:list.append" => ((k_here; (with_reducible show wpAny _ _ (call (Value.builtin _) [Value.ref _, _]) _ _ _); k_dflt (refine append_K (by k_asm) (by k_asm) (by k_upd) ?_ (by (simp only [List.size_toArray]; rw [sizeLine_eq]; omega)); k_whole); intro h'r9 F'r9 N'r9; (try k_sweep)))
  k_with "call ref" => ((k_here; (with_reducible show wpAny _ _ (call (Value.ref _) _) _ _ _); refine paus ?_))
  k_with "subscriptTail Name Constant ref int" => ((k_here; (with_reducible show wpAny _ _ (subscriptTail _ _ (Value.ref _) (Value.int _ _)) _ _ _); refine paus ?_))
  k_with "pyIter ref" => ((k_here; (with_reducible show wpAny _ _ (pyIter (Value.ref _)) _ _ _); refine paus ?_))
  k_with "eval ListComp" => ((k_here; k_dflt (refine lc_eval (by exact rfl) (by exact rfl) (by decide) ?_)))
  k_with "call type:enumerate" => ((k_here; refine paus ?_))
  k_with "call builtin:sum" => ((k_here; refine paus ?_))
  k_with "eval Name" => ((k_here; (with_reducible show wpAny _ _ (eval _ (compEnvC _ _ _ _)) _ _ _); k_dflt (refine ldC (by k_asm) (by exact rfl) ?_ (by exact rfl) (by exact rfl) (by decide))))
  k_with "storeName" => ((k_here; (with_reducible show wpAny _ _ (storeName (compEnvC _ _ _ _) _ _) _ _ _); k_dflt (refine stC (by k_asm) (by k_asm) (by exact rfl) ?_ (by exact rfl); k_whole); intro h'r9 F'r9 N'r9))
  k_with "subscriptTail Name Slice ref ref" => ((k_here; (with_reducible show wpAny _ _ (subscriptTail _ (PySem.Expr.Slice _ _ (some _) _) (Value.ref _) (Value.ref _)) _ _ _); k_dflt (refine slice3K (by k_asm) (by k_asm) (by kmk_list) (by kmk_part) (by kmk_part) (by kmk_part) (by decide) (by assumption) ?_ (by with_unfolding_all rfl) (by kmk_pure) (by assumption)); intro D'r9 ws'r9 ms'r9 h'r9 F'r9 N'r9 l1r9 hI'r9; (try k_lt l1r9); (try k_sweep)))
  exact trivial
noncomputable section
theorem pick_ints {vs : List Value} {ns : List Int} (hi : IntsAre vs ns) : ∀ l : List Nat, ∃ ms, IntsAre (l.filterMap (vs.toArray[·]?)) ms
  | [] => ⟨[], .nil⟩
  | i :: l => by
    obtain ⟨ms, h⟩ := pick_ints hi l
    by_cases hlt : i < ns.length
    · obtain ⟨t, ht⟩ := hi.get i ns[i] (List.getElem?_eq_getElem hlt)
      refine ⟨ns[i] :: ms, ?_⟩
      rw [List.filterMap_cons_some (b := .int ns[i] t) (by simpa using ht)]
      exact .cons _ _ h
    · refine ⟨ms, ?_⟩
      rw [List.filterMap_cons_none (by have := hi.length; simp; (first | exact om446 hlt this | omega))]
      exact h
section
variable {prog : Program} {w : World} {A : Around} {E : Value → Shared → Prop} {s : Shared} {h₀ : Heap} {L l : Addr} {m : Str → Option Value} {news : List (Addr × Obj)} {value slice : PySem.Expr} {vs : List Value} {ns : List Int} {vl vu vk : Value} {lo hi st : Option Int} {ops : List Value} {Q : Value → Shared → Prop}
theorem slice3K (F : Fr h₀ L s.heap m) (N : News h₀ L s.heap news) (hl : s.heap.IsList l vs.toArray) (pl : IsPart vl lo) (pu : IsPart vu hi) (pk : IsPart vk st) (h0 : st ≠ some 0) (hI : IntsAre vs ns)
    (h : ∀ D ws ms h', Fr h₀ L h' m → News h₀ L h' ((D, W.listOf (List.toArray ws) 0) :: news) → (∀ p ∈ news, p.1 < D) → IntsAre ws ms → Q (.ref D) { s with heap := h' })
    (hs : subscripted slice false (.ref l) (.ref s.heap.objs.size) = operate ops (getItem (.ref l) (.ref s.heap.objs.size))) (ht : ∀ r, letTemporaryGo value (.ref l) r = pure ()) (hz : vs.toArray.size ≤ sizeLine) :
    wpAny (model prog w) A (subscriptTail value slice (.ref l) (.ref s.heap.objs.size)) Q E { s with heap := s.heap.push { cls := .type "slice", data := .fields #[vl, vu, vk] } } := by
  obtain ⟨ms, hms⟩ := pick_ints hI (sliceRange (sliceBounds lo hi st vs.toArray.size).1 (sliceBounds lo hi st vs.toArray.size).2.1 (sliceBounds lo hi st vs.toArray.size).2.2)
  exact slice_list3 F N hl pl pu pk h0 (fun h' F' N' => h _ _ ms h' F' N' (fun p hp => Nat.lt_succ_of_lt (Heap.lt_size (N p hp).1)) hms) hs ht hz
end
@[reducible] noncomputable def ls0 : Lit (List Stmt) (lawB.val.take 3) := by
  apply Lit.mk; case eq => dsimp only [lawB, List.drop, List.take]
theorem ints3 {ys : List Value} {a b c : Int} (h : IntsAre ys [a, b, c]) : ∃ t u v, ys = [.int a t, .int b u, .int c v] := by
  cases h with
  | cons _ t h => cases h with
    | cons _ u h => cases h with
      | cons _ v h => cases h; exact ⟨t, u, v, rfl⟩
namespace seg_law_s0
noncomputable def body : (P_1 : World → Addr → Value → Heap → Addr → Program → List Str → (ExcName → Option Value) → (Str → Option Value) → (Str → Option Value) → (Str → Option Value) → List (Addr × Obj) → Shared → (Flow → Shared → Prop) → (Value → Shared → Prop) → List Stmt → Addr → List Value → List Int → Obj → Obj → Obj → Obj → Option Value → Option Value → Option Value → Option Value → Prop) ×' ((∀ a b c d e f g h i j k l m n o p q r s t u v w x y z a1, P_1 a b c d e f g h i j k l m n o p q r s t u v w x y z a1) → (∀ (w : World) (fa : Addr) (cd : Value) (h₀ : Heap) (L : Addr) (p : Program) (loose : List Str) (mean : ExcName → Option Value) (mg mb : Str → Option Value) (m : Str → Option Value) (news : List (Addr × Obj)) (s : Shared)
  (Q : Flow → Shared → Prop) (E : Value → Shared → Prop) (rest : List Stmt) (SCR : Addr) (vs : List Value) (ns : List Int) (o1 o2 o3 o4 : Obj) (x1 x2 x3 x4 : Option Value),
  Below callerA h₀ [] h₀ → (hd.heap_1 w.params).In h₀ → Top p loose mean mg mb h₀ → CodeHd h₀ 34 30 → CodeHd h₀ 41 37 →
  Fr h₀ L s.heap m → m (Str.ofString "script") = some (.ref SCR) → h₀.IsList SCR vs.toArray → IntsAre vs ns → ns.length ≤ 63 → AllBare s.gens →
  News h₀ L s.heap ((L + 1 + 1 + 1 + 1, o4) :: (L + 1 + 1 + 1, o3) :: (L + 1 + 1, o2) :: (L + 1, o1) :: news) → o1.data = .cell x1 → o2.data = .cell x2 → o3.data = .cell x3 → o4.data = .cell x4 → AllLt L news →
  (∀ h' tk' m' oB oSh shape bits noise ring odd wide tb ts tn tr to tw, Fr h₀ L h' m' → m' (Str.ofString "noise") = some (.int noise tn) → m' (Str.ofString "ring") = some (.int ring tr) → m' (Str.ofString "odd") = some (.int odd to) → m' (Str.ofString "wide") = some (.int wide tw) →
    News h₀ L h' ((L + 1 + 1 + 1 + 1, o4) :: (L + 1 + 1 + 1, oB) :: (L + 1 + 1, oSh) :: news) → oB.data = .cell (some (.int bits tb)) → oSh.data = .cell (some (.int shape ts)) →
    (ring = 5 ∨ ring = 7 ∨ ring = 9) → (odd = 3 ∨ odd = 5) → 13 ≤ wide → wide ≤ 16 →
    wpAny (model Prog w) (callerA.deeper (lawE L fa cd)) (execs rest (lawE L fa cd)) Q E { s with heap := h', toks := tk' }) →
  wpAny (model Prog w) (callerA.deeper (lawE L fa cd)) (execs (ls0.val ++ rest) (lawE L fa cd)) Q E s)) := by
  refine' ⟨_, fun k_1 => ?main⟩
  case main =>
    unfold Prog
    intro w fa cd h₀ L p loose mean mg mb m news s Q E rest SCR vs ns o1 o2 o3 o4 x1 x2 x3 x4 B X T C1 C2 F hm1 hscr hIs hlen hgb N d1 d2 d3 d4 hLn hnext
    revert B X T C1 C2 F hm1 hscr hIs hlen hgb N d1 d2 d3 d4 hLn hnext
    exact k_1 w fa cd h₀ L p loose mean mg mb m news s Q E rest SCR vs ns o1 o2 o3 o4 x1 x2 x3 x4
namespace sA
noncomputable abbrev tyC := (World × Addr × Value × Heap × Addr × Program × List Str × (ExcName → Option Value)) × ((Str → Option Value) × (Str → Option Value) × (Str → Option Value) × (List (Addr × Obj)) × Shared × (Flow → Shared → Prop) × (Value → Shared → Prop) × List Stmt) × (Addr × List Value × List Int × Obj × Obj × Obj × Obj × Option Value) × (Option Value × Option Value × Option Value)
def prP := body.1
def prQ (x : tyC) : Prop := prP x.1.1 x.1.2.1 x.1.2.2.1 x.1.2.2.2.1 x.1.2.2.2.2.1 x.1.2.2.2.2.2.1 x.1.2.2.2.2.2.2.1 x.1.2.2.2.2.2.2.2 x.2.1.1 x.2.1.2.1 x.2.1.2.2.1 x.2.1.2.2.2.1 x.2.1.2.2.2.2.1 x.2.1.2.2.2.2.2.1 x.2.1.2.2.2.2.2.2.1 x.2.1.2.2.2.2.2.2.2 x.2.2.1.1 x.2.2.1.2.1 x.2.2.1.2.2.1 x.2.2.1.2.2.2.1 x.2.2.1.2.2.2.2.1 x.2.2.1.2.2.2.2.2.1 x.2.2.1.2.2.2.2.2.2.1 x.2.2.1.2.2.2.2.2.2.2 x.2.2.2.1 x.2.2.2.2.1 x.2.2.2.2.2
noncomputable def inI : tyC := ((aWorld 0, default, default, default, default, default, default, default), (default, default, default, default, {}, default, default, default), default, default)
def epC : tyC := eps inI prQ
@[irreducible] def h₀ := epC.1.2.2.2.1
@[irreducible] def L := epC.1.2.2.2.2.1
@[irreducible] def p := epC.1.2.2.2.2.2.1
@[irreducible] def news := epC.2.1.2.2.2.1
@[irreducible] def s := epC.2.1.2.2.2.2.1
@[irreducible] def Q := epC.2.1.2.2.2.2.2.1
@[irreducible] def E := epC.2.1.2.2.2.2.2.2.1
@[irreducible] def vs := epC.2.2.1.2.1
@[irreducible] def ns := epC.2.2.1.2.2.1
@[irreducible] def o2 := epC.2.2.1.2.2.2.2.1
@[irreducible] def o3 := epC.2.2.1.2.2.2.2.2.1
@[irreducible] def o4 := epC.2.2.1.2.2.2.2.2.2.1
namespace seg_sA_main
noncomputable def body : (P_1 : List Value → Obj → Heap → Addr → Addr → List Value → Obj → Tok → Tok → Tok → Addr → Addr → List (Addr × Obj) → Heap → Addr → Nat → List (Addr × Obj) → (Str → Option Value) → List Value → List (Addr × Obj) → Heap → Nat → Array GenState → Addr → Tok → List Int → Int → Tok → Prop) ×' (P_2 : List Value → Obj → Heap → Addr → Addr → List Value → Obj → Tok → Tok → Tok → Addr → Addr → List (Addr × Obj) → Heap → Nat → Heap → Nat → Nat → Int → Int → Int → Tok → Tok → Tok → Prop) ×' ((∀ a b c d e f g h i j k l m n o p q r s t u v w x y z a1 b1, P_1 a b c d e f g h i j k l m n o p q r s t u v w x y z a1 b1) → (∀ a b c d e f g h i j k l m n o p q r s t u v w x, P_2 a b c d e f g h i j k l m n o p q r s t u v w x) → (prP epC.1.1 epC.1.2.1 epC.1.2.2.1 h₀ L p epC.1.2.2.2.2.2.2.1 epC.1.2.2.2.2.2.2.2 epC.2.1.1 epC.2.1.2.1 epC.2.1.2.2.1 news s Q E epC.2.1.2.2.2.2.2.2.2 epC.2.2.1.1 vs ns epC.2.2.1.2.2.2.1 o2 o3 o4 epC.2.2.1.2.2.2.2.2.2.2 epC.2.2.2.1 epC.2.2.2.2.1 epC.2.2.2.2.2)) := by
  refine' ⟨_, _, fun k_1 k_2 => ?main⟩
  case main =>
    intro B X T C1 C2 F hm1 hscr hIs hlen hgb N d1 d2 d3 d4 hLn hnext
    replace F := fr_knows [(_, _)] F ⟨hm1, trivial⟩
    dsimp only [told] at F
    refine execs_append ?_
    dsimp only [lawE, ls0, lawS]
    k_steps
    rename Fr h₀ L _ _ => F1
    rename News h₀ L _ _ => N1
    rename IntsAre _ (List.take 60 ns) => hIt
    rename _ = Data.cell (some (Value.ref _)) => hoT
    refine byC fun hGZ => ?_
    obtain ⟨TK, hTK⟩ : ∃ d, d = adrAt (led N1) 1 := ⟨_, rfl⟩
    obtain ⟨TU, hTU⟩ : ∃ d, d = adrAt (led N1) 0 := ⟨_, rfl⟩
    dsimp only [adrAt, led] at hTK hTU
    subst hTK
    subst hTU
    obtain ⟨tv, oT, ta, tb, tc, N2, hIt, hoT⟩ : ∃ (tv : List Value) (oT : Obj) (ta tb tc : Tok), News h₀ L _ ((TU, ({ cls := .type "tuple", data := .seq [Value.int 295 ta, .int 44 tb, .int 12921 tc].toArray } : Obj)) :: (TK, W.listOf (List.toArray tv) 0) :: (L + 1 + 1 + 1 + 1, o4) :: (L + 1 + 1 + 1, o3) :: (L + 1 + 1, o2) :: (L + 1, oT) :: news) ∧ IntsAre tv (ns.take 60) ∧ oT.data = .cell (some (.ref TK)) := ⟨_, _, _, _, _, N1, hIt, hoT⟩
    refine hGZ ?_; clear hGZ
    have htz : tv.toArray.size ≤ sizeLine := by
      rw [List.size_toArray, hIt.length, List.length_take, sizeLine_eq]; (first | exact om447 | omega)
    clear N1
    refine call_enumT F1 N2 (.head _) fun e it own h5 F5 N5 hst5 hap5 lit lie => ?_
    refine self_enumT hst5 N5 ?_
    refine lc_goT (it_enumT (h₀ := h₀) (l := TU) (vs := [Value.int 295 ta, .int 44 tb, .int 12921 tc]) rfl) (fun C nx s Q E hst N h => self_enumT hst N h) (fun q ys => ∃ ms, IntsAre ys ms ∧ ms.length = q) (by decide) rfl (show 3 ≤ 100000 by decide) hst5 F5 N5 hap5 ?hsrc4 ⟨[], .nil, rfl⟩ ?len4 ?turn4 ?fin4
    case hsrc4 => exact fun q hq => by rw [List.mem_singleton.mp hq]; exact .head _
    case len4 => rintro q ys ⟨ms, h, h2⟩; rw [h.length]; (first | exact om49 h2 | omega)
    case turn4 =>
      intro C3 q v3 ex3 own3 mc3 ys3 dl3 h6 tk6 g6 hq pGZ12 hst3 pGZ14
      refine byC fun hGZ => ?_
      obtain ⟨Dx, tx, x, rfl, hx, rfl⟩ := pGZ12
      obtain ⟨ms3, hR3, hl3⟩ := pGZ14
      refine hGZ ?_; clear hGZ
      intro F6 N6 hex6 hap6
      obtain ⟨b, tb', rfl⟩ : ∃ b t, x = .int b t := by
        have hq3 : q = 0 ∨ q = 1 ∨ q = 2 := by have : q < 3 := hq; (first | exact om448 this | omega)
        rcases hq3 with rfl | rfl | rfl
        · cases hx; exact ⟨_, _, rfl⟩
        · cases hx; exact ⟨_, _, rfl⟩
        · cases hx; exact ⟨_, _, rfl⟩
      simp only [List.cons_append, List.nil_append] at N6
      clear F1 N2 F5 N5
      rename_i gturn4z1 _ gturn4z2 gturn4z3 gturn4z4 _ gturn4z5 gturn4z6 gturn4z7 gturn4z8 gturn4z9 gturn4z10 gturn4z11 gturn4z12 gturn4z13 gturn4z14 gturn4z15 gturn4z16 gturn4z17 gturn4z18
      revert B X T C1 C2 hm1 hscr hIs hlen hgb d1 d2 d3 d4 hLn hnext gturn4z2 gturn4z3 gturn4z4 gturn4z7 gturn4z8 gturn4z9 gturn4z10 gturn4z11 gturn4z12 gturn4z13 gturn4z14 gturn4z15 gturn4z16 gturn4z17 gturn4z18 hIt hoT htz hst5 hap5 lit lie hq hst3 hR3 hl3 F6 hap6 hx N6 hex6
      exact k_1 gturn4z1 gturn4z5 gturn4z6 TK TU tv oT ta tb tc e it own h5 C3 q own3 mc3 ys3 dl3 h6 tk6 g6 Dx tx ms3 b tb'
    case fin4 =>
      rintro D4 h6 tk6 g6 ys4 n4 hD4 hg6 ⟨ms4, hR4, hl4⟩ F6 N6
      refine byC fun hGZ => ?_
      obtain ⟨a, b, c, rfl⟩ : ∃ a b c, ms4 = [a, b, c] := by
        match ms4, hl4 with
        | [a, b, c], _ => exact ⟨a, b, c, rfl⟩
      obtain ⟨ta, tb, tc, rfl⟩ := ints3 hR4
      refine hGZ ?_; clear hGZ
      clear F1 N2 F5 N5
      have lD4 : @LT.lt Nat _ (L + 1 + 1 + 1 + 1) D4 := hD4 (L + 1 + 1 + 1 + 1, o4) (List.mem_append_right _ (by k_mem))
      subst hg6
      rename_i gfin4z1 _ gfin4z2 gfin4z3 gfin4z4 _ gfin4z5 gfin4z6 gfin4z7 gfin4z8 gfin4z9 gfin4z10 gfin4z11 gfin4z12 gfin4z13 gfin4z14 gfin4z15 gfin4z16 gfin4z17 gfin4z18 gfin4z19 gfin4z20 gfin4z21
      revert B X T C1 C2 hm1 hscr hIs hlen hgb d1 d2 d3 d4 hLn hnext gfin4z2 gfin4z3 gfin4z4 gfin4z7 gfin4z8 gfin4z9 gfin4z10 gfin4z11 gfin4z12 gfin4z13 gfin4z14 gfin4z15 gfin4z16 gfin4z17 gfin4z18 hIt hoT htz hst5 hap5 lit lie hD4 F6 hl4 N6 hR4 lD4
      exact k_2 gfin4z1 gfin4z5 gfin4z6 TK TU tv oT gfin4z19 gfin4z20 gfin4z21 e it own h5 D4 h6 tk6 n4 a b c ta tb tc
namespace gturn4
noncomputable abbrev tyC := (List Value × Obj × Heap × Addr × Addr × List Value × Obj × Tok) × (Tok × Tok × Addr × Addr × (List (Addr × Obj)) × Heap × Addr × Nat) × ((List (Addr × Obj)) × (Str → Option Value) × List Value × (List (Addr × Obj)) × Heap × Nat × Array GenState × Addr) × (Tok × List Int × Int × Tok)
def prP := body.1
def prQ (x : tyC) : Prop := prP x.1.1 x.1.2.1 x.1.2.2.1 x.1.2.2.2.1 x.1.2.2.2.2.1 x.1.2.2.2.2.2.1 x.1.2.2.2.2.2.2.1 x.1.2.2.2.2.2.2.2 x.2.1.1 x.2.1.2.1 x.2.1.2.2.1 x.2.1.2.2.2.1 x.2.1.2.2.2.2.1 x.2.1.2.2.2.2.2.1 x.2.1.2.2.2.2.2.2.1 x.2.1.2.2.2.2.2.2.2 x.2.2.1.1 x.2.2.1.2.1 x.2.2.1.2.2.1 x.2.2.1.2.2.2.1 x.2.2.1.2.2.2.2.1 x.2.2.1.2.2.2.2.2.1 x.2.2.1.2.2.2.2.2.2.1 x.2.2.1.2.2.2.2.2.2.2 x.2.2.2.1 x.2.2.2.2.1 x.2.2.2.2.2.1 x.2.2.2.2.2.2
noncomputable def inI : tyC := default
def epC : tyC := eps inI prQ
@[irreducible] def C3 := epC.2.1.2.2.2.2.2.2.1
@[irreducible] def q := epC.2.1.2.2.2.2.2.2.2
theorem gturn4_main : prP epC.1.1 epC.1.2.1 epC.1.2.2.1 epC.1.2.2.2.1 epC.1.2.2.2.2.1 epC.1.2.2.2.2.2.1 epC.1.2.2.2.2.2.2.1 epC.1.2.2.2.2.2.2.2 epC.2.1.1 epC.2.1.2.1 epC.2.1.2.2.1 epC.2.1.2.2.2.1 epC.2.1.2.2.2.2.1 epC.2.1.2.2.2.2.2.1 C3 q epC.2.2.1.1 epC.2.2.1.2.1 epC.2.2.1.2.2.1 epC.2.2.1.2.2.2.1 epC.2.2.1.2.2.2.2.1 epC.2.2.1.2.2.2.2.2.1 epC.2.2.1.2.2.2.2.2.2.1 epC.2.2.1.2.2.2.2.2.2.2 epC.2.2.2.1 epC.2.2.2.2.1 epC.2.2.2.2.2.1 epC.2.2.2.2.2.2 := by
  intro B X T C1 C2 hm1 hscr hIs hlen hgb d1 d2 d3 d4 hLn hnext gturn4z2 gturn4z3 gturn4z4 gturn4z7 gturn4z8 gturn4z9 gturn4z10 gturn4z11 gturn4z12 gturn4z13 gturn4z14 gturn4z15 gturn4z16 gturn4z17 gturn4z18 hIt hoT htz hst5 hap5 lit lie hq hst3 hR3 hl3 F6 hap6 hx N6 hex6
  k_steps
  rename Fr h₀ C3 _ _ => F7
  rename News h₀ C3 _ _ => N7
  rename IntsAre _ _ => hR7
  refine sumK rfl F7 N7 ⟨_, (N7 _ (.head _)).1, rfl, 0, rfl⟩ hR7 fun h8 tk8 t8 F8 N8 => ?_
  clear F7 N7
  k_steps
  · exact ⟨_, _, _, rfl, by assumption, news_sub (by assumption) fun q hq => .tail _ (.tail _ hq)⟩
  · exact ints_snoc hR3
  · simp [hl3]
theorem all : ∀ x, prQ x := @sk tyC inI prQ (by with_unfolding_all exact @gturn4_main)
end gturn4
namespace gfin4
noncomputable abbrev tyC := (List Value × Obj × Heap × Addr × Addr × List Value × Obj × Tok) × (Tok × Tok × Addr × Addr × (List (Addr × Obj)) × Heap × Nat × Heap) × (Nat × Nat × Int × Int × Int × Tok × Tok × Tok)
def prP := body.2.1
def prQ (x : tyC) : Prop := prP x.1.1 x.1.2.1 x.1.2.2.1 x.1.2.2.2.1 x.1.2.2.2.2.1 x.1.2.2.2.2.2.1 x.1.2.2.2.2.2.2.1 x.1.2.2.2.2.2.2.2 x.2.1.1 x.2.1.2.1 x.2.1.2.2.1 x.2.1.2.2.2.1 x.2.1.2.2.2.2.1 x.2.1.2.2.2.2.2.1 x.2.1.2.2.2.2.2.2.1 x.2.1.2.2.2.2.2.2.2 x.2.2.1 x.2.2.2.1 x.2.2.2.2.1 x.2.2.2.2.2.1 x.2.2.2.2.2.2.1 x.2.2.2.2.2.2.2.1 x.2.2.2.2.2.2.2.2.1 x.2.2.2.2.2.2.2.2.2
noncomputable def inI : tyC := default
def epC : tyC := eps inI prQ
@[irreducible] def a := epC.2.2.2.2.1
@[irreducible] def b := epC.2.2.2.2.2.1
@[irreducible] def c := epC.2.2.2.2.2.2.1
theorem gfin4_main : prP epC.1.1 epC.1.2.1 epC.1.2.2.1 epC.1.2.2.2.1 epC.1.2.2.2.2.1 epC.1.2.2.2.2.2.1 epC.1.2.2.2.2.2.2.1 epC.1.2.2.2.2.2.2.2 epC.2.1.1 epC.2.1.2.1 epC.2.1.2.2.1 epC.2.1.2.2.2.1 epC.2.1.2.2.2.2.1 epC.2.1.2.2.2.2.2.1 epC.2.1.2.2.2.2.2.2.1 epC.2.1.2.2.2.2.2.2.2 epC.2.2.1 epC.2.2.2.1 a b c epC.2.2.2.2.2.2.2.1 epC.2.2.2.2.2.2.2.2.1 epC.2.2.2.2.2.2.2.2.2 := by
  intro B X T C1 C2 hm1 hscr hIs hlen hgb d1 d2 d3 d4 hLn hnext gfin4z2 gfin4z3 gfin4z4 gfin4z7 gfin4z8 gfin4z9 gfin4z10 gfin4z11 gfin4z12 gfin4z13 gfin4z14 gfin4z15 gfin4z16 gfin4z17 gfin4z18 hIt hoT htz hst5 hap5 lit lie hD4 F6 hl4 N6 hR4 lD4
  k_steps
  rename Fr h₀ L _ _ => F9
  rename News h₀ L _ _ => N9
  rename _ = Data.cell (some (Value.int b _)) => dB
  rename _ = Data.cell (some (Value.int a _)) => dA
  refine hnext _ _ _ _ _ a b c _ _ _ _ _ _ _ _ _ F9 rfl rfl rfl rfl (news_sub N9 ?sub) dB dA ?r ?o ?w1 ?w2
  case sub => (repeat (refine' List.forall_mem_cons.mpr ⟨by k_mem, ?_⟩)); (intro p hp; repeat (first | exact hp | apply List.mem_cons_of_mem))
  case r => rw [Int.fmod_eq_emod_of_nonneg _ (by decide)]; (first | exact om449 | omega)
  case o => rw [Int.fmod_eq_emod_of_nonneg _ (by decide)]; (first | exact om450 | omega)
  case w1 => rw [Int.fmod_eq_emod_of_nonneg _ (by decide)]; (first | exact om451 | omega)
  case w2 => rw [Int.fmod_eq_emod_of_nonneg _ (by decide)]; (first | exact om452 | omega)
theorem all : ∀ x, prQ x := @sk tyC inI prQ (by with_unfolding_all exact @gfin4_main)
end gfin4
end seg_sA_main
theorem sA_main : prP epC.1.1 epC.1.2.1 epC.1.2.2.1 h₀ L p epC.1.2.2.2.2.2.2.1 epC.1.2.2.2.2.2.2.2 epC.2.1.1 epC.2.1.2.1 epC.2.1.2.2.1 news s Q E epC.2.1.2.2.2.2.2.2.2 epC.2.2.1.1 vs ns epC.2.2.1.2.2.2.1 o2 o3 o4 epC.2.2.1.2.2.2.2.2.2.2 epC.2.2.2.1 epC.2.2.2.2.1 epC.2.2.2.2.2 := @PSigma.snd _ _ (@PSigma.snd _ _ seg_sA_main.body) (fun a b c d e f g h i j k l m n o p q r s t u v w x y z a1 b1 => @seg_sA_main.gturn4.all ((a, b, c, d, e, f, g, h), (i, j, k, l, m, n, o, p), (q, r, s, t, u, v, w, x), (y, z, a1, b1))) (fun a b c d e f g h i j k l m n o p q r s t u v w x => @seg_sA_main.gfin4.all ((a, b, c, d, e, f, g, h), (i, j, k, l, m, n, o, p), (q, r, s, t, u, v, w, x)))
theorem all : ∀ x, prQ x := @sk tyC inI prQ (by with_unfolding_all exact @sA_main)
end sA
end seg_law_s0
theorem law_s0 : ∀ (w : World) (fa : Addr) (cd : Value) (h₀ : Heap) (L : Addr) (p : Program) (loose : List Str) (mean : ExcName → Option Value) (mg mb : Str → Option Value) (m : Str → Option Value) (news : List (Addr × Obj)) (s : Shared)
  (Q : Flow → Shared → Prop) (E : Value → Shared → Prop) (rest : List Stmt) (SCR : Addr) (vs : List Value) (ns : List Int) (o1 o2 o3 o4 : Obj) (x1 x2 x3 x4 : Option Value),
  Below callerA h₀ [] h₀ → (hd.heap_1 w.params).In h₀ → Top p loose mean mg mb h₀ → CodeHd h₀ 34 30 → CodeHd h₀ 41 37 →
  Fr h₀ L s.heap m → m (Str.ofString "script") = some (.ref SCR) → h₀.IsList SCR vs.toArray → IntsAre vs ns → ns.length ≤ 63 → AllBare s.gens →
  News h₀ L s.heap ((L + 1 + 1 + 1 + 1, o4) :: (L + 1 + 1 + 1, o3) :: (L + 1 + 1, o2) :: (L + 1, o1) :: news) → o1.data = .cell x1 → o2.data = .cell x2 → o3.data = .cell x3 → o4.data = .cell x4 → AllLt L news →
  (∀ h' tk' m' oB oSh shape bits noise ring odd wide tb ts tn tr to tw, Fr h₀ L h' m' → m' (Str.ofString "noise") = some (.int noise tn) → m' (Str.ofString "ring") = some (.int ring tr) → m' (Str.ofString "odd") = some (.int odd to) → m' (Str.ofString "wide") = some (.int wide tw) →
    News h₀ L h' ((L + 1 + 1 + 1 + 1, o4) :: (L + 1 + 1 + 1, oB) :: (L + 1 + 1, oSh) :: news) → oB.data = .cell (some (.int bits tb)) → oSh.data = .cell (some (.int shape ts)) →
    (ring = 5 ∨ ring = 7 ∨ ring = 9) → (odd = 3 ∨ odd = 5) → 13 ≤ wide → wide ≤ 16 →
    wpAny (model Prog w) (callerA.deeper (lawE L fa cd)) (execs rest (lawE L fa cd)) Q E { s with heap := h', toks := tk' }) →
  wpAny (model Prog w) (callerA.deeper (lawE L fa cd)) (execs (ls0.val ++ rest) (lawE L fa cd)) Q E s := @PSigma.snd _ _ seg_law_s0.body (fun a b c d e f g h i j k l m n o p q r s t u v w x y z a1 => @seg_law_s0.sA.all ((a, b, c, d, e, f, g, h), (i, j, k, l, m, n, o, p), (q, r, s, t, u, v, w, x), (y, z, a1)))
end
theorem rules_S3 : True := by
  k_with_none
  k_with "call builtin:len" => ((k_here; (with_reducible show wpAny _ _ (call (Value.builtin "len") [Value.ref _]) _ _ _); k_dflt (refine kst_len (by k_asm) (by k_mem) (by exact IntsAre.length (by assumption)) (by omega) ?_); (try dsimp only)))
  k_with "truthy ref" => ((k_here; (with_reducible show wpAny _ _ (truthy (Value.ref _)) _ _ _); k_dflt (refine kgr_truthy (by k_asm) (by k_mem) (by exact rfl) (by exact rfl) (by (have := IntsAre.length (by assumption); omega)) ?_); (try dsimp only)))
  k_with "call builtin:list.append" => ((k_here; (with_reducible show wpAny _ _ (call (Value.builtin _) [Value.ref _, _]) _ _ _); k_dflt (refine append_K (by k_asm) (by k_asm) (by k_upd) ?_ (by (simp only [List.size_toArray]; rw [sizeLine_eq]; omega)); k_whole); intro h'r9 F'r9 N'r9; (try k_sweep)))
  k_with "call ref" => ((k_here; (with_reducible show wpAny _ _ (call (Value.ref _) _) _ _ _); refine paus ?_))
  k_with "subscriptTail Name Constant ref int" => ((k_here; (with_reducible show wpAny _ _ (subscriptTail _ _ (Value.ref _) (Value.int _ _)) _ _ _); refine paus ?_))
  k_with "eval ListComp" => ((k_here; k_dflt (refine lc_eval (by exact rfl) (by exact rfl) (by decide) ?_)))
  k_with "exec Assign cons ListComp" => ((k_here; k_dflt (first | (refine wpAny_Assign_Name ?_) | (refine lc_assign (by exact rfl) (by exact rfl) (by exact rfl) (by decide) ?_))))
  k_with "call type:range" => ((k_here; refine paus ?_))
  k_with "call builtin:sum" => ((k_here; refine paus ?_))
  k_with "eval Name" => ((k_here; (with_reducible show wpAny _ _ (eval _ (compEnvC _ _ _ _)) _ _ _); k_dflt (refine ldC (by k_asm) (by exact rfl) ?_ (by exact rfl) (by exact rfl) (by decide))))
  k_with "binaryOp FloorDiv int int" => ((k_here; (with_reducible refine floordiv_int (by assumption) ?_ (Or.inl (by assumption)))))
  k_with "subscriptTail Tuple BinOp ref int" => ((k_here; (with_reducible show wpAny _ _ (subscriptTail _ _ (Value.ref _) (Value.int _ _)) _ _ _); refine paus ?_))
  exact trivial
section
theorem no_pyl {a b : Int} (h : b.natAbs < 1000000) : Builtin.divisionGoesByPylong a b = false := PyProof.noPylong_small (Nat.lt_of_lt_of_le h (by decide))
@[reducible] noncomputable def ls3 : Lit (List Stmt) ((lawB.val.drop 3).take 3) := by
  apply Lit.mk; case eq => dsimp only [lawB, List.drop, List.take]
noncomputable def AllP (P : Int → Prop) (q : Nat) (ys : List Value) : Prop := ∃ ms, IntsAre ys ms ∧ ms.length = q ∧ ∀ t ∈ ms, P t
theorem AllP.snoc {P : Int → Prop} {q : Nat} {ys : List Value} {t : Int} {u : Tok} (h : AllP P q ys) (ht : P t) : AllP P (q + 1) (ys ++ [.int t u]) := by
  obtain ⟨ms, h1, h2, h3⟩ := h
  refine ⟨ms ++ [t], ints_snoc h1, by simp [h2], fun x hx => ?_⟩
  rcases List.mem_append.mp hx with hx | hx
  · exact h3 x hx
  · rw [List.mem_singleton.mp hx]; exact ht
theorem menu_term {j : Int} (h0 : 0 ≤ j) (h4 : j < 4) : Term ([1, -1, 2, -2].getD j.toNat 0) := by
  have : j = 0 ∨ j = 1 ∨ j = 2 ∨ j = 3 := by (first | exact om494 h0 h4 | omega)
  rcases this with rfl | rfl | rfl | rfl <;> decide
theorem law_s3 : ∀ (w : World) (fa : Addr) (cd : Value) (h₀ : Heap) (L : Addr) (p : Program) (loose : List Str) (mean : ExcName → Option Value) (mg mb : Str → Option Value) (m : Str → Option Value) (news : List (Addr × Obj)) (s : Shared)
  (Q : Flow → Shared → Prop) (E : Value → Shared → Prop) (rest : List Stmt) (ring odd : Nat) (shape bits : Int) (t1 t2 t3 t4 : Tok) (oB oSh : Obj),
  Below callerA h₀ [] h₀ → (hd.heap_1 w.params).In h₀ → Top p loose mean mg mb h₀ → CodeHd h₀ 34 30 → CodeHd h₀ 41 37 →
  Fr h₀ L s.heap m → m (Str.ofString "ring") = some (.int ring t1) → m (Str.ofString "odd") = some (.int odd t2) →
  News h₀ L s.heap news → (L + 1 + 1 + 1, oB) ∈ news → (L + 1 + 1, oSh) ∈ news → oB.data = .cell (some (.int bits t3)) → oSh.data = .cell (some (.int shape t4)) → ring ≤ 9 → odd ≤ 5 →
  (∀ h' tk' m' TE K ts ks nT nK terms kinds tq, Fr h₀ L h' m' → (∀ z, z ≠ Str.ofString "terms" → z ≠ Str.ofString "kinds" → z ≠ Str.ofString "quoted" → m' z = m z) → m' (Str.ofString "terms") = some (.ref TE) → m' (Str.ofString "kinds") = some (.ref K) → m' (Str.ofString "quoted") = some (.int (List.sum kinds) tq) →
    News h₀ L h' ((K, W.listOf (List.toArray ks) nK) :: (TE, W.listOf (List.toArray ts) nT) :: news) → (∀ q ∈ news, @LT.lt Nat _ q.1 TE) → @LT.lt Nat _ TE K → IntsAre ts terms → IntsAre ks kinds → terms.length = odd → (∀ t ∈ terms, Term t) → kinds.length = ring → (∀ k ∈ kinds, k = 0 ∨ k = 1) →
    wpAny (model Prog w) (callerA.deeper (lawE L fa cd)) (execs rest (lawE L fa cd)) Q E { s with heap := h', toks := tk' }) →
  wpAny (model Prog w) (callerA.deeper (lawE L fa cd)) (execs (ls3.val ++ rest) (lawE L fa cd)) Q E s := by
  unfold Prog
  intro w fa cd h₀ L p loose mean mg mb m news s Q E rest ring odd shape bits t1 t2 t3 t4 oB oSh B X T C1 C2 F hm1 hm2 N hB hSh dB dSh hr9 ho5 hnext
  replace F := fr_knows [(_, _), (_, _)] F ⟨hm1, hm2, trivial⟩
  dsimp only [told] at F
  refine execs_append ?_
  dsimp only [lawE, ls3, lawS]
  k_steps
  refine range_iter (n := odd) (by (first | exact om495 ho5 | omega)) F N fun I2 own2 h2 tk2 F2 N2 l2 hst2 => ?_
  have hwr2 : own2 = [(I2, _)] := hst2
  refine lc_constB (L := L) (own := own2) (fun C => it_range) self_range (AllP Term) rfl (by decide) rfl (by (first | exact om495 ho5 | omega)) rfl rfl rfl hst2 F2 N2 ?hwr2 (fun p hp => nomatch hp) ?hoff2 ⟨[], .nil, rfl, fun _ h => nomatch h⟩ ?len2 ?turn2 ?fin2
  case hwr2 => rw [hwr2]; exact fun a ha => ha
  case hoff2 => exact fun a ha => by rw [List.mem_singleton.mp ha]; exact fun q hq => Nat.ne_of_lt (l2 q hq)
  case len2 => rintro i ys ⟨ms, h, h2, _⟩; rw [h.length, h2]; exact Nat.le_refl _
  case turn2 =>
    intro C q v ex own' mc ys dl h tk hq hPq hst3 hRq F4 N4
    obtain ⟨⟨tj, rfl⟩, rfl⟩ := hPq
    refine wpAny_assign_Name ?_
    rw [List.nil_append] at N4
    refine stC F4 N4 rfl (fun h3 F3 N3 => ?_) rfl
    refine wpAny_tests_nil ?_
    rw [if_pos rfl]
    have hp4 : (4 : Int) ^ (q : Int).toNat ≠ 0 := Int.ne_of_gt (Int.pow_pos (by decide))
    have hj0 : 0 ≤ ((shape.fdiv 24).fdiv (4 ^ (q : Int).toNat)).fmod 4 ∧ ((shape.fdiv 24).fdiv (4 ^ (q : Int).toNat)).fmod 4 < 4 := by
      rw [Int.fmod_eq_emod_of_nonneg _ (by decide)]; (first | exact om496 | omega)
    have hnp : Builtin.divisionGoesByPylong (shape.fdiv 24) (4 ^ (q : Int).toNat) = false := by
      refine no_pyl ?_
      have h1 := Nat.pow_le_pow_right (n := 4) (by decide) (show q ≤ 8 by (first | exact om497 ho5 hq | omega))
      rw [Int.natAbs_pow, Int.toNat_natCast]
      exact Nat.lt_of_le_of_lt h1 (by decide)
    clear F4 N4 F2 N2 F N
    k_steps
    · exact ⟨_, _, _, rfl, by assumption, news_sub (by assumption) fun q hq => .tail _ hq⟩
    · exact hRq.snoc (menu_term hj0.1 hj0.2)
  case fin2 =>
    intro D h3 tk3 ys2 n2 hD2 pGZ6
    refine byC fun hGZ => ?_
    obtain ⟨terms, hIt, htl, htm⟩ := pGZ6
    refine hGZ ?_; clear hGZ
    intro F4 N4
    have lD : ∀ q ∈ news, @LT.lt Nat _ q.1 D := fun q hq => hD2 q (List.mem_append_right _ hq)
    clear F2 N2
    k_steps
    refine range_iter (n := ring) (by (first | exact om342 hr9 | omega)) F4 N4 fun I3 own3 h4 tk4 F5 N5 l3 hst4 => ?_
    have hwr3 : own3 = [(I3, _)] := hst4
    refine lc_constB (L := L) (own := own3) (fun C => it_range) self_range (AllP fun k => k = 0 ∨ k = 1) rfl (by decide) rfl (by (first | exact om342 hr9 | omega)) rfl rfl rfl hst4 F5 N5 ?hwr4 (fun p hp => nomatch hp) ?hoff4 ⟨[], .nil, rfl, fun _ h => nomatch h⟩ ?len4 ?turn4 ?fin4
    case hwr4 => rw [hwr3]; exact fun a ha => ha
    case hoff4 => exact fun a ha => by rw [List.mem_singleton.mp ha]; exact fun q hq => Nat.ne_of_lt (l3 q hq)
    case len4 => rintro i ys ⟨ms, h, h2, _⟩; rw [h.length, h2]; exact Nat.le_refl _
    case turn4 =>
      intro C q v ex own' mc ys dl h tk hq hPq hst3 hRq F6 N6
      obtain ⟨⟨tj, rfl⟩, rfl⟩ := hPq
      refine wpAny_assign_Name ?_
      rw [List.nil_append] at N6
      refine stC F6 N6 rfl (fun h3 F3 N3 => ?_) rfl
      refine wpAny_tests_nil ?_
      rw [if_pos rfl]
      have hp2 : (2 : Int) ^ (q : Int).toNat ≠ 0 := Int.ne_of_gt (Int.pow_pos (by decide))
      have hnp : Builtin.divisionGoesByPylong bits (2 ^ (q : Int).toNat) = false := by
        refine no_pyl ?_
        have h1 := Nat.pow_le_pow_right (n := 2) (by decide) (show q ≤ 8 by (first | exact om498 hr9 hq | omega))
        rw [Int.natAbs_pow, Int.toNat_natCast]
        exact Nat.lt_of_le_of_lt h1 (by decide)
      have hj0 : (bits.fdiv (2 ^ (q : Int).toNat)).fmod 2 = 0 ∨ (bits.fdiv (2 ^ (q : Int).toNat)).fmod 2 = 1 := by
        rw [Int.fmod_eq_emod_of_nonneg _ (by decide)]; (first | exact om499 | omega)
      clear F6 N6 F5 N5 F4 N4
      k_steps
      · exact ⟨_, _, _, rfl, by assumption, by assumption⟩
      · exact hRq.snoc hj0
    case fin4 =>
      intro D4 h5 tk5 ks n4 hD4 pGZ6
      refine byC fun hGZ => ?_
      obtain ⟨kinds, hIk, hkl, hkb⟩ := pGZ6
      refine hGZ ?_; clear hGZ
      intro F6 N6
      have lD4 : @LT.lt Nat _ D D4 := hD4 _ (List.mem_append_right _ (.head _))
      clear F5 N5 F4 N4
      k_steps
      refine sumK rfl F6 N6 ⟨_, (N6 _ (.head _)).1, rfl, n4, rfl⟩ hIk fun h8 tk8 t8 F8 N8 => ?_
      k_steps
      rename Fr h₀ L _ _ => F9
      rename News h₀ L _ _ => N9
      refine hnext _ _ _ D D4 ys2 ks n2 n4 terms kinds _ F9 (fun z h1 h2 h3 => (if_neg h3).trans ((if_neg h2).trans ((if_neg h1).trans (congrFun (told_eq (m := m) (ks := [(_, _), (_, _)]) ⟨hm1, hm2, trivial⟩) z)))) rfl rfl rfl (news_sub N9 ?sub) lD lD4 hIt hIk htl htm hkl hkb
      case sub => (repeat (refine' List.forall_mem_cons.mpr ⟨by k_mem, ?_⟩)); (intro p hp; repeat (first | exact hp | apply List.mem_cons_of_mem))
end
theorem rules_S6 : True := by
  k_with_none
  k_with "call builtin:len" => ((k_here; (with_reducible show wpAny _ _ (call (Value.builtin "len") [Value.ref _]) _ _ _); k_dflt (refine kst_len (by k_asm) (by k_mem) (by exact IntsAre.length (by assumption)) (by omega) ?_); (try dsimp only)))
  k_with "truthy ref" => ((k_here; (with_reducible show wpAny _ _ (truthy (Value.ref _)) _ _ _); k_dflt (refine kgr_truthy (by k_asm) (by k_mem) (by exact rfl) (by exact rfl) (by (have := IntsAre.length (by assumption); omega)) ?_); (try dsimp only)))
  k_with "call builtin:list.append" => ((k_here; (with_reducible show wpAny _ _ (call (Value.builtin _) [Value.ref _, _]) _ _ _); k_dflt (refine append_K (by k_asm) (by k_asm) (by k_upd) ?_ (by (simp only [List.size_toArray]; rw [sizeLine_eq]; omega)); k_whole); intro h'r9 F'r9 N'r9; (try k_sweep)))
  k_with "call ref" => ((k_here; (with_reducible show wpAny _ _ (call (Value.ref _) _) _ _ _); refine paus ?_))
  k_with "subscriptTail Name Constant ref int" => ((k_here; (with_reducible show wpAny _ _ (subscriptTail _ _ (Value.ref _) (Value.int _ _)) _ _ _); refine paus ?_))
  k_with "compareOp NotEq ref ref" => ((k_here; (with_reducible show wpAny _ _ (compareOp _ (Value.ref _) (Value.ref _)) _ _ _); refine paus ?_))
  exact trivial
section
@[reducible] noncomputable def ls6 : Lit (List Stmt) ((lawB.val.drop 6).take 3) := by
  apply Lit.mk; case eq => dsimp only [lawB, List.drop, List.take]
theorem parsed_len (x : Str) : (parsed x).length ≤ x.length + 1 := by
  have h := (PS.len x.cps.toList).2
  have e : x.cps.toList.length = x.length := by simp [Str.length]
  unfold parsed PS.fin
  split <;> simp only [List.length_map, List.length_append, List.length_cons, List.length_nil] <;> (first | exact om500 h e | exact om501 h e | omega)
theorem ne_strs {prog : Program} {w : World} {A : Around} {E : Value → Shared → Prop} {s : Shared} {a b : Addr} {xs ys : List Value} {P : List Str} {Q : Value → Shared → Prop} (ha : s.heap.IsList a xs.toArray) (hb : s.heap.IsList b ys.toArray) (hi : StrsAre xs P) (hj : StrsAre ys P) (hu : A.units < cLine) (h : Q (.bool false) s) :
    wpAny (model prog w) A (compareOp .NotEq (.ref a) (.ref b)) Q E s := by
  have hlx := hi.length
  have hly := hj.length
  have hr := SeqAt.RcNeAt.lists (A := A) (s := s) (e := fun _ => true) ha hb (by simp only [List.size_toArray]; (first | exact om502 hlx hly | omega)) hu (fun j h1 h2 => by
    simp only [List.size_toArray] at h1 h2
    have hp : j < P.length := by (first | exact om87 hlx h1 | omega)
    obtain ⟨t, ht⟩ := hi.get j P[j] (List.getElem?_eq_getElem hp)
    obtain ⟨u, hu⟩ := hj.get j P[j] (List.getElem?_eq_getElem hp)
    rw [List.getElem?_eq_getElem h1] at ht
    rw [List.getElem?_eq_getElem h2] at hu
    have e1 : xs.toArray[j]'(by simpa using h1) = .str P[j] t := by simpa using Option.some.inj ht
    have e2 : ys.toArray[j]'(by simpa using h2) = .str P[j] u := by simpa using Option.some.inj hu
    rw [e1, e2]
    have := SeqAt.EqAt.str_str (A := A.in1) (s := s) P[j] t P[j] u
    rwa [beq_self_eq_true] at this)
  have hall : (List.range xs.toArray.size).all (fun _ => true) = true := by simp
  rw [hall] at hr
  exact hr prog w E Q h
theorem law_s6 : ∀ (w : World) (fa : Addr) (cd : Value) (h₀ : Heap) (L : Addr) (p : Program) (loose : List Str) (mean : ExcName → Option Value) (mg mb : Str → Option Value) (m : Str → Option Value) (news : List (Addr × Obj)) (s : Shared)
  (Q : Flow → Shared → Prop) (E : Value → Shared → Prop) (rest : List Stmt) (noise : Int) (t1 : Tok) (K : Addr) (ks : List Value) (kinds : List Int) (nK : Nat),
  Below callerA h₀ [] h₀ → (hd.heap_1 w.params).In h₀ → Top p loose mean mg mb h₀ → CodeHd h₀ 34 30 → CodeHd h₀ 41 37 →
  Fr h₀ L s.heap m → m (Str.ofString "noise") = some (.int noise t1) → m (Str.ofString "kinds") = some (.ref K) →
  News h₀ L s.heap news → (K, W.listOf ks.toArray nK) ∈ news → IntsAre ks kinds → 5 ≤ kinds.length → kinds.length ≤ 9 → (∀ k ∈ kinds, k = 0 ∨ k = 1) →
  (∀ h' tk' m' IT is nI res more, Fr h₀ L h' m' → (∀ z, z ≠ Str.ofString "text" → z ≠ Str.ofString "due" → z ≠ Str.ofString "items" → m' z = m z) → m' (Str.ofString "items") = some (.ref IT) →
    News h₀ L h' ((IT, W.listOf (List.toArray is) nI) :: news) → (∀ q ∈ news, @LT.lt Nat _ q.1 IT) → StrsAre is (List.map Txt.strip res ++ more) → more.length ≤ 1000 → runs (-1) (sizesOf res) = cutsFrom 0 kinds →
    wpAny (model Prog w) (callerA.deeper (lawE L fa cd)) (execs rest (lawE L fa cd)) Q E { s with heap := h', toks := tk' }) →
  wpAny (model Prog w) (callerA.deeper (lawE L fa cd)) (execs (ls6.val ++ rest) (lawE L fa cd)) Q E s := by
  unfold Prog
  intro w fa cd h₀ L p loose mean mg mb m news s Q E rest noise t1 K ks kinds nK B X T C1 C2 F hm1 hm2 N hK hIk hk5 hk9 hkb hnext
  replace F := fr_knows [(_, _), (_, _)] F ⟨hm1, hm2, trivial⟩
  dsimp only [told] at F
  refine execs_append ?_
  have hS : Site w (callerA.deeper (lawE L fa cd)) h₀ L := site_in B X T rfl rfl rfl C1 C2
  dsimp only [lawE, lawS] at hS
  dsimp only [lawE, ls6, lawS]
  k_steps
  refine' law_header w _ h₀ L _ news _ _ _ K ks kinds nK noise _ hS F N (show callerA.depth + 1 + 20 < recursionLimit by decide) (show callerA.units + 3 + 300 < cLine by decide) hK hIk hk5 hk9 hkb ?_
  intro TU D text tt du nD res more ha tka Fa Na hdu htl hpar hruns lD lTU
  have hml : more.length ≤ 1000 := by
    have h1 := parsed_len text
    rw [hpar, List.length_append] at h1
    (first | exact om503 htl h1 | omega)
  have hdl : du.length ≤ 200 := by
    rw [hdu.length]
    have h1 := parsed_len text
    (first | exact om504 htl h1 | omega)
  clear N F
  k_steps
  rename Fr h₀ L _ _ => F2
  rename News h₀ L _ _ => N2
  refine' parse_http w _ h₀ L _ _ _ _ _ text _ hS F2 N2 (show callerA.depth + 1 + 10 < recursionLimit by decide) (show callerA.units + 3 + 100 < cLine by decide) (by (first | exact om505 htl | omega)) ?_
  intro IT is nI hb tkb Fb Nb his hlt
  have hil : is.length ≤ 200 := by
    rw [his.length]
    have h1 := parsed_len text
    (first | exact om504 htl h1 | omega)
  clear F2 N2
  obtain ⟨P, hP⟩ : ∃ P, P = parsed text := ⟨_, rfl⟩
  rw [← hP] at his hdu hpar
  k_steps
  rename Fr h₀ L _ _ => F3
  rename News h₀ L _ _ => N3
  refine ne_strs (N3.isList (by k_mem)) (N3.isList (by k_mem)) his hdu (show callerA.units + 3 < cLine by decide) ?_
  k_steps
  refine hnext _ _ _ IT is nI res more F3 (fun z h1 h2 h3 => (if_neg h3).trans ((if_neg h2).trans ((if_neg h1).trans (congrFun (told_eq (m := m) (ks := [(_, _), (_, _)]) ⟨hm1, hm2, trivial⟩) z)))) rfl (news_sub N3 ?sub) (fun q hq => hlt q (.tail _ (.tail _ hq))) (by rw [← hpar]; exact his) hml hruns
  case sub => (repeat (refine' List.forall_mem_cons.mpr ⟨by k_mem, ?_⟩)); (intro p hp; repeat (first | exact hp | apply List.mem_cons_of_mem))
end
theorem rules_S9 : True := by
  k_with_none
  k_with "call builtin:len" => ((k_here; (with_reducible show wpAny _ _ (call (Value.builtin "len") [Value.ref _]) _ _ _); k_dflt (refine kst_len (by k_asm) (by k_mem) (by exact IntsAre.length (by assumption)) (by omega) ?_); (try dsimp only)))
  k_with "truthy ref" => ((k_here; (with_reducible show wpAny _ _ (truthy (Value.ref _)) _ _ _); k_dflt (refine kgr_truthy (by k_asm) (by k_mem) (by exact rfl) (by exact rfl) (by (have := IntsAre.length (by assumption); omega)) ?_); (try dsimp only)))
  k_with "call builtin:list.append" => ((k_here; (with_reducible show wpAny _ _ (call (Value.builtin _) [Value.ref _, _]) _ _ _); k_dflt (refine append_K (by k_asm) (by k_asm) (by k_upd) ?_ (by (simp only [List.size_toArray]; rw [sizeLine_eq]; omega)); k_whole); intro h'r9 F'r9 N'r9; (try k_sweep)))
  k_with "call ref" => ((k_here; (with_reducible show wpAny _ _ (call (Value.ref _) _) _ _ _); refine paus ?_))
  k_with "subscriptTail Name Constant ref int" => ((k_here; (with_reducible show wpAny _ _ (subscriptTail _ _ (Value.ref _) (Value.int _ _)) _ _ _); refine paus ?_))
  k_with "pyIter ref" => ((k_here; (with_reducible show wpAny _ _ (pyIter (Value.ref _)) _ _ _); refine paus ?_))
  k_with "eval ListComp" => ((k_here; k_dflt (refine lc_eval (by exact rfl) (by exact rfl) (by decide) ?_)))
  k_with "call type:enumerate" => ((k_here; refine paus ?_))
  k_with "exec For Name Call cons nil" => ((k_here; (with_reducible show wpAny _ _ (exec (Stmt.For _ _ _ [] _) _) _ _ _); k_dflt (refine wpAny_For ?_)))
  k_with "eval Name" => ((k_here; (with_reducible show wpAny _ _ (eval _ (compEnvC _ _ _ _)) _ _ _); k_dflt (refine ldC (by k_asm) (by exact rfl) ?_ (by exact rfl) (by exact rfl) (by decide))))
  k_with "subscriptTail Name Slice ref ref" => ((k_here; (with_reducible show wpAny _ _ (subscriptTail _ (PySem.Expr.Slice _ _ none _) (Value.ref _) (Value.ref _)) _ _ _); k_dflt (refine kms_slice_lit (by k_asm) (by k_asm) (by kmk_list) (by kmk_part) (by kmk_part) (by assumption) ?_ (by with_unfolding_all rfl) (by kmk_pure) (by assumption)); intro D'r9 h'r9 F'r9 N'r9 l1r9; (try k_lt l1r9); (try k_sweep)))
  k_with "storeName" => ((k_here; (with_reducible show wpAny _ _ (storeName (compEnvC _ _ _ _) _ _) _ _ _); k_dflt (refine stC (by k_asm) (by k_asm) (by exact rfl) ?_ (by exact rfl); k_whole); intro h'r9 F'r9 N'r9))
  exact trivial
section
@[reducible] noncomputable def ls9 : Lit (List Stmt) ((lawB.val.drop 9).take 3) := by
  apply Lit.mk; case eq => dsimp only [lawB, List.drop, List.take]
noncomputable def JCut (m0 : Str → Option Value) (CU : Addr) (rest : List (Addr × Obj)) (sizes : List Int) (i : Nat) (m : Str → Option Value) (nx : List (Addr × Obj)) : Prop :=
  (∀ z, z ≠ Str.ofString "size" → z ≠ Str.ofString "at" → m z = m0 z) ∧ (∃ t, m (Str.ofString "at") = some (.int (-1 + (sizes.take i).sum) t)) ∧ ∃ (cv : List Value) (nC : Nat), nx = (CU, W.listOf cv.toArray nC) :: rest ∧ IntsAre cv (runs (-1) (sizes.take i))
theorem law_s9 : ∀ (w : World) (fa : Addr) (cd : Value) (h₀ : Heap) (L : Addr) (p : Program) (loose : List Str) (mean : ExcName → Option Value) (mg mb : Str → Option Value) (m : Str → Option Value) (news : List (Addr × Obj)) (s : Shared)
  (Q : Flow → Shared → Prop) (E : Value → Shared → Prop) (rest : List Stmt) (ring : Nat) (quoted : Int) (t1 t2 : Tok) (IT K : Addr) (is ks : List Value) (kinds : List Int) (res more : List Str) (nI nK : Nat),
  Below callerA h₀ [] h₀ → (hd.heap_1 w.params).In h₀ → Top p loose mean mg mb h₀ → CodeHd h₀ 34 30 → CodeHd h₀ 41 37 →
  Fr h₀ L s.heap m → m (Str.ofString "ring") = some (.int ring t1) → m (Str.ofString "quoted") = some (.int quoted t2) → m (Str.ofString "items") = some (.ref IT) → m (Str.ofString "kinds") = some (.ref K) →
  News h₀ L s.heap news → AllBare s.gens → (IT, W.listOf is.toArray nI) ∈ news → (K, W.listOf ks.toArray nK) ∈ news → StrsAre is (res.map Txt.strip ++ more) → IntsAre ks kinds → runs (-1) (sizesOf res) = cutsFrom 0 kinds →
  kinds.length = ring → ring ≤ 9 → (∀ k ∈ kinds, k = 0 ∨ k = 1) → quoted = kinds.sum → more.length ≤ 1000 →
  (∀ h' tk' g' m' CU cs nC, AllBare g' → Fr h₀ L h' m' → (∀ z, z ≠ Str.ofString "cuts" → z ≠ Str.ofString "at" → z ≠ Str.ofString "size" → m' z = m z) → m' (Str.ofString "cuts") = some (.ref CU) →
    News h₀ L h' ((CU, W.listOf (List.toArray cs) nC) :: news) → (∀ q ∈ news, @LT.lt Nat _ q.1 CU) → IntsAre cs (cutsFrom 0 kinds) →
    wpAny (model Prog w) (callerA.deeper (lawE L fa cd)) (execs rest (lawE L fa cd)) Q E { s with heap := h', toks := tk', gens := g' }) →
  wpAny (model Prog w) (callerA.deeper (lawE L fa cd)) (execs (ls9.val ++ rest) (lawE L fa cd)) Q E s := by
  unfold Prog
  intro w fa cd h₀ L p loose mean mg mb m news s Q E rest ring quoted t1 t2 IT K is ks kinds res more nI nK B X T C1 C2 F hm1 hm2 hm3 hm4 N hgb hIT hK hIs hIk hruns hkl hr9 hkb hq hmore hnext
  replace F := fr_knows [(_, _), (_, _), (_, _), (_, _)] F ⟨hm1, hm2, hm3, hm4, trivial⟩
  dsimp only [told] at F
  obtain ⟨hsz, hsum⟩ := sizes_small hruns (by (first | exact om471 hkl hr9 | omega))
  have hrl : (res.length : Int) = ring - quoted := by
    have h1 := congrArg List.length hruns
    rw [runs_length, List.length_map] at h1
    have h2 := cuts_len_eq kinds 0 hkb
    (first | exact om506 hkl hq h1 h2 | omega)
  obtain ⟨hq0, hq1⟩ := sum_bits kinds hkb
  have hpick : kms_pick is.toArray.toList none (some ((ring : Int) - quoted)) = is.take res.length := by
    unfold kms_pick
    simp only [kms_lo, kms_hi, List.drop_zero, Nat.sub_zero]
    rw [if_neg (by (first | exact om507 hrl | omega))]
    rw [← hrl, Int.toNat_natCast, kmk_take_min]
  have hisz : is.toArray.size ≤ sizeLine := by
    rw [List.size_toArray, hIs.length, List.length_append, List.length_map, sizeLine_eq]; (first | exact om508 hr9 hq hmore hrl hq0 | omega)
  have htk : StrsAre (is.take res.length) (res.map Txt.strip) := by
    have h := hIs.take' res.length
    rwa [List.take_left' (by rw [List.length_map])] at h
  refine execs_append ?_
  have hS : Site w (callerA.deeper (lawE L fa cd)) h₀ L := site_in B X T rfl rfl rfl C1 C2
  dsimp only [lawE, lawS] at hS
  dsimp only [lawE, ls9, lawS]
  k_steps
  rename Fr h₀ L _ _ => F1
  rename News h₀ L _ _ => N1
  obtain ⟨SL, hSL⟩ : ∃ d, d = adrAt (led N1) 0 := ⟨_, rfl⟩
  obtain ⟨CU, hCU⟩ : ∃ d, d = adrAt (led N1) 2 := ⟨_, rfl⟩
  dsimp only [adrAt, led] at hSL hCU
  subst hSL
  subst hCU
  have lCU : ∀ q ∈ news, @LT.lt Nat _ q.1 CU := allLt_mem (by assumption)
  refine pyIter_list F1 N1 (.head _) fun I3 oI3 h4 F4 N4 lI3 hli3 => ?_
  refine lc_const (own := [(I3, oI3)]) (fun C => it_list (l := SL) (vs := is.take res.length) (nn := 0)) self_list (fun q ys => IntsAre ys ((sizesOf res).take q)) rfl (by decide) rfl ?hn3 hli3 F4 N4 ?hwr3 ?hsrc3 ?hoff3 .nil ?len3 ?turn3 ?fin3
  case hn3 => rw [htk.length, List.length_map]; (first | exact om509 hr9 hq hrl hq0 | omega)
  case hwr3 => exact fun a ha => ha
  case hsrc3 => exact fun q hq => by rw [List.mem_singleton.mp hq]; k_mem
  case hoff3 => exact fun a ha => by rw [List.mem_singleton.mp ha]; exact fun q hq => Nat.ne_of_lt (lI3 q hq)
  case len3 => intro q ys h; rw [h.length]; exact List.length_take_le ..
  case turn3 =>
    intro C3 q v3 ex3 own3 mc3 ys3 dl3 h6 tk6 hq hPq hst3 hR3 F6 N6
    obtain ⟨hv3, rfl⟩ := hPq
    have hq' : q < res.length := by rw [htk.length, List.length_map] at hq; exact hq
    obtain ⟨tq, hx0⟩ := htk.get q (Txt.strip res[q]) (by rw [List.getElem?_map, List.getElem?_eq_getElem hq']; rfl)
    rw [hx0] at hv3
    cases hv3
    refine wpAny_assign_Name ?_
    rw [List.nil_append] at N6
    refine stC F6 N6 rfl (fun h7 F7 N7 => ?_) rfl
    refine wpAny_tests_nil ?_
    rw [if_pos rfl]
    clear N6 F6 N4 F4
    k_steps
    · exact ⟨_, _, _, rfl, by assumption, by assumption⟩
    · rw [List.take_add_one, List.getElem?_map, List.getElem?_eq_getElem hq', count_cc, cc_strip]
      exact ints_snoc hR3
  case fin3 =>
    intro D3 h6 tk6 ys3 n3 hD3 hR3 F6 N6
    rw [List.take_of_length_le (by rw [htk.length, List.length_map, List.length_map]; exact Nat.le_refl _)] at hR3
    clear N4 F4
    k_steps
    rename Fr h₀ L _ _ => F5
    rename News h₀ L _ _ => N5
    rename IntsAre _ (sizesOf res ++ [127, 3]) => hIg
    refine byC fun hGZ => ?_
    obtain ⟨GL, hGL⟩ : ∃ d, d = adrAt (led N5) 0 := ⟨_, rfl⟩
    dsimp only [adrAt, led] at hGL
    subst hGL
    have lGC : @LT.lt Nat _ CU GL := by (first | exact om295 (by assumption) | omega)
    have lGn : ∀ q ∈ news, @LT.lt Nat _ q.1 GL := allLt_mem (by assumption)
    obtain ⟨gv, N8, hIg⟩ : ∃ gv, News h₀ L _ ((GL, W.listOf (List.toArray gv) 0) :: (CU, W.listOf (List.toArray []) 0) :: news) ∧ IntsAre gv (sizesOf res ++ [127, 3]) := ⟨_, news_sub N5 (by (repeat (refine' List.forall_mem_cons.mpr ⟨by k_mem, ?_⟩)); (intro p hp; repeat (first | exact hp | apply List.mem_cons_of_mem))), hIg⟩
    obtain ⟨m0, F8, y1, y2, y3⟩ : ∃ m0, Fr h₀ L _ m0 ∧ m0 (Str.ofString "cuts") = some (.ref CU) ∧ (∃ t, m0 (Str.ofString "at") = some (.int (-1) t)) ∧ ∀ z, z ≠ Str.ofString "cuts" → z ≠ Str.ofString "at" → m0 z = m z :=
      ⟨_, F5, rfl, ⟨_, rfl⟩, fun z h1 h2 => (if_neg h1).trans ((if_neg h2).trans (congrFun (told_eq (m := m) (ks := [(_, _), (_, _), (_, _), (_, _)]) ⟨hm1, hm2, hm3, hm4, trivial⟩) z))⟩
    refine hGZ ?_; clear hGZ
    clear F5 N5
    (repeat ((with_reducible rename AllLt _ _ => h9z); clear h9z))
    refine' call_ruler (l := GL) ?room X T ?hgb F8 N8 fun G Lg own h1 tk1 g1 hru F2 N2 lL lG ha => ?_
    case room => exact (by decide : callerA.depth + 1 < recursionLimit)
    case hgb => exact hgb
    k_steps
    refine ru_self (hru (W.listOf (List.toArray gv) 0) (res.length + 1) (fun j => (sizesOf res)[j]?)) N2 ?_
    clear F8 N8
    have hsl : (sizesOf res).length = res.length := List.length_map ..
    refine' loop_t (it_ruler (K := res.length) (N := res.length + 1) (out := fun j => (sizesOf res)[j]?) (lo := W.listOf (List.toArray gv) 0) rfl (by decide : callerA.depth + 1 < recursionLimit) X T rfl hIg ?hz ?hout ?hK ?hK0 ?hK1) (JCut m0 CU ((GL, W.listOf (List.toArray gv) 0) :: news) (sizesOf res)) (hru _ _ _) F2 (news_sub (news' := own ++ ((CU, W.listOf (List.toArray []) 0) :: (GL, W.listOf (List.toArray gv) 0) :: news)) N2 ?sub2) ?ha ?j0 ?hJ ?turn ?fin
    case hz =>
      cases hsr : sizesOf res with
      | nil => simp
      | cons x r =>
        have := (hsz x (by rw [hsr]; exact .head _)).1
        simp; (first | exact om510 this | omega)
    case hout => exact fun j => go_sizes _ _ _ hsz
    case hK => exact Nat.lt_succ_self _
    case hK0 => exact List.getElem?_eq_none (by (first | exact om49 hsl | omega))
    case hK1 => exact fun i hi => ⟨(sizesOf res)[i], List.getElem?_eq_getElem (by (first | exact om88 hsl hi | omega))⟩
    case sub2 =>
      intro p hp
      rcases List.mem_append.mp hp with hp | hp
      · exact List.mem_append_left _ hp
      · refine List.mem_append_right _ ?_
        rcases List.mem_cons.mp hp with rfl | hp
        · exact .tail _ (.head _)
        · rcases List.mem_cons.mp hp with rfl | hp
          · exact .head _
          · exact .tail _ (.tail _ hp)
    case ha => exact fun q hq p hp => ha q hq p (by
      rcases List.mem_cons.mp hp with rfl | hp
      · exact .tail _ (.head _)
      · rcases List.mem_cons.mp hp with rfl | hp
        · exact .head _
        · exact .tail _ (.tail _ hp))
    case j0 => exact ⟨fun _ _ _ => rfl, y2, [], 0, rfl, .nil⟩
    case hJ =>
      intro i m nx pGZ3
      refine byC fun hGZ => ?_
      obtain ⟨_, _, cv, nC, rfl, _⟩ := pGZ3
      refine hGZ ?_; clear hGZ
      intro q hq
      rw [List.mem_singleton.mp hq]
      exact .tail _ (.head _)
    case turn =>
      intro i v ex own m9 nx h8 tk8 g8 hi pGZ10 hst8 pGZ12
      refine byC fun hGZ => ?_
      obtain ⟨⟨y, t, rfl, hy⟩, rfl⟩ := pGZ10
      obtain ⟨hmz, ⟨ta, hat⟩, cv, nC, rfl, hIv⟩ := pGZ12
      refine hGZ ?_; clear hGZ
      intro F7 N7 hex hap
      have hy1 := hsz y (List.mem_of_getElem? hy)
      have hcl : cv.length = i := by rw [hIv.length, runs_length, List.length_take]; (first | exact om455 hsl hi | omega)
      refine wpAny_assign_Name ?_
      simp only [List.nil_append] at N7
      have z1 : m9 (Str.ofString "cuts") = some (.ref CU) := (hmz _ (by decide) (by decide)).trans y1
      replace F7 := fr_knows [(_, _), (_, _)] F7 ⟨z1, hat, trivial⟩
      dsimp only [told] at F7
      have N6 := news_sub (news' := (CU, W.listOf (List.toArray cv) nC) :: (own ++ ((GL, W.listOf (List.toArray gv) 0) :: news))) N7 (by
        intro p hp
        rcases List.mem_cons.mp hp with rfl | hp
        · exact List.mem_append_right _ (.head _)
        · rcases List.mem_append.mp hp with hp | hp
          · exact List.mem_append_left _ hp
          · exact List.mem_append_right _ (.tail _ hp))
      have hall : ∀ p ∈ own ++ ((GL, W.listOf (List.toArray gv) 0) :: news), p.1 ≠ CU := by
        intro p hp
        rcases List.mem_append.mp hp with hp | hp
        · exact fun e => hap p hp _ (.head _) e.symm
        · rcases List.mem_cons.mp hp with rfl | hp
          · exact Nat.ne_of_gt lGC
          · exact Nat.ne_of_lt (lCU p hp)
      clear N7 F2 N2
      k_steps
      rename Fr h₀ L _ _ => F9
      rename News h₀ L _ _ => N9
      simp only [List.push_toArray] at N9
      refine ⟨_, _, frm F9, (CU, objAt (led N9) 0) :: (GL, W.listOf (List.toArray gv) 0) :: news, rfl, F9, ?sub9, ?ap9, (fun z h1 h2 => ((if_neg h2).trans ((if_neg h1).trans (congrFun (told_eq (m := m9) (ks := [(_, _), (_, _)]) ⟨z1, hat, trivial⟩) z))).trans (hmz z h1 h2)), ⟨tokOf (frm F9 (Str.ofString "at")), ?at9⟩, _, _, rfl, ?ivs⟩
      case sub9 =>
        refine news_sub N9 fun p hp => ?_
        dsimp only [objAt, led] at hp
        rcases List.mem_append.mp hp with hp | hp
        · exact .tail _ (List.mem_append_left _ hp)
        · rcases List.mem_cons.mp hp with rfl | hp
          · exact .head _
          · exact .tail _ (List.mem_append_right _ hp)
      case ap9 =>
        intro q hq p hp
        rcases List.mem_cons.mp hp with rfl | hp
        · exact hap q hq (CU, W.listOf (List.toArray cv) nC) (.head _)
        · exact hap q hq p (.tail _ hp)
      case at9 =>
        rw [sum_take_succ hy, ← Int.add_assoc]
        rfl
      case ivs =>
        rw [runs_take_succ hy]
        exact ints_snoc hIv
    case fin =>
      intro m9 nx h8 tk8 g8 hg8 pGZ6
      refine byC fun hGZ => ?_
      obtain ⟨hmz, _, cv, nC, rfl, hIv⟩ := pGZ6
      refine hGZ ?_; clear hGZ
      intro F7 N7
      rw [List.take_of_length_le (by (first | exact om49 hsl | omega)), hruns] at hIv
      have z1 : m9 (Str.ofString "cuts") = some (.ref CU) := (hmz _ (by decide) (by decide)).trans y1
      have z2 : m9 (Str.ofString "kinds") = some (.ref K) := (hmz _ (by decide) (by decide)).trans ((y3 _ (by decide) (by decide)).trans hm4)
      replace F7 := fr_knows [(_, _), (_, _)] F7 ⟨z1, z2, trivial⟩
      dsimp only [told] at F7
      clear F2 N2
      k_steps
      refine call_enum F7 N7 (by k_mem) fun e it own2 h5 F5 N5 hst5 hap5 lit lie => ?_
      refine pyIter_enum N5 hst5 ?_
      refine lc_goT (it_enum (h₀ := h₀) (l := K) (vs := ks) (nn := nK) rfl) (fun C nx s Q E hst N h => pyIter_enum N hst h) (fun q ys => IntsAre ys (cutsFrom 0 (kinds.take q))) (by decide) rfl ?hn4 hst5 F5 N5 hap5 ?hsrc4 .nil ?len4 ?turn4 ?fin4
      case hn4 => rw [hIk.length]; (first | exact om463 hkl hr9 | omega)
      case hsrc4 => exact fun q hq => by rw [List.mem_singleton.mp hq]; k_mem
      case len4 => intro q ys h; rw [h.length]; exact Nat.le_trans (cuts_len _ _) (List.length_take_le ..)
      case turn4 =>
        intro C3 q v3 ex3 own3 mc3 ys3 dl3 h6 tk6 g6 hq pGZ12
        refine byC fun hGZ => ?_
        obtain ⟨Dx, tx, x, rfl, hx, rfl⟩ := pGZ12
        refine hGZ ?_; clear hGZ
        intro hst3 hR3 F6 N6 hex6 hap6
        have hq' : q < kinds.length := by rw [← hIk.length]; exact hq
        obtain ⟨tq, hx0⟩ := hIk.get q (kinds[q]) (List.getElem?_eq_getElem hq')
        rw [hx0] at hx
        cases hx
        simp only [List.cons_append, List.nil_append] at N6
        clear F7 N7 F5 N5
        k_steps
        · exact ⟨_, _, _, rfl, by assumption, news_sub (by assumption) fun q hq => .tail _ hq⟩
        · rename _ = (0 : Int) => hz
          rw [List.take_add_one, List.getElem?_eq_getElem hq', Option.toList_some, cutsFrom_snoc, if_pos hz, List.length_take, Nat.min_eq_left (Nat.le_of_lt hq'), Int.zero_add]
          exact ints_snoc hR3
        · exact ⟨_, _, _, rfl, by assumption, news_sub (by assumption) fun q hq => .tail _ hq⟩
        · rename _ ≠ (0 : Int) => hz
          rw [List.take_add_one, List.getElem?_eq_getElem hq', Option.toList_some, cutsFrom_snoc, if_neg hz, List.append_nil]
          exact hR3
      case fin4 =>
        intro D4 h6 tk6 g6 ys4 n4 hD4 hg6 hR4 F6 N6
        rw [List.take_of_length_le (by rw [hIk.length]; exact Nat.le_refl _)] at hR4
        clear F7 N7 F5 N5
        k_steps
        refine hnext _ _ _ _ CU cv nC ?gb F6 (fun z h0 h1 h2 => (congrFun (told_eq (m := m9) (ks := [(_, _), (_, _)]) ⟨z1, z2, trivial⟩) z).trans ((hmz z h2 h1).trans (y3 z h0 h1))) rfl (news_sub N6 ?sub) lCU hIv
        case gb => rw [hg6]; exact hg8
        case sub => (repeat (refine' List.forall_mem_cons.mpr ⟨by k_mem, ?_⟩)); (intro p hp; repeat (first | exact hp | apply List.mem_cons_of_mem))
end
theorem rules_S12 : True := by
  k_with_none
  k_with "call builtin:len" => ((k_here; (with_reducible show wpAny _ _ (call (Value.builtin "len") [Value.ref _]) _ _ _); k_dflt (refine kst_len (by k_asm) (by k_mem) (by exact IntsAre.length (by assumption)) (by omega) ?_); (try dsimp only)))
  k_with "truthy ref" => ((k_here; (with_reducible show wpAny _ _ (truthy (Value.ref _)) _ _ _); k_dflt (refine kgr_truthy (by k_asm) (by k_mem) (by exact rfl) (by exact rfl) (by (have := IntsAre.length (by assumption); omega)) ?_); (try dsimp only)))
  k_with "call builtin:list.append" => ((k_here; (with_reducible show wpAny _ _ (call (Value.builtin _) [Value.ref _, _]) _ _ _); k_dflt (refine append_K (by k_asm) (by k_asm) (by k_upd) ?_ (by (simp only [List.size_toArray]; rw [sizeLine_eq]; omega)); k_whole); intro h'r9 F'r9 N'r9; (try k_sweep)))
  k_with "call ref" => ((k_here; (with_reducible show wpAny _ _ (call (Value.ref _) _) _ _ _); refine paus ?_))
  k_with "subscriptTail Name Constant ref int" => ((k_here; (with_reducible show wpAny _ _ (subscriptTail _ _ (Value.ref _) (Value.int _ _)) _ _ _); refine paus ?_))
  k_with "pyIter ref" => ((k_here; (with_reducible show wpAny _ _ (pyIter (Value.ref _)) _ _ _); refine paus ?_))
  k_with "eval ListComp" => ((k_here; k_dflt (refine lc_eval (by exact rfl) (by exact rfl) (by decide) ?_)))
  k_with "call type:range" => ((k_here; refine paus ?_))
  k_with "exec For Name Call cons nil" => ((k_here; (with_reducible show wpAny _ _ (exec (Stmt.For _ _ _ [] _) _) _ _ _); k_dflt (refine wpAny_For ?_)))
  k_with "eval Name" => ((k_here; (with_reducible show wpAny _ _ (eval _ (compEnvC _ _ _ _)) _ _ _); k_dflt (refine ldC (by k_asm) (by exact rfl) ?_ (by exact rfl) (by exact rfl) (by decide))))
  exact trivial
noncomputable section
@[reducible] noncomputable def ls12 : Lit (List Stmt) ((lawB.val.drop 12).take 3) := by
  apply Lit.mk; case eq => dsimp only [lawB, List.drop, List.take]
noncomputable def JSeen (g0 : Array GenState) (m0 : Str → Option Value) (SE : Addr) (rest : List (Addr × Obj)) (kinds : List Int) (i : Nat) (m : Str → Option Value) (nx : List (Addr × Obj)) (g : Array GenState) : Prop :=
  g = g0 ∧ (∀ z, z ≠ Str.ofString "place" → z ≠ Str.ofString "low" → z ≠ Str.ofString "high" → z ≠ Str.ofString "bound" → m z = m0 z) ∧
    ∃ (sv : List Value) (nS : Nat), nx = (SE, W.listOf sv.toArray nS) :: rest ∧ IntsAre sv ((kinds.take i).map (1 - ·))
namespace seg_law_s12
noncomputable def body : (P_1 : World → Addr → Value → Heap → Addr → Program → List Str → (ExcName → Option Value) → (Str → Option Value) → (Str → Option Value) → (Str → Option Value) → List (Addr × Obj) → Shared → (Flow → Shared → Prop) → (Value → Shared → Prop) → List Stmt → Nat → Tok → Addr → Addr → List Value → List Value → List Int → Nat → Nat → Prop) ×' ((∀ a b c d e f g h i j k l m n o p q r s t u v w x y, P_1 a b c d e f g h i j k l m n o p q r s t u v w x y) → (∀ (w : World) (fa : Addr) (cd : Value) (h₀ : Heap) (L : Addr) (p : Program) (loose : List Str) (mean : ExcName → Option Value) (mg mb : Str → Option Value) (m : Str → Option Value) (news : List (Addr × Obj)) (s : Shared)
  (Q : Flow → Shared → Prop) (E : Value → Shared → Prop) (rest : List Stmt) (ring : Nat) (t1 : Tok) (CU K : Addr) (cs ks : List Value) (kinds : List Int) (nC nK : Nat),
  Below callerA h₀ [] h₀ → (hd.heap_1 w.params).In h₀ → Top p loose mean mg mb h₀ → CodeHd h₀ 34 30 → CodeHd h₀ 41 37 →
  Fr h₀ L s.heap m → m (Str.ofString "ring") = some (.int ring t1) → m (Str.ofString "cuts") = some (.ref CU) → m (Str.ofString "kinds") = some (.ref K) →
  News h₀ L s.heap news → (CU, W.listOf cs.toArray nC) ∈ news → (K, W.listOf ks.toArray nK) ∈ news → IntsAre cs (cutsFrom 0 kinds) → IntsAre ks kinds →
  kinds.length = ring → ring ≤ 9 → (∀ k ∈ kinds, k = 0 ∨ k = 1) →
  (∀ h' tk' m' SE ss nS, Fr h₀ L h' m' → (∀ z, z ≠ Str.ofString "seen" → z ≠ Str.ofString "place" → z ≠ Str.ofString "low" → z ≠ Str.ofString "high" → z ≠ Str.ofString "bound" → m' z = m z) → m' (Str.ofString "seen") = some (.ref SE) →
    News h₀ L h' ((SE, W.listOf (List.toArray ss) nS) :: news) → (∀ q ∈ news, @LT.lt Nat _ q.1 SE) → IntsAre ss (kinds.map (1 - ·)) →
    wpAny (model Prog w) (callerA.deeper (lawE L fa cd)) (execs rest (lawE L fa cd)) Q E { s with heap := h', toks := tk' }) →
  wpAny (model Prog w) (callerA.deeper (lawE L fa cd)) (execs (ls12.val ++ rest) (lawE L fa cd)) Q E s)) := by
  refine' ⟨_, fun k_1 => ?main⟩
  case main =>
    unfold Prog
    intro w fa cd h₀ L p loose mean mg mb m news s Q E rest ring t1 CU K cs ks kinds nC nK B X T C1 C2 F hm1 hm2 hm3 N hCU hK hIc hIk hkl hr9 hkb hnext
    revert B X T C1 C2 F hm1 hm2 hm3 N hCU hK hIc hIk hkl hr9 hkb hnext
    exact k_1 w fa cd h₀ L p loose mean mg mb m news s Q E rest ring t1 CU K cs ks kinds nC nK
namespace sA
noncomputable abbrev tyC := (World × Addr × Value × Heap × Addr × Program × List Str × (ExcName → Option Value)) × ((Str → Option Value) × (Str → Option Value) × (Str → Option Value) × (List (Addr × Obj)) × Shared × (Flow → Shared → Prop) × (Value → Shared → Prop) × List Stmt) × (Nat × Tok × Addr × Addr × List Value × List Value × List Int × Nat) × Nat
def prP := body.1
def prQ (x : tyC) : Prop := prP x.1.1 x.1.2.1 x.1.2.2.1 x.1.2.2.2.1 x.1.2.2.2.2.1 x.1.2.2.2.2.2.1 x.1.2.2.2.2.2.2.1 x.1.2.2.2.2.2.2.2 x.2.1.1 x.2.1.2.1 x.2.1.2.2.1 x.2.1.2.2.2.1 x.2.1.2.2.2.2.1 x.2.1.2.2.2.2.2.1 x.2.1.2.2.2.2.2.2.1 x.2.1.2.2.2.2.2.2.2 x.2.2.1.1 x.2.2.1.2.1 x.2.2.1.2.2.1 x.2.2.1.2.2.2.1 x.2.2.1.2.2.2.2.1 x.2.2.1.2.2.2.2.2.1 x.2.2.1.2.2.2.2.2.2.1 x.2.2.1.2.2.2.2.2.2.2 x.2.2.2
noncomputable def inI : tyC := ((aWorld 0, default, default, default, default, default, default, default), (default, default, default, default, {}, default, default, default), default, 0)
def epC : tyC := eps inI prQ
@[irreducible] def w := epC.1.1
@[irreducible] def fa := epC.1.2.1
@[irreducible] def cd := epC.1.2.2.1
@[irreducible] def h₀ := epC.1.2.2.2.1
@[irreducible] def L := epC.1.2.2.2.2.1
@[irreducible] def p := epC.1.2.2.2.2.2.1
@[irreducible] def m := epC.2.1.2.2.1
@[irreducible] def news := epC.2.1.2.2.2.1
@[irreducible] def s := epC.2.1.2.2.2.2.1
@[irreducible] def ring := epC.2.2.1.1
@[irreducible] def CU := epC.2.2.1.2.2.1
@[irreducible] def K := epC.2.2.1.2.2.2.1
@[irreducible] def cs := epC.2.2.1.2.2.2.2.1
@[irreducible] def ks := epC.2.2.1.2.2.2.2.2.1
@[irreducible] def kinds := epC.2.2.1.2.2.2.2.2.2.1
@[irreducible] def nC := epC.2.2.1.2.2.2.2.2.2.2
@[irreducible] def nK := epC.2.2.2
namespace seg_sA_main
noncomputable def body : (P_1 : Heap → Nat → Addr → Nat → List (Addr × Obj) → Heap → Nat → (Str → Option Value) → Nat → List (Addr × Obj) → (Str → Option Value) → Heap → Nat → Tok → List Value → Nat → Prop) ×' (P_2 : Heap → Nat → Addr → Nat → List (Addr × Obj) → Heap → Nat → (Str → Option Value) → (Str → Option Value) → Heap → Nat → List Value → Nat → Prop) ×' ((∀ a b c d e f g h i j k l m n o p, P_1 a b c d e f g h i j k l m n o p) → (∀ a b c d e f g h i j k l m, P_2 a b c d e f g h i j k l m) → (prP w fa cd h₀ L p epC.1.2.2.2.2.2.2.1 epC.1.2.2.2.2.2.2.2 epC.2.1.1 epC.2.1.2.1 m news s epC.2.1.2.2.2.2.2.1 epC.2.1.2.2.2.2.2.2.1 epC.2.1.2.2.2.2.2.2.2 ring epC.2.2.1.2.1 CU K cs ks kinds nC nK)) := by
  refine' ⟨_, _, fun k_1 k_2 => ?main⟩
  case main =>
    intro B X T C1 C2 F hm1 hm2 hm3 N hCU hK hIc hIk hkl hr9 hkb hnext
    replace F := fr_knows [(_, _), (_, _), (_, _)] F ⟨hm1, hm2, hm3, trivial⟩
    dsimp only [told] at F
    refine execs_append ?_
    have hS : Site w (callerA.deeper (lawE L fa cd)) h₀ L := site_in B X T rfl rfl rfl C1 C2
    dsimp only [lawE, lawS] at hS
    dsimp only [lawE, ls12, lawS]
    k_steps
    rename Fr h₀ L _ _ => F1
    rename News h₀ L _ _ => N1
    obtain ⟨SE, hSE⟩ : ∃ d, d = adrAt (led N1) 0 := ⟨_, rfl⟩
    dsimp only [adrAt, led] at hSE
    subst hSE
    refine range_iter (n := ring) (by (first | exact om342 hr9 | omega)) F1 N1 fun I own h2 tk2 F2 N2 l2 hst2 => ?_
    have hwr2 : own = [(I, _)] := hst2
    have hclen : ((cutsFrom 0 kinds).length : Int) ≤ 9 := by have := cuts_len kinds 0; (first | exact om453 hkl hr9 this | omega)
    have hclen2 : ((cutsFrom 0 kinds).length : Int) ≤ 100000 := by (first | exact om454 hclen | omega)
    have hd9 : callerA.depth + 1 + 10 < recursionLimit := by decide
    have hu9 : callerA.units + 3 + 100 < cLine := by decide
    have lSE : ∀ q ∈ news, @LT.lt Nat _ q.1 SE := allLt_mem (by assumption)
    have lSI : @LT.lt Nat _ SE I := l2 _ (.head _)
    refine byC fun hGZ => ?_
    obtain ⟨m0, F3, y1, y2, y3⟩ : ∃ m0, Fr h₀ L h2 m0 ∧ m0 (Str.ofString "cuts") = some (.ref CU) ∧ m0 (Str.ofString "seen") = some (.ref SE) ∧ ∀ z, z ≠ Str.ofString "seen" → m0 z = m z :=
      ⟨_, F2, rfl, rfl, fun z hz => (if_neg hz).trans (congrFun (told_eq (m := m) (ks := [(_, _), (_, _), (_, _)]) ⟨hm1, hm2, hm3, trivial⟩) z)⟩
    refine hGZ ?_; clear hGZ
    clear F1 N1 F2
    refine' loop_it (it_range (n := ring)) (JSeen s.gens m0 SE news kinds) ?hh hst2 F3 N2 ?j0 ?hJ ?turn ?fin
    case hh => exact rfl
    case j0 => exact ⟨rfl, fun z _ _ _ _ => rfl, [], 0, rfl, .nil⟩
    case hJ =>
      intro i m nx g pGZ4
      refine byC fun hGZ => ?_
      obtain ⟨_, _, sv, nS, rfl, _⟩ := pGZ4
      refine hGZ ?_; clear hGZ
      refine ⟨(fun p hp => nomatch hp), fun y hy => ?_⟩
      rw [List.mem_singleton.mp hy]
      exact off_cons.mpr ⟨neN (by (first | exact om230 lSI | omega)), fun q hq => Nat.ne_of_lt (l2 q (.tail _ hq))⟩
    case turn =>
      intro i v ex own m9 nx h8 tk8 g8 hi pGZ10 hst3 pGZ12
      refine byC fun hGZ => ?_
      obtain ⟨⟨ti, rfl⟩, rfl⟩ := pGZ10
      obtain ⟨rfl, hmz, sv, nS, rfl, hIv⟩ := pGZ12
      refine hGZ ?_; clear hGZ
      intro F7 N7 _ hap
      have hIl : sv.length = i := by rw [hIv.length, List.length_map, List.length_take]; (first | exact om455 hkl hi | omega)
      refine wpAny_assign_Name ?_
      simp only [List.nil_append] at N7
      have hwr3 : own = [(I, _)] := hst3
      rw [hwr3] at N7
      simp only [List.cons_append, List.nil_append] at N7
      have z1 : m9 (Str.ofString "cuts") = some (.ref CU) := (hmz _ (by decide) (by decide) (by decide) (by decide)).trans y1
      have z2 : m9 (Str.ofString "seen") = some (.ref SE) := (hmz _ (by decide) (by decide) (by decide) (by decide)).trans y2
      replace F7 := fr_knows [(_, _), (_, _)] F7 ⟨z1, z2, trivial⟩
      dsimp only [told] at F7
      clear F3 N2
      rename_i _ gturnz1 gturnz2 gturnz3 gturnz4
      revert B X T C1 C2 hm1 hm2 hm3 hCU hK hIc hIk hkl hr9 hkb hnext hS gturnz2 l2 hst2 hwr2 hclen hclen2 hd9 hu9 lSE lSI y1 y2 y3 hi hst3 hmz hIv N7 gturnz4 hap hIl hwr3 z1 z2 F7
      exact k_1 gturnz1 tk SE I gturnz3 h2 tk2 m0 i own m9 h8 tk8 ti sv nS
    case fin =>
      intro m9 nx h8 tk8 g8 pGZ5
      refine byC fun hGZ => ?_
      obtain ⟨rfl, hmz, sv, nS, rfl, hIv⟩ := pGZ5
      refine hGZ ?_; clear hGZ
      intro F7 N7
      rw [List.take_of_length_le (by (first | exact om49 hkl | omega))] at hIv
      have z1 : m9 (Str.ofString "kinds") = some (.ref K) := (hmz _ (by decide) (by decide) (by decide) (by decide)).trans ((y3 _ (by decide)).trans hm3)
      have z2 : m9 (Str.ofString "seen") = some (.ref SE) := (hmz _ (by decide) (by decide) (by decide) (by decide)).trans y2
      replace F7 := fr_knows [(_, _), (_, _)] F7 ⟨z1, z2, trivial⟩
      dsimp only [told] at F7
      clear F3 N2
      rename_i _ gfinz1 gfinz2
      revert B X T C1 C2 hm1 hm2 hm3 hCU hK hIc hIk hkl hr9 hkb hnext hS gfinz2 l2 hst2 hwr2 hclen hclen2 hd9 hu9 lSE lSI y1 y2 y3 hmz hIv N7 z1 z2 F7
      exact k_2 gfinz1 tk SE I own h2 tk2 m0 m9 h8 tk8 sv nS
namespace gturn
noncomputable abbrev tyC := (Heap × Nat × Addr × Nat × (List (Addr × Obj)) × Heap × Nat × (Str → Option Value)) × (Nat × (List (Addr × Obj)) × (Str → Option Value) × Heap × Nat × Tok × List Value × Nat)
def prP := body.1
def prQ (x : tyC) : Prop := prP x.1.1 x.1.2.1 x.1.2.2.1 x.1.2.2.2.1 x.1.2.2.2.2.1 x.1.2.2.2.2.2.1 x.1.2.2.2.2.2.2.1 x.1.2.2.2.2.2.2.2 x.2.1 x.2.2.1 x.2.2.2.1 x.2.2.2.2.1 x.2.2.2.2.2.1 x.2.2.2.2.2.2.1 x.2.2.2.2.2.2.2.1 x.2.2.2.2.2.2.2.2
noncomputable def inI : tyC := default
def epC : tyC := eps inI prQ
@[irreducible] def SE := epC.1.2.2.1
@[irreducible] def h2 := epC.1.2.2.2.2.2.1
@[irreducible] def i := epC.2.1
@[irreducible] def m9 := epC.2.2.2.1
theorem gturn_main : prP epC.1.1 epC.1.2.1 SE epC.1.2.2.2.1 epC.1.2.2.2.2.1 h2 epC.1.2.2.2.2.2.2.1 epC.1.2.2.2.2.2.2.2 i epC.2.2.1 m9 epC.2.2.2.2.1 epC.2.2.2.2.2.1 epC.2.2.2.2.2.2.1 epC.2.2.2.2.2.2.2.1 epC.2.2.2.2.2.2.2.2 := by
  intro B X T C1 C2 hm1 hm2 hm3 hCU hK hIc hIk hkl hr9 hkb hnext hS gturnz2 l2 hst2 hwr2 hclen hclen2 hd9 hu9 lSE lSI y1 y2 y3 hi hst3 hmz hIv N7 gturnz4 hap hIl hwr3 z1 z2 F7
  k_steps
  rename Fr h₀ L _ _ => G1
  rename News h₀ L _ _ => H1
  refine' bisect_left w _ h₀ L _ _ _ _ _ CU cs (cutsFrom 0 kinds) nC i 0 (cutsFrom 0 kinds).length _ default default _ hS G1 H1 (by k_mem) hIc hd9 hu9 hclen2 cuts_le (by (first | exact om456 | omega)) (by (first | exact om53 | omega)) (by (first | exact om379 | omega)) (.inl ⟨rfl, rfl, rfl⟩) ?_
  intro low tl ha tka BL Ga Ha
  have BL' := BL
  refine byC fun hGZ => ?_
  obtain ⟨a1, a2, _, _⟩ := BL'
  refine hGZ ?_; clear hGZ
  clear G1 H1
  k_steps
  refine' bisect_right w _ h₀ L _ _ _ _ _ CU cs (cutsFrom 0 kinds) nC i 0 (cutsFrom 0 kinds).length _ default default _ hS Ga Ha (by k_mem) hIc hd9 hu9 hclen2 cuts_le (by (first | exact om456 | omega)) (by (first | exact om53 | omega)) (by (first | exact om379 | omega)) (.inl ⟨rfl, rfl, rfl⟩) ?_
  intro high th hb tkb BR Gb Hb
  have BR' := BR
  refine byC fun hGZ => ?_
  obtain ⟨b1, b2, _, _⟩ := BR'
  refine hGZ ?_; clear hGZ
  have hcnt := bis_count (l := kinds) (j := i) (by (first | exact om88 hkl hi | omega)) hkb BL BR
  have hbit : kinds.getD i 0 = 0 ∨ kinds.getD i 0 = 1 := by
    rw [List.getD_eq_getElem?_getD, List.getElem?_eq_getElem (by (first | exact om88 hkl hi | omega))]; exact hkb _ (List.getElem_mem _)
  have hlh : low ≤ high := by rcases hbit with h | h <;> (first | exact om457 hcnt h | exact om458 hcnt h | omega)
  replace hbit : Hid _ := hbit
  clear Ga Ha
  k_steps
  rename Fr h₀ L _ _ => G2
  rename News h₀ L _ _ => H2
  refine' bisect_left w _ h₀ L _ _ _ _ _ CU cs (cutsFrom 0 kinds) nC i high (cutsFrom 0 kinds).length _ _ default _ hS G2 H2 (by k_mem) hIc hd9 hu9 hclen2 cuts_le (by (first | exact om459 b1 | omega)) (by (first | exact om460 b2 | omega)) (by (first | exact om379 | omega)) (.inr (.inl ⟨rfl, rfl⟩)) ?_
  intro r1 t5 hc tkc Bc Gc Hc
  obtain rfl : r1 = high := bisL_lo BR Bc
  clear G2 H2
  have hf : 0 ≤ low.fdiv 2 ∧ low.fdiv 2 ≤ low := by rw [Int.fdiv_eq_ediv_of_nonneg _ (by decide)]; (first | exact om461 a1 | omega)
  obtain ⟨hf1, hf2⟩ := hf
  k_steps
  refine' bisect_left w _ h₀ L _ _ _ _ _ CU cs (cutsFrom 0 kinds) nC i 0 (low.fdiv 2) _ _ _ _ hS Gc Hc (by k_mem) hIc hd9 hu9 hclen2 cuts_le (by (first | exact om456 | omega)) (by (first | exact om459 hf1 | omega)) (by (first | exact om462 a2 hf2 | omega)) (.inr (.inr rfl)) ?_
  intro r2 t6 hd tkd Bd Gd Hd
  obtain rfl : r2 = low.fdiv 2 := bisL_hi (hi := low.fdiv 2) BL Bd hf2 hf1
  clear Gc Hc
  k_steps
  refine' bisect_right w _ h₀ L _ _ _ _ _ CU cs (cutsFrom 0 kinds) nC i 0 low _ _ _ _ hS Gd Hd (by k_mem) hIc hd9 hu9 hclen2 cuts_le (by (first | exact om456 | omega)) (by (first | exact om459 a1 | omega)) (by (first | exact om460 a2 | omega)) (.inr (.inr rfl)) ?_
  intro r3 t7 he tke Be Ge He
  obtain rfl : r3 = low := bisR_hi BL Be
  clear Gd Hd
  k_steps
  refine' bisect_right w _ h₀ L _ _ _ _ _ CU cs (cutsFrom 0 kinds) nC i (cutsFrom 0 kinds).length (cutsFrom 0 kinds).length _ _ default _ hS Ge He (by k_mem) hIc hd9 hu9 hclen2 cuts_le (by (first | exact om53 | omega)) (by (first | exact om379 | omega)) (by (first | exact om379 | omega)) (.inr (.inl ⟨rfl, rfl⟩)) ?_
  intro r4 t8 hf tkf Bf Gf Hf
  obtain rfl : r4 = (cutsFrom 0 kinds).length := Int.le_antisymm Bf.h2 Bf.h1
  clear Ge He
  k_steps
  rename Fr h₀ L _ _ => F9
  rename News h₀ L _ _ => N9
  simp only [List.push_toArray] at N9
  refine ⟨_, _, _, frm F9, (SE, objAt (led N9) 4) :: news, rfl, F9, ?sub, rfl, (fun z h1 h2 h3 h4 => ((if_neg h4).trans ((if_neg h2).trans ((if_neg h3).trans ((if_neg h1).trans (congrFun (told_eq (m := m9) (ks := [(_, _), (_, _)]) ⟨z1, z2, trivial⟩) z))))).trans (hmz z h1 h2 h3 h4)), _, _, rfl, ?ivs⟩
  case sub =>
    rw [hwr3]
    exact news_sub N9 (by (repeat (refine' List.forall_mem_cons.mpr ⟨by k_mem, ?_⟩)); (intro p hp; repeat (first | exact hp | apply List.mem_cons_of_mem)))
  case ivs =>
    rw [List.take_add_one, List.getElem?_eq_getElem (by (first | exact om88 hkl hi | omega)), Option.toList_some, List.map_append, hcnt, List.getD_eq_getElem?_getD, List.getElem?_eq_getElem (by (first | exact om88 hkl hi | omega))]
    exact ints_snoc hIv
theorem all : ∀ x, prQ x := @sk tyC inI prQ (by with_unfolding_all exact @gturn_main)
end gturn
namespace gfin
noncomputable abbrev tyC := (Heap × Nat × Addr × Nat × (List (Addr × Obj)) × Heap × Nat × (Str → Option Value)) × ((Str → Option Value) × Heap × Nat × List Value × Nat)
def prP := body.2.1
def prQ (x : tyC) : Prop := prP x.1.1 x.1.2.1 x.1.2.2.1 x.1.2.2.2.1 x.1.2.2.2.2.1 x.1.2.2.2.2.2.1 x.1.2.2.2.2.2.2.1 x.1.2.2.2.2.2.2.2 x.2.1 x.2.2.1 x.2.2.2.1 x.2.2.2.2.1 x.2.2.2.2.2
noncomputable def inI : tyC := default
def epC : tyC := eps inI prQ
@[irreducible] def SE := epC.1.2.2.1
@[irreducible] def own := epC.1.2.2.2.2.1
@[irreducible] def h2 := epC.1.2.2.2.2.2.1
@[irreducible] def m9 := epC.2.1
@[irreducible] def sv := epC.2.2.2.2.1
@[irreducible] def nS := epC.2.2.2.2.2
namespace seg_gfin_main
noncomputable def body : (P_1 : Nat → Obj → Heap → Addr → Nat → List (Addr × Obj) → (Str → Option Value) → List Value → List (Addr × Obj) → Heap → Nat → Tok → Heap → Prop) ×' (P_2 : Nat → Obj → Heap → Nat → Heap → Nat → List Value → Nat → Prop) ×' ((∀ a b c d e f g h i j k l m, P_1 a b c d e f g h i j k l m) → (∀ a b c d e f g h, P_2 a b c d e f g h) → (prP epC.1.1 epC.1.2.1 SE epC.1.2.2.2.1 own h2 epC.1.2.2.2.2.2.2.1 epC.1.2.2.2.2.2.2.2 m9 epC.2.2.1 epC.2.2.2.1 sv nS)) := by
  refine' ⟨_, _, fun k_1 k_2 => ?main⟩
  case main =>
    intro B X T C1 C2 hm1 hm2 hm3 hCU hK hIc hIk hkl hr9 hkb hnext hS gfinz2 l2 hst2 hwr2 hclen hclen2 hd9 hu9 lSE lSI y1 y2 y3 hmz hIv N7 z1 z2 F7
    k_steps
    refine pyIter_list F7 N7 (by k_mem) fun I3 oI3 h4 F4 N4 lI3 hli3 => ?_
    refine lc_const (own := [(I3, oI3)]) (fun C => it_list (l := K) (vs := ks) (nn := nK)) self_list (fun q ys => IntsAre ys ((kinds.take q).map (1 - ·))) rfl (by decide) rfl ?hn3 hli3 F4 N4 ?hwr3 ?hsrc3 ?hoff3 .nil ?len3 ?turn3 ?fin3
    case hn3 => rw [hIk.length]; (first | exact om463 hkl hr9 | omega)
    case hwr3 => exact fun a ha => ha
    case hsrc3 => exact fun q hq => by rw [List.mem_singleton.mp hq]; k_mem
    case hoff3 => exact fun a ha => by rw [List.mem_singleton.mp ha]; exact fun q hq => Nat.ne_of_lt (lI3 q hq)
    case len3 => intro q ys h; rw [h.length, List.length_map]; exact List.length_take_le ..
    case turn3 =>
      intro C3 q v3 ex3 own3 mc3 ys3 dl3 h6 tk6 hq hPq hst3 hR3 F6 N6
      obtain ⟨hv3, rfl⟩ := hPq
      have hq' : q < kinds.length := by rw [← hIk.length]; exact hq
      obtain ⟨tq, hx0⟩ := hIk.get q (kinds[q]) (List.getElem?_eq_getElem hq')
      rw [hx0] at hv3
      cases hv3
      refine wpAny_assign_Name ?_
      rw [List.nil_append] at N6
      refine stC F6 N6 rfl (fun h7 F7 N7 => ?_) rfl
      refine wpAny_tests_nil ?_
      rw [if_pos rfl]
      clear N6 F6 N4 F4
      rename_i gturn3z1 gturn3z2
      revert B X T C1 C2 hm1 hm2 hm3 hCU hK hIc hIk hkl hr9 hkb hnext hS gfinz2 l2 hst2 hwr2 hclen hclen2 hd9 hu9 lSE lSI y1 y2 y3 hmz hIv gturn3z1 z1 z2 gturn3z2 lI3 hli3 hq hst3 hR3 hq' hx0 F7 N7
      exact k_1 I3 oI3 h4 C3 q own3 mc3 ys3 dl3 h6 tk6 tq h7
    case fin3 =>
      intro D3 h6 tk6 ys3 n3 hD3 hR3 F6 N6
      rw [List.take_of_length_le (by rw [hIk.length]; exact Nat.le_refl _)] at hR3
      clear N4 F4 F7 N7
      revert B X T C1 C2 hm1 hm2 hm3 hCU hK hIc hIk hkl hr9 hkb hnext hS gfinz2 l2 hst2 hwr2 hclen hclen2 hd9 hu9 lSE lSI y1 y2 y3 hmz hIv z1 z2 lI3 hli3 hD3 hR3 F6 N6
      exact k_2 I3 oI3 h4 D3 h6 tk6 ys3 n3
namespace gturn3
noncomputable abbrev tyC := (Nat × Obj × Heap × Addr × Nat × (List (Addr × Obj)) × (Str → Option Value) × List Value) × ((List (Addr × Obj)) × Heap × Nat × Tok × Heap)
def prP := body.1
def prQ (x : tyC) : Prop := prP x.1.1 x.1.2.1 x.1.2.2.1 x.1.2.2.2.1 x.1.2.2.2.2.1 x.1.2.2.2.2.2.1 x.1.2.2.2.2.2.2.1 x.1.2.2.2.2.2.2.2 x.2.1 x.2.2.1 x.2.2.2.1 x.2.2.2.2.1 x.2.2.2.2.2
noncomputable def inI : tyC := default
def epC : tyC := eps inI prQ
theorem gturn3_main : prP epC.1.1 epC.1.2.1 epC.1.2.2.1 epC.1.2.2.2.1 epC.1.2.2.2.2.1 epC.1.2.2.2.2.2.1 epC.1.2.2.2.2.2.2.1 epC.1.2.2.2.2.2.2.2 epC.2.1 epC.2.2.1 epC.2.2.2.1 epC.2.2.2.2.1 epC.2.2.2.2.2 := by
  intro B X T C1 C2 hm1 hm2 hm3 hCU hK hIc hIk hkl hr9 hkb hnext hS gfinz2 l2 hst2 hwr2 hclen hclen2 hd9 hu9 lSE lSI y1 y2 y3 hmz hIv gturn3z1 z1 z2 gturn3z2 lI3 hli3 hq hst3 hR3 hq' hx0 F7 N7
  k_steps
  · exact ⟨_, _, _, rfl, by assumption, by assumption⟩
  · rw [List.take_add_one, List.getElem?_eq_getElem hq', Option.toList_some, List.map_append]
    exact ints_snoc hR3
theorem all : ∀ x, prQ x := @sk tyC inI prQ (by with_unfolding_all exact @gturn3_main)
end gturn3
namespace gfin3
noncomputable abbrev tyC := Nat × Obj × Heap × Nat × Heap × Nat × List Value × Nat
def prP := body.2.1
def prQ (x : tyC) : Prop := prP x.1 x.2.1 x.2.2.1 x.2.2.2.1 x.2.2.2.2.1 x.2.2.2.2.2.1 x.2.2.2.2.2.2.1 x.2.2.2.2.2.2.2
noncomputable def inI : tyC := default
def epC : tyC := eps inI prQ
@[irreducible] def h4 := epC.2.2.1
theorem gfin3_main : prP epC.1 epC.2.1 h4 epC.2.2.2.1 epC.2.2.2.2.1 epC.2.2.2.2.2.1 epC.2.2.2.2.2.2.1 epC.2.2.2.2.2.2.2 := by
  intro B X T C1 C2 hm1 hm2 hm3 hCU hK hIc hIk hkl hr9 hkb hnext hS gfinz2 l2 hst2 hwr2 hclen hclen2 hd9 hu9 lSE lSI y1 y2 y3 hmz hIv z1 z2 lI3 hli3 hD3 hR3 F6 N6
  k_steps
  refine hnext _ _ _ SE sv nS F6 (fun z h0 h1 h2 h3 h4 => (congrFun (told_eq (m := m9) (ks := [(_, _), (_, _)]) ⟨z1, z2, trivial⟩) z).trans ((hmz z h1 h2 h3 h4).trans (y3 z h0))) rfl (news_sub N6 fun q hq => .tail _ hq) lSE hIv
theorem all : ∀ x, prQ x := @sk tyC inI prQ (by with_unfolding_all exact @gfin3_main)
end gfin3
end seg_gfin_main
theorem gfin_main : prP epC.1.1 epC.1.2.1 SE epC.1.2.2.2.1 own h2 epC.1.2.2.2.2.2.2.1 epC.1.2.2.2.2.2.2.2 m9 epC.2.2.1 epC.2.2.2.1 sv nS := @PSigma.snd _ _ (@PSigma.snd _ _ seg_gfin_main.body) (fun a b c d e f g h i j k l m => @seg_gfin_main.gturn3.all ((a, b, c, d, e, f, g, h), (i, j, k, l, m))) (fun a b c d e f g h => @seg_gfin_main.gfin3.all (a, b, c, d, e, f, g, h))
theorem all : ∀ x, prQ x := @sk tyC inI prQ (by with_unfolding_all exact @gfin_main)
end gfin
end seg_sA_main
theorem sA_main : prP w fa cd h₀ L p epC.1.2.2.2.2.2.2.1 epC.1.2.2.2.2.2.2.2 epC.2.1.1 epC.2.1.2.1 m news s epC.2.1.2.2.2.2.2.1 epC.2.1.2.2.2.2.2.2.1 epC.2.1.2.2.2.2.2.2.2 ring epC.2.2.1.2.1 CU K cs ks kinds nC nK := @PSigma.snd _ _ (@PSigma.snd _ _ seg_sA_main.body) (fun a b c d e f g h i j k l m n o p => @seg_sA_main.gturn.all ((a, b, c, d, e, f, g, h), (i, j, k, l, m, n, o, p))) (fun a b c d e f g h i j k l m => @seg_sA_main.gfin.all ((a, b, c, d, e, f, g, h), (i, j, k, l, m)))
theorem all : ∀ x, prQ x := @sk tyC inI prQ (by with_unfolding_all exact @sA_main)
end sA
end seg_law_s12
theorem law_s12 : ∀ (w : World) (fa : Addr) (cd : Value) (h₀ : Heap) (L : Addr) (p : Program) (loose : List Str) (mean : ExcName → Option Value) (mg mb : Str → Option Value) (m : Str → Option Value) (news : List (Addr × Obj)) (s : Shared)
  (Q : Flow → Shared → Prop) (E : Value → Shared → Prop) (rest : List Stmt) (ring : Nat) (t1 : Tok) (CU K : Addr) (cs ks : List Value) (kinds : List Int) (nC nK : Nat),
  Below callerA h₀ [] h₀ → (hd.heap_1 w.params).In h₀ → Top p loose mean mg mb h₀ → CodeHd h₀ 34 30 → CodeHd h₀ 41 37 →
  Fr h₀ L s.heap m → m (Str.ofString "ring") = some (.int ring t1) → m (Str.ofString "cuts") = some (.ref CU) → m (Str.ofString "kinds") = some (.ref K) →
  News h₀ L s.heap news → (CU, W.listOf cs.toArray nC) ∈ news → (K, W.listOf ks.toArray nK) ∈ news → IntsAre cs (cutsFrom 0 kinds) → IntsAre ks kinds →
  kinds.length = ring → ring ≤ 9 → (∀ k ∈ kinds, k = 0 ∨ k = 1) →
  (∀ h' tk' m' SE ss nS, Fr h₀ L h' m' → (∀ z, z ≠ Str.ofString "seen" → z ≠ Str.ofString "place" → z ≠ Str.ofString "low" → z ≠ Str.ofString "high" → z ≠ Str.ofString "bound" → m' z = m z) → m' (Str.ofString "seen") = some (.ref SE) →
    News h₀ L h' ((SE, W.listOf (List.toArray ss) nS) :: news) → (∀ q ∈ news, @LT.lt Nat _ q.1 SE) → IntsAre ss (kinds.map (1 - ·)) →
    wpAny (model Prog w) (callerA.deeper (lawE L fa cd)) (execs rest (lawE L fa cd)) Q E { s with heap := h', toks := tk' }) →
  wpAny (model Prog w) (callerA.deeper (lawE L fa cd)) (execs (ls12.val ++ rest) (lawE L fa cd)) Q E s := @PSigma.snd _ _ seg_law_s12.body (fun a b c d e f g h i j k l m n o p q r s t u v w x y => @seg_law_s12.sA.all ((a, b, c, d, e, f, g, h), (i, j, k, l, m, n, o, p), (q, r, s, t, u, v, w, x), y))
end
theorem rules_S15 : True := by
  k_with_none
  k_with "call builtin:len" => ((k_here; (with_reducible show wpAny _ _ (call (Value.builtin "len") [Value.ref _]) _ _ _); k_dflt (refine kst_len (by k_asm) (by k_mem) (by exact IntsAre.length (by assumption)) (by omega) ?_); (try dsimp only)))
  k_with "truthy ref" => ((k_here; (with_reducible show wpAny _ _ (truthy (Value.ref _)) _ _ _); k_dflt (refine kgr_truthy (by k_asm) (by k_mem) (by exact rfl) (by exact rfl) (by (have := IntsAre.length (by assumption); omega)) ?_); (try dsimp only)))
  k_with "call builtin:list.append" => ((k_here; (with_reducible show wpAny _ _ (call (Value.builtin _) [Value.ref _, _]) _ _ _); k_dflt (refine append_K (by k_asm) (by k_asm) (by k_upd) ?_ (by (simp only [List.size_toArray]; rw [sizeLine_eq]; omega)); k_whole); intro h'r9 F'r9 N'r9; (try k_sweep)))
  k_with "call ref" => ((k_here; (with_reducible show wpAny _ _ (call (Value.ref _) _) _ _ _); refine paus ?_))
  k_with "subscriptTail Name Constant ref int" => ((k_here; (with_reducible show wpAny _ _ (subscriptTail _ _ (Value.ref _) (Value.int _ _)) _ _ _); refine paus ?_))
  exact trivial
section
@[reducible] noncomputable def ls15 : Lit (List Stmt) ((lawB.val.drop 15).take 2) := by
  apply Lit.mk; case eq => dsimp only [lawB, List.drop, List.take]
theorem law_s15 : ∀ (w : World) (fa : Addr) (cd : Value) (h₀ : Heap) (L : Addr) (p : Program) (loose : List Str) (mean : ExcName → Option Value) (mg mb : Str → Option Value) (m : Str → Option Value) (news : List (Addr × Obj)) (s : Shared)
  (Q : Flow → Shared → Prop) (E : Value → Shared → Prop) (rest : List Stmt) (wide : Int) (ring : Nat) (t1 : Tok) (o1 k1 o2 k2 : Obj) (c1 c2 SE TE K : Addr) (ss ts ks : List Value) (kinds terms : List Int) (nS nT nK : Nat),
  Below callerA h₀ [] h₀ → (hd.heap_1 w.params).In h₀ → Top p loose mean mg mb h₀ → CodeHd h₀ 34 30 → CodeHd h₀ 41 37 →
  Fr h₀ L s.heap m → m (Str.ofString "wide") = some (.int wide t1) → m (Str.ofString "seen") = some (.ref SE) → m (Str.ofString "terms") = some (.ref TE) → m (Str.ofString "kinds") = some (.ref K) →
  News h₀ L s.heap ((30, o1) :: (c1, k1) :: (37, o2) :: (c2, k2) :: news) → Off 30 news → Off 37 news → @Ne Nat c1 37 → @Ne Nat c2 30 → TabSt 30 32 4 q30 o1 c1 k1 → TabSt 37 47 4 q37 o2 c2 k2 → AllBare s.gens →
  (SE, W.listOf ss.toArray nS) ∈ news → (TE, W.listOf ts.toArray nT) ∈ news → (K, W.listOf ks.toArray nK) ∈ news → IntsAre ss (kinds.map (1 - ·)) → IntsAre ts terms → IntsAre ks kinds →
  Ring ring → kinds.length = ring → (∀ k ∈ kinds, k = 0 ∨ k = 1) → terms ≠ [] → terms.length ≤ 5 → (∀ t ∈ terms, Term t) → 13 ≤ wide → wide ≤ 16 →
  (∀ h' tk' g' m' o1' k1' o2' k2' c1' c2' R CT vs ct nR nC nw, AllBare g' → Fr h₀ L h' m' → (∀ z, z ≠ Str.ofString "rows" → z ≠ Str.ofString "counts" → m' z = m z) → m' (Str.ofString "rows") = some (.ref R) → m' (Str.ofString "counts") = some (.ref CT) →
    News h₀ L h' ((30, o1') :: (c1', k1') :: (37, o2') :: (c2', k2') :: nw) → Off 30 nw → Off 37 nw → @Ne Nat c1' 37 → @Ne Nat c2' 30 → TabSt 30 32 4 q30 o1' c1' k1' → TabSt 37 47 4 q37 o2' c2' k2' → (∀ q ∈ news, q ∈ nw) →
    (R, W.listOf (List.toArray vs) nR) ∈ nw → RowsAre nw vs (terms.map (rowOf (kinds.map (1 - ·)) ring)) → (CT, W.listOf (List.toArray ct) nC) ∈ nw → IntsAre ct (counted kinds ring terms) →
    wpAny (model Prog w) (callerA.deeper (lawE L fa cd)) (execs rest (lawE L fa cd)) Q E { s with heap := h', toks := tk', gens := g' }) →
  wpAny (model Prog w) (callerA.deeper (lawE L fa cd)) (execs (ls15.val ++ rest) (lawE L fa cd)) Q E s := by
  unfold Prog
  intro w fa cd h₀ L p loose mean mg mb m news s Q E rest wide ring t1 o1 k1 o2 k2 c1 c2 SE TE K ss ts ks kinds terms nS nT nK B X T C1 C2 F hm1 hm2 hm3 hm4 N hR1 hR2 hn1 hn2 hT1 hT2 hgb hSE hTE hK hIs hIt hIk hring hkl hkb ht0 ht5 htm hw13 hw16 hnext
  replace F := fr_knows [(_, _), (_, _), (_, _), (_, _)] F ⟨hm1, hm2, hm3, hm4, trivial⟩
  dsimp only [told] at F
  have hr5 : 5 ≤ ring := by rcases hring with h | h | h <;> (first | exact om464 h | exact om465 h | exact om466 h | omega)
  have hr9 : ring ≤ 9 := by rcases hring with h | h | h <;> (first | exact om467 h | exact om468 h | exact om469 h | omega)
  have hsl : (kinds.map (1 - ·)).length = ring := by rw [List.length_map]; exact hkl
  refine execs_append ?_
  have hS : Site w (callerA.deeper (lawE L fa cd)) h₀ L := site_in B X T rfl rfl rfl C1 C2
  dsimp only [lawE, lawS] at hS
  dsimp only [lawE, ls15, lawS]
  k_steps
  refine' law_wound w _ h₀ L _ news _ _ _ SE TE ss ts (kinds.map (1 - ·)) terms nS nT o1 k1 o2 k2 c1 c2 hS F N hR1 hR2 hn1 hn2 hT1 hT2 hgb (show callerA.depth + 1 + 200 < recursionLimit by decide) (show callerA.units + 3 + 2000 < cLine by decide) hSE hTE hIs hIt (by (first | exact om6 hr5 hsl | omega)) (by (first | exact om7 hr9 hsl | omega)) ht5 htm ?_
  intro R vs nR nw o1a k1a c1a o2a k2a c2a ha tka ga hga Fa Na S1a S2a n1a n2a hr1a hr2a hsub hrows l30 l37
  rw [hsl] at hrows
  clear N F
  replace n1a : Hid _ := n1a
  replace n2a : Hid _ := n2a
  replace hn1 : Hid _ := hn1
  replace hn2 : Hid _ := hn2
  k_steps
  refine' law_counts w _ h₀ L _ ((R, W.listOf (List.toArray vs) nR) :: (30, o1a) :: (c1a, k1a) :: (37, o2a) :: (c2a, k2a) :: nw) _ _ _ K TE ks ts kinds terms nK nT hS Fa Na (show callerA.depth + 1 + 20 < recursionLimit by decide) (show callerA.units + 3 + 300 < cLine by decide) ?hk ?ht hIk hIt (by (first | exact om470 hkl hr5 | omega)) (by (first | exact om471 hkl hr9 | omega)) ht5 htm ?ret
  case hk => exact .tail _ (.tail _ (.tail _ (.tail _ (.tail _ (hsub _ hK)))))
  case ht => exact .tail _ (.tail _ (.tail _ (.tail _ (.tail _ (hsub _ hTE)))))
  case ret =>
    intro CT ct nC hb tkb Fb Nb hIct hCTl
    rw [hkl] at hIct
    clear Na Fa
    have lCT30 : @LT.lt Nat _ 30 CT := hCTl _ (.tail _ (.head _))
    have lCT37 : @LT.lt Nat _ 37 CT := hCTl _ (.tail _ (.tail _ (.tail _ (.head _))))
    k_steps
    rename Fr h₀ L _ _ => F5
    rename News h₀ L _ _ => N5
    refine' law_folded w _ h₀ L _ ((CT, W.listOf (List.toArray ct) nC) :: (R, W.listOf (List.toArray vs) nR) :: nw) _ _ _ R vs (terms.map (rowOf (kinds.map (1 - ·)) ring)) nR ring wide 1 _ _ o1a k1a o2a k2a c1a c2a hS F5 (news_sub N5 ?sub) ?off1 ?off2 n1a n2a S1a S2a (show callerA.depth + 1 + 200 < recursionLimit by decide) (show callerA.units + 3 + 2000 < cLine by decide) (.tail _ (.head _)) ?rws ?ne ?len ?bits hr5 hr9 hw13 hw16 (.inl rfl) ?ret2
    case sub => (repeat (refine' List.forall_mem_cons.mpr ⟨by k_mem, ?_⟩)); (intro p hp; repeat (first | exact hp | apply List.mem_cons_of_mem))
    case off1 => exact off_cons.mpr ⟨neN (by (first | exact om310 lCT37 | omega)), off_cons.mpr ⟨neN (by (first | exact om310 l37 | omega)), hr1a⟩⟩
    case off2 => exact off_cons.mpr ⟨neN (by (first | exact om255 lCT37 | omega)), off_cons.mpr ⟨neN (by (first | exact om255 l37 | omega)), hr2a⟩⟩
    case rws => exact hrows.mono fun q hq => .tail _ (.tail _ hq)
    case ne => exact fun h => ht0 (List.map_eq_nil_iff.mp h)
    case len => rw [List.length_map]; exact ht5
    case bits =>
      intro r hr
      obtain ⟨t, ht, rfl⟩ := List.mem_map.mp hr
      refine ⟨rowAt_length _ _ _ _, rowAt_mem (fun x hx => ?_) _⟩
      obtain ⟨k, hk, rfl⟩ := List.mem_map.mp hx
      rcases hkb k hk with rfl | rfl <;> decide
    case ret2 =>
      intro r2 ds2 nD o1b k1b c1b o2b k2b c2b h3 tk3 F3 N3 S1b S2b e1b e2b n1b n2b lr2 hI2
      rw [folded_counts hring (by (first | exact om15 hw13 | omega)) hkl hkb htm ht0 ht5] at hI2
      clear N5 F5
      k_steps
      refine hnext _ _ _ _ o1b k1b o2b k2b c1b c2b R CT vs ct nR nC ((CT, W.listOf (List.toArray ct) nC) :: (R, W.listOf (List.toArray vs) nR) :: nw) hga F3 (fun z h1 h2 => (if_neg h1).trans ((if_neg h2).trans (congrFun (told_eq (m := m) (ks := [(_, _), (_, _), (_, _), (_, _)]) ⟨hm1, hm2, hm3, hm4, trivial⟩) z))) rfl rfl (news_sub N3 fun q hq => .tail _ hq)
        (off_cons.mpr ⟨neN (by (first | exact om310 lCT37 | omega)), off_cons.mpr ⟨neN (by (first | exact om310 l37 | omega)), hr1a⟩⟩) (off_cons.mpr ⟨neN (by (first | exact om255 lCT37 | omega)), off_cons.mpr ⟨neN (by (first | exact om255 l37 | omega)), hr2a⟩⟩) n1b n2b S1b S2b (fun q hq => .tail _ (.tail _ (hsub q hq))) (.tail _ (.head _)) (hrows.mono fun q hq => .tail _ (.tail _ hq)) (.head _) hIct
end
noncomputable section
@[reducible] noncomputable def ls17 : Lit (List Stmt) ((lawB.val.drop 17).take 3) := by
  apply Lit.mk; case eq => dsimp only [lawB, List.drop, List.take]
theorem small_bits {x : Int} (h1 : -1048576 < x) (h2 : x < 1048576) : Builtin.Int.intBits x ≤ 20 := (PySem.intBits_le_iff (m := 20)).mpr (by (first | exact om472 h1 h2 | omega))
theorem ediv_of {a b q r : Int} (hr0 : 0 ≤ r) (hrb : r < b) (h : a = b * q + r) : a / b = q ∧ a % b = r := by
  have hb : b ≠ 0 := by (first | exact om473 hr0 hrb | omega)
  subst h
  rw [Int.mul_add_emod_self_left, Int.emod_eq_of_lt hr0 hrb, Int.add_comm, Int.add_mul_ediv_left _ _ hb, Int.ediv_eq_zero_of_lt hr0 hrb]
  exact ⟨Int.zero_add _, rfl⟩
theorem neg_div {total ring share : Int} (hr : 5 ≤ ring) (h : total = ring * share) : total.fdiv (-ring) = -share ∧ total.fmod (-ring) = 0 := by
  have h1 := neg_fdiv (a := total) (b := -ring) (by (first | exact om474 hr | omega))
  rw [Int.neg_neg] at h1
  rw [← h1.1, ← h1.2, Int.fdiv_eq_ediv_of_nonneg _ (by (first | exact om475 hr | omega)), Int.fmod_eq_emod_of_nonneg _ (by (first | exact om475 hr | omega))]
  have h2 := ediv_of (a := -total) (b := ring) (q := -share) (r := 0) (by (first | exact om456 | omega)) (by (first | exact om476 hr | omega)) (by rw [h, Int.mul_neg]; (first | exact om477 | omega))
  exact ⟨h2.1, by rw [h2.2]; rfl⟩
theorem neg_div1 {total ring share : Int} (hr : 5 ≤ ring) (h : total = ring * share) : (total + 1).fdiv (-ring) = -share - 1 ∧ (total + 1).fmod (-ring) = 1 - ring := by
  have h1 := neg_fdiv (a := total + 1) (b := -ring) (by (first | exact om474 hr | omega))
  rw [Int.neg_neg] at h1
  rw [← h1.1, ← h1.2, Int.fdiv_eq_ediv_of_nonneg _ (by (first | exact om475 hr | omega)), Int.fmod_eq_emod_of_nonneg _ (by (first | exact om475 hr | omega))]
  have h2 := ediv_of (a := -(total + 1)) (b := ring) (q := -share - 1) (r := ring - 1) (by (first | exact om478 hr | omega)) (by (first | exact om479 | omega)) (by rw [h, Int.mul_sub, Int.mul_neg]; (first | exact om480 | omega))
  exact ⟨h2.1, by rw [h2.2]; (first | exact om481 | omega)⟩
namespace seg_law_s17
noncomputable def body : (P_1 : World → Addr → Value → Heap → Addr → Program → List Str → (ExcName → Option Value) → (Str → Option Value) → (Str → Option Value) → (Str → Option Value) → List (Addr × Obj) → Shared → (Flow → Shared → Prop) → (Value → Shared → Prop) → List Stmt → Int → Int → Int → Int → Int → Tok → Tok → Tok → Obj → Obj → Obj → Obj → Obj → Addr → Addr → Option Value → Prop) ×' ((∀ a b c d e f g h i j k l m n o p q r s t u v w x y z a1 b1 c1 d1 e1 f1, P_1 a b c d e f g h i j k l m n o p q r s t u v w x y z a1 b1 c1 d1 e1 f1) → (∀ (w : World) (fa : Addr) (cd : Value) (h₀ : Heap) (L : Addr) (p : Program) (loose : List Str) (mean : ExcName → Option Value) (mg mb : Str → Option Value) (m : Str → Option Value) (news : List (Addr × Obj)) (s : Shared)
  (Q : Flow → Shared → Prop) (E : Value → Shared → Prop) (rest : List Stmt) (ring odd quoted total share : Int) (t1 t2 t3 : Tok) (o1 k1 o2 k2 oS : Obj) (c1 c2 : Addr) (cS : Option Value),
  Below callerA h₀ [] h₀ → (hd.heap_1 w.params).In h₀ → Top p loose mean mg mb h₀ → CodeHd h₀ 34 30 → CodeHd h₀ 41 37 →
  Fr h₀ L s.heap m → m (Str.ofString "quoted") = some (.int quoted t1) → m (Str.ofString "odd") = some (.int odd t2) → m (Str.ofString "ring") = some (.int ring t3) →
  News h₀ L s.heap ((30, o1) :: (c1, k1) :: (37, o2) :: (c2, k2) :: (L + 1 + 1 + 1 + 1, oS) :: news) → oS.data = .cell cS → Off (L + 1 + 1 + 1 + 1) news → @LT.lt Nat _ 37 L → Off 30 news → Off 37 news → @Ne Nat c1 37 → @Ne Nat c2 30 → @Ne Nat c1 (L + 1 + 1 + 1 + 1) → @Ne Nat c2 (L + 1 + 1 + 1 + 1) → TabSt 30 32 4 q30 o1 c1 k1 → TabSt 37 47 4 q37 o2 c2 k2 →
  5 ≤ ring → ring ≤ 9 → 0 ≤ quoted → quoted ≤ ring → 3 ≤ odd → odd ≤ 5 → quoted ^ odd.toNat + (ring - quoted) ^ odd.toNat = total → total ≤ 1000000 → total = ring * share → 0 ≤ share →
  (∀ h' tk' m' oS' o1' k1' o2' k2' c1' c2' t ts, Fr h₀ L h' m' → (∀ z, z ≠ Str.ofString "total" → m' z = m z) → m' (Str.ofString "total") = some (.int total t) →
    News h₀ L h' ((30, o1') :: (c1', k1') :: (37, o2') :: (c2', k2') :: (L + 1 + 1 + 1 + 1, oS') :: news) → oS'.data = .cell (some (.int share ts)) → @Ne Nat c1' 37 → @Ne Nat c2' 30 → @Ne Nat c1' (L + 1 + 1 + 1 + 1) → @Ne Nat c2' (L + 1 + 1 + 1 + 1) → TabSt 30 32 4 q30 o1' c1' k1' → TabSt 37 47 4 q37 o2' c2' k2' →
    wpAny (model Prog w) (callerA.deeper (lawE L fa cd)) (execs rest (lawE L fa cd)) Q E { s with heap := h', toks := tk' }) →
  wpAny (model Prog w) (callerA.deeper (lawE L fa cd)) (execs (ls17.val ++ rest) (lawE L fa cd)) Q E s)) := by
  refine' ⟨_, fun k_1 => ?main⟩
  case main =>
    unfold Prog
    intro w fa cd h₀ L p loose mean mg mb m news s Q E rest ring odd quoted total share t1 t2 t3 o1 k1 o2 k2 oS c1 c2 cS B X T C1 C2 F hm1 hm2 hm3 N hoS hSn hL37 hR1 hR2 hn1 hn2 hn3 hn4 hT1 hT2 hr5 hr9 hq0 hqr ho3 ho5 htot htb hsh hs0 hnext
    revert B X T C1 C2 F hm1 hm2 hm3 N hoS hSn hL37 hR1 hR2 hn1 hn2 hn3 hn4 hT1 hT2 hr5 hr9 hq0 hqr ho3 ho5 htot htb hsh hs0 hnext
    exact k_1 w fa cd h₀ L p loose mean mg mb m news s Q E rest ring odd quoted total share t1 t2 t3 o1 k1 o2 k2 oS c1 c2 cS
namespace sA
noncomputable abbrev tyC := (World × Addr × Value × Heap × Addr × Program × List Str × (ExcName → Option Value)) × ((Str → Option Value) × (Str → Option Value) × (Str → Option Value) × (List (Addr × Obj)) × Shared × (Flow → Shared → Prop) × (Value → Shared → Prop) × List Stmt) × (Int × Int × Int × Int × Int × Tok × Tok × Tok) × (Obj × Obj × Obj × Obj × Obj × Addr × Addr × Option Value)
def prP := body.1
def prQ (x : tyC) : Prop := prP x.1.1 x.1.2.1 x.1.2.2.1 x.1.2.2.2.1 x.1.2.2.2.2.1 x.1.2.2.2.2.2.1 x.1.2.2.2.2.2.2.1 x.1.2.2.2.2.2.2.2 x.2.1.1 x.2.1.2.1 x.2.1.2.2.1 x.2.1.2.2.2.1 x.2.1.2.2.2.2.1 x.2.1.2.2.2.2.2.1 x.2.1.2.2.2.2.2.2.1 x.2.1.2.2.2.2.2.2.2 x.2.2.1.1 x.2.2.1.2.1 x.2.2.1.2.2.1 x.2.2.1.2.2.2.1 x.2.2.1.2.2.2.2.1 x.2.2.1.2.2.2.2.2.1 x.2.2.1.2.2.2.2.2.2.1 x.2.2.1.2.2.2.2.2.2.2 x.2.2.2.1 x.2.2.2.2.1 x.2.2.2.2.2.1 x.2.2.2.2.2.2.1 x.2.2.2.2.2.2.2.1 x.2.2.2.2.2.2.2.2.1 x.2.2.2.2.2.2.2.2.2.1 x.2.2.2.2.2.2.2.2.2.2
noncomputable def inI : tyC := ((aWorld 0, default, default, default, default, default, default, default), (default, default, default, default, {}, default, default, default), default, default)
def epC : tyC := eps inI prQ
@[irreducible] def w := epC.1.1
@[irreducible] def fa := epC.1.2.1
@[irreducible] def cd := epC.1.2.2.1
@[irreducible] def h₀ := epC.1.2.2.2.1
@[irreducible] def L := epC.1.2.2.2.2.1
@[irreducible] def p := epC.1.2.2.2.2.2.1
@[irreducible] def m := epC.2.1.2.2.1
@[irreducible] def news := epC.2.1.2.2.2.1
@[irreducible] def ring := epC.2.2.1.1
@[irreducible] def total := epC.2.2.1.2.2.2.1
@[irreducible] def share := epC.2.2.1.2.2.2.2.1
@[irreducible] def o1 := epC.2.2.2.1
@[irreducible] def k1 := epC.2.2.2.2.1
@[irreducible] def o2 := epC.2.2.2.2.2.1
@[irreducible] def k2 := epC.2.2.2.2.2.2.1
@[irreducible] def c1 := epC.2.2.2.2.2.2.2.2.1
@[irreducible] def c2 := epC.2.2.2.2.2.2.2.2.2.1
theorem sA_main : prP w fa cd h₀ L p epC.1.2.2.2.2.2.2.1 epC.1.2.2.2.2.2.2.2 epC.2.1.1 epC.2.1.2.1 m news epC.2.1.2.2.2.2.1 epC.2.1.2.2.2.2.2.1 epC.2.1.2.2.2.2.2.2.1 epC.2.1.2.2.2.2.2.2.2 ring epC.2.2.1.2.1 epC.2.2.1.2.2.1 total share epC.2.2.1.2.2.2.2.2.1 epC.2.2.1.2.2.2.2.2.2.1 epC.2.2.1.2.2.2.2.2.2.2 o1 k1 o2 k2 epC.2.2.2.2.2.2.2.1 c1 c2 epC.2.2.2.2.2.2.2.2.2.2 := by
  intro B X T C1 C2 F hm1 hm2 hm3 N hoS hSn hL37 hR1 hR2 hn1 hn2 hn3 hn4 hT1 hT2 hr5 hr9 hq0 hqr ho3 ho5 htot htb hsh hs0 hnext
  replace F := fr_knows [(_, _), (_, _), (_, _)] F ⟨hm1, hm2, hm3, trivial⟩
  dsimp only [told] at F
  refine execs_append ?_
  dsimp only [lawE, ls17, lawS]
  have hT0 : 0 ≤ total := by rw [hsh]; exact Int.mul_nonneg (by (first | exact om475 hr5 | omega)) hs0
  have e1 : total.fdiv ring = share := by rw [Int.fdiv_eq_ediv_of_nonneg _ (by (first | exact om475 hr5 | omega)), hsh]; exact Int.mul_ediv_cancel_left _ (by (first | exact om482 hr5 | omega))
  have e2 : total.fmod ring = 0 := by rw [Int.fmod_eq_emod_of_nonneg _ (by (first | exact om475 hr5 | omega)), hsh]; exact Int.mul_emod_right ..
  have hbt : Builtin.Int.intBits total ≤ 50000 := Nat.le_trans (small_bits (by (first | exact om483 hT0 | omega)) (by (first | exact om484 htb | omega))) (by decide)
  have hbt1 : Builtin.Int.intBits (total + 1) ≤ 50000 := Nat.le_trans (small_bits (by (first | exact om485 hT0 | omega)) (by (first | exact om486 htb | omega))) (by decide)
  have hbr : Builtin.Int.intBits ring ≤ 4000 := Nat.le_trans (small_bits (by (first | exact om487 hr5 | omega)) (by (first | exact om488 hr9 | omega))) (by decide)
  have hbr1 : Builtin.Int.intBits (-ring) ≤ 4000 := Nat.le_trans (small_bits (by (first | exact om489 hr9 | omega)) (by (first | exact om490 hr5 | omega))) (by decide)
  have hS : Site w (callerA.deeper (lawE L fa cd)) h₀ L := site_in B X T rfl rfl rfl C1 C2
  dsimp only [lawE, lawS] at hS
  k_steps
  rename Fr h₀ L _ _ => F1
  rename News h₀ L _ _ => N1
  rename _ = Data.cell (some _) => d1
  replace hn1 : Hid _ := hn1
  replace hn2 : Hid _ := hn2
  replace hn3 : Hid _ := hn3
  replace hn4 : Hid _ := hn4
  rw [htot] at F1 d1 ⊢
  rw [e1] at d1
  refine' int_divmod 3 w _ h₀ L _ ((L + 1 + 1 + 1 + 1, _) :: news) _ _ _ total ring _ _ o1 k1 o2 k2 c1 c2 hS F1 N1 (off_cons.mpr ⟨neN (by (first | exact om491 hL37 | omega)), hR1⟩) (off_cons.mpr ⟨neN (by (first | exact om492 hL37 | omega)), hR2⟩) hn1 hn2 hT1 hT2 (show callerA.depth + 1 + 110 + 5 * 3 < recursionLimit by decide) (show callerA.units + 3 + 1100 + 20 * 3 < cLine by decide) (by (first | exact om482 hr5 | omega)) (by split <;> split <;> (first | exact om270 | exact om271 | exact om272 | exact om273 | omega)) hbt hbr ?_
  intro ra u1 u2 o1a k1a c1a o2a k2a c2a ha tka Fa Na S1a S2a e1a e2a n1a n2a lra
  rw [e1, e2] at Na
  have l30a : @LT.lt Nat _ 30 ra := lra _ (.head _)
  have l37a : @LT.lt Nat _ 37 ra := lra _ (.tail _ (.tail _ (.head _)))
  have lSa : @LT.lt Nat _ (L + 1 + 1 + 1 + 1) ra := lra _ (.tail _ (.tail _ (.tail _ (.tail _ (.head _)))))
  obtain ⟨e3, e4⟩ := neg_div hr5 hsh
  obtain ⟨e5, e6⟩ := neg_div1 hr5 hsh
  k_steps
  rename Fr h₀ L _ _ => Fa'
  refine' int_divmod 3 w _ h₀ L _ ((ra, _) :: (L + 1 + 1 + 1 + 1, _) :: news) _ _ _ total (-ring) _ _ o1a k1a o2a k2a c1a c2a hS Fa' (news_sub Na ?sub) (off_cons.mpr ⟨neN (by (first | exact om310 l37a | omega)), off_cons.mpr ⟨neN (by (first | exact om491 hL37 | omega)), hR1⟩⟩) (off_cons.mpr ⟨neN (by (first | exact om255 l37a | omega)), off_cons.mpr ⟨neN (by (first | exact om492 hL37 | omega)), hR2⟩⟩) n1a n2a S1a S2a (show callerA.depth + 1 + 110 + 5 * 3 < recursionLimit by decide) (show callerA.units + 3 + 1100 + 20 * 3 < cLine by decide) (by (first | exact om493 hr5 | omega)) (by split <;> split <;> (first | exact om270 | exact om271 | exact om272 | exact om273 | omega)) hbt hbr1 ?_
  case sub => (repeat (refine' List.forall_mem_cons.mpr ⟨by k_mem, ?_⟩)); (intro p hp; repeat (first | exact hp | apply List.mem_cons_of_mem))
  intro rb u3 u4 o1b k1b c1b o2b k2b c2b hb tkb Fb Nb S1b S2b e1b e2b n1b n2b lrb
  rw [e3, e4] at Nb
  clear Na
  replace n1a : Hid _ := n1a
  replace n2a : Hid _ := n2a
  replace e1a : Hid _ := e1a
  replace e2a : Hid _ := e2a
  have l30b : @LT.lt Nat _ 30 rb := lrb _ (.head _)
  have l37b : @LT.lt Nat _ 37 rb := lrb _ (.tail _ (.tail _ (.head _)))
  have lSb : @LT.lt Nat _ ra rb := lrb _ (.tail _ (.tail _ (.tail _ (.tail _ (.head _)))))
  k_steps
  rename Fr h₀ L _ _ => Fb'
  refine' int_divmod 3 w _ h₀ L _ ((rb, _) :: (ra, _) :: (L + 1 + 1 + 1 + 1, _) :: news) _ _ _ (total + 1) (-ring) _ _ o1b k1b o2b k2b c1b c2b hS Fb' (news_sub Nb ?sub) (off_cons.mpr ⟨neN (by (first | exact om310 l37b | omega)), off_cons.mpr ⟨neN (by (first | exact om310 l37a | omega)), off_cons.mpr ⟨neN (by (first | exact om491 hL37 | omega)), hR1⟩⟩⟩) (off_cons.mpr ⟨neN (by (first | exact om255 l37b | omega)), off_cons.mpr ⟨neN (by (first | exact om255 l37a | omega)), off_cons.mpr ⟨neN (by (first | exact om492 hL37 | omega)), hR2⟩⟩⟩) n1b n2b S1b S2b (show callerA.depth + 1 + 110 + 5 * 3 < recursionLimit by decide) (show callerA.units + 3 + 1100 + 20 * 3 < cLine by decide) (by (first | exact om493 hr5 | omega)) (by split <;> split <;> (first | exact om270 | exact om271 | exact om272 | exact om273 | omega)) hbt1 hbr1 ?_
  case sub => (repeat (refine' List.forall_mem_cons.mpr ⟨by k_mem, ?_⟩)); (intro p hp; repeat (first | exact hp | apply List.mem_cons_of_mem))
  intro rc u5 u6 o1c k1c c1c o2c k2c c2c hc tkc Fc Nc S1c S2c e1c e2c n1c n2c lrc
  rw [e5, e6] at Nc
  clear Nb
  replace n1b : Hid _ := n1b
  replace n2b : Hid _ := n2b
  replace e1b : Hid _ := e1b
  replace e2b : Hid _ := e2b
  replace n1c : Hid _ := n1c
  replace n2c : Hid _ := n2c
  replace e1c : Hid _ := e1c
  replace e2c : Hid _ := e2c
  k_steps
  rename Fr h₀ L _ _ => F9
  rename News h₀ L _ _ => N9
  refine hnext _ _ _ _ o1c k1c o2c k2c c1c c2c _ _ F9 (fun z hz => (if_neg hz).trans (congrFun (told_eq (m := m) (ks := [(_, _), (_, _), (_, _)]) ⟨hm1, hm2, hm3, trivial⟩) z)) rfl (news_sub N9 ?sub) d1 n1c n2c ?x1 ?x2 S1c S2c
  case sub => (repeat (refine' List.forall_mem_cons.mpr ⟨by k_mem, ?_⟩)); (intro p hp; repeat (first | exact hp | apply List.mem_cons_of_mem))
  case x1 => exact ne_step e1c (.tail _ (.tail _ (.head _))) (ne_step e1b (.tail _ (.head _)) (ne_step e1a (.head _) hn3))
  case x2 => exact ne_step e2c (.tail _ (.tail _ (.head _))) (ne_step e2b (.tail _ (.head _)) (ne_step e2a (.head _) hn4))
theorem all : ∀ x, prQ x := @sk tyC inI prQ (by with_unfolding_all exact @sA_main)
end sA
end seg_law_s17
theorem law_s17 : ∀ (w : World) (fa : Addr) (cd : Value) (h₀ : Heap) (L : Addr) (p : Program) (loose : List Str) (mean : ExcName → Option Value) (mg mb : Str → Option Value) (m : Str → Option Value) (news : List (Addr × Obj)) (s : Shared)
  (Q : Flow → Shared → Prop) (E : Value → Shared → Prop) (rest : List Stmt) (ring odd quoted total share : Int) (t1 t2 t3 : Tok) (o1 k1 o2 k2 oS : Obj) (c1 c2 : Addr) (cS : Option Value),
  Below callerA h₀ [] h₀ → (hd.heap_1 w.params).In h₀ → Top p loose mean mg mb h₀ → CodeHd h₀ 34 30 → CodeHd h₀ 41 37 →
  Fr h₀ L s.heap m → m (Str.ofString "quoted") = some (.int quoted t1) → m (Str.ofString "odd") = some (.int odd t2) → m (Str.ofString "ring") = some (.int ring t3) →
  News h₀ L s.heap ((30, o1) :: (c1, k1) :: (37, o2) :: (c2, k2) :: (L + 1 + 1 + 1 + 1, oS) :: news) → oS.data = .cell cS → Off (L + 1 + 1 + 1 + 1) news → @LT.lt Nat _ 37 L → Off 30 news → Off 37 news → @Ne Nat c1 37 → @Ne Nat c2 30 → @Ne Nat c1 (L + 1 + 1 + 1 + 1) → @Ne Nat c2 (L + 1 + 1 + 1 + 1) → TabSt 30 32 4 q30 o1 c1 k1 → TabSt 37 47 4 q37 o2 c2 k2 →
  5 ≤ ring → ring ≤ 9 → 0 ≤ quoted → quoted ≤ ring → 3 ≤ odd → odd ≤ 5 → quoted ^ odd.toNat + (ring - quoted) ^ odd.toNat = total → total ≤ 1000000 → total = ring * share → 0 ≤ share →
  (∀ h' tk' m' oS' o1' k1' o2' k2' c1' c2' t ts, Fr h₀ L h' m' → (∀ z, z ≠ Str.ofString "total" → m' z = m z) → m' (Str.ofString "total") = some (.int total t) →
    News h₀ L h' ((30, o1') :: (c1', k1') :: (37, o2') :: (c2', k2') :: (L + 1 + 1 + 1 + 1, oS') :: news) → oS'.data = .cell (some (.int share ts)) → @Ne Nat c1' 37 → @Ne Nat c2' 30 → @Ne Nat c1' (L + 1 + 1 + 1 + 1) → @Ne Nat c2' (L + 1 + 1 + 1 + 1) → TabSt 30 32 4 q30 o1' c1' k1' → TabSt 37 47 4 q37 o2' c2' k2' →
    wpAny (model Prog w) (callerA.deeper (lawE L fa cd)) (execs rest (lawE L fa cd)) Q E { s with heap := h', toks := tk' }) →
  wpAny (model Prog w) (callerA.deeper (lawE L fa cd)) (execs (ls17.val ++ rest) (lawE L fa cd)) Q E s := @PSigma.snd _ _ seg_law_s17.body (fun a b c d e f g h i j k l m n o p q r s t u v w x y z a1 b1 c1 d1 e1 f1 => @seg_law_s17.sA.all ((a, b, c, d, e, f, g, h), (i, j, k, l, m, n, o, p), (q, r, s, t, u, v, w, x), (y, z, a1, b1, c1, d1, e1, f1)))
end
theorem rules_S20 : True := by
  k_with_none
  k_with "call builtin:len" => ((k_here; (with_reducible show wpAny _ _ (call (Value.builtin "len") [Value.ref _]) _ _ _); k_dflt (refine kst_len (by k_asm) (by k_mem) (by exact IntsAre.length (by assumption)) (by omega) ?_); (try dsimp only)))
  k_with "truthy ref" => ((k_here; (with_reducible show wpAny _ _ (truthy (Value.ref _)) _ _ _); k_dflt (refine kgr_truthy (by k_asm) (by k_mem) (by exact rfl) (by exact rfl) (by (have := IntsAre.length (by assumption); omega)) ?_); (try dsimp only)))
  k_with "call builtin:list.append" => ((k_here; (with_reducible show wpAny _ _ (call (Value.builtin _) [Value.ref _, _]) _ _ _); k_dflt (refine append_K (by k_asm) (by k_asm) (by k_upd) ?_ (by (simp only [List.size_toArray]; rw [sizeLine_eq]; omega)); k_whole); intro h'r9 F'r9 N'r9; (try k_sweep)))
  k_with "call ref" => ((k_here; (with_reducible show wpAny _ _ (call (Value.ref _) _) _ _ _); refine paus ?_))
  k_with "subscriptTail Name Constant ref int" => ((k_here; (with_reducible show wpAny _ _ (subscriptTail _ _ (Value.ref _) (Value.int _ _)) _ _ _); refine paus ?_))
  k_with "pyIter ref" => ((k_here; (with_reducible show wpAny _ _ (pyIter (Value.ref _)) _ _ _); refine paus ?_))
  k_with "eval ListComp" => ((k_here; k_dflt (refine lc_eval (by exact rfl) (by exact rfl) (by decide) ?_)))
  k_with "exec Assign cons ListComp" => ((k_here; k_dflt (first | (refine wpAny_Assign_Name ?_) | (refine lc_assign (by exact rfl) (by exact rfl) (by exact rfl) (by decide) ?_))))
  k_with "eval Name" => ((k_here; (with_reducible show wpAny _ _ (eval _ (compEnvC _ _ _ _)) _ _ _); k_dflt (refine ldC (by k_asm) (by exact rfl) ?_ (by exact rfl) (by exact rfl) (by decide))))
  exact trivial
section
@[reducible] noncomputable def ls20 : Lit (List Stmt) ((lawB.val.drop 20).take 2) := by
  apply Lit.mk; case eq => dsimp only [lawB, List.drop, List.take]
noncomputable def JOth (g0 : Array GenState) (base : List (Addr × Obj)) (L I : Addr) (rows : List (List Int)) (D : Addr) (i : Nat) (ys : List Value) (nx : List (Addr × Obj)) (g : Array GenState) : Prop :=
  g = g0 ∧ ∃ ext : List (Addr × Obj), nx = ext ++ base ∧ RowsAre ext ys ((rows.take i).map (List.map (1 - ·))) ∧ (∀ q ∈ base, @LT.lt Nat _ q.1 D) ∧ ∀ q ∈ ext, @LT.lt Nat _ D q.1 ∧ @LT.lt Nat _ L q.1 ∧ @LT.lt Nat _ I q.1
theorem law_s20 : ∀ (w : World) (fa : Addr) (cd : Value) (h₀ : Heap) (L : Addr) (p : Program) (loose : List Str) (mean : ExcName → Option Value) (mg mb : Str → Option Value) (m : Str → Option Value) (news : List (Addr × Obj)) (s : Shared)
  (Q : Flow → Shared → Prop) (E : Value → Shared → Prop) (rest : List Stmt) (wide share : Int) (ring : Nat) (t1 t2 : Tok) (o1 k1 o2 k2 oS : Obj) (c1 c2 R CT : Addr) (vs ct : List Value) (rows : List (List Int)) (counts : List Int) (nR nC : Nat),
  Below callerA h₀ [] h₀ → (hd.heap_1 w.params).In h₀ → Top p loose mean mg mb h₀ → CodeHd h₀ 34 30 → CodeHd h₀ 41 37 →
  Fr h₀ L s.heap m → m (Str.ofString "wide") = some (.int wide t1) → m (Str.ofString "rows") = some (.ref R) → m (Str.ofString "counts") = some (.ref CT) →
  News h₀ L s.heap ((30, o1) :: (c1, k1) :: (37, o2) :: (c2, k2) :: (L + 1 + 1 + 1 + 1, oS) :: news) → oS.data = .cell (some (.int share t2)) → @LT.lt Nat _ 37 L → Off 30 news → Off 37 news → @Ne Nat c1 37 → @Ne Nat c2 30 → TabSt 30 32 4 q30 o1 c1 k1 → TabSt 37 47 4 q37 o2 c2 k2 →
  (R, W.listOf vs.toArray nR) ∈ news → RowsAre news vs rows → rows ≠ [] → rows.length ≤ 5 → (∀ r ∈ rows, r.length = ring ∧ ∀ a ∈ r, 0 ≤ a ∧ a < 2) → (CT, W.listOf ct.toArray nC) ∈ news → IntsAre ct counts → counts.length = ring →
  5 ≤ ring → ring ≤ 9 → 13 ≤ wide → wide ≤ 16 → digs wide.toNat ring (((rows.map (List.map (1 - ·))).map (bval wide.toNat)).foldl (· * ·) 1 % (2 ^ (wide.toNat * ring) - 1)).toNat = counts.map (share - ·) →
  (∀ h' tk' m' nw, Fr h₀ L h' m' → (∀ z, z ≠ Str.ofString "others" → m' z = m z) → News h₀ L h' nw → (∀ p ∈ news, p ∈ nw) → (∃ ps qs, (30, tabObj ps) ∈ nw ∧ (37, tabObj qs) ∈ nw) →
    wpAny (model Prog w) (callerA.deeper (lawE L fa cd)) (execs rest (lawE L fa cd)) Q E { s with heap := h', toks := tk' }) →
  wpAny (model Prog w) (callerA.deeper (lawE L fa cd)) (execs (ls20.val ++ rest) (lawE L fa cd)) Q E s := by
  unfold Prog
  intro w fa cd h₀ L p loose mean mg mb m news s Q E rest wide share ring t1 t2 o1 k1 o2 k2 oS c1 c2 R CT vs ct rows counts nR nC B X T C1 C2 F hm1 hm2 hm3 N hoS hL37 hR1 hR2 hn1 hn2 hT1 hT2 hR hrows hne hl5 hrow hCT hIc hcl hr5 hr9 hw13 hw16 hdig hnext
  replace F := fr_knows [(_, _), (_, _), (_, _)] F ⟨hm1, hm2, hm3, trivial⟩
  dsimp only [told] at F
  refine execs_append ?_
  have hS : Site w (callerA.deeper (lawE L fa cd)) h₀ L := site_in B X T rfl rfl rfl C1 C2
  dsimp only [lawE, lawS] at hS
  dsimp only [lawE, ls20, lawS]
  k_steps
  refine pyIter_list F N (by k_mem) fun I oI h9 F9 N9 lI hli => ?_
  refine lc_goB (L := L) (own := [(I, oI)]) (fun C => it_list (l := R) (vs := vs) (nn := nR)) self_list (JOth s.gens ((30, o1) :: (c1, k1) :: (37, o2) :: (c2, k2) :: (L + 1 + 1 + 1 + 1, oS) :: news) L I rows) rfl (by decide) rfl ?hn rfl rfl rfl hli F9 N9 ?hwr ?j0 ?hJ ?turn ?fin
  case hn => rw [hrows.length]; (first | exact om495 hl5 | omega)
  case hwr =>
    intro a ha
    rw [List.mem_singleton.mp ha]
    exact ⟨Heap.lt_size (N9 _ (.head _)).1, (N9 _ (.head _)).2.1⟩
  case j0 => exact fun D hD => ⟨rfl, [], rfl, .nil, fun q hq => hD q (.tail _ hq), fun q hq => nomatch hq⟩
  case turn =>
    intro D C i v ex own' mc nx ys k oL h tk g hD hLD hDC hi hPi hst hJ F8 N8 hex hown
    refine byC fun hGZ => ?_
    obtain ⟨hv, rfl⟩ := hPi
    obtain ⟨rfl, ext, rfl, hra, hbD, hext⟩ := hJ
    obtain ⟨o9, rfl, hoc9, hod9⟩ := hst
    obtain ⟨r, ds, nn, hvr, hmem, hints⟩ := hrows.get i (rows[i]'(by rw [← hrows.length]; exact hi)) (List.getElem?_eq_getElem _)
    refine hGZ ?_; clear hGZ
    rw [hvr] at hv
    cases hv
    refine wpAny_assign_Name ?_
    simp only [List.nil_append, List.cons_append] at N8
    refine stC F8 N8 rfl (fun h3 F3 N3 => ?_) rfl
    refine wpAny_tests_nil ?_
    rw [if_pos rfl]
    obtain ⟨row, hrowe⟩ : ∃ row, row = rows[i]'(by rw [← hrows.length]; exact hi) := ⟨_, rfl⟩
    rw [← hrowe] at hints
    have hrm := hrow row (by rw [hrowe]; exact List.getElem_mem _)
    have hnw : ∀ q ∈ news, q ∈ ext ++ ((30, o1) :: (c1, k1) :: (37, o2) :: (c2, k2) :: (L + 1 + 1 + 1 + 1, oS) :: news) := fun q hq => List.mem_append_right _ (.tail _ (.tail _ (.tail _ (.tail _ (.tail _ hq)))))
    have hget : rows[i]? = some row := by rw [hrowe]; exact List.getElem?_eq_getElem _
    clear N8 F8 N9 F9 F N
    k_steps
    refine pyIter_list F3 N3 (.tail _ (.tail _ (.tail _ (hnw _ hmem)))) fun I2 oI2 h5 F5 N5 lI2 hli2 => ?_
    refine lc_const (own := [(I2, oI2)]) (fun C => it_list (l := r) (vs := ds) (nn := nn)) self_list (fun q ys => IntsAre ys ((row.take q).map (1 - ·))) rfl (by decide) rfl ?hn2 hli2 F5 N5 ?hwr2 ?hsrc2 ?hoff2 .nil ?len2 ?turn2 ?fin2
    case hn2 => rw [hints.length, hrm.1]; (first | exact om342 hr9 | omega)
    case hwr2 => exact fun a ha => ha
    case hsrc2 => exact fun q hq => by rw [List.mem_singleton.mp hq]; exact .tail _ (.tail _ (.tail _ (hnw _ hmem)))
    case hoff2 => exact fun a ha => by rw [List.mem_singleton.mp ha]; exact fun q hq => Nat.ne_of_lt (lI2 q hq)
    case len2 => intro q ys h; rw [h.length, List.length_map]; exact List.length_take_le ..
    case turn2 =>
      intro C2 q v2 ex2 own2 mc2 ys2 dl2 h6 tk6 hq hPq hst2 hR2 F6 N6
      obtain ⟨hv2, rfl⟩ := hPq
      have hq' : q < row.length := by rw [← hints.length]; exact hq
      obtain ⟨tq, hx0⟩ := hints.get q (row[q]) (List.getElem?_eq_getElem hq')
      rw [hx0] at hv2
      cases hv2
      have hbit := hrm.2 row[q] (List.getElem_mem _)
      refine wpAny_assign_Name ?_
      rw [List.nil_append] at N6
      refine stC F6 N6 rfl (fun h7 F7 N7 => ?_) rfl
      refine wpAny_tests_nil ?_
      rw [if_pos rfl]
      clear N6 F6 N5 F5 N3 F3
      k_steps
      · exact ⟨_, _, _, rfl, by assumption, by assumption⟩
      · rw [List.take_add_one, List.getElem?_eq_getElem hq', Option.toList_some, List.map_append]
        exact ints_snoc hR2
    case fin2 =>
      intro D2 h6 tk6 ys2 n2 hD2 hR2 F6 N6
      rw [List.take_of_length_le (by rw [hints.length]; exact Nat.le_refl _)] at hR2
      have hlt2 : ∀ q ∈ (I, o9) :: (D, W.listOf (List.toArray ys) k) :: (L, oL) :: (ext ++ ((30, o1) :: (c1, k1) :: (37, o2) :: (c2, k2) :: (L + 1 + 1 + 1 + 1, oS) :: news)), @LT.lt Nat _ q.1 D2 := fun q hq => hD2 q (.tail _ hq)
      refine ⟨_, _, _, _, ((D2, W.listOf (List.toArray ys2) n2) :: ext) ++ ((30, o1) :: (c1, k1) :: (37, o2) :: (c2, k2) :: (L + 1 + 1 + 1 + 1, oS) :: news), rfl, F6, news_sub N6 ?sub, rfl, (D2, W.listOf (List.toArray ys2) n2) :: ext, rfl, ?rows, hbD, ?ext⟩
      case sub =>
        intro q hq
        simp only [List.cons_append, List.nil_append, List.mem_cons, List.mem_append] at hq ⊢
        rcases hq with h | h | h | h | h
        · exact .inr (.inl h)
        · exact .inr (.inr (.inl h))
        · exact .inr (.inr (.inr (.inl h)))
        · exact .inl h
        · exact .inr (.inr (.inr (.inr h)))
      case rows =>
        rw [List.take_add_one, hget, Option.toList_some, List.map_append]
        exact (hra.mono fun q hq => .tail _ hq).snoc (.head _) hR2
      case ext =>
        intro q hq
        rcases List.mem_cons.mp hq with rfl | hq
        · exact ⟨hlt2 _ (.tail _ (.head _)), hlt2 _ (.tail _ (.tail _ (.head _))), hlt2 _ (.head _)⟩
        · exact hext q hq
  case fin =>
    intro D h tk g ys k nx hD pGZ8
    refine byC fun hGZ => ?_
    obtain ⟨rfl, ext, rfl, hra, hbD, hext⟩ := pGZ8
    refine hGZ ?_; clear hGZ
    intro F8 N8
    rw [List.take_of_length_le (by rw [hrows.length]; exact Nat.le_refl _)] at hra
    have l30 : @LT.lt Nat _ 30 D := hD _ (.tail _ (.head _))
    have l37 : @LT.lt Nat _ 37 D := hD _ (.tail _ (.tail _ (.tail _ (.head _))))
    clear N9 F9 F N
    k_steps
    refine' law_folded w _ h₀ L _ ((D, W.listOf (List.toArray ys) k) :: (ext ++ ((L + 1 + 1 + 1 + 1, oS) :: news))) _ _ _ D ys (rows.map (List.map (1 - ·))) k ring wide (-1) _ _ o1 k1 o2 k2 c1 c2 hS F8 (news_sub N8 ?sub) ?off1 ?off2 hn1 hn2 hT1 hT2 (show callerA.depth + 1 + 200 < recursionLimit by decide) (show callerA.units + 3 + 2000 < cLine by decide) (.head _) ?rws ?ne ?len ?bits hr5 hr9 hw13 hw16 (.inr rfl) ?ret
    case sub =>
      intro q hq
      simp only [List.mem_cons, List.mem_append] at hq ⊢
      rcases hq with h | h | h | h | h | h | h | h
      · exact .inr (.inr (.inl h))
      · exact .inr (.inr (.inr (.inl h)))
      · exact .inr (.inr (.inr (.inr (.inl h))))
      · exact .inr (.inr (.inr (.inr (.inr (.inl h)))))
      · exact .inl h
      · exact .inr (.inl h)
      · exact .inr (.inr (.inr (.inr (.inr (.inr (.inl h))))))
      · exact .inr (.inr (.inr (.inr (.inr (.inr (.inr h))))))
    case off1 => exact off_cons.mpr ⟨neN (by (first | exact om310 l37 | omega)), off_app (fun q hq => by have := (hext q hq).1; exact neN (by (first | exact om311 l37 this | omega))) (off_cons.mpr ⟨neN (by (first | exact om491 hL37 | omega)), hR1⟩)⟩
    case off2 => exact off_cons.mpr ⟨neN (by (first | exact om255 l37 | omega)), off_app (fun q hq => by have := (hext q hq).1; exact neN (by (first | exact om312 l37 this | omega))) (off_cons.mpr ⟨neN (by (first | exact om492 hL37 | omega)), hR2⟩)⟩
    case rws => exact hra.mono fun q hq => .tail _ (List.mem_append_left _ hq)
    case ne => exact fun h => hne (List.map_eq_nil_iff.mp h)
    case len => rw [List.length_map]; exact hl5
    case bits =>
      intro r hr
      obtain ⟨r', hr', rfl⟩ := List.mem_map.mp hr
      refine ⟨by rw [List.length_map]; exact (hrow r' hr').1, fun a ha => ?_⟩
      obtain ⟨b, hb, rfl⟩ := List.mem_map.mp ha
      have := (hrow r' hr').2 b hb
      (first | exact om103 this | omega)
    case ret =>
      intro r2 ds2 nD o1a k1a c1a o2a k2a c2a h3 tk3 F3 N3 S1a S2a e1a e2a n1a n2a lr2 hI2
      rw [hdig] at hI2
      k_steps
      refine pyIter_list F3 N3 (by k_mem) fun I3 oI3 h4 F4 N4 lI3 hli3 => ?_
      refine lc_const (own := [(I3, oI3)]) (fun C => it_list (l := CT) (vs := ct) (nn := nC)) self_list (fun q ys => IntsAre ys ((counts.take q).map (share - ·))) rfl (by decide) rfl ?hn3 hli3 F4 N4 ?hwr3 ?hsrc3 ?hoff3 .nil ?len3 ?turn3 ?fin3
      case hn3 => rw [hIc.length, hcl]; (first | exact om342 hr9 | omega)
      case hwr3 => exact fun a ha => ha
      case hsrc3 => exact fun q hq => by rw [List.mem_singleton.mp hq]; k_mem
      case hoff3 => exact fun a ha => by rw [List.mem_singleton.mp ha]; exact fun q hq => Nat.ne_of_lt (lI3 q hq)
      case len3 => intro q ys h; rw [h.length, List.length_map]; exact List.length_take_le ..
      case turn3 =>
        intro C3 q v3 ex3 own3 mc3 ys3 dl3 h6 tk6 hq hPq hst3 hR3 F6 N6
        obtain ⟨hv3, rfl⟩ := hPq
        have hq' : q < counts.length := by rw [← hIc.length]; exact hq
        obtain ⟨tq, hx0⟩ := hIc.get q (counts[q]) (List.getElem?_eq_getElem hq')
        rw [hx0] at hv3
        cases hv3
        refine wpAny_assign_Name ?_
        rw [List.nil_append] at N6
        refine stC F6 N6 rfl (fun h7 F7 N7 => ?_) rfl
        refine wpAny_tests_nil ?_
        rw [if_pos rfl]
        clear N6 F6 N4 F4 N3 F3 N8 F8
        k_steps
        · exact ⟨_, _, _, rfl, by assumption, by assumption⟩
        · rw [List.take_add_one, List.getElem?_eq_getElem hq', Option.toList_some, List.map_append]
          exact ints_snoc hR3
      case fin3 =>
        intro D3 h6 tk6 ys3 n3 hD3 hR3 F6 N6
        rw [List.take_of_length_le (by rw [hIc.length]; exact Nat.le_refl _)] at hR3
        clear N4 F4 N3 F3 N8 F8
        k_steps
        obtain ⟨ps, hps⟩ := tabst_obj S1a
        obtain ⟨qs, hqs⟩ := tabst_obj S2a
        refine hnext _ _ _ _ F6 (fun z hz => (if_neg hz).trans (congrFun (told_eq (m := m) (ks := [(_, _), (_, _), (_, _)]) ⟨hm1, hm2, hm3, trivial⟩) z)) N6 ?mem ⟨ps, qs, ?t1, ?t2⟩
        case mem => exact fun q hq => .tail _ (.tail _ (.tail _ (.tail _ (.tail _ (.tail _ (.tail _ (List.mem_append_right _ (.tail _ hq))))))))
        case t1 => rw [← hps]; k_mem
        case t2 => rw [← hqs]; k_mem
  case hJ =>
    intro D i ys nx g pGZ5
    refine byC fun hGZ => ?_
    obtain ⟨_, ext, rfl, hra, hbD, hext⟩ := pGZ5
    refine hGZ ?_; clear hGZ
    refine ⟨?a, ?b, ?c, ?d, ?e⟩
    case a => exact fun q hq => by rw [List.mem_singleton.mp hq]; k_mem
    case b =>
      intro a ha
      rw [List.mem_singleton.mp ha]
      exact off_app (fun q hq => Nat.ne_of_gt (hext q hq).2.2) (fun q hq => Nat.ne_of_lt (lI q hq))
    case c => exact off_app (fun q hq => Nat.ne_of_gt (hext q hq).1) (fun q hq => Nat.ne_of_lt (hbD q hq))
    case d => exact off_app (fun q hq => Nat.ne_of_gt (hext q hq).2.1) (fun q hq => (N9 q (.tail _ hq)).2.1)
    case e => rw [hra.length, List.length_map]; exact List.length_take_le ..
end
section
theorem tabst_ne {h₀ h : Heap} {L P c x : Addr} {line col : Nat} {q : Str} {o k oX : Obj} {nw : List (Addr × Obj)} {v : Option Value} (hT : TabSt P line col q o c k) (N : News h₀ L h nw) (hc : (c, k) ∈ nw) (hx : (x, oX) ∈ nw) (hd : oX.data = .cell v) (hP : @Ne Nat P x) : @Ne Nat c x := by
  intro e
  rcases hT with ⟨_, rfl, _⟩ | ⟨_, vs, _, hv, _⟩
  · exact hP e
  · have h1 := (N _ hc).1
    have h2 := (N _ hx).1
    dsimp only at h1 h2
    rw [show c = x from e, h2] at h1
    rw [← Option.some.inj h1, hd] at hv
    cases hv
theorem list_ne {h₀ h : Heap} {L r x : Addr} {oX : Obj} {vs : Array Value} {n : Nat} {nw : List (Addr × Obj)} {v : Option Value} (N : News h₀ L h nw) (hc : (r, W.listOf vs n) ∈ nw) (hx : (x, oX) ∈ nw) (hd : oX.data = .cell v) : r ≠ x := by
  intro e
  have h1 := (N _ hc).1
  have h2 := (N _ hx).1
  dsimp only at h1 h2
  rw [e, h2] at h1
  rw [Option.some.inj h1] at hd
  cases hd
theorem RowsAre.off {nw nw' : List (Addr × Obj)} {vs : List Value} {rows : List (List Int)} (h : RowsAre nw vs rows) (hs : ∀ (r : Addr) (ds : List Value) (nn : Nat), (r, W.listOf ds.toArray nn) ∈ nw → (r, W.listOf ds.toArray nn) ∈ nw') : RowsAre nw' vs rows := by
  induction h with
  | nil => exact .nil
  | cons h1 h2 _ ih => exact .cons (hs _ _ _ h1) h2 ih
theorem pow_small {x : Int} {n : Nat} (h0 : 0 ≤ x) (h9 : x ≤ 9) (hn : n = 3 ∨ n = 5) : 0 ≤ x ^ n ∧ x ^ n ≤ 59049 := by
  have : x = 0 ∨ x = 1 ∨ x = 2 ∨ x = 3 ∨ x = 4 ∨ x = 5 ∨ x = 6 ∨ x = 7 ∨ x = 8 ∨ x = 9 := by (first | exact om3 h0 h9 | omega)
  rcases hn with rfl | rfl <;> rcases this with rfl | rfl | rfl | rfl | rfl | rfl | rfl | rfl | rfl | rfl <;> decide
theorem share_nonneg {r s t : Int} (hr : 0 < r) (h : t = r * s) (ht : 0 ≤ t) : 0 ≤ s := by
  refine Int.not_lt.mp fun hs => ?_
  have := Int.mul_le_mul_of_nonneg_left (show s ≤ -1 by (first | exact om4 hs | omega)) (Int.le_of_lt hr)
  omega
theorem law_all : ∀ (w : World) (fa : Addr) (cd : Value) (h₀ : Heap) (L : Addr) (p : Program) (loose : List Str) (mean : ExcName → Option Value) (mg mb : Str → Option Value) (m : Str → Option Value) (s : Shared)
  (Q : Flow → Shared → Prop) (E : Value → Shared → Prop) (SCR : Addr) (vs : List Value) (ns : List Int) (o1 o2 o3 o4 : Obj) (x1 x2 x3 x4 : Option Value),
  Below callerA h₀ [] h₀ → (hd.heap_1 w.params).In h₀ → Top p loose mean mg mb h₀ → CodeHd h₀ 34 30 → CodeHd h₀ 41 37 →
  Fr h₀ L s.heap m → m (Str.ofString "script") = some (.ref SCR) → h₀.IsList SCR vs.toArray → IntsAre vs ns → ns.length ≤ 63 → AllBare s.gens →
  News h₀ L s.heap [(L + 1 + 1 + 1 + 1, o4), (L + 1 + 1 + 1, o3), (L + 1 + 1, o2), (L + 1, o1), (37, tabObj #[]), (30, tabObj #[])] → o1.data = .cell x1 → o2.data = .cell x2 → o3.data = .cell x3 → o4.data = .cell x4 → @LT.lt Nat _ 37 L →
  (∀ h' tk' g' m' nw, Fr h₀ L h' m' → News h₀ L h' nw → (∃ ps qs, (30, tabObj ps) ∈ nw ∧ (37, tabObj qs) ∈ nw) → AllBare g' → Q (.ret (.bool true)) { s with heap := h', toks := tk', gens := g' }) →
  wpAny (model Prog w) (callerA.deeper (lawE L fa cd)) (execs lawB.val (lawE L fa cd)) Q E s := by
  intro w fa cd h₀ L p loose mean mg mb m s Q E SCR vs ns o1 o2 o3 o4 x1 x2 x3 x4 B X T C1 C2 F hm1 hl hI hlen hgb N d1 d2 d3 d4 h37L hfin
  show wpAny _ _ (execs (ls0.val ++ (ls3.val ++ (ls6.val ++ (ls9.val ++ (ls12.val ++ (ls15.val ++ (ls17.val ++ (ls20.val ++ lt22.val)))))))) _) _ _ _
  refine' law_s0 w fa cd h₀ L p loose mean mg mb m [(37, tabObj #[]), (30, tabObj #[])] s Q E _ SCR vs ns o1 o2 o3 o4 x1 x2 x3 x4 B X T C1 C2 F hm1 hl hI hlen hgb N d1 d2 d3 d4 ⟨h37L, Nat.lt_trans (by decide) h37L, trivial⟩ ?_
  intro h1 tk1 m1 oB oSh shape bits noise ring odd wide tb ts tn tr to tw F1 y1 y2 y3 y4 N1 dB dSh hring hodd hw13 hw16
  refine byC fun hGZ => ?_
  obtain ⟨ring, rfl, hr⟩ : ∃ r : Nat, ring = (r : Int) ∧ Ring r := by
    rcases hring with rfl | rfl | rfl
    · exact ⟨5, rfl, .inl rfl⟩
    · exact ⟨7, rfl, .inr (.inl rfl)⟩
    · exact ⟨9, rfl, .inr (.inr rfl)⟩
  obtain ⟨odd, rfl, ho⟩ : ∃ r : Nat, odd = (r : Int) ∧ (r = 3 ∨ r = 5) := by
    rcases hodd with rfl | rfl
    · exact ⟨3, rfl, .inl rfl⟩
    · exact ⟨5, rfl, .inr rfl⟩
  refine hGZ ?_; clear hGZ
  have hr5 : 5 ≤ ring := by rcases hr with rfl | rfl | rfl <;> decide
  have hr9 : ring ≤ 9 := by rcases hr with rfl | rfl | rfl <;> decide
  refine' law_s3 w fa cd h₀ L p loose mean mg mb m1 _ _ Q E _ ring odd shape bits _ _ _ _ oB oSh B X T C1 C2 F1 y2 y3 N1 (.tail _ (.head _)) (.tail _ (.tail _ (.head _))) dB dSh hr9 (by (first | exact om5 hodd | omega)) ?_
  intro h2 tk2 m2 TE K tsv ks nT nK terms kinds tq F2 e2 z1 z2 z3 N2 lTE lK hIt hIk htl htm hkl hkb
  refine' law_s6 w fa cd h₀ L p loose mean mg mb m2 _ _ Q E _ noise tn K ks kinds nK B X T C1 C2 F2 ((e2 _ (by decide) (by decide) (by decide)).trans y1) z2 N2 (.head _) hIk (by (first | exact om6 hr5 hkl | omega)) (by (first | exact om7 hr9 hkl | omega)) hkb ?_
  intro h3 tk3 m3 IT is nI res more F3 e3 a1 N3 lIT his hml hruns
  refine' law_s9 w fa cd h₀ L p loose mean mg mb m3 _ _ Q E _ ring kinds.sum tr tq IT K is ks kinds res more nI nK B X T C1 C2 F3 ((e3 _ (by decide) (by decide) (by decide)).trans ((e2 _ (by decide) (by decide) (by decide)).trans y2)) ((e3 _ (by decide) (by decide) (by decide)).trans z3) a1 ((e3 _ (by decide) (by decide) (by decide)).trans z2) N3 hgb (.head _) (.tail _ (.head _)) his hIk hruns hkl hr9 hkb rfl hml ?_
  intro h4 tk4 g4 m4 CU cs nC hg4 F4 e4 b1 N4 lCU hIc
  have r4 : m4 (Str.ofString "ring") = some (.int ring tr) := (e4 _ (by decide) (by decide) (by decide)).trans ((e3 _ (by decide) (by decide) (by decide)).trans ((e2 _ (by decide) (by decide) (by decide)).trans y2))
  have k4 : m4 (Str.ofString "kinds") = some (.ref K) := (e4 _ (by decide) (by decide) (by decide)).trans ((e3 _ (by decide) (by decide) (by decide)).trans z2)
  refine' law_s12 w fa cd h₀ L p loose mean mg mb m4 _ _ Q E _ ring tr CU K cs ks kinds nC nK B X T C1 C2 F4 r4 b1 k4 N4 (.head _) (.tail _ (.tail _ (.head _))) hIc hIk hkl hr9 hkb ?_
  intro h5 tk5 m5 SE ss nS F5 e5 c1 N5 lSE hIs
  have d30 : @LT.lt Nat _ 30 TE := lTE (30, tabObj #[]) (by k_mem)
  have d37 : @LT.lt Nat _ 37 TE := lTE (37, tabObj #[]) (by k_mem)
  have q1 : @LT.lt Nat _ K IT := lIT _ (.head _)
  have q2 : @LT.lt Nat _ IT CU := lCU _ (.head _)
  have q3 : @LT.lt Nat _ CU SE := lSE _ (.head _)
  have N5' := news_sub (news' := (30, tabObj #[]) :: (30, tabObj #[]) :: (37, tabObj #[]) :: (37, tabObj #[]) :: (SE, W.listOf (List.toArray ss) nS) :: (CU, W.listOf (List.toArray cs) nC) :: (IT, W.listOf (List.toArray is) nI) :: (K, W.listOf (List.toArray ks) nK) :: (TE, W.listOf (List.toArray tsv) nT) :: (L + 1 + 1 + 1 + 1, o4) :: []) N5 (by
    repeat (refine' List.forall_mem_cons.mpr ⟨by k_mem, ?_⟩)
    exact fun _ h => nomatch h)
  have off : ∀ d : Nat, d ≤ 37 → Off d ((SE, W.listOf (List.toArray ss) nS) :: (CU, W.listOf (List.toArray cs) nC) :: (IT, W.listOf (List.toArray is) nI) :: (K, W.listOf (List.toArray ks) nK) :: (TE, W.listOf (List.toArray tsv) nT) :: (L + 1 + 1 + 1 + 1, o4) :: []) := fun d hd9 =>
    off_cons.mpr ⟨neN (by (first | exact om8 lK d37 q1 q2 q3 hd9 | omega)), off_cons.mpr ⟨neN (by (first | exact om9 lK d37 q1 q2 hd9 | omega)), off_cons.mpr ⟨neN (by (first | exact om10 lK d37 q1 hd9 | omega)), off_cons.mpr ⟨neN (by (first | exact om11 lK d37 hd9 | omega)), off_cons.mpr ⟨neN (by (first | exact om12 d37 hd9 | omega)), off_cons.mpr ⟨neN (by (first | exact om13 h37L hd9 | omega)), off_nil⟩⟩⟩⟩⟩⟩
  have old5 : ∀ z, z ≠ Str.ofString "seen" → z ≠ Str.ofString "place" → z ≠ Str.ofString "low" → z ≠ Str.ofString "high" → z ≠ Str.ofString "bound" → z ≠ Str.ofString "cuts" → z ≠ Str.ofString "at" → z ≠ Str.ofString "size" → z ≠ Str.ofString "text" → z ≠ Str.ofString "due" → z ≠ Str.ofString "items" → m5 z = m2 z :=
    fun z b1 b2 b3 b4 b5 b6 b7 b8 b9 b10 b11 => (e5 z b1 b2 b3 b4 b5).trans ((e4 z b6 b7 b8).trans (e3 z b9 b10 b11))
  have w5 : m5 (Str.ofString "wide") = some (.int wide tw) := (old5 _ (by decide) (by decide) (by decide) (by decide) (by decide) (by decide) (by decide) (by decide) (by decide) (by decide) (by decide)).trans ((e2 _ (by decide) (by decide) (by decide)).trans y4)
  have o5 : m5 (Str.ofString "odd") = some (.int (odd : Int) to) := (old5 _ (by decide) (by decide) (by decide) (by decide) (by decide) (by decide) (by decide) (by decide) (by decide) (by decide) (by decide)).trans ((e2 _ (by decide) (by decide) (by decide)).trans y3)
  have t5 : m5 (Str.ofString "terms") = some (.ref TE) := (old5 _ (by decide) (by decide) (by decide) (by decide) (by decide) (by decide) (by decide) (by decide) (by decide) (by decide) (by decide)).trans z1
  have k5 : m5 (Str.ofString "kinds") = some (.ref K) := (e5 _ (by decide) (by decide) (by decide) (by decide) (by decide)).trans k4
  have r5 : m5 (Str.ofString "ring") = some (.int ring tr) := (e5 _ (by decide) (by decide) (by decide) (by decide) (by decide)).trans r4
  have u5 : m5 (Str.ofString "cuts") = some (.ref CU) := (e5 _ (by decide) (by decide) (by decide) (by decide) (by decide)).trans b1
  have q5 : m5 (Str.ofString "quoted") = some (.int kinds.sum tq) := (old5 _ (by decide) (by decide) (by decide) (by decide) (by decide) (by decide) (by decide) (by decide) (by decide) (by decide) (by decide)).trans z3
  have ht0 : terms ≠ [] := by rintro rfl; simp at htl; omega
  have ht5 : terms.length ≤ 5 := by (first | exact om14 hodd htl | omega)
  refine' law_s15 w fa cd h₀ L p loose mean mg mb m5 _ _ Q E _ wide ring tw _ _ _ _ 30 37 SE TE K ss tsv ks kinds terms nS nT nK B X T C1 C2 F5 w5 c1 t5 k5 N5' (off 30 (by decide)) (off 37 (by decide)) (by decide) (by decide) (.inl ⟨rfl, rfl, rfl⟩) (.inl ⟨rfl, rfl, rfl⟩) hg4 (by k_mem) (by k_mem) (by k_mem) hIs hIt hIk hr hkl hkb ht0 ht5 htm hw13 hw16 ?_
  intro h6 tk6 g6 m6 p1 p2 p3 p4 p5 p6 R CT vs6 ct nR nC6 nw hg6 F6 e6 f1 f2 N6 R1 R2 n1 n2 T1 T2 hsub hR hrows hCT hIct
  have hL4 : (L + 1 + 1 + 1 + 1, o4) ∈ nw := hsub _ (by k_mem)
  have Nw : News h₀ L h6 nw := news_sub N6 fun q hq => .tail _ (.tail _ (.tail _ (.tail _ hq)))
  refine byC fun hGZ => ?_
  obtain ⟨nw', hnw'⟩ : ∃ nw', nw' = nw.filter (fun q => !(q.1 == L + 1 + 1 + 1 + 1)) := ⟨_, rfl⟩
  have into : ∀ q ∈ nw, q.1 ≠ L + 1 + 1 + 1 + 1 → q ∈ nw' := fun q hq hn => by rw [hnw']; exact List.mem_filter.mpr ⟨hq, by simpa using hn⟩
  have outof : ∀ q ∈ nw', q ∈ nw ∧ q.1 ≠ L + 1 + 1 + 1 + 1 := fun q hq => by
    rw [hnw'] at hq
    obtain ⟨h1, h2⟩ := List.mem_filter.mp hq
    exact ⟨h1, by simpa using h2⟩
  clear hnw'
  have lists : ∀ (r : Addr) (ds : List Value) (nn : Nat), (r, W.listOf ds.toArray nn) ∈ nw → (r, W.listOf ds.toArray nn) ∈ nw' := fun r ds nn h => into _ h (list_ne Nw h hL4 d4)
  have N6' := news_sub (news' := (30, p1) :: (p5, p2) :: (37, p3) :: (p6, p4) :: (L + 1 + 1 + 1 + 1, o4) :: nw') N6 (by
    (repeat (refine' List.forall_mem_cons.mpr ⟨by first | exact .tail _ (.tail _ (.tail _ (.tail _ hL4))) | k_mem, ?_⟩))
    exact fun q hq => .tail _ (.tail _ (.tail _ (.tail _ (outof q hq).1))))
  obtain ⟨share, hshare, hdig⟩ := folded_others (n := wide.toNat) hr (by (first | exact om15 hw13 | omega)) hkl hkb htm (by (first | exact om16 hodd htl | omega))
  rw [htl] at hshare
  obtain ⟨hq0, hq1⟩ := sum_bits kinds hkb
  refine hGZ ?_; clear hGZ
  have hqr : kinds.sum ≤ (ring : Int) := by (first | exact om17 hkl hq1 | omega)
  have pw1 := pow_small hq0 (by (first | exact om18 hr9 hkl hq1 | omega)) ho
  have pw2 := pow_small (x := (ring : Int) - kinds.sum) (by (first | exact om19 hkl hq1 | omega)) (by (first | exact om20 hr9 hq0 | omega)) ho
  refine' law_s17 w fa cd h₀ L p loose mean mg mb m6 nw' _ Q E _ ring odd kinds.sum (ring * share) share tq to tr p1 p2 p3 p4 o4 p5 p6 x4 B X T C1 C2 F6 ((e6 _ (by decide) (by decide)).trans q5) ((e6 _ (by decide) (by decide)).trans o5) ((e6 _ (by decide) (by decide)).trans r5) N6' d4 (fun q hq => (outof q hq).2) h37L (fun q hq => R1 q (outof q hq).1) (fun q hq => R2 q (outof q hq).1) n1 n2 ?x1 ?x2 T1 T2 (by (first | exact om21 hr5 | omega)) (by (first | exact om22 hr9 | omega)) hq0 hqr (by (first | exact om23 hodd | omega)) (by (first | exact om24 htl ht5 | omega)) (by rw [Int.toNat_natCast]; exact hshare) (by (first | exact om25 hshare pw1 pw2 | omega)) rfl (share_nonneg (r := (ring : Int)) (s := share) (t := (ring : Int) * share) (by (first | exact om26 hr5 | omega)) rfl (by (first | exact om27 hshare pw1 pw2 | omega))) ?_
  case x1 => exact tabst_ne T1 N6' (by k_mem) (by k_mem) d4 (neN (by (first | exact om28 h37L | omega)))
  case x2 => exact tabst_ne T2 N6' (by k_mem) (by k_mem) d4 (neN (by (first | exact om29 h37L | omega)))
  intro h7 tk7 m7 oS p1' p2' p3' p4' p5' p6' t ts F7 e7 g1 N7 dS n1' n2' n3' n4' T1' T2'
  have hcl : (counted kinds ring terms).length = ring := by
    have := congrArg List.length hdig
    rw [digs_length, List.length_map] at this
    exact this.symm
  refine' law_s20 w fa cd h₀ L p loose mean mg mb m7 nw' _ Q E _ wide share ring tw ts p1' p2' p3' p4' oS p5' p6' R CT vs6 ct _ _ nR nC6 B X T C1 C2 F7 ((e7 _ (by decide)).trans ((e6 _ (by decide) (by decide)).trans w5)) ((e7 _ (by decide)).trans f1) ((e7 _ (by decide)).trans f2) N7 dS h37L (fun q hq => R1 q (outof q hq).1) (fun q hq => R2 q (outof q hq).1) n1' n2' T1' T2' (lists _ _ _ hR) (hrows.off lists) ?ne ?len ?bits (lists _ _ _ hCT) hIct hcl hr5 hr9 hw13 hw16 hdig ?_
  case ne => exact fun h => ht0 (List.map_eq_nil_iff.mp h)
  case len => rw [List.length_map]; exact ht5
  case bits =>
    intro r hr9
    obtain ⟨t, ht, rfl⟩ := List.mem_map.mp hr9
    refine ⟨rowAt_length _ _ _ _, rowAt_mem (fun x hx => ?_) _⟩
    obtain ⟨k, hk, rfl⟩ := List.mem_map.mp hx
    rcases hkb k hk with rfl | rfl <;> decide
  intro h8 tk8 m8 nw2 F8 e8 N8 hsub8 htabs
  have hCU8 : (CU, W.listOf (List.toArray cs) nC) ∈ nw2 := hsub8 _ (lists _ _ _ (hsub _ (by k_mem)))
  have g8 : m8 (Str.ofString "total") = some (.int (ring * share) t) := (e8 _ (by decide)).trans g1
  have r8 : m8 (Str.ofString "ring") = some (.int ring tr) := (e8 _ (by decide)).trans ((e7 _ (by decide)).trans ((e6 _ (by decide) (by decide)).trans r5))
  have u8 : m8 (Str.ofString "cuts") = some (.ref CU) := (e8 _ (by decide)).trans ((e7 _ (by decide)).trans ((e6 _ (by decide) (by decide)).trans u5))
  exact law_s22 w fa cd h₀ L p loose mean mg mb m8 nw2 _ Q E CU cs (cutsFrom 0 kinds) nC (ring * share) ring t tr B X T C1 C2 (fr_knows [(_, _), (_, _), (_, _)] F8 ⟨g8, r8, u8, trivial⟩) N8 hCU8 hIc hg6 fun h' tk' g' m' F' N' hg' => hfin h' tk' g' m' nw2 F' N' htabs hg'
end
theorem rules_end : True := by
  k_with_none
  exact trivial
end Mine
section
open Mine
local macro_rules | `(tactic| kn_posts) => `(tactic| refine lawEnd_post $(Lean.mkIdent `hT9) (fun _ => rfl) (by kernel_rfl) ?_)
set_option maxHeartbeats 8000000 in
theorem PySem.Challenge.cw_wv0034_01_holds : PySem.Challenge.rw_wv0034_01.Holds := by
  refine Mine.top (Mine.hd ?_)
  w_strict (k_go0; (all_goals try k_fold))
  rename Fr _ _ _ _ => F9
  rename News _ _ _ _ => N9
  rename Below _ _ _ _ => B9
  rename Top topProg _ _ _ _ _ => T9
  rename Frag.In _ _ => X9
  rename CodeHd _ (34, 30).1 _ => C1
  rename CodeHd _ (41, 37).1 _ => C2
  rename Heap.IsList (ghostOf _ _) _ _ => hl9
  rename IntsAre _ _ => hI9
  rename _ = #[] => hg9
  refine' law_all _ _ _ _ _ _ _ _ _ _ _ _ _ _ _ _ _ _ _ _ _ _ _ _ _ B9 X9 T9 C1 C2 F9 ?hs hl9 hI9 ?hlen ?hgb N9 ?d1 ?d2 ?d3 ?d4 ?h37 ?hfin
  case d1 => assumption
  case d2 => assumption
  case d3 => assumption
  case d4 => assumption
  case hs => exact rfl
  case hlen =>
    rename ¬ _ < _ => hc9
    (first | exact om2 hc9 | omega)
  case hgb => exact .of_eq hg9
  case h37 => first | assumption | exact And.left (by assumption)
  case hfin =>
    rintro h' tk' g' m' nw F N ⟨ps, qs, t1, t2⟩ hg'
    exact ⟨rfl, fun b o e => F.keep b o e, ⟨⟨_, (N _ t2).1⟩, ⟨_, (N _ t1).1⟩, trivial⟩, rfl, hg'⟩
end
