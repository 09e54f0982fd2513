import PyProof.Rows.All
import Wide.All
import OpenK.AllK
import Wide.FinOn
import PySem.Challenge.RW_yh0007_01
set_option Elab.async false
set_option maxRecDepth 100000
set_option maxHeartbeats 8000000
set_option compiler.extract_closed false
open PySem PySem.W PySem.Calls PyProof.Rows PySem.Spec
section -- Om
namespace Mine
theorem ltNl {x n b : Nat} (h : x < OfNat.ofNat n) (d : Nat.ble n b = true) : x < b := Nat.lt_of_lt_of_le h (Nat.le_of_ble_eq_true d)
theorem leNl {x n b : Nat} (h : x < OfNat.ofNat n) (d : Nat.ble n (Nat.succ b) = true) : x ≤ b := Nat.le_of_lt_succ (Nat.lt_of_lt_of_le h (Nat.le_of_ble_eq_true d))
theorem leNl2 {x n b : Nat} (h : x ≤ OfNat.ofNat n) (d : Nat.ble n b = true) : x ≤ b := Nat.le_trans h (Nat.le_of_ble_eq_true d)
theorem ltIl {x b : Int} {n : Nat} (h : x < OfNat.ofNat n) (d : decide ((OfNat.ofNat n : Int) ≤ b) = true) : x < b := Int.lt_of_lt_of_le h (of_decide_eq_true d)
theorem leIl {x b : Int} {n : Nat} (h : x < OfNat.ofNat n) (d : decide ((OfNat.ofNat n : Int) ≤ b) = true) : x ≤ b := Int.le_of_lt (Int.lt_of_lt_of_le h (of_decide_eq_true d))
theorem leIl2 {x b : Int} {n : Nat} (h : x ≤ OfNat.ofNat n) (d : decide ((OfNat.ofNat n : Int) ≤ b) = true) : x ≤ b := Int.le_trans h (of_decide_eq_true d)
theorem loI {x b : Int} (h : 0 ≤ x) (d : decide (b ≤ 0) = true) : b ≤ x := Int.le_trans (of_decide_eq_true d) h
theorem loIt {x b : Int} (h : 0 ≤ x) (d : decide (b < 0) = true) : b < x := Int.lt_of_lt_of_le (of_decide_eq_true d) h
theorem leNr {x n b : Nat} (h : x < n) (h2 : n ≤ b) : x ≤ b := Nat.le_of_lt (Nat.lt_of_lt_of_le h h2)
theorem loP {x : Int} (h : 0 ≤ x) : -2 ^ 1920 < x := Int.lt_of_lt_of_le (by decide +kernel) h
theorem hiP {x : Int} {n : Nat} (h : x < OfNat.ofNat n) (d : Nat.ble n 1000000 = true) : x < 2 ^ 1920 :=
  Int.lt_trans (Int.lt_of_lt_of_le h (show (n : Int) ≤ 1000000 from Int.ofNat_le.mpr (Nat.le_of_ble_eq_true d))) (by decide +kernel)
theorem prep {L D aH : Nat} (a : 130 < L) (b : D < aH ∧ L + 1 + 1 + 1 + 1 < aH) : 130 < aH ∧ L + 1 + 1 + 1 < aH ∧ L + 1 + 1 + 1 + 1 < aH ∧ D < aH :=
  ⟨Nat.lt_trans (Nat.lt_trans a (Nat.lt_succ_of_lt (Nat.lt_succ_of_lt (Nat.lt_succ_of_lt (Nat.lt_succ_self L))))) b.2, Nat.lt_trans (Nat.lt_succ_self _) b.2, b.2, b.1⟩
theorem prep2 {L aH : Nat} (a : 130 < L) (b : L + 1 + 1 + 1 + 1 < aH) : 130 < aH :=
  Nat.lt_trans (Nat.lt_trans a (Nat.lt_succ_of_lt (Nat.lt_succ_of_lt (Nat.lt_succ_of_lt (Nat.lt_succ_self L))))) b
theorem side1 {i a b c d e : Nat} (hi : i < 4) (z1 : a = i) (z2 : b = i) (z3 : c = i) (z4 : d = i) (z5 : e ≤ i) : a < 5 ∧ b < 5 ∧ (c : Int) = 0 + (i : Int) ∧ d < 5 ∧ e < 5 ∧ 0 ≤ 0 + (i : Int) ∧ 0 + (i : Int) < 4 := by
  have h5 := Nat.lt_trans hi (by decide : 4 < 5)
  rw [z1, z2, z3, z4, Int.zero_add]
  exact ⟨h5, h5, rfl, h5, Nat.lt_of_le_of_lt z5 h5, Int.natCast_nonneg i, Int.ofNat_lt.mpr hi⟩
theorem n4 {q : Nat} (h : q < 4) : q = 0 ∨ q = 1 ∨ q = 2 ∨ q = 3 :=
  match q, h with
  | 0, _ => .inl rfl
  | 1, _ => .inr (.inl rfl)
  | 2, _ => .inr (.inr (.inl rfl))
  | 3, _ => .inr (.inr (.inr rfl))
  | n + 4, h => absurd h (Nat.not_lt.mpr (Nat.le_add_left 4 n))
theorem fin_all {P : Int → Prop} {x : Int} (n : Nat) (h0 : 0 ≤ x) (h : x < n) (d : ∀ k : Fin n, P ((k.val : Nat) : Int)) : P x := by
  obtain ⟨k, rfl⟩ := Int.eq_ofNat_of_zero_le h0
  exact d ⟨k, Int.ofNat_lt.mp h⟩
theorem i4 {x : Int} (h0 : 0 ≤ x) (h : x < 4) : x = 0 ∨ x = 1 ∨ x = 2 ∨ x = 3 := fin_all (P := fun x => x = 0 ∨ x = 1 ∨ x = 2 ∨ x = 3) 4 h0 h (by decide)
theorem i6 {x : Int} (h0 : 0 ≤ x) (h : x < 6) : x = 0 ∨ x = 1 ∨ x = 2 ∨ x = 3 ∨ x = 4 ∨ x = 5 := fin_all (P := fun x => x = 0 ∨ x = 1 ∨ x = 2 ∨ x = 3 ∨ x = 4 ∨ x = 5) 6 h0 h (by decide)
theorem m6 {x : Int} (h : 0 ≤ x ∧ x < 6) : x ∈ [(0:Int), 1, 2, 3, 4, 5] := fin_all (P := fun x => x ∈ [(0:Int), 1, 2, 3, 4, 5]) 6 h.1 h.2 (by decide)
theorem sz_cut {A B m x y : Nat} (h : A + m + B < 900) : A - x + m + (B - y) < 1000 :=
  Nat.lt_of_le_of_lt (Nat.add_le_add (Nat.add_le_add_right (Nat.sub_le A x) m) (Nat.sub_le B y)) (Nat.lt_trans h (by decide))
theorem exE3 {α0 α1 α2 : Type} {P : α0 → α1 → α2 → Prop} {R : Prop} (h : ∃ a0 a1 a2, P a0 a1 a2) (k : ∀ a0 a1 a2, P a0 a1 a2 → R) : R := by
  obtain ⟨a0, a1, a2, h⟩ := h
  exact k _ _ _ h
theorem exI3 {α0 α1 α2 : Type} {P : α0 → α1 → α2 → Prop} {a0 : α0} {a1 : α1} {a2 : α2} (h : P a0 a1 a2) : ∃ a0 a1 a2, P a0 a1 a2 := ⟨a0, a1, a2, h⟩
theorem exE4 {α0 α1 α2 α3 : Type} {P : α0 → α1 → α2 → α3 → Prop} {R : Prop} (h : ∃ a0 a1 a2 a3, P a0 a1 a2 a3) (k : ∀ a0 a1 a2 a3, P a0 a1 a2 a3 → R) : R := by
  obtain ⟨a0, a1, a2, a3, h⟩ := h
  exact k _ _ _ _ h
theorem exI4 {α0 α1 α2 α3 : Type} {P : α0 → α1 → α2 → α3 → Prop} {a0 : α0} {a1 : α1} {a2 : α2} {a3 : α3} (h : P a0 a1 a2 a3) : ∃ a0 a1 a2 a3, P a0 a1 a2 a3 := ⟨a0, a1, a2, a3, h⟩
theorem exE5 {α0 α1 α2 α3 α4 : Type} {P : α0 → α1 → α2 → α3 → α4 → Prop} {R : Prop} (h : ∃ a0 a1 a2 a3 a4, P a0 a1 a2 a3 a4) (k : ∀ a0 a1 a2 a3 a4, P a0 a1 a2 a3 a4 → R) : R := by
  obtain ⟨a0, a1, a2, a3, a4, h⟩ := h
  exact k _ _ _ _ _ h
theorem exI5 {α0 α1 α2 α3 α4 : Type} {P : α0 → α1 → α2 → α3 → α4 → Prop} {a0 : α0} {a1 : α1} {a2 : α2} {a3 : α3} {a4 : α4} (h : P a0 a1 a2 a3 a4) : ∃ a0 a1 a2 a3 a4, P a0 a1 a2 a3 a4 := ⟨a0, a1, a2, a3, a4, h⟩
theorem exE6 {α0 α1 α2 α3 α4 α5 : Type} {P : α0 → α1 → α2 → α3 → α4 → α5 → Prop} {R : Prop} (h : ∃ a0 a1 a2 a3 a4 a5, P a0 a1 a2 a3 a4 a5) (k : ∀ a0 a1 a2 a3 a4 a5, P a0 a1 a2 a3 a4 a5 → R) : R := by
  obtain ⟨a0, a1, a2, a3, a4, a5, h⟩ := h
  exact k _ _ _ _ _ _ h
theorem exI6 {α0 α1 α2 α3 α4 α5 : Type} {P : α0 → α1 → α2 → α3 → α4 → α5 → Prop} {a0 : α0} {a1 : α1} {a2 : α2} {a3 : α3} {a4 : α4} {a5 : α5} (h : P a0 a1 a2 a3 a4 a5) : ∃ a0 a1 a2 a3 a4 a5, P a0 a1 a2 a3 a4 a5 := ⟨a0, a1, a2, a3, a4, a5, h⟩
theorem exE7 {α0 α1 α2 α3 α4 α5 α6 : Type} {P : α0 → α1 → α2 → α3 → α4 → α5 → α6 → Prop} {R : Prop} (h : ∃ a0 a1 a2 a3 a4 a5 a6, P a0 a1 a2 a3 a4 a5 a6) (k : ∀ a0 a1 a2 a3 a4 a5 a6, P a0 a1 a2 a3 a4 a5 a6 → R) : R := by
  obtain ⟨a0, a1, a2, a3, a4, a5, a6, h⟩ := h
  exact k _ _ _ _ _ _ _ h
theorem exI7 {α0 α1 α2 α3 α4 α5 α6 : Type} {P : α0 → α1 → α2 → α3 → α4 → α5 → α6 → Prop} {a0 : α0} {a1 : α1} {a2 : α2} {a3 : α3} {a4 : α4} {a5 : α5} {a6 : α6} (h : P a0 a1 a2 a3 a4 a5 a6) : ∃ a0 a1 a2 a3 a4 a5 a6, P a0 a1 a2 a3 a4 a5 a6 := ⟨a0, a1, a2, a3, a4, a5, a6, h⟩
theorem exE8 {α0 α1 α2 α3 α4 α5 α6 α7 : Type} {P : α0 → α1 → α2 → α3 → α4 → α5 → α6 → α7 → Prop} {R : Prop} (h : ∃ a0 a1 a2 a3 a4 a5 a6 a7, P a0 a1 a2 a3 a4 a5 a6 a7) (k : ∀ a0 a1 a2 a3 a4 a5 a6 a7, P a0 a1 a2 a3 a4 a5 a6 a7 → R) : R := by
  obtain ⟨a0, a1, a2, a3, a4, a5, a6, a7, h⟩ := h
  exact k _ _ _ _ _ _ _ _ h
theorem exI8 {α0 α1 α2 α3 α4 α5 α6 α7 : Type} {P : α0 → α1 → α2 → α3 → α4 → α5 → α6 → α7 → Prop} {a0 : α0} {a1 : α1} {a2 : α2} {a3 : α3} {a4 : α4} {a5 : α5} {a6 : α6} {a7 : α7} (h : P a0 a1 a2 a3 a4 a5 a6 a7) : ∃ a0 a1 a2 a3 a4 a5 a6 a7, P a0 a1 a2 a3 a4 a5 a6 a7 := ⟨a0, a1, a2, a3, a4, a5, a6, a7, h⟩
open PySem PySem.W PyProof.Rows PySem.Spec in
theorem tok_any {α : Type} {M : Model} {A : Around} {x : Sem α} {Q : α → Shared → Prop} {E : Value → Shared → Prop} {h : Heap} {g : Array GenState} {d : Drawn} {t : Nat} {o : OsState} (k : ∀ t', wpAny M A x Q E ⟨h, g, d, t', o⟩) : wpAny M A x Q E ⟨h, g, d, t, o⟩ := k t
open PySem in
theorem str_app (A B : Str) : (A ++ B).length = A.length + B.length := by
  show (_ ++ _ : Array _).size = _
  rw [Array.size_append]
  rfl
open PySem in
theorem len2 {A B : Str} {a b n : Nat} (h1 : A.length = OfNat.ofNat a) (h2 : B.length ≤ OfNat.ofNat b) (d : Nat.ble (a + b) n = true) : A.length + B.length ≤ n :=
  Nat.le_trans (Nat.add_le_add (Nat.le_of_eq h1) h2) (Nat.le_of_ble_eq_true d)
open PySem in
theorem len3 {A B C : Str} {a b c n : Nat} (h1 : A.length = OfNat.ofNat a) (h2 : B.length ≤ OfNat.ofNat b) (h3 : C.length = OfNat.ofNat c) (d : Nat.ble (a + b + c) n = true) : (A ++ B).length + C.length ≤ n := by
  rw [str_app]
  exact Nat.le_trans (Nat.add_le_add (Nat.add_le_add (Nat.le_of_eq h1) h2) (Nat.le_of_eq h3)) (Nat.le_of_ble_eq_true d)
open PySem in
theorem mul_len {b : Int} (h : 0 ≤ b ∧ b < 6) : (Txt.mul (Str.ofString " ") b).length ≤ 5 := fin_all (P := fun b => (Txt.mul (Str.ofString " ") b).length ≤ 5) 6 h.1 h.2 (by decide)
theorem msr1 {n : Nat} {i : Int} (h5 : 5 ≤ i) (h : i < n) : n - (i + 1).toNat < n - i.toNat := by
  obtain ⟨k, rfl⟩ := Int.eq_ofNat_of_zero_le (Int.le_trans (by decide : (0 : Int) ≤ 5) h5)
  exact Nat.sub_lt_sub_left (Int.ofNat_lt.mp h) (Nat.lt_succ_self k)
theorem msr2 {n : Nat} {i : Int} (h5 : 5 ≤ i) (h : ¬ (n : Int) ≤ i + 1) : n - (i + 1 + 1).toNat < n - i.toNat := by
  obtain ⟨k, rfl⟩ := Int.eq_ofNat_of_zero_le (Int.le_trans (by decide : (0 : Int) ≤ 5) h5)
  exact Nat.sub_lt_sub_left (Nat.lt_of_succ_lt (Int.ofNat_lt.mp (Int.not_le.mp h))) (Nat.lt_succ_of_lt (Nat.lt_succ_self k))
theorem msr3 {i : Int} (h0 : 0 ≤ i) (h : i ≠ 0) : (i - 1).toNat < i.toNat :=
  (Int.toNat_lt_toNat (Int.lt_iff_le_and_ne.mpr ⟨h0, Ne.symm h⟩)).mpr (Int.sub_lt_self i (by decide))
end Mine
end
section -- HD
open PySem PySem.W PyProof.Rows
namespace Mine
open_top hd for PySem.Challenge.rw_yh0007_01
end Mine
end
local macro_rules | `(tactic| walk_at $s:str) => `(tactic| k_extra $s)
local macro_rules | `(tactic| omega) => `(tactic| k_extra "omega")
namespace Mine
theorem rows0 : True := by
  k_with_none
  k_with "omega" => safely (k_dflt lia)
  trivial
end Mine
section -- PureA
open PySem PySem.W PyProof.Rows
namespace Mine
theorem fm (x n : Int) (h : 0 < n := by decide) : 0 ≤ x.fmod n ∧ x.fmod n < n := ⟨Int.fmod_nonneg_of_pos x h, Int.fmod_lt_of_pos x h⟩

/-! parse257 -/
noncomputable def go : List Nat → List Nat
  | [] => []
  | c :: r => if c = 34 then (match r with | [] => [] | d :: r' => if d = 34 then 34 :: go r' else []) else c :: go r
theorem go_plain {c : Nat} {r : List Nat} (h : ¬ c = 34) : go (c :: r) = c :: go r := by cases r <;> simp [go, h]
theorem go_pair {r : List Nat} : go (34 :: 34 :: r) = 34 :: go r := by simp [go]
theorem go_end : go [34] = [] := by simp [go]
theorem go_brk {d : Nat} {r : List Nat} (h : ¬ d = 34) : go (34 :: d :: r) = [] := by simp [go, h]
noncomputable def WI (x : Str) (R : List Nat) (i : Int) (d : Str) : Prop := 5 ≤ i ∧ i ≤ (x.length : Int) ∧ d.length ≤ i.toNat ∧ d.cps.toList ++ go (x.cps.toList.drop i.toNat) = R

theorem quote_eq : Str.ofString "\"" = ⟨#[34]⟩ := by decide +kernel
theorem item_q {x : Str} {i : Int} (h0 : 0 ≤ i) (h1 : i < x.length) : (Txt.item x i == Str.ofString "\"") = decide (x.cps.getD i.toNat 0 = 34) := by
  rw [item_at h0 h1 rfl, quote_eq]
  by_cases h : x.cps.getD i.toNat 0 = 34
  · rw [h]; rfl
  · rw [decide_eq_false h]
    refine beq_eq_false_iff_ne.mpr fun e => h ?_
    have e2 := congrArg (fun y : Str => y.cps.toList) e
    simpa using e2
theorem drop_at {x : Str} {i : Int} (h0 : 0 ≤ i) (h1 : i < x.length) : x.cps.toList.drop i.toNat = x.cps.getD i.toNat 0 :: x.cps.toList.drop (i.toNat + 1) := by
  have hl : x.length = x.cps.size := rfl
  have hi : i.toNat < x.cps.toList.length := by rw [Array.length_toList]; omega
  rw [List.drop_eq_getElem_cons hi]
  congr 1
  have : i.toNat < x.cps.size := by omega
  simp [Array.getD, this]
theorem app_item {x d : Str} {i : Int} (h0 : 0 ≤ i) (h1 : i < x.length) : (d ++ Txt.item x i).cps.toList = d.cps.toList ++ [x.cps.getD i.toNat 0] := by
  rw [item_at h0 h1 rfl, Str.cps_append, Array.toList_append]
theorem app_item_len {x d : Str} {i : Int} (h0 : 0 ≤ i) (h1 : i < x.length) : (d ++ Txt.item x i).length = d.length + 1 := by
  rw [Str.length_append, len_item]
theorem wi_start {x : Str} {R : List Nat} (h : 5 ≤ x.length) (e : go (x.cps.toList.drop 5) = R) : WI x R 5 (Str.ofString "") :=
  ⟨by omega, by omega, by decide, by rw [show (Str.ofString "").cps.toList = [] from by decide +kernel]; exact e⟩
theorem wi_plain {x d : Str} {R : List Nat} {i : Int} (h : WI x R i d) (h1 : i < x.length) (hc : (Txt.item x i == Str.ofString "\"") = false) : WI x R (i + 1) (d ++ Txt.item x i) := by
  obtain ⟨a, b, c, e⟩ := h
  have h0 : 0 ≤ i := by omega
  rw [item_q h0 h1, decide_eq_false_iff_not] at hc
  have en : (i + 1).toNat = i.toNat + 1 := by omega
  refine ⟨by omega, by omega, by rw [app_item_len h0 h1]; omega, ?_⟩
  rw [app_item h0 h1, en, ← e, drop_at h0 h1, go_plain hc, List.append_assoc]; rfl
theorem wi_pair {x d : Str} {R : List Nat} {i : Int} (h : WI x R i d) (h1 : i + 1 < x.length) (hc : (Txt.item x i == Str.ofString "\"") = true) (hd : (Txt.item x (i + 1) == Str.ofString "\"") = true) : WI x R (i + 1 + 1) (d ++ Txt.item x i) := by
  obtain ⟨a, b, c, e⟩ := h
  have h0 : 0 ≤ i := by omega
  have h1' : i < x.length := by omega
  have h0' : 0 ≤ i + 1 := by omega
  rw [item_q h0 h1', decide_eq_true_eq] at hc
  rw [item_q h0' h1, decide_eq_true_eq] at hd
  have en : (i + 1 + 1).toNat = i.toNat + 1 + 1 := by omega
  have en1 : (i + 1).toNat = i.toNat + 1 := by omega
  refine ⟨by omega, by omega, by rw [app_item_len h0 h1']; omega, ?_⟩
  have d2 := drop_at h0' h1
  rw [en1] at d2 hd
  rw [app_item h0 h1', en, ← e, drop_at h0 h1', d2, hc, hd, go_pair, List.append_assoc]; rfl
theorem str_of {d : Str} {R : List Nat} (h : d.cps.toList = R) : d = ⟨R.toArray⟩ := by
  refine ext_toList ?_
  simpa using h
theorem wi_end {x d : Str} {R : List Nat} {i : Int} (h : WI x R i d) (h1 : ¬ i < x.length) : d = ⟨R.toArray⟩ := by
  obtain ⟨a, b, c, e⟩ := h
  have hl : x.length = x.cps.size := rfl
  refine str_of ?_
  rw [← e, List.drop_eq_nil_of_le (by rw [Array.length_toList]; omega)]
  simp [go]
theorem wi_brk1 {x d : Str} {R : List Nat} {i : Int} (h : WI x R i d) (h1 : i < x.length) (hc : (Txt.item x i == Str.ofString "\"") = true) (h2 : (x.length : Int) ≤ i + 1) : d = ⟨R.toArray⟩ := by
  obtain ⟨a, b, c, e⟩ := h
  have h0 : 0 ≤ i := by omega
  have hl : x.length = x.cps.size := rfl
  rw [item_q h0 h1, decide_eq_true_eq] at hc
  refine str_of ?_
  rw [← e, drop_at h0 h1, List.drop_eq_nil_of_le (by rw [Array.length_toList]; omega), hc, go_end, List.append_nil]
theorem wi_brk2 {x d : Str} {R : List Nat} {i : Int} (h : WI x R i d) (h1 : i + 1 < x.length) (hc : (Txt.item x i == Str.ofString "\"") = true) (hd : (Txt.item x (i + 1) == Str.ofString "\"") = false) : d = ⟨R.toArray⟩ := by
  obtain ⟨a, b, c, e⟩ := h
  have h0 : 0 ≤ i := by omega
  have h1' : i < x.length := by omega
  have h0' : 0 ≤ i + 1 := by omega
  rw [item_q h0 h1', decide_eq_true_eq] at hc
  rw [item_q h0' h1, decide_eq_false_iff_not] at hd
  have en1 : (i + 1).toNat = i.toNat + 1 := by omega
  have d2 := drop_at h0' h1
  rw [en1] at d2 hd
  refine str_of ?_
  rw [← e, drop_at h0 h1', d2, hc, go_brk hd, List.append_nil]
end Mine
namespace Mine
open PySem PySem.W PyProof.Rows
noncomputable def WJ (x : Str) (R : List Nat) (i : Int) (d : Str) : Prop := 5 ≤ i ∧ i ≤ (x.length : Int) ∧ d.length ≤ i.toNat ∧ WI x R i d
theorem wj {x d : Str} {R : List Nat} {i : Int} (h : WI x R i d) : 5 ≤ i ∧ i ≤ (x.length : Int) ∧ d.length ≤ i.toNat ∧ WI x R i d := ⟨h.1, h.2.1, h.2.2.1, h⟩
theorem wj_plain {x d : Str} {R : List Nat} {i : Int} (h : WI x R i d) (h1 : i < x.length) (hc : (Txt.item x i == Str.ofString "\"") = false) :
    5 ≤ i + 1 ∧ i + 1 ≤ (x.length : Int) ∧ (d ++ Txt.item x i).length ≤ (i + 1).toNat ∧ WI x R (i + 1) (d ++ Txt.item x i) := wj (wi_plain h h1 hc)
theorem wj_pair {x d : Str} {R : List Nat} {i : Int} (h : WI x R i d) (h1 : ¬ (x.length : Int) ≤ i + 1) (hc : (Txt.item x i == Str.ofString "\"") = true) (hd : (Txt.item x (i + 1) != Str.ofString "\"") = false) :
    5 ≤ i + 1 + 1 ∧ i + 1 + 1 ≤ (x.length : Int) ∧ (d ++ Txt.item x i).length ≤ (i + 1 + 1).toNat ∧ WI x R (i + 1 + 1) (d ++ Txt.item x i) := wj (wi_pair h (by omega) hc (by simpa using hd))
theorem wj_brk2 {x d : Str} {R : List Nat} {i : Int} (h : WI x R i d) (h1 : ¬ (x.length : Int) ≤ i + 1) (hc : (Txt.item x i == Str.ofString "\"") = true) (hd : (Txt.item x (i + 1) != Str.ofString "\"") = true) : d = ⟨R.toArray⟩ :=
  wi_brk2 h (by omega) hc (by simpa using hd)
end Mine
end
section -- PureB
open PySem PySem.W PyProof.Rows
namespace Mine
/-! _strip_padding -/
noncomputable def lineS (a : Nat) (M : List Nat) (b : Nat) : Str := ⟨(List.replicate a 32 ++ M ++ List.replicate b 32).toArray⟩
noncomputable def Solid (M : List Nat) : Prop := 1 ≤ M.length ∧ M.getD 0 32 ≠ 32 ∧ M.getD (M.length - 1) 32 ≠ 32
theorem line_len (a : Nat) (M : List Nat) (b : Nat) : (lineS a M b).length = a + M.length + b := by
  show (List.replicate a 32 ++ M ++ List.replicate b 32).toArray.size = _
  simp; omega
theorem line_getD (a : Nat) (M : List Nat) (b i : Nat) : (lineS a M b).cps.getD i 0 = (List.replicate a 32 ++ M ++ List.replicate b 32).getD i 0 := by
  unfold lineS
  simp [List.getD_eq_getElem?_getD]
theorem item_blank {x : Str} {i : Int} (h0 : 0 ≤ i) (h1 : i < x.length) : (Txt.item x i == Str.ofString " ") = decide (x.cps.getD i.toNat 0 = 32) := by
  rw [item_at h0 h1 rfl, show Str.ofString " " = ⟨#[32]⟩ from by decide +kernel]
  by_cases h : x.cps.getD i.toNat 0 = 32
  · rw [h]; rfl
  · rw [decide_eq_false h]
    refine beq_eq_false_iff_ne.mpr fun e => h ?_
    have e2 := congrArg (fun y : Str => y.cps.toList) e
    simpa using e2
theorem line_lo {a : Nat} {M : List Nat} {b i : Nat} (h : i < a) : (lineS a M b).cps.getD i 0 = 32 := by
  rw [line_getD, List.getD_eq_getElem?_getD, List.append_assoc, List.getElem?_append_left (by simpa using h)]
  simp [h]
theorem line_mid {a : Nat} {M : List Nat} {b i : Nat} (h : a ≤ i) (h2 : i < a + M.length) : (lineS a M b).cps.getD i 0 = M.getD (i - a) 32 := by
  rw [line_getD, List.getD_eq_getElem?_getD, List.getD_eq_getElem?_getD, List.append_assoc, List.getElem?_append_right (by simpa using h), List.length_replicate, List.getElem?_append_left (by omega)]
  have : i - a < M.length := by omega
  simp [this]
theorem line_hi {a : Nat} {M : List Nat} {b i : Nat} (h : a + M.length ≤ i) (h2 : i < a + M.length + b) : (lineS a M b).cps.getD i 0 = 32 := by
  rw [line_getD, List.getD_eq_getElem?_getD, List.getElem?_append_right (by simpa using h)]
  rw [List.length_append, List.length_replicate]
  have : i - (a + M.length) < b := by omega
  simp [this]
section
variable {a : Nat} {M : List Nat} {b : Nat} {i : Int}
theorem hA1 (hM : Solid M) (h : (Txt.item (lineS a M b) i == Str.ofString " ") = true) (h0 : 0 ≤ i) (h1 : i ≤ a) : i + 1 ≤ a := by
  rw [item_blank h0 (by rw [line_len]; have := hM.1; omega), decide_eq_true_eq] at h
  rcases Int.lt_or_le i a with q | q
  · omega
  · have e : i.toNat = a := by omega
    rw [e, line_mid (Nat.le_refl _) (by have := hM.1; omega), Nat.sub_self] at h
    exact absurd h hM.2.1
theorem hA0 (hM : Solid M) (h : (Txt.item (lineS a M b) i == Str.ofString " ") = false) (h0 : 0 ≤ i) (h1 : i ≤ a) : i = a := by
  rw [item_blank h0 (by rw [line_len]; have := hM.1; omega), decide_eq_false_iff_not] at h
  rcases Int.lt_or_le i a with q | q
  · exact absurd (line_lo (by omega)) h
  · omega
theorem hB1 (hM : Solid M) (h : (Txt.item (lineS a M b) i == Str.ofString " ") = true) (h0 : i < (lineS a M b).length) (h1 : (a : Int) + M.length ≤ i + 1) : (a : Int) + M.length ≤ i := by
  have hm := hM.1
  rw [item_blank (by omega) h0, decide_eq_true_eq] at h
  rcases Int.lt_or_le i ((a : Int) + M.length) with q | q
  · have e : i.toNat = a + M.length - 1 := by omega
    rw [e, line_mid (by omega) (by omega), show a + M.length - 1 - a = M.length - 1 by omega] at h
    exact absurd h hM.2.2
  · exact q
theorem hB0 (hM : Solid M) (h : (Txt.item (lineS a M b) i == Str.ofString " ") = false) (h0 : i < (lineS a M b).length) (h1 : (a : Int) + M.length ≤ i + 1) : i + 1 = (a : Int) + M.length := by
  have hm := hM.1
  rw [item_blank (by omega) h0, decide_eq_false_iff_not] at h
  rcases Int.lt_or_le i ((a : Int) + M.length) with q | q
  · omega
  · rw [line_len] at h0
    exact absurd (line_hi (by omega) (by omega)) h
theorem line_cut {lp rp n am0 am : Int} (h0 : 0 ≤ lp) (h1 : lp ≤ a) (h2 : 0 ≤ am0) (h3 : lp + am0 = n) (h4 : am0 = 0 ∨ lp = a) (h5 : 0 ≤ am) (h6 : am ≤ am0) (h7 : rp = ((lineS a M b).length : Int) - 1 - (am0 - am)) (h8 : (a : Int) + M.length ≤ rp + 1)
    (h9 : am = 0 ∨ rp + 1 = (a : Int) + M.length) : Txt.slice (lineS a M b) (some lp) (some (rp + 1)) = lineS (a - n.toNat) M (b - (n.toNat - a)) := by
  rw [line_len] at h7
  obtain ⟨l, rfl⟩ := Int.eq_ofNat_of_zero_le h0
  obtain ⟨N, rfl⟩ : ∃ N : Nat, n = (N : Int) := ⟨n.toNat, by omega⟩
  have hla : l ≤ a := by omega
  have key : a - N = a - l ∧ b - (N - a) ≤ b ∧ rp + 1 = (l : Int) + (((a - l) + (M.length + (b - (N - a))) : Nat) : Int) := by
    have ha : ((a - l : Nat) : Int) = a - l := Int.ofNat_sub hla
    rcases h4 with h4 | h4
    · have e : N = l := by omega
      subst e
      have : am = 0 := by omega
      subst this
      refine ⟨rfl, Nat.sub_le .., ?_⟩
      rw [Nat.sub_eq_zero_of_le hla, Nat.sub_zero, Int.natCast_add, Int.natCast_add, ha]
      clear h9; omega
    · have e : l = a := by omega
      subst e
      refine ⟨by rw [Nat.sub_self]; exact Nat.sub_eq_zero_of_le (by omega), Nat.sub_le .., ?_⟩
      rw [Nat.sub_self, Nat.zero_add, Int.natCast_add]
      rcases h9 with h9 | h9
      · have hb : N - l ≤ b := by omega
        rw [Int.ofNat_sub hb, Int.ofNat_sub (by omega : l ≤ N)]
        clear h8 hb; omega
      · have hb : b ≤ N - l := by omega
        rw [Nat.sub_eq_zero_of_le hb]
        clear hb h7 h8; omega
  obtain ⟨k1, k2, k3⟩ := key
  clear h1 h2 h3 h4 h5 h6 h9
  show _ = lineS (a - N) M (b - (N - a))
  rw [k1]
  revert k2 k3
  generalize b - (N - a) = k
  intro k2 k3
  have hrp : 0 ≤ rp + 1 ∧ rp + 1 ≤ ((lineS a M b).length : Int) := by
    rw [line_len]
    have ha : ((a - l : Nat) : Int) = a - l := Int.ofNat_sub hla
    rw [Int.natCast_add, Int.natCast_add, ha] at k3
    clear h7 h8; omega
  have hs := slice_closesL (x := lineS a M b) (i := (l : Int)) (j := rp + 1) h0 (by rw [k3]; exact Int.le_add_of_nonneg_right (Int.natCast_nonneg _)) hrp.2
  rw [beq_iff_eq.mp hs]
  refine ext_toList ?_
  show ((List.replicate a 32 ++ M ++ List.replicate b 32).drop ((l : Int)).toNat).take _ = List.replicate _ 32 ++ M ++ List.replicate _ 32
  rw [show ((l : Int)).toNat = l from rfl, List.append_assoc, List.drop_append_of_le_length (by rw [List.length_replicate]; exact hla), List.drop_replicate]
  rw [show (rp + 1 - (l : Int)).toNat = (a - l) + (M.length + k) by rw [k3, Int.add_comm, Int.add_sub_cancel]; rfl]
  rw [List.take_append, List.take_append]
  simp only [List.length_replicate, List.take_replicate]
  rw [Nat.min_eq_right (Nat.le_add_right ..), Nat.add_sub_cancel_left, Nat.add_sub_cancel_left, Nat.min_eq_left k2, List.take_of_length_le (Nat.le_add_right ..), List.append_assoc]
theorem line_cut' {lp rp n am0 am : Int} (h7 : rp = ((lineS a M b).length : Int) - 1 - (am0 - am)) (h0 : 0 ≤ lp) (h1 : lp ≤ a) (h2 : 0 ≤ am0) (h3 : lp + am0 = n) (h4 : am0 = 0 ∨ lp = a) (h5 : 0 ≤ am) (h6 : am ≤ am0) (h8 : (a : Int) + M.length ≤ rp + 1)
    (h9 : am = 0 ∨ rp + 1 = (a : Int) + M.length) : Txt.slice (lineS a M b) (some lp) (some (rp + 1)) = lineS (a - n.toNat) M (b - (n.toNat - a)) := line_cut h0 h1 h2 h3 h4 h5 h6 h7 h8 h9
end
end Mine
namespace Mine
open PySem PySem.W PyProof.Rows
theorem allLt_all {d : Addr} : ∀ {l : List (Addr × Obj)}, AllLt d l → ∀ p ∈ l, p.1 < d
  | [], _, _, h => nomatch h
  | q :: _, ⟨h1, h2⟩, p, h => by
    rcases List.mem_cons.mp h with rfl | h
    · exact h1
    · exact allLt_all h2 p h
end Mine
namespace Mine
open PySem PySem.W PyProof.Rows
theorem news_skip2 {h₀ h : Heap} {L : Addr} {x y : Addr × Obj} {r : List (Addr × Obj)} (N : News h₀ L h (x :: y :: r)) : News h₀ L h (x :: r) := cb_drop N fun p hp => by
  rcases List.mem_cons.mp hp with rfl | hp
  · exact .head _
  · exact .tail _ (.tail _ hp)
end Mine
end
section -- C4
open PySem PySem.W PySem.Calls PyProof.Rows PySem.Spec
namespace Mine
theorem C_257 (w : World) (p : Program) (loose : List Str) (mean : ExcName → Option Value) (mg mb : Str → Option Value) (news : List (Addr × Obj)) (x : Str) (R : List Nat) (t : Tok) (hx : x.length < 100) (hx5 : 5 ≤ x.length) (h1 : (Txt.slice x none (some 3) != Str.ofString "257") = false) (h2 : (Txt.slice x (some 3) (some 5) != Str.ofString " \"") = false) (h3 : go (x.cps.toList.drop 5) = R) :
   CbClaim PySem.Challenge.rw_yh0007_01.row.prog w (hd.heap_39 w.params) p loose mean mg mb 86 news [] (True) [.str x t] (fun t => .str ⟨R.toArray⟩ t) := by
  w_top off
  k_fill
  k_with_none
  k_with "andf" => first | exact And.left (by with_reducible assumption) | exact And.left (And.right (by with_reducible assumption)) | exact And.left (And.right (And.right (by with_reducible assumption))) | exact And.left (And.right (And.right (And.right (by with_reducible assumption)))) | exact And.left (And.right (And.right (And.right (And.right (by with_reducible assumption))))) | exact And.left (And.right (And.right (And.right (And.right (And.right (by with_reducible assumption)))))) | exact And.right (by with_reducible assumption) | exact And.right (And.right (by with_reducible assumption)) | exact And.right (And.right (And.right (by with_reducible assumption)))
  k_with "lt" => first | with_reducible assumption | exact And.left (by with_reducible assumption) | exact And.left (And.right (by with_reducible assumption)) | exact And.left (And.right (And.right (by with_reducible assumption))) | exact And.left (And.right (And.right (And.right (by with_reducible assumption)))) | exact And.left (And.right (And.right (And.right (And.right (by with_reducible assumption))))) | exact And.left (And.right (And.right (And.right (And.right (And.right (by with_reducible assumption)))))) | (refine Nat.lt_trans (by with_reducible assumption) ?_; k_extra "lt")
  k_with "ne" => first | with_reducible assumption | exact Ne.symm (by with_reducible assumption) | (refine Nat.ne_of_lt ?_; k_extra "lt") | (refine Nat.ne_of_gt ?_; k_extra "lt") | k_extra "andf" | (refine Ne.symm ?_; k_extra "andf") | (refine Nat.ne_of_lt ?_; k_extra "lt2") | (refine Nat.ne_of_gt ?_; k_extra "lt2")
  k_with "lt2" => first | exact Nat.lt_trans (And.left (by with_reducible assumption)) (by with_reducible assumption) | exact Nat.lt_trans (And.left (And.right (by with_reducible assumption))) (by with_reducible assumption) | exact Nat.lt_trans (And.left (And.right (And.right (by with_reducible assumption)))) (by with_reducible assumption) | exact Nat.lt_trans (And.left (And.right (And.right (And.right (by with_reducible assumption))))) (by with_reducible assumption) | exact Nat.lt_trans (And.left (And.right (And.right (And.right (And.right (by with_reducible assumption)))))) (by with_reducible assumption) | exact Nat.lt_trans (And.left (And.right (And.right (And.right (And.right (And.right (by with_reducible assumption))))))) (by with_reducible assumption) | exact Nat.lt_trans (And.left (And.right (And.right (And.right (And.right (And.right (And.right (by with_reducible assumption)))))))) (by with_reducible assumption) | exact Nat.lt_trans (And.left (And.right (And.right (And.right (And.right (And.right (And.right (And.right (by with_reducible assumption))))))))) (by with_reducible assumption) | exact Nat.lt_trans (And.left (And.right (And.right (And.right (And.right (And.right (And.right (And.right (And.right (by with_reducible assumption)))))))))) (by with_reducible assumption) | exact Nat.lt_trans (And.left (And.right (And.right (And.right (And.right (And.right (And.right (And.right (And.right (And.right (by with_reducible assumption))))))))))) (by with_reducible assumption)
  k_with "omega" => first | safely (k_dflt (k_extra "om")) | safely (k_dflt lia)
  k_with "om" => first | with_reducible assumption | ((with_reducible show (_ : Nat) < _); first | exact Nat.lt_succ_self _ | decide | exact msr1 (by with_reducible assumption) (by with_reducible assumption) | exact msr2 (by with_reducible assumption) (by with_reducible assumption) | exact ltNl (by with_reducible assumption) (by rfl) | exact ltNl (And.left (by with_reducible assumption)) (by rfl) | exact ltNl (And.right (by with_reducible assumption)) (by rfl) | k_extra "lt") | ((with_reducible show (_ : Nat) ≤ _); first | exact Nat.le_refl _ | decide | exact leNl (by with_reducible assumption) (by rfl) | exact leNl (And.left (by with_reducible assumption)) (by rfl) | exact leNl (And.right (by with_reducible assumption)) (by rfl) | exact leNl2 (by with_reducible assumption) (by rfl) | exact leNl2 (And.left (by with_reducible assumption)) (by rfl) | exact leNl2 (And.right (by with_reducible assumption)) (by rfl) | (refine Nat.le_of_lt ?_; k_extra "lt")) | ((with_reducible show (_ : Int) < _); first | decide | k_extra "andf" | exact ltIl (by with_reducible assumption) (by rfl) | exact ltIl (And.left (by with_reducible assumption)) (by rfl) | exact ltIl (And.right (by with_reducible assumption)) (by rfl) | exact loIt (by with_reducible assumption) (by rfl) | exact loIt (And.left (by with_reducible assumption)) (by rfl) | exact loIt (And.right (by with_reducible assumption)) (by rfl) | exact loP (by with_reducible assumption) | exact loP (And.left (by with_reducible assumption)) | exact loP (And.right (by with_reducible assumption)) | exact hiP (by with_reducible assumption) (by rfl) | exact hiP (And.left (by with_reducible assumption)) (by rfl) | exact hiP (And.right (by with_reducible assumption)) (by rfl)) | ((with_reducible show (_ : Int) ≤ _); first | decide | k_extra "andf" | exact leIl (by with_reducible assumption) (by rfl) | exact leIl (And.left (by with_reducible assumption)) (by rfl) | exact leIl (And.right (by with_reducible assumption)) (by rfl) | exact leIl2 (by with_reducible assumption) (by rfl) | exact leIl2 (And.left (by with_reducible assumption)) (by rfl) | exact leIl2 (And.right (by with_reducible assumption)) (by rfl) | exact loI (by with_reducible assumption) (by rfl) | exact loI (And.left (by with_reducible assumption)) (by rfl) | exact loI (And.right (by with_reducible assumption)) (by rfl) | exact Int.le_of_lt (by with_reducible assumption)) | ((with_reducible show (_ : Nat) ≠ _); k_extra "ne")
  k_with "steps to while" => repeat' (first | (k_unfold; (try dsimp only)) | (k_end; wrow_close) | ((fail_if_success (with_reducible show wpAny _ _ (exec (Stmt.While _ _ _ _) _) _ _ _)); (first | walk1 | (dsimp only; walk1) | (leave1; walk_say "STEP leave1"; try dsimp only))) | fail "no step")
  unfold CbClaim; dsimp only [CbLists, CbRet]
  intros; rename_i hret
  have hs := wj (wi_start hx5 h3)
  k_with "state" => first | assumption | exact wj_plain (by assumption) (by assumption) (by assumption) | exact wj_pair (by assumption) (by assumption) (by assumption) (by assumption)
  refine wpAny_call ?_
  k_dflt cell_enter
  walk_at "steps to while"
  k_while (fun (_ : List Int) (i : Int) (d : Str) => 5 ≤ i ∧ i ≤ (x.length : Int) ∧ d.length ≤ i.toNat ∧ WI x R i d) (fun (_ : List Int) (i : Int) (_ : Str) => (x.length - i.toNat)) "i" "dirname"
  k_steps
  all_goals (refine' cb_retS hret ?e1 ?e2 ?e3; (case e2 => k_asm); (case e3 => k_asm); (case e1 => first | exact wi_end (by assumption) (by assumption) | exact wi_brk1 (by assumption) (by assumption) (by assumption) (by assumption) | exact wj_brk2 (by assumption) (by assumption) (by assumption) (by assumption)))
end Mine
end
section -- PureC
open PySem PySem.W PyProof.Rows
namespace Mine
/-! the law's two replies -/
noncomputable def wishOf (head mark first second tail : Str) (n : Int) : Str :=
  Str.ofString "229 " ++ head ++ Str.ofString "(" ++ mark ++ first ++ mark ++ second ++ mark ++ Str.ofString (toString n) ++ mark ++ Str.ofString ")" ++ tail
noncomputable def wishS (d n : Int) : Str :=
  if d = 0 then wishOf (Str.ofString "") (Str.ofString "|") (Str.ofString "") (Str.ofString "") (Str.ofString "") n
  else if d = 1 then wishOf (Str.ofString ") ") (Str.ofString "7") (Str.ofString "(") (Str.ofString "9") (Str.ofString ")") n
  else if d = 2 then wishOf (Str.ofString "x") (Str.ofString "\"") (Str.ofString "2") (Str.ofString "5") (Str.ofString " x") n
  else wishOf (Str.ofString "") (Str.ofString " ") (Str.ofString "1") (Str.ofString "") (Str.ofString ".") n
noncomputable def shutS (k : Int) : Str := if k = 0 then Str.ofString "\"" else if k = 1 then Str.ofString "\"made" else if k = 2 then Str.ofString "\" \"\" x\"" else Str.ofString ""
noncomputable def codeS (k d : Int) : Str := if k = 0 then (if d = 0 then Str.ofString "257-\"" else Str.ofString "257 '") else if k = 1 then Str.ofString "157 \"" else if k = 2 then Str.ofString "267 \"" else Str.ofString "258 \""
noncomputable def giftS (way b d : Int) : Str :=
  if way < 12 then Str.ofString "257 \"" ++ Txt.mul (Str.ofString " ") b ++ shutS (way.fmod 4)
  else codeS (way - 12) d ++ Txt.mul (Str.ofString " ") b ++ Str.ofString "\""
end Mine
end
section -- C1
open PySem PySem.W PySem.Calls PyProof.Rows PySem.Spec
namespace Mine

structure P229 (x : Str) (n : Int) : Prop where
  len : x.length < 100
  h1 : (Txt.slice x none (some 3) != Str.ofString "229") = false
  h2 : 0 ≤ Txt.find x (Str.ofString "(")
  h3 : Txt.find x (Str.ofString "(") + 1 < (x.length : Int)
  h4 : 1 ≤ Txt.find3 x (Str.ofString ")") (Txt.find x (Str.ofString "(") + 1)
  h5 : Txt.find3 x (Str.ofString ")") (Txt.find x (Str.ofString "(") + 1) < (x.length : Int)
  h6 : (Txt.item x (Txt.find x (Str.ofString "(") + 1) != Txt.item x (Txt.find3 x (Str.ofString ")") (Txt.find x (Str.ofString "(") + 1) - 1)) = false
  h7 : (Txt.split (Txt.slice x (some (Txt.find x (Str.ofString "(") + 1)) (some (Txt.find3 x (Str.ofString ")") (Txt.find x (Str.ofString "(") + 1)))) (Txt.item x (Txt.find x (Str.ofString "(") + 1))).length = 5
  h8 : ∀ y, (Txt.split (Txt.slice x (some (Txt.find x (Str.ofString "(") + 1)) (some (Txt.find3 x (Str.ofString ")") (Txt.find x (Str.ofString "(") + 1)))) (Txt.item x (Txt.find x (Str.ofString "(") + 1)))[3]? = some y → PySem.intText? y = some n ∧ y.length ≤ 640
theorem C_229 (w : World) (p : Program) (loose : List Str) (mean : ExcName → Option Value) (mg mb : Str → Option Value) (news : List (Addr × Obj)) (x : Str) (t : Tok) (q : Addr) (k n : Int) (t1 t2 : Tok) (P : P229 x n) :
    ∀ (dp un : Nat) (gd : Option (List Code)) (cn : Str) (cs : Scope) (a : Addr) (ccd : Value) (cl : List (Str × Addr)) (outer : List Env) (A₀ : Around) (base h₀ : Heap) (L : Addr) (m : Str → Option Value) (s : Shared) (Q E : Value → Shared → Prop)
    (_ : Below A₀ base outer h₀) (_ : Fr h₀ L s.heap m) (_ : (hd.heap_39 w.params).In h₀) (_ : News h₀ L s.heap ((q, { cls := .type "tuple", data := Data.seq #[.int k t1, .str (Str.ofString "h") t2] }) :: news)) (_ : Top p loose mean mg mb h₀) (_ : cs.kind = .function) (_ : dp + 1 < recursionLimit) (_ : un + 8 < cLine)
    (_ : ∀ (q2 : Addr) (t3 : Tok) (h' : Heap) (tk' : Nat), Fr h₀ L h' m → News h₀ L h' ((q2, { cls := .type "tuple", data := Data.seq #[.int k t1, .int n t3] }) :: (q, { cls := .type "tuple", data := Data.seq #[.int k t1, .str (Str.ofString "h") t2] }) :: news) → (∀ p ∈ (q, { cls := .type "tuple", data := Data.seq #[.int k t1, .str (Str.ofString "h") t2] }) :: news, p.1 < q2) → Q (.ref q2) { s with heap := h', toks := tk' }) ,
    wpAny (model PySem.Challenge.rw_yh0007_01.row.prog w) (ktrTop dp un gd cn cs L a ccd cl outer) (call (.ref 79) [.str x t, .ref q]) Q E s := by
  w_top off
  k_fill
  k_with_none
  intro dp un gd cn cs a ccd cl outer A₀ base h₀ L m s Q E hBelow hFr hK hNews hTop hKind hdp hun hret
  obtain ⟨h0, h1, h2, h3, h4, h5, h6, h7, h8⟩ := P
  refine wpAny_call ?_
  k_dflt cell_enter
  k_steps
  · exfalso
    have hl := congrArg List.length (by assumption : List.map _ _ = Txt.split _ _)
    rw [List.length_map] at hl
    simp only [decide_eq_true_eq] at *
    omega
  · rename (List.map _ _ = Txt.split _ _) => hlk
    rename ((List.map _ _)[_]? = some _) => hq
    rw [hlk] at hq
    obtain ⟨hy1, hy2⟩ := h8 _ hq
    refine KIN.call_text hy1 hy2 ?_
    k_steps
    rename (_ ∧ _ ∧ AllLt _ news) => l1
    rename (Fr h₀ L _ m) => kF
    rename (News h₀ L _ (_ :: _ :: _ :: news)) => kN
    refine hret _ _ _ _ kF (news_skip2 kN) fun p hp => ?_
    rcases List.mem_cons.mp hp with rfl | hp
    · exact l1.2.1
    · exact allLt_all l1.2.2 p hp
end Mine
end
section -- C3
open PySem PySem.W PySem.Calls PyProof.Rows PySem.Spec
namespace Mine
theorem C_strip (w : World) (p : Program) (loose : List Str) (mean : ExcName → Option Value) (mg mb : Str → Option Value) (news : List (Addr × Obj)) (n : Int) (t u : Tok) (a b : Nat) (M : List Nat) (hM : Solid M) (hn : 0 ≤ n) (hx : (lineS a M b).length < 1000) :
   CbClaim PySem.Challenge.rw_yh0007_01.row.prog w (hd.heap_39 w.params) p loose mean mg mb 28 news [] (True) [.str (lineS a M b) t, .int n u] (fun t => .str (lineS (a - n.toNat) M (b - (n.toNat - a))) t) := by
  w_top off
  k_fill
  k_with_none
  k_with "andf" => first | exact And.left (by with_reducible assumption) | exact And.left (And.right (by with_reducible assumption)) | exact And.left (And.right (And.right (by with_reducible assumption))) | exact And.left (And.right (And.right (And.right (by with_reducible assumption)))) | exact And.left (And.right (And.right (And.right (And.right (by with_reducible assumption))))) | exact And.left (And.right (And.right (And.right (And.right (And.right (by with_reducible assumption)))))) | exact And.right (by with_reducible assumption) | exact And.right (And.right (by with_reducible assumption)) | exact And.right (And.right (And.right (by with_reducible assumption)))
  k_with "lt" => first | with_reducible assumption | exact And.left (by with_reducible assumption) | exact And.left (And.right (by with_reducible assumption)) | exact And.left (And.right (And.right (by with_reducible assumption))) | exact And.left (And.right (And.right (And.right (by with_reducible assumption)))) | exact And.left (And.right (And.right (And.right (And.right (by with_reducible assumption))))) | exact And.left (And.right (And.right (And.right (And.right (And.right (by with_reducible assumption)))))) | (refine Nat.lt_trans (by with_reducible assumption) ?_; k_extra "lt")
  k_with "ne" => first | with_reducible assumption | exact Ne.symm (by with_reducible assumption) | (refine Nat.ne_of_lt ?_; k_extra "lt") | (refine Nat.ne_of_gt ?_; k_extra "lt") | k_extra "andf" | (refine Ne.symm ?_; k_extra "andf") | (refine Nat.ne_of_lt ?_; k_extra "lt2") | (refine Nat.ne_of_gt ?_; k_extra "lt2")
  k_with "lt2" => first | exact Nat.lt_trans (And.left (by with_reducible assumption)) (by with_reducible assumption) | exact Nat.lt_trans (And.left (And.right (by with_reducible assumption))) (by with_reducible assumption) | exact Nat.lt_trans (And.left (And.right (And.right (by with_reducible assumption)))) (by with_reducible assumption) | exact Nat.lt_trans (And.left (And.right (And.right (And.right (by with_reducible assumption))))) (by with_reducible assumption) | exact Nat.lt_trans (And.left (And.right (And.right (And.right (And.right (by with_reducible assumption)))))) (by with_reducible assumption) | exact Nat.lt_trans (And.left (And.right (And.right (And.right (And.right (And.right (by with_reducible assumption))))))) (by with_reducible assumption) | exact Nat.lt_trans (And.left (And.right (And.right (And.right (And.right (And.right (And.right (by with_reducible assumption)))))))) (by with_reducible assumption) | exact Nat.lt_trans (And.left (And.right (And.right (And.right (And.right (And.right (And.right (And.right (by with_reducible assumption))))))))) (by with_reducible assumption) | exact Nat.lt_trans (And.left (And.right (And.right (And.right (And.right (And.right (And.right (And.right (And.right (by with_reducible assumption)))))))))) (by with_reducible assumption) | exact Nat.lt_trans (And.left (And.right (And.right (And.right (And.right (And.right (And.right (And.right (And.right (And.right (by with_reducible assumption))))))))))) (by with_reducible assumption)
  k_with "omega" => first | safely (k_dflt (k_extra "om")) | safely (k_dflt lia)
  k_with "om" => first | with_reducible assumption | ((with_reducible show (_ : Nat) < _); first | exact Nat.lt_succ_self _ | decide | exact msr3 (by with_reducible assumption) (by with_reducible assumption) | exact ltNl (by with_reducible assumption) (by rfl) | exact ltNl (And.left (by with_reducible assumption)) (by rfl) | exact ltNl (And.right (by with_reducible assumption)) (by rfl) | k_extra "lt") | ((with_reducible show (_ : Nat) ≤ _); first | exact Nat.le_refl _ | decide | exact leNl (by with_reducible assumption) (by rfl) | exact leNl (And.left (by with_reducible assumption)) (by rfl) | exact leNl (And.right (by with_reducible assumption)) (by rfl) | exact leNl2 (by with_reducible assumption) (by rfl) | exact leNl2 (And.left (by with_reducible assumption)) (by rfl) | exact leNl2 (And.right (by with_reducible assumption)) (by rfl) | (refine Nat.le_of_lt ?_; k_extra "lt")) | ((with_reducible show (_ : Int) < _); first | decide | k_extra "andf" | exact ltIl (by with_reducible assumption) (by rfl) | exact ltIl (And.left (by with_reducible assumption)) (by rfl) | exact ltIl (And.right (by with_reducible assumption)) (by rfl) | exact loIt (by with_reducible assumption) (by rfl) | exact loIt (And.left (by with_reducible assumption)) (by rfl) | exact loIt (And.right (by with_reducible assumption)) (by rfl) | exact loP (by with_reducible assumption) | exact loP (And.left (by with_reducible assumption)) | exact loP (And.right (by with_reducible assumption)) | exact hiP (by with_reducible assumption) (by rfl) | exact hiP (And.left (by with_reducible assumption)) (by rfl) | exact hiP (And.right (by with_reducible assumption)) (by rfl)) | ((with_reducible show (_ : Int) ≤ _); first | decide | k_extra "andf" | exact leIl (by with_reducible assumption) (by rfl) | exact leIl (And.left (by with_reducible assumption)) (by rfl) | exact leIl (And.right (by with_reducible assumption)) (by rfl) | exact leIl2 (by with_reducible assumption) (by rfl) | exact leIl2 (And.left (by with_reducible assumption)) (by rfl) | exact leIl2 (And.right (by with_reducible assumption)) (by rfl) | exact loI (by with_reducible assumption) (by rfl) | exact loI (And.left (by with_reducible assumption)) (by rfl) | exact loI (And.right (by with_reducible assumption)) (by rfl) | exact Int.le_of_lt (by with_reducible assumption)) | ((with_reducible show (_ : Nat) ≠ _); k_extra "ne")
  k_with "steps to while" => repeat' (first | (k_unfold; (try dsimp only)) | (k_end; wrow_close) | ((fail_if_success (with_reducible show wpAny _ _ (exec (Stmt.While _ _ _ _) _) _ _ _)); (first | walk1 | (dsimp only; walk1) | (leave1; walk_say "STEP leave1"; try dsimp only))) | fail "no step")
  unfold CbClaim; dsimp only [CbLists, CbRet]
  intros; rename_i hret
  have hm := hM.1
  have hl : (lineS a M b).length = a + M.length + b := line_len _ _ _
  k_with "state" => first | ((with_reducible repeat' apply And.intro) <;> omega) | (have hq := hA1 hM (by assumption) (by omega) (by omega); ((with_reducible repeat' apply And.intro) <;> omega)) | (have hq := hA0 hM (by assumption) (by omega) (by omega); ((with_reducible repeat' apply And.intro) <;> omega)) | (have hq := hB1 hM (by assumption) (by omega) (by omega); ((with_reducible repeat' apply And.intro) <;> omega))
  refine wpAny_call ?_
  k_dflt cell_enter
  walk_at "steps to while"
  k_while (fun (_ : List Int) (lp am : Int) => 0 ≤ lp ∧ lp ≤ (a : Int) ∧ 0 ≤ am ∧ lp + am = n) (fun (_ : List Int) (_ am : Int) => am.toNat) "lpos" "amount"
  walk_at "steps to while"
  all_goals (k_while_given ["lpos", "amount!"] (fun (lp am0 : Int) (_ : List Int) (rp am : Int) => 0 ≤ lp ∧ lp ≤ (a : Int) ∧ 0 ≤ am0 ∧ lp + am0 = n ∧ (am0 = 0 ∨ lp = a) ∧ 0 ≤ am ∧ am ≤ am0 ∧ rp = ((lineS a M b).length : Int) - 1 - (am0 - am) ∧ (a : Int) + M.length ≤ rp + 1) (fun (lp am0 : Int) (_ : List Int) (_ am : Int) => am.toNat) "rpos" "amount")
  k_steps
  all_goals (refine' cb_retS hret ?e1 ?e2 ?e3; (case e2 => k_asm); (case e3 => k_asm); (case e1 => first | exact line_cut' (by assumption) (by omega) (by omega) (by omega) (by omega) (by assumption) (by omega) (by omega) (by omega) (Or.inl (by omega)) | exact line_cut' (by assumption) (by omega) (by omega) (by omega) (by omega) (by assumption) (by omega) (by omega) (by omega) (Or.inr (hB0 hM (by assumption) (by omega) (by omega)))))
end Mine
end
section -- PureD
open PySem PySem.W PyProof.Rows
namespace Mine
noncomputable def okSplit (x : Str) (n : Int) : Bool :=
  let i := Txt.find x (Str.ofString "(")
  let j := Txt.find3 x (Str.ofString ")") (i + 1)
  let l := Txt.split (Txt.slice x (some (i + 1)) (some j)) (Txt.item x (i + 1))
  decide (x.length < 100) && !(Txt.slice x none (some 3) != Str.ofString "229") && decide (0 ≤ i) && decide (i + 1 < (x.length : Int)) && decide (1 ≤ j) && decide (j < (x.length : Int)) && !(Txt.item x (i + 1) != Txt.item x (j - 1)) && decide (l.length = 5) &&
  (match l[3]? with | some y => decide (PySem.intText? y = some n) && decide (y.length ≤ 640) | none => false)
theorem p229_of {x : Str} {n : Int} (h : okSplit x n = true) : P229 x n := by
  unfold okSplit at h
  simp only [Bool.and_eq_true, decide_eq_true_eq, Bool.not_eq_true'] at h
  obtain ⟨⟨⟨⟨⟨⟨⟨⟨h0, h1⟩, h2⟩, h3⟩, h4⟩, h5⟩, h6⟩, h7⟩, h8⟩ := h
  refine ⟨h0, h1, h2, h3, h4, h5, h6, h7, fun y hy => ?_⟩
  rw [hy] at h8
  simpa using h8
theorem wish_ok : ∀ d ∈ [(0:Int), 1, 2, 3], ∀ n ∈ [(0:Int), 1, 2, 3, 4, 5], okSplit (wishS d n) n = true := by decide +kernel
theorem wish_p229 (c : Int) : P229 (wishS ((c.fdiv 36).fmod 4) (c.fmod 6)) (c.fmod 6) := by
  have h1 := fm (c.fdiv 36) 4
  have h2 := fm c 6
  refine p229_of (wish_ok _ ?_ _ ?_)
  · exact fin_all (P := fun x => x ∈ [(0:Int), 1, 2, 3]) 4 h1.1 h1.2 (by decide)
  · exact m6 h2
noncomputable def blanks (b : Int) : Str := ⟨(List.replicate b.toNat 32).toArray⟩
noncomputable def okGift (x : Str) (b : Int) : Bool :=
  decide (x.length < 100) && decide (5 ≤ x.length) && !(Txt.slice x none (some 3) != Str.ofString "257") && !(Txt.slice x (some 3) (some 5) != Str.ofString " \"") && decide (go (x.cps.toList.drop 5) = List.replicate b.toNat 32)
theorem gift_ok : ∀ way ∈ [(0:Int), 1, 2, 3, 4, 5, 6, 7, 8, 9, 10, 11], ∀ b ∈ [(0:Int), 1, 2, 3, 4, 5], okGift (giftS way b 0) b = true := by decide +kernel
end Mine
end
section -- C2
open PySem PySem.W PySem.Calls PyProof.Rows PySem.Spec
namespace Mine
theorem C_gift (w : World) (p : Program) (loose : List Str) (mean : ExcName → Option Value) (mg mb : Str → Option Value) (news : List (Addr × Obj)) (c : Int) (t : Tok) :
   CbClaim PySem.Challenge.rw_yh0007_01.row.prog w (hd.heap_39 w.params) p loose mean mg mb 121 news [] (True) [.int c t] (fun t => .str (giftS ((c.fdiv 144).fmod 16) ((c.fdiv 6).fmod 6) ((c.fdiv 2304).fmod 2)) t) := by
  w_top off
  k_fill
  k_with_none
  k_with "andf" => first | exact And.left (by with_reducible assumption) | exact And.left (And.right (by with_reducible assumption)) | exact And.left (And.right (And.right (by with_reducible assumption))) | exact And.left (And.right (And.right (And.right (by with_reducible assumption)))) | exact And.left (And.right (And.right (And.right (And.right (by with_reducible assumption))))) | exact And.left (And.right (And.right (And.right (And.right (And.right (by with_reducible assumption)))))) | exact And.right (by with_reducible assumption) | exact And.right (And.right (by with_reducible assumption)) | exact And.right (And.right (And.right (by with_reducible assumption)))
  k_with "lt" => first | with_reducible assumption | exact And.left (by with_reducible assumption) | exact And.left (And.right (by with_reducible assumption)) | exact And.left (And.right (And.right (by with_reducible assumption))) | exact And.left (And.right (And.right (And.right (by with_reducible assumption)))) | exact And.left (And.right (And.right (And.right (And.right (by with_reducible assumption))))) | exact And.left (And.right (And.right (And.right (And.right (And.right (by with_reducible assumption)))))) | (refine Nat.lt_trans (by with_reducible assumption) ?_; k_extra "lt")
  k_with "ne" => first | with_reducible assumption | exact Ne.symm (by with_reducible assumption) | (refine Nat.ne_of_lt ?_; k_extra "lt") | (refine Nat.ne_of_gt ?_; k_extra "lt") | k_extra "andf" | (refine Ne.symm ?_; k_extra "andf") | (refine Nat.ne_of_lt ?_; k_extra "lt2") | (refine Nat.ne_of_gt ?_; k_extra "lt2")
  k_with "lt2" => first | exact Nat.lt_trans (And.left (by with_reducible assumption)) (by with_reducible assumption) | exact Nat.lt_trans (And.left (And.right (by with_reducible assumption))) (by with_reducible assumption) | exact Nat.lt_trans (And.left (And.right (And.right (by with_reducible assumption)))) (by with_reducible assumption) | exact Nat.lt_trans (And.left (And.right (And.right (And.right (by with_reducible assumption))))) (by with_reducible assumption) | exact Nat.lt_trans (And.left (And.right (And.right (And.right (And.right (by with_reducible assumption)))))) (by with_reducible assumption) | exact Nat.lt_trans (And.left (And.right (And.right (And.right (And.right (And.right (by with_reducible assumption))))))) (by with_reducible assumption) | exact Nat.lt_trans (And.left (And.right (And.right (And.right (And.right (And.right (And.right (by with_reducible assumption)))))))) (by with_reducible assumption) | exact Nat.lt_trans (And.left (And.right (And.right (And.right (And.right (And.right (And.right (And.right (by with_reducible assumption))))))))) (by with_reducible assumption) | exact Nat.lt_trans (And.left (And.right (And.right (And.right (And.right (And.right (And.right (And.right (And.right (by with_reducible assumption)))))))))) (by with_reducible assumption) | exact Nat.lt_trans (And.left (And.right (And.right (And.right (And.right (And.right (And.right (And.right (And.right (And.right (by with_reducible assumption))))))))))) (by with_reducible assumption)
  k_with "omega" => first | safely (k_dflt (k_extra "om")) | safely (k_dflt lia)
  k_with "om" => first | with_reducible assumption | ((with_reducible show (_ : Nat) < _); first | exact Nat.lt_succ_self _ | decide | exact ltNl (by with_reducible assumption) (by rfl) | exact ltNl (And.left (by with_reducible assumption)) (by rfl) | exact ltNl (And.right (by with_reducible assumption)) (by rfl) | k_extra "lt") | ((with_reducible show (_ : Nat) ≤ _); first | exact Nat.le_refl _ | decide | exact len2 (by with_reducible assumption) (by with_reducible assumption) (by rfl) | exact len3 (by with_reducible assumption) (by with_reducible assumption) (by with_reducible assumption) (by rfl) | exact leNl (by with_reducible assumption) (by rfl) | exact leNl (And.left (by with_reducible assumption)) (by rfl) | exact leNl (And.right (by with_reducible assumption)) (by rfl) | exact leNl2 (by with_reducible assumption) (by rfl) | exact leNl2 (And.left (by with_reducible assumption)) (by rfl) | exact leNl2 (And.right (by with_reducible assumption)) (by rfl) | (refine Nat.le_of_lt ?_; k_extra "lt")) | ((with_reducible show (_ : Int) < _); first | decide | k_extra "andf" | exact ltIl (by with_reducible assumption) (by rfl) | exact ltIl (And.left (by with_reducible assumption)) (by rfl) | exact ltIl (And.right (by with_reducible assumption)) (by rfl) | exact loIt (by with_reducible assumption) (by rfl) | exact loIt (And.left (by with_reducible assumption)) (by rfl) | exact loIt (And.right (by with_reducible assumption)) (by rfl) | exact loP (by with_reducible assumption) | exact loP (And.left (by with_reducible assumption)) | exact loP (And.right (by with_reducible assumption)) | exact hiP (by with_reducible assumption) (by rfl) | exact hiP (And.left (by with_reducible assumption)) (by rfl) | exact hiP (And.right (by with_reducible assumption)) (by rfl)) | ((with_reducible show (_ : Int) ≤ _); first | decide | k_extra "andf" | exact leIl (by with_reducible assumption) (by rfl) | exact leIl (And.left (by with_reducible assumption)) (by rfl) | exact leIl (And.right (by with_reducible assumption)) (by rfl) | exact leIl2 (by with_reducible assumption) (by rfl) | exact leIl2 (And.left (by with_reducible assumption)) (by rfl) | exact leIl2 (And.right (by with_reducible assumption)) (by rfl) | exact loI (by with_reducible assumption) (by rfl) | exact loI (And.left (by with_reducible assumption)) (by rfl) | exact loI (And.right (by with_reducible assumption)) (by rfl) | exact Int.le_of_lt (by with_reducible assumption)) | ((with_reducible show (_ : Nat) ≠ _); k_extra "ne")
  k_with "subscriptTail" => (k_here; (with_reducible show wpAny _ _ (subscriptTail _ _ (Value.ref _) (Value.int _ _)) _ _ _); (with_unfolding_all refine' pickK ?k1r0 ?k3r0 ?k4r0 ?k5r0 ?_ ?k6r0; (case k1r0 => is_list); (case k3r0 => omega); (case k4r0 => (simp only [List.length_cons, List.length_nil]; omega)); (case k5r0 => omega); (case k6r0 => with_unfolding_all rfl); k_whole); k_places; all_goals (try dsimp only))
  unfold CbClaim; dsimp only [CbLists, CbRet]
  intros; rename_i hret
  have hb := fm (c.fdiv 6) 6
  have hm := mul_len hb
  have hw := fm (c.fdiv 144) 16
  have hw4 := fm ((c.fdiv 144).fmod 16) 4
  have hd := fm (c.fdiv 2304) 2
  refine wpAny_call ?_
  k_dflt cell_enter
  k_steps
  all_goals (refine' cb_retS hret ?e1 ?e2 ?e3; (case e2 => k_asm); (case e3 => (first | k_asm | (refine' cb_drop ?cbN ?cbS; (case cbN => assumption); (case cbS => kcj_all)))); (case e1 => first
    | (unfold giftS; rw [if_pos (by omega), show ((c.fdiv 144).fmod 16).fmod 4 = 0 by omega]; rfl)
    | (unfold giftS; rw [if_pos (by omega), show ((c.fdiv 144).fmod 16).fmod 4 = 1 by omega]; rfl)
    | (unfold giftS; rw [if_pos (by omega), show ((c.fdiv 144).fmod 16).fmod 4 = 2 by omega]; rfl)
    | (unfold giftS; rw [if_pos (by omega), show ((c.fdiv 144).fmod 16).fmod 4 = 3 by omega]; rfl)
    | (unfold giftS; rw [if_neg (by omega), show (c.fdiv 144).fmod 16 - 12 = 0 by omega, show (c.fdiv 2304).fmod 2 = 0 by omega]; rfl)
    | (unfold giftS; rw [if_neg (by omega), show (c.fdiv 144).fmod 16 - 12 = 0 by omega, show (c.fdiv 2304).fmod 2 = 1 by omega]; rfl)
    | (unfold giftS; rw [if_neg (by omega), show (c.fdiv 144).fmod 16 - 12 = 1 by omega]; rfl)
    | (unfold giftS; rw [if_neg (by omega), show (c.fdiv 144).fmod 16 - 12 = 2 by omega]; rfl)
    | (unfold giftS; rw [if_neg (by omega), show (c.fdiv 144).fmod 16 - 12 = 3 by omega]; rfl)))
structure WRow (k : Int) (x0 x1 x2 x3 x4 : Str) : Prop where
  eq : ∀ n, wishS k n = wishOf x0 x1 x2 x3 x4 n
  l0 : x0.length ≤ 3
  l1 : x1.length ≤ 3
  l2 : x2.length ≤ 3
  l3 : x3.length ≤ 3
  l4 : x4.length ≤ 3
theorem wrow0 : WRow 0 (Str.ofString "") (Str.ofString "|") (Str.ofString "") (Str.ofString "") (Str.ofString "") := ⟨fun n => rfl, by decide, by decide, by decide, by decide, by decide⟩
theorem wrow1 : WRow 1 (Str.ofString ") ") (Str.ofString "7") (Str.ofString "(") (Str.ofString "9") (Str.ofString ")") := ⟨fun n => rfl, by decide, by decide, by decide, by decide, by decide⟩
theorem wrow2 : WRow 2 (Str.ofString "x") (Str.ofString "\"") (Str.ofString "2") (Str.ofString "5") (Str.ofString " x") := ⟨fun n => rfl, by decide, by decide, by decide, by decide, by decide⟩
theorem wrow3 : WRow 3 (Str.ofString "") (Str.ofString " ") (Str.ofString "1") (Str.ofString "") (Str.ofString ".") := ⟨fun n => rfl, by decide, by decide, by decide, by decide, by decide⟩
theorem wish_pick {base h : Heap} {L : Addr} {es : List (Addr × Obj)} {k : Int} {q : Value → Prop} {T0 T1 T2 T3 : Addr} {a0 b0 c0 d0 a1 b1 c1 d1 a2 b2 c2 d2 a3 b3 c3 d3 a4 b4 c4 d4 : Tok} (N : News base L h es)
    (m0 : ((T0, { cls := .type "tuple", data := Data.seq #[.str (Str.ofString "") a0, .str (Str.ofString "|") a1, .str (Str.ofString "") a2, .str (Str.ofString "") a3, .str (Str.ofString "") a4] }) : Addr × Obj) ∈ es)
    (m1 : ((T1, { cls := .type "tuple", data := Data.seq #[.str (Str.ofString ") ") b0, .str (Str.ofString "7") b1, .str (Str.ofString "(") b2, .str (Str.ofString "9") b3, .str (Str.ofString ")") b4] }) : Addr × Obj) ∈ es)
    (m2 : ((T2, { cls := .type "tuple", data := Data.seq #[.str (Str.ofString "x") c0, .str (Str.ofString "\"") c1, .str (Str.ofString "2") c2, .str (Str.ofString "5") c3, .str (Str.ofString " x") c4] }) : Addr × Obj) ∈ es)
    (m3 : ((T3, { cls := .type "tuple", data := Data.seq #[.str (Str.ofString "") d0, .str (Str.ofString " ") d1, .str (Str.ofString "1") d2, .str (Str.ofString "") d3, .str (Str.ofString ".") d4] }) : Addr × Obj) ∈ es)
    (H : ∀ (T : Addr) (x0 x1 x2 x3 x4 : Str) (u0 u1 u2 u3 u4 : Tok), IsTup h T #[.str x0 u0, .str x1 u1, .str x2 u2, .str x3 u3, .str x4 u4] → WRow k x0 x1 x2 x3 x4 → q (.ref T)) :
    PickAt k q 0 [.ref T0, .ref T1, .ref T2, .ref T3] :=
  ⟨fun e => H _ _ _ _ _ _ _ _ _ _ _ ⟨_, (N _ m0).1, rfl, _, rfl⟩ (e ▸ wrow0), fun e => H _ _ _ _ _ _ _ _ _ _ _ ⟨_, (N _ m1).1, rfl, _, rfl⟩ (e ▸ wrow1), fun e => H _ _ _ _ _ _ _ _ _ _ _ ⟨_, (N _ m2).1, rfl, _, rfl⟩ (e ▸ wrow2), fun e => H _ _ _ _ _ _ _ _ _ _ _ ⟨_, (N _ m3).1, rfl, _, rfl⟩ (e ▸ wrow3), trivial⟩
noncomputable def Keep (P : Prop) : Prop := P
theorem keep_of {P : Prop} (h : Keep P) : P := h
theorem C_wish (w : World) (p : Program) (loose : List Str) (mean : ExcName → Option Value) (mg mb : Str → Option Value) (news : List (Addr × Obj)) (c : Int) (t : Tok) :
   CbClaim PySem.Challenge.rw_yh0007_01.row.prog w (hd.heap_39 w.params) p loose mean mg mb 114 news [] (True) [.int c t] (fun t => .str (wishS ((c.fdiv 36).fmod 4) (c.fmod 6)) t) := by
  w_top off
  k_fill
  k_with_none
  k_with "execs cons" => ((with_reducible show wpAny _ _ (execs (_ :: _) _) _ _ (Shared.mk _ _ _ (_ + 1) _)); (with_reducible refine tok_any ?_); intro tkz; try dsimp only)
  k_with "eval Tuple" => ((with_reducible show wpAny _ _ (eval (Expr.Tuple _ _ _) _) _ _ (Shared.mk _ _ _ (_ + 1) _)); (with_reducible refine tok_any ?_); intro tkz; try dsimp only)
  k_with "eval List" => ((with_reducible show wpAny _ _ (eval (Expr.List _ _) _) _ _ (Shared.mk _ _ _ (_ + 1) _)); (with_reducible refine tok_any ?_); intro tkz; try dsimp only)
  k_with "eval BinOp" => ((with_reducible show wpAny _ _ (eval (Expr.BinOp _ _ _ _) _) _ _ (Shared.mk _ _ _ (_ + 1) _)); (with_reducible refine tok_any ?_); intro tkz; try dsimp only)
  k_with "andf" => first | exact And.left (by with_reducible assumption) | exact And.left (And.right (by with_reducible assumption)) | exact And.left (And.right (And.right (by with_reducible assumption))) | exact And.left (And.right (And.right (And.right (by with_reducible assumption)))) | exact And.left (And.right (And.right (And.right (And.right (by with_reducible assumption))))) | exact And.left (And.right (And.right (And.right (And.right (And.right (by with_reducible assumption)))))) | exact And.right (by with_reducible assumption) | exact And.right (And.right (by with_reducible assumption)) | exact And.right (And.right (And.right (by with_reducible assumption)))
  k_with "lt" => first | with_reducible assumption | exact And.left (by with_reducible assumption) | exact And.left (And.right (by with_reducible assumption)) | exact And.left (And.right (And.right (by with_reducible assumption))) | exact And.left (And.right (And.right (And.right (by with_reducible assumption)))) | exact And.left (And.right (And.right (And.right (And.right (by with_reducible assumption))))) | exact And.left (And.right (And.right (And.right (And.right (And.right (by with_reducible assumption)))))) | (refine Nat.lt_trans (by with_reducible assumption) ?_; k_extra "lt")
  k_with "ne" => first | with_reducible assumption | exact Ne.symm (by with_reducible assumption) | (refine Nat.ne_of_lt ?_; k_extra "lt") | (refine Nat.ne_of_gt ?_; k_extra "lt") | k_extra "andf" | (refine Ne.symm ?_; k_extra "andf") | (refine Nat.ne_of_lt ?_; k_extra "lt2") | (refine Nat.ne_of_gt ?_; k_extra "lt2")
  k_with "lt2" => first | exact Nat.lt_trans (And.left (by with_reducible assumption)) (by with_reducible assumption) | exact Nat.lt_trans (And.left (And.right (by with_reducible assumption))) (by with_reducible assumption) | exact Nat.lt_trans (And.left (And.right (And.right (by with_reducible assumption)))) (by with_reducible assumption) | exact Nat.lt_trans (And.left (And.right (And.right (And.right (by with_reducible assumption))))) (by with_reducible assumption) | exact Nat.lt_trans (And.left (And.right (And.right (And.right (And.right (by with_reducible assumption)))))) (by with_reducible assumption) | exact Nat.lt_trans (And.left (And.right (And.right (And.right (And.right (And.right (by with_reducible assumption))))))) (by with_reducible assumption) | exact Nat.lt_trans (And.left (And.right (And.right (And.right (And.right (And.right (And.right (by with_reducible assumption)))))))) (by with_reducible assumption) | exact Nat.lt_trans (And.left (And.right (And.right (And.right (And.right (And.right (And.right (And.right (by with_reducible assumption))))))))) (by with_reducible assumption) | exact Nat.lt_trans (And.left (And.right (And.right (And.right (And.right (And.right (And.right (And.right (And.right (by with_reducible assumption)))))))))) (by with_reducible assumption) | exact Nat.lt_trans (And.left (And.right (And.right (And.right (And.right (And.right (And.right (And.right (And.right (And.right (by with_reducible assumption))))))))))) (by with_reducible assumption)
  k_with "omega" => first | safely (k_dflt (k_extra "om")) | safely (k_dflt lia)
  k_with "om" => first | with_reducible assumption | ((with_reducible show (_ : Nat) < _); first | exact Nat.lt_succ_self _ | decide | exact ltNl (by with_reducible assumption) (by rfl) | exact ltNl (And.left (by with_reducible assumption)) (by rfl) | exact ltNl (And.right (by with_reducible assumption)) (by rfl) | k_extra "lt") | ((with_reducible show (_ : Nat) ≤ _); first | exact Nat.le_refl _ | decide | exact len2 (by with_reducible assumption) (by with_reducible assumption) (by rfl) | exact len3 (by with_reducible assumption) (by with_reducible assumption) (by with_reducible assumption) (by rfl) | exact leNl (by with_reducible assumption) (by rfl) | exact leNl (And.left (by with_reducible assumption)) (by rfl) | exact leNl (And.right (by with_reducible assumption)) (by rfl) | exact leNl2 (by with_reducible assumption) (by rfl) | exact leNl2 (And.left (by with_reducible assumption)) (by rfl) | exact leNl2 (And.right (by with_reducible assumption)) (by rfl) | (refine Nat.le_of_lt ?_; k_extra "lt")) | ((with_reducible show (_ : Int) < _); first | decide | k_extra "andf" | exact ltIl (by with_reducible assumption) (by rfl) | exact ltIl (And.left (by with_reducible assumption)) (by rfl) | exact ltIl (And.right (by with_reducible assumption)) (by rfl) | exact loIt (by with_reducible assumption) (by rfl) | exact loIt (And.left (by with_reducible assumption)) (by rfl) | exact loIt (And.right (by with_reducible assumption)) (by rfl) | exact loP (by with_reducible assumption) | exact loP (And.left (by with_reducible assumption)) | exact loP (And.right (by with_reducible assumption)) | exact hiP (by with_reducible assumption) (by rfl) | exact hiP (And.left (by with_reducible assumption)) (by rfl) | exact hiP (And.right (by with_reducible assumption)) (by rfl)) | ((with_reducible show (_ : Int) ≤ _); first | decide | k_extra "andf" | exact leIl (by with_reducible assumption) (by rfl) | exact leIl (And.left (by with_reducible assumption)) (by rfl) | exact leIl (And.right (by with_reducible assumption)) (by rfl) | exact leIl2 (by with_reducible assumption) (by rfl) | exact leIl2 (And.left (by with_reducible assumption)) (by rfl) | exact leIl2 (And.right (by with_reducible assumption)) (by rfl) | exact loI (by with_reducible assumption) (by rfl) | exact loI (And.left (by with_reducible assumption)) (by rfl) | exact loI (And.right (by with_reducible assumption)) (by rfl) | exact Int.le_of_lt (by with_reducible assumption)) | ((with_reducible show (_ : Nat) ≠ _); k_extra "ne")
  k_with "subscriptTail" => (k_here; (with_reducible show wpAny _ _ (subscriptTail _ _ (Value.ref _) (Value.int _ _)) _ _ _); (with_unfolding_all refine' pickK ?k1r0 ?k3r0 ?k4r0 ?k5r0 ?_ ?k6r0; (case k1r0 => is_list); (case k3r0 => omega); (case k4r0 => (simp only [List.length_cons, List.length_nil]; omega)); (case k5r0 => omega); (case k6r0 => with_unfolding_all rfl); k_whole); refine keep_of ?_)
  unfold CbClaim; dsimp only [CbLists, CbRet]
  intros; rename_i hret
  have hb := fm (c.fdiv 36) 4
  have hw := fm c 6
  refine wpAny_call ?_
  k_dflt cell_enter
  k_steps
  unfold Keep
  rename News _ _ _ (_ :: _) => NX
  refine wish_pick NX (by k_mem) (by k_mem) (by k_mem) (by k_mem) ?_
  rintro T x0 x1 x2 x3 x4 u0 u1 u2 u3 u4 hT ⟨hW, y0, y1, y2, y3, y4⟩
  dsimp only
  k_steps
  refine' cb_retS hret ?e1 ?e2 ?e3
  case e2 => k_asm
  case e3 => (first | k_asm | (refine' cb_drop ?cbN ?cbS; (case cbN => assumption); (case cbS => kcj_all)))
  case e1 => rw [hW]; rfl
end Mine
end
section -- PureE
open PySem PySem.W PySem.Calls PyProof.Rows
namespace Mine
/-! _law_purse -/
noncomputable def pymax (a b : Int) : Int := if b > a then b else a
noncomputable def pymin (a b : Int) : Int := if b < a then b else a
noncomputable def stepP (w b : List Int) (st : List Int × Int × Int × Int) (size : Int) : List Int × Int × Int × Int :=
  (st.1.eraseIdx (st.2.1.fmod size).toNat, st.2.1.fdiv size,
    st.2.2.1 + (b.getD (st.1.getD (st.2.1.fmod size).toNat 0).toNat 0 - w.getD (st.1.getD (st.2.1.fmod size).toNat 0).toNat 0),
    pymax st.2.2.2 (w.getD (st.1.getD (st.2.1.fmod size).toNat 0).toNat 0 - st.2.2.1))
noncomputable def mostP (w b : List Int) (way : Int) : Int := ([4, 3, 2, 1].foldl (stepP w b) ([0, 1, 2, 3], way, 0, 0)).2.2.2
noncomputable def purseP (w b : List Int) (pre : List Int) : Int := pre.foldl (fun a way => pymin a (mostP w b way)) 99
theorem purseP_snoc (w b pre : List Int) (way : Int) : purseP w b (pre ++ [way]) = pymin (purseP w b pre) (mostP w b way) := by
  unfold purseP; rw [List.foldl_append]; rfl
noncomputable def In4 (l : List Int) : Prop := ∀ x ∈ l, 0 ≤ x ∧ x < 4
theorem In4.erase {l : List Int} (h : In4 l) (k : Nat) : In4 (l.eraseIdx k) := fun x hx => h x (List.mem_of_mem_eraseIdx hx)
theorem In4.at {l : List Int} (h : In4 l) {k : Nat} (hk : k < l.length) : 0 ≤ l.getD k 0 ∧ l.getD k 0 < 4 := by
  rw [List.getD_eq_getElem?_getD, List.getElem?_eq_getElem hk]
  exact h _ (List.getElem_mem hk)
theorem ints_erase : ∀ {us : List Value} {l : List Int} (k : Nat), IntsAre us l → IntsAre (us.eraseIdx k) (l.eraseIdx k)
  | _, _, _, .nil => .nil
  | _, _, 0, .cons _ _ h => h
  | _, _, k + 1, .cons n t h => .cons n t (ints_erase k h)
theorem cut_at : ∀ (us : List Value) (k : Nat) (hk : k < us.length), kl_cut us k = some (us.take k, us[k], us.drop (k + 1))
  | [], _, hk => absurd hk (Nat.not_lt_zero _)
  | _ :: _, 0, _ => rfl
  | x :: r, k + 1, hk => by
    unfold kl_cut
    rw [cut_at r k (by simpa using hk)]
    rfl
section
variable {prog : Program} {w : World} {A : Around} {E : Value → Shared → Prop} {s : Shared} {h₀ : Heap} {L D : Addr} {m : Str → Option Value} {news news' : List (Addr × Obj)} {n : Nat}
theorem pop_ints {us : List Value} {l : List Int} {i : Int} {u : Tok} {Q : Value → Shared → Prop} (F : Fr h₀ L s.heap m) (N : News h₀ L s.heap news) (hi : IntsAre us l) (h4 : In4 l) (h0 : 0 ≤ i) (h1 : i < l.length) (hz : l.length ≤ 4)
    (U : Upd D (listOf us.toArray n) (listOf (us.eraseIdx i.toNat).toArray (n + 1)) news news')
    (h : ∀ h' t, Fr h₀ L h' m → News h₀ L h' news' → IntsAre (us.eraseIdx i.toNat) (l.eraseIdx i.toNat) → In4 (l.eraseIdx i.toNat) → (l.eraseIdx i.toNat).length = l.length - 1 → 0 ≤ l.getD i.toNat 0 → l.getD i.toNat 0 < 4 → Q (.int (l.getD i.toNat 0) t) { s with heap := h' }) :
    wpAny (model prog w) A (call (.builtin "list.pop") [.ref D, .int i u]) Q E s := by
  have hl := hi.length
  have hk : i.toNat < us.length := by omega
  obtain ⟨t, hx⟩ := hi.get i.toNat (l.getD i.toNat 0) (by rw [List.getD_eq_getElem?_getD, List.getElem?_eq_getElem (by omega)]; rfl)
  have hg : us[i.toNat] = .int (l.getD i.toNat 0) t := by rw [List.getElem?_eq_getElem hk] at hx; exact Option.some.inj hx
  have hr := h4.at (k := i.toNat) (by omega)
  have he : us.eraseIdx i.toNat = us.take i.toNat ++ us.drop (i.toNat + 1) := List.eraseIdx_eq_take_drop_succ us i.toNat
  have hcut : kl_cut us.toArray.toList i.toNat = some (us.take i.toNat, .int (l.getD i.toNat 0) t, us.drop (i.toNat + 1)) := by
    rw [← hg]
    show kl_cut us i.toNat = _
    exact cut_at us _ hk
  refine kl_popAt (k := i.toNat) (y := .int (l.getD i.toNat 0) t) F N ?_ ?_ hcut (by rw [← he]; exact U) ?_ fun h' F' N' => h h' t F' N' (ints_erase _ hi) (h4.erase _) (by rw [List.length_eraseIdx_of_lt (by omega)]) hr.1 hr.2
  · unfold Builtin.List.listFitsIndex
    simp only [Bool.and_eq_true, decide_eq_true_eq]
    omega
  · rw [List.size_toArray]
    unfold seqIndex?
    have hn : ¬ i < 0 := by omega
    have hy : (decide (0 ≤ i) && decide (i < (us.length : Int))) = true := by simp only [Bool.and_eq_true, decide_eq_true_eq]; omega
    simp only [hn, if_false, hy, if_true]
  · show us.length ≤ sizeLine
    rw [sizeLine_eq]; omega
theorem pop_turn {us : List Value} {l : List Int} {r sz : Int} {u : Tok} {Q : Value → Shared → Prop} (F : Fr h₀ L s.heap m) (N : News h₀ L s.heap news) (hi : IntsAre us l) (h4 : In4 l) (hs : (l.length : Int) = sz) (hp : 0 < sz) (hz : sz ≤ 4)
    (U : Upd D (listOf us.toArray n) (listOf (us.eraseIdx (r.fmod sz).toNat).toArray (n + 1)) news news')
    (h : ∀ h' t, Fr h₀ L h' m → News h₀ L h' news' → IntsAre (us.eraseIdx (r.fmod sz).toNat) (l.eraseIdx (r.fmod sz).toNat) → In4 (l.eraseIdx (r.fmod sz).toNat) → ((l.eraseIdx (r.fmod sz).toNat).length : Int) = sz - 1 → 0 ≤ l.getD (r.fmod sz).toNat 0 → l.getD (r.fmod sz).toNat 0 < 4 → Q (.int (l.getD (r.fmod sz).toNat 0) t) { s with heap := h' }) :
    wpAny (model prog w) A (call (.builtin "list.pop") [.ref D, .int (r.fmod sz) u]) Q E s :=
  pop_ints F N hi h4 (fm r sz hp).1 (by rw [hs]; exact (fm r sz hp).2) (by omega) U fun h' t F' N' a b c => h h' t F' N' a b (by have := (fm r sz hp); omega)
end
theorem in4_all : In4 [0, 1, 2, 3] := by intro x hx; simp only [List.mem_cons, List.not_mem_nil, or_false] at hx; omega
end Mine
end
section -- PureF
namespace Mine
open PySem PySem.W PySem.Calls PyProof.Rows PySem.Spec
section
variable {prog : Program} {w : World} {A A₀ : Around} {E : Value → Shared → Prop} {s : Shared} {K : Frag} {L : Addr} {h₀ base : Heap} {m mg mb : Str → Option Value} {p : Program} {loose : List Str} {mean : ExcName → Option Value}
/-- A call whose whole state is the callee's ground: what stood stays. -/
theorem code_def0 {env : Env} {outer : List Env} {R : Result → Shared → Prop} {name qual : Str} {params : Arguments} {body : List Stmt} {scope : Scope} {dV kV doc pm cdv ct oc : Value} {an od : Option Addr} {osl : Array (Option Value)} {f : Addr} {args : Args} {binds : List (Str × Value)}
    (B : Below A₀ base outer h₀) (F : Fr h₀ L s.heap m) (X₀ : K.In h₀) (T : Top p loose mean mg mb h₀) (hA : A.frames = some (env :: outer)) (hf : env.frame = some L) (hke : env.scope.kind = .function)
    (ho : K.lookup f = some ⟨oc, od, .func (fnOf name qual params body scope dV kV doc pm an cdv ct), osl⟩) (hcd : codeIn K cdv qual = true) (hroom : A.depth < recursionLimit)
    (hbind : BindsTo s (fnOf name qual params body scope dV kV doc pm an cdv ct) args binds) (hloc : ∀ y ∈ binds, scope.names.lookup y.1 = some .local)
    (h : ∀ L' h₁, Fr s.heap L' h₁ (fun y => binds.reverse.lookup y) → News s.heap L' h₁ [] → Below A base (env :: outer) s.heap → K.In s.heap → Top p loose mean mg mb s.heap →
      wpAny (model prog w) (A.deeper (envOf qual scope L' f cdv)) (execs body (envOf qual scope L' f cdv))
        (fun fl s' => LeaveK h₀ L m s.heap R (match fl with | .ret v => v | _ => .none) s')
        (fun e s' => wpAny (model prog w) (A.deeper (envOf qual scope L' f cdv)) (leaving (envOf qual scope L' f cdv) e) (fun _ s'' => R (.error e) s'') (fun e' s'' => R (.error e') s'') s')
        { s with heap := h₁, toks := s.toks + binds.length })
    (hco : scope.isCoroutine = false) (hgen : scope.isGenerator = false) (hk : scope.kind = .function)
    (hcell : ∀ x ∈ scope.names, x.2 ≠ .cell) : codeAny (model prog w) A (.call (.ref f) args) R s := by
  obtain ⟨FG, BG, st, lv⟩ := groundX (news := []) (R := R) B F News.nil hA hf hke
  refine codeAny_call_def (fd := fnOf name qual params body scope dV kV doc pm an cdv ct) (body := body) (binds := binds) hroom ((X₀.keeps F.keep) _ _ ho) rfl (T.nolimit.keeps F.keep) (codeRec_of (X₀.keeps F.keep) hcd) rfl hbind hcell hloc (fun h₁ hns hk₁ => ?_) hco hgen hk
  exact wpAny_mono (h s.heap.objs.size h₁ ⟨hns, hk₁, Nat.le_refl _⟩ News.nil BG (X₀.keeps st) (T.keeps st)) (fun fl s' hl => lv _ _ hl) fun _ _ y => y
end
section
variable {prog : Program} {w : World} {A : Around} {E : Value → Shared → Prop} {s : Shared} {env : Env} {h₀ : Heap} {x : Str} {body : List Stmt} {Q : Flow → Shared → Prop}
theorem range_ind {I : Addr} {a : Int} {n : Nat} {m₀ : Str → Option Value} {news₀ : List (Addr × Obj)} (J : Nat → (Str → Option Value) → List (Addr × Obj) → Prop)
    (turn : ∀ (k i : Nat) (m : Str → Option Value) (news : List (Addr × Obj)), i < n → J i m news → ∀ (R : (Str → Option Value) → List (Addr × Obj) → Prop), (∀ m' n', J (i + 1) m' n' → R m' n') → ∀ t h tk, Fr h₀ env.locals h (fun y => if y = x then some (.int (a + (i : Int)) t) else m y) →
      News h₀ env.locals h ((I, itR (a + ((i + 1 : Nat) : Int)) ((n : Int) - ((i + 1 : Nat) : Int))) :: news) →
      wpAny (model prog w) A (execs body env) (UnrPost h₀ env.locals { s with heap := h, toks := tk } I (itR (a + ((i + 1 : Nat) : Int)) ((n : Int) - ((i + 1 : Nat) : Int))) R Q) E { s with heap := h, toks := tk })
    (done : ∀ m news h tk, J n m news → Fr h₀ env.locals h m → News h₀ env.locals h news → Q .next { s with heap := h, toks := tk }) (h0 : J 0 m₀ news₀) :
    RangeRest prog w A E h₀ env x body Q s I a n n 0 m₀ news₀ := by
  have key : ∀ (k i : Nat) (m : Str → Option Value) (news : List (Addr × Obj)), k + i = n → J i m news → RangeRest prog w A E h₀ env x body Q s I a n k i m news := by
    intro k
    induction k with
    | zero =>
      intro i m news hk hJ
      have : i = n := by omega
      subst this
      exact RangeRest.zero fun h tk F N => done m news h tk hJ F N
    | succ k ih =>
      intro i m news hk hJ
      exact RangeRest.succ fun t h tk F N => turn k i m news (by omega) hJ _ (fun m' n' h' => ih (i + 1) m' n' (by omega) h') t h tk F N
  exact key n 0 m₀ news₀ (by omega) h0
end
theorem news_one {h₀ h : Heap} {L : Addr} {x : Addr × Obj} {r : List (Addr × Obj)} (N : News h₀ L h (x :: r)) : News h₀ L h [x] := cb_drop N fun p hp => by
  rcases List.mem_cons.mp hp with rfl | hp
  · exact .head _
  · exact nomatch hp
theorem canon3 {m : Str → Option Value} {x₁ x₂ x₃ : Str} {v₁ v₂ v₃ : Option Value} (h₁ : m x₁ = v₁) (h₂ : m x₂ = v₂) (h₃ : m x₃ = v₃) : m = fun y => if y = x₁ then v₁ else if y = x₂ then v₂ else if y = x₃ then v₃ else m y := by
  funext y
  by_cases e1 : y = x₁
  · subst e1; simp [h₁]
  · by_cases e2 : y = x₂
    · subst e2; simp [e1, h₂]
    · by_cases e3 : y = x₃
      · subst e3; simp [e1, e2, h₃]
      · simp [e1, e2, e3]
noncomputable def upto : Nat → List Int
  | 0 => []
  | n + 1 => upto n ++ [0 + (n : Int)]
noncomputable def JP (lw lb : Addr) (ww bb : List Int) (i : Nat) (m : Str → Option Value) (_ : List (Addr × Obj)) : Prop :=
  ∃ (t : Tok) (u : Str → Option Value), m = fun y => if y = Str.ofString "least" then some (.int (purseP ww bb (upto i)) t) else if y = Str.ofString "wants" then some (.ref lw) else if y = Str.ofString "brings" then some (.ref lb) else u y
theorem jp_of {news : List (Addr × Obj)} {lw lb : Addr} {ww bb : List Int} {i : Nat} {m : Str → Option Value} {x : Int} {t : Tok} (h₁ : m (Str.ofString "least") = some (.int x t)) (h₂ : m (Str.ofString "wants") = some (.ref lw)) (h₃ : m (Str.ofString "brings") = some (.ref lb)) (e : x = purseP ww bb (upto i)) : JP lw lb ww bb i m news :=
  ⟨t, m, by subst e; exact canon3 h₁ h₂ h₃⟩
theorem news_keep {h₀ h h' : Heap} {L : Addr} {news : List (Addr × Obj)} (N : News h₀ L h news) (k : ∀ b o, h.get? b = some o → h'.get? b = some o) : News h₀ L h' news :=
  fun p hp => ⟨k _ _ (N p hp).1, (N p hp).2⟩
end Mine
end
section -- C7
open PySem PySem.W PySem.Calls PyProof.Rows PySem.Spec
namespace Mine
theorem C_257e (w : World) (p : Program) (loose : List Str) (mean : ExcName → Option Value) (mg mb : Str → Option Value) (news : List (Addr × Obj)) (x : Str) (t : Tok) (hx : x.length < 100) (h1 : (Txt.slice x none (some 3) != Str.ofString "257") = false) (h2 : (Txt.slice x (some 3) (some 5) != Str.ofString " \"") = true) :
   CbClaim PySem.Challenge.rw_yh0007_01.row.prog w (hd.heap_39 w.params) p loose mean mg mb 86 news [] (True) [.str x t] (fun t => .str (Str.ofString "") t) := by
  w_top off
  k_fill
  k_with_none
  k_with "andf" => first | exact And.left (by with_reducible assumption) | exact And.left (And.right (by with_reducible assumption)) | exact And.left (And.right (And.right (by with_reducible assumption))) | exact And.left (And.right (And.right (And.right (by with_reducible assumption)))) | exact And.left (And.right (And.right (And.right (And.right (by with_reducible assumption))))) | exact And.left (And.right (And.right (And.right (And.right (And.right (by with_reducible assumption)))))) | exact And.right (by with_reducible assumption) | exact And.right (And.right (by with_reducible assumption)) | exact And.right (And.right (And.right (by with_reducible assumption)))
  k_with "lt" => first | with_reducible assumption | exact And.left (by with_reducible assumption) | exact And.left (And.right (by with_reducible assumption)) | exact And.left (And.right (And.right (by with_reducible assumption))) | exact And.left (And.right (And.right (And.right (by with_reducible assumption)))) | exact And.left (And.right (And.right (And.right (And.right (by with_reducible assumption))))) | exact And.left (And.right (And.right (And.right (And.right (And.right (by with_reducible assumption)))))) | (refine Nat.lt_trans (by with_reducible assumption) ?_; k_extra "lt")
  k_with "ne" => first | with_reducible assumption | exact Ne.symm (by with_reducible assumption) | (refine Nat.ne_of_lt ?_; k_extra "lt") | (refine Nat.ne_of_gt ?_; k_extra "lt") | k_extra "andf" | (refine Ne.symm ?_; k_extra "andf") | (refine Nat.ne_of_lt ?_; k_extra "lt2") | (refine Nat.ne_of_gt ?_; k_extra "lt2")
  k_with "lt2" => first | exact Nat.lt_trans (And.left (by with_reducible assumption)) (by with_reducible assumption) | exact Nat.lt_trans (And.left (And.right (by with_reducible assumption))) (by with_reducible assumption) | exact Nat.lt_trans (And.left (And.right (And.right (by with_reducible assumption)))) (by with_reducible assumption) | exact Nat.lt_trans (And.left (And.right (And.right (And.right (by with_reducible assumption))))) (by with_reducible assumption) | exact Nat.lt_trans (And.left (And.right (And.right (And.right (And.right (by with_reducible assumption)))))) (by with_reducible assumption) | exact Nat.lt_trans (And.left (And.right (And.right (And.right (And.right (And.right (by with_reducible assumption))))))) (by with_reducible assumption) | exact Nat.lt_trans (And.left (And.right (And.right (And.right (And.right (And.right (And.right (by with_reducible assumption)))))))) (by with_reducible assumption) | exact Nat.lt_trans (And.left (And.right (And.right (And.right (And.right (And.right (And.right (And.right (by with_reducible assumption))))))))) (by with_reducible assumption) | exact Nat.lt_trans (And.left (And.right (And.right (And.right (And.right (And.right (And.right (And.right (And.right (by with_reducible assumption)))))))))) (by with_reducible assumption) | exact Nat.lt_trans (And.left (And.right (And.right (And.right (And.right (And.right (And.right (And.right (And.right (And.right (by with_reducible assumption))))))))))) (by with_reducible assumption)
  k_with "omega" => first | safely (k_dflt (k_extra "om")) | safely (k_dflt lia)
  k_with "om" => first | with_reducible assumption | ((with_reducible show (_ : Nat) < _); first | exact Nat.lt_succ_self _ | decide | exact ltNl (by with_reducible assumption) (by rfl) | exact ltNl (And.left (by with_reducible assumption)) (by rfl) | exact ltNl (And.right (by with_reducible assumption)) (by rfl) | k_extra "lt") | ((with_reducible show (_ : Nat) ≤ _); first | exact Nat.le_refl _ | decide | exact leNl (by with_reducible assumption) (by rfl) | exact leNl (And.left (by with_reducible assumption)) (by rfl) | exact leNl (And.right (by with_reducible assumption)) (by rfl) | exact leNl2 (by with_reducible assumption) (by rfl) | exact leNl2 (And.left (by with_reducible assumption)) (by rfl) | exact leNl2 (And.right (by with_reducible assumption)) (by rfl) | (refine Nat.le_of_lt ?_; k_extra "lt")) | ((with_reducible show (_ : Int) < _); first | decide | k_extra "andf" | exact ltIl (by with_reducible assumption) (by rfl) | exact ltIl (And.left (by with_reducible assumption)) (by rfl) | exact ltIl (And.right (by with_reducible assumption)) (by rfl) | exact loIt (by with_reducible assumption) (by rfl) | exact loIt (And.left (by with_reducible assumption)) (by rfl) | exact loIt (And.right (by with_reducible assumption)) (by rfl) | exact loP (by with_reducible assumption) | exact loP (And.left (by with_reducible assumption)) | exact loP (And.right (by with_reducible assumption)) | exact hiP (by with_reducible assumption) (by rfl) | exact hiP (And.left (by with_reducible assumption)) (by rfl) | exact hiP (And.right (by with_reducible assumption)) (by rfl)) | ((with_reducible show (_ : Int) ≤ _); first | decide | k_extra "andf" | exact leIl (by with_reducible assumption) (by rfl) | exact leIl (And.left (by with_reducible assumption)) (by rfl) | exact leIl (And.right (by with_reducible assumption)) (by rfl) | exact leIl2 (by with_reducible assumption) (by rfl) | exact leIl2 (And.left (by with_reducible assumption)) (by rfl) | exact leIl2 (And.right (by with_reducible assumption)) (by rfl) | exact loI (by with_reducible assumption) (by rfl) | exact loI (And.left (by with_reducible assumption)) (by rfl) | exact loI (And.right (by with_reducible assumption)) (by rfl) | exact Int.le_of_lt (by with_reducible assumption)) | ((with_reducible show (_ : Nat) ≠ _); k_extra "ne")
  unfold CbClaim; dsimp only [CbLists, CbRet]
  intros; rename_i hret
  refine wpAny_call ?_
  k_dflt cell_enter
  k_steps
  all_goals (refine' cb_retS hret ?e1 ?e2 ?e3; (case e2 => k_asm); (case e3 => k_asm); (case e1 => rfl))

noncomputable def bringI (way b : Int) : Int := if way < 12 then b else 0
noncomputable def okEmpty (x : Str) : Bool := decide (x.length < 100) && !(Txt.slice x none (some 3) != Str.ofString "257") && (Txt.slice x (some 3) (some 5) != Str.ofString " \"")
noncomputable def okRaise (x : Str) : Bool := decide (x.length < 100) && (Txt.slice x none (some 3) != Str.ofString "257")
theorem gift_empty : ∀ b ∈ [(0:Int), 1, 2, 3, 4, 5], ∀ d ∈ [(0:Int), 1], okEmpty (giftS 12 b d) = true := by decide +kernel
theorem gift_raise : ∀ way ∈ [(13:Int), 14, 15], ∀ b ∈ [(0:Int), 1, 2, 3, 4, 5], ∀ d ∈ [(0:Int), 1], okRaise (giftS way b d) = true := by decide +kernel
theorem mem6 {b : Int} (h : 0 ≤ b ∧ b < 6) : b ∈ [(0:Int), 1, 2, 3, 4, 5] := m6 h
theorem mem2 {b : Int} (h : 0 ≤ b ∧ b < 2) : b ∈ [(0:Int), 1] := fin_all (P := fun x => x ∈ [(0:Int), 1]) 2 h.1 h.2 (by decide)
theorem raise_facts {way b d : Int} (h1 : 12 < way) (h2 : way < 16) (hb : 0 ≤ b ∧ b < 6) (hd : 0 ≤ d ∧ d < 2) : (giftS way b d).length < 100 ∧ (Txt.slice (giftS way b d) none (some 3) != Str.ofString "257") = true := by
  have h := gift_raise way (by simp only [List.mem_cons, List.not_mem_nil, or_false]; omega) b (mem6 hb) d (mem2 hd)
  unfold okRaise at h
  simpa using h
theorem C_257g (w : World) (p : Program) (loose : List Str) (mean : ExcName → Option Value) (mg mb : Str → Option Value) (news : List (Addr × Obj)) (way b d : Int) (t : Tok) (h1 : 0 ≤ way ∧ way ≤ 12) (hb : 0 ≤ b ∧ b < 6) (hd2 : 0 ≤ d ∧ d < 2) :
    CbClaim PySem.Challenge.rw_yh0007_01.row.prog w (hd.heap_39 w.params) p loose mean mg mb 86 news [] (True) [.str (giftS way b d) t] (fun t => .str (blanks (bringI way b)) t) := by
  by_cases hw : way < 12
  · have h := gift_ok way (fin_all (P := fun x => x ∈ [(0:Int), 1, 2, 3, 4, 5, 6, 7, 8, 9, 10, 11]) 12 h1.1 hw (by decide)) b (mem6 hb)
    have e : giftS way b d = giftS way b 0 := by unfold giftS; rw [if_pos hw, if_pos hw]
    rw [e]
    unfold okGift at h
    simp only [Bool.and_eq_true, decide_eq_true_eq, Bool.not_eq_true'] at h
    obtain ⟨⟨⟨⟨a1, a2⟩, a3⟩, a4⟩, a5⟩ := h
    have e2 : bringI way b = b := if_pos hw
    rw [e2]
    exact C_257 w p loose mean mg mb news _ _ t a1 a2 a3 a4 a5
  · have e : way = 12 := by omega
    subst e
    have h := gift_empty b (mem6 hb) d (mem2 hd2)
    unfold okEmpty at h
    simp only [Bool.and_eq_true, decide_eq_true_eq, Bool.not_eq_true'] at h
    obtain ⟨⟨a1, a2⟩, a3⟩ := h
    have e2 : blanks (bringI 12 b) = Str.ofString "" := by unfold bringI; rw [if_neg (by omega)]; decide +kernel
    rw [e2]
    exact C_257e w p loose mean mg mb news _ t a1 a2 a3
end Mine
end
section -- PureG
namespace Mine
open PySem PySem.W PySem.Calls PyProof.Rows PySem.Spec
noncomputable def pickI (ns : List Int) (lo hi st : Option Int) : List Int :=
  (sliceRange (sliceBounds lo hi st ns.length).1 (sliceBounds lo hi st ns.length).2.1 (sliceBounds lo hi st ns.length).2.2).filterMap (ns[·]?)
theorem ints_filterMap {vs : List Value} {ns : List Int} (h : IntsAre vs ns) : ∀ l : List Nat, IntsAre (l.filterMap (vs[·]?)) (l.filterMap (ns[·]?))
  | [] => .nil
  | i :: l => by
    rw [List.filterMap_cons, List.filterMap_cons]
    cases q : ns[i]? with
    | none =>
      have hl := h.length
      have : vs[i]? = none := by rw [List.getElem?_eq_none_iff] at q ⊢; omega
      rw [this]
      exact ints_filterMap h l
    | some n =>
      obtain ⟨t, e⟩ := h.get i n q
      rw [e]
      exact .cons n t (ints_filterMap h l)
theorem pick_ints {vs : List Value} {ns : List Int} (h : IntsAre vs ns) (lo hi st : Option Int) :
    ∃ us : List Value, slicePick vs.toArray lo hi st = us.toArray ∧ IntsAre us (pickI ns lo hi st) := by
  refine ⟨_, rfl, ?_⟩
  have e : vs.toArray.size = ns.length := by rw [List.size_toArray]; exact h.length
  have e2 : (fun i : Nat => vs.toArray[i]?) = fun i => vs[i]? := by funext i; simp
  rw [e2, e]
  exact ints_filterMap h _
section
variable {prog : Program} {w : World} {A : Around} {E : Value → Shared → Prop} {s : Shared} {h₀ : Heap} {L : Addr} {m : Str → Option Value} {news : List (Addr × Obj)}
theorem sum_pick {l : Addr} {vs : List Value} {ns : List Int} {lo hi st : Option Int} {Q : Value → Shared → Prop} (hh : A.handled = none) (F : Fr h₀ L s.heap m) (N : News h₀ L s.heap news) (hl : s.heap.IsList l (slicePick vs.toArray lo hi st)) (hi' : IntsAre vs ns)
    (h : ∀ h' tk t', Fr h₀ L h' m → News h₀ L h' news → Q (.int (pickI ns lo hi st).sum t') { s with heap := h', toks := tk }) :
    wpAny (model prog w) A (call (.builtin "sum") [.ref l]) Q E s := by
  obtain ⟨us, e, hu⟩ := pick_ints hi' lo hi st
  rw [e] at hl
  exact sumK hh F N hl hu h
end
end Mine
namespace Mine
open PySem PySem.W PySem.Calls PyProof.Rows PySem.Spec
theorem off_tail {es : List (Addr × Obj)} {I d : Nat} (h : ∀ p ∈ es, @LT.lt Nat _ I p.1) (hd : d ≤ I) : ∀ p ∈ es, p.1 ≠ d := fun p hp e => by
  have h1 : I < p.1 := h p hp
  rw [e] at h1
  exact absurd h1 (Nat.not_lt.mpr hd)
end Mine
end
section -- PureH
namespace Mine
open PySem PySem.W PySem.Calls PyProof.Rows PySem.Spec PyProof.V
section
variable {prog : Program} {w : World} {A₀ A : Around} {E : Value → Shared → Prop} {s s' : Shared} {h₀ h : Heap} {outer : List Env} {L a e t : Addr} {m : Str → Option Value} {name : Str} {scope : Scope} {cd : Value} {cl : List (Str × Addr)}
  {vs : List Value} {n : Str} {b₀ : Stmt} {suite : List Stmt} {pos np : Pos} {rest : List ExceptHandler} {Q : Flow → Shared → Prop} {news : List (Addr × Obj)} {KF : Frag} {C : Addr} {bmB : List Value} {newId : String}
  {p : Program} {loose : List Str} {mean : ExcName → Option Value} {mg mb : Str → Option Value} {x : Str}
/-- An own exception, caught with `as` in a frame that has cells. -/
theorem caught_XB (K : Below A₀ h₀ outer h₀) (F : Fr h₀ L h m) (hsm : h.UpToSlots s'.heap) (R : RaisedK h₀ (envX name scope L a cd cl :: outer) e (.ref C) t vs news s'.heap)
    (X : KF.In h₀) (T : TopRead p loose mg mb h₀) (ex : nsIn KF mainGlobals x = some (some (.ref C))) (q : excIn KF C bmB newId = true) (hbase : bmB.contains (.type "BaseException") = true)
    (k : ∀ h' oe ot ws nt tk, Fr h₀ L h' (fun y => if y = n then some (.ref e) else m y) → News h₀ L h' ((e, oe) :: (t, ot) :: news) → oe.cls = .ref C → oe.data = .fields ws → ws[0]? = some (.ref t) → ot.cls = .type "tuple" → ot.data = .seq vs.toArray nt →
      (∀ q ∈ news, @Ne Nat q.1 e ∧ @Ne Nat q.1 t) → @Ne Nat e t →
      wpAny (model prog w) ((A₀.deeper (envX name scope L a cd cl)).mark (some (.ref e))) (execs (b₀ :: suite) (envX name scope L a cd cl))
        (fun f s₄ => wpAny (model prog w) (A₀.deeper (envX name scope L a cd cl)) (do bindName (envX name scope L a cd cl) n .none; unbindBehindTheSuite (envX name scope L a cd cl) n pos) (fun _ s₅ => Q f s₅) E s₄)
        (AsSuiteRaised (model prog w) ((A₀.deeper (envX name scope L a cd cl)).mark (some (.ref e))) (envX name scope L a cd cl) n pos (notedBy (model prog w) ((A₀.deeper (envX name scope L a cd cl)).mark (some (.ref e))) (envX name scope L a cd cl) (cameBackBy (model prog w) (A₀.deeper (envX name scope L a cd cl)) (envX name scope L a cd cl) E)))
        { s' with heap := h', toks := tk })
    (hk : scope.kind = .function := by rfl) (hlo : (envX name scope L a cd cl).kindOf n = some .local := by rfl) (hx : (envX name scope L a cd cl).kindOf x = some .globalImplicit := by rfl) (hd : (x == ("__debug__" : Str)) = false := by decide) :
    wpAny (model prog w) (A₀.deeper (envX name scope L a cd cl)) (noteFrame (.ref e) (envX name scope L a cd cl))
      (fun _ s₂ => wpAny (model prog w) (A₀.deeper (envX name scope L a cd cl)) (setFlight (.ref e) none) (fun _ s₃ =>
        wpAny (model prog w) (A₀.deeper (envX name scope L a cd cl)) (handleBy (.ref e) (envX name scope L a cd cl) (.ExceptHandler (some (.Name x np)) (some n) (b₀ :: suite) pos :: rest)) Q E s₃) E s₂) E s' := by
  obtain ⟨⟨B, hB, hl, hfl, hnew⟩, htup⟩ := R
  have hL : B.get? L = none := by
    obtain ⟨_, ⟨L', _, hf, hn', _⟩, _⟩ := hfl.2.2.1
    obtain rfl : L = L' := Option.some.inj hf
    exact hn'
  refine wpAny_looks_onW (Around.frames_deeper K.stack) rfl hfl fun h₄ hheld₄ hsm₄ => wpAny_landsW hheld₄ fun h₅ hheld hsm₅' => ?_
  have sm5 := hsm₄.trans hsm₅'
  have held5 := flyingW_base hB hheld
  have F5 := F.of_stays held5.1 (hsm.trans sm5)
  obtain ⟨ob, hob, hobc⟩ := held5.there
  refine wpAny_handleBy_cons (codeAny_handlers_test (nameX_K F5 X T ex ?_ hk hx hd)) (by intro q; cases q)
  refine exE8 ((own_of_in X T ex q).keeps F5.keep).obj ?_
  rintro bm N nm qn bs hdct sn sub zz
  refine exE6 zz ?_
  clear zz
  rintro ab col dd k0 k1 k2 zz
  refine exE3 zz ?_
  clear zz
  rintro k3 k5 mN zz
  have hC := zz.1
  have TL := zz.2.2.2
  clear zz
  refine wpAny_excMatches_sub_self hC hob hobc (TL.hasType hbase) (codeAny_handlers_suite_as (lands_againW hheld fun h₆ hfl₆ hsm₆ => ?_))
  have fl6 := flyingW_base hB hfl₆
  have F6 := F.of_stays fl6.1 ((hsm.trans sm5).trans hsm₆)
  obtain ⟨oe, ws, hoe, hoec, hoed, hoe0⟩ := fl6.first
  obtain ⟨ot, nt, hot, hotc, hotd⟩ := (htup.of_slots sm5).of_slots hsm₆
  have N6 := News.more F6 (News.more F6 News.nil hot (fun es n q => by rw [hotd] at q; cases q) (fresh_of_stays hB hnew)) hoe (fun es n q => by rw [hoed] at q; cases q) fl6.2.1
  have Nl : News h₀ L h₆ news := fun q hq => ⟨hfl₆.1 _ _ (hl q hq).1, (fun z => by have := (hl q hq).1; rw [z, hL] at this; cases this), (hl q hq).2⟩
  refine storeX_L F6 (news := (e, oe) :: (t, ot) :: news) (fun q hq => ?_) (fun h₇ F7 N7 => ?_) hk hlo
  · rcases List.mem_cons.mp hq with rfl | hq
    · exact N6 _ (.head _)
    · rcases List.mem_cons.mp hq with rfl | hq
      · exact N6 _ (.tail _ (.head _))
      · exact Nl q hq
  · refine k h₇ oe ot ws nt _ F7 N7 hoec hoed hoe0 hotc hotd (fun q hq => ⟨fun z => ?_, fun z => ?_⟩) (fun z => ?_)
    · have z1 := (hl q hq).1
      have z2 := hfl₆.2.1
      rw [z] at z1
      rw [z1] at z2; cases z2
    · have z1 := (hl q hq).1
      rw [z, hnew] at z1; cases z1
    · have z1 := (N6 _ (.head _)).1
      have z2 := (N6 _ (.tail _ (.head _))).1
      rw [z] at z1
      have z3 : oe = ot := Option.some.inj (z1.symm.trans z2)
      rw [← z3, hoed] at hotd
      cases hotd
theorem name_goes_X {M : Model} {n : Str} {pos : Pos} {Q : Unit → Shared → Prop} (F : Fr h₀ L s.heap m) (N : News h₀ L s.heap news)
    (h : ∀ h' v, Fr h₀ L h' (fun x => if x = n then v else m x) → News h₀ L h' news → Q () { s with heap := h', toks := s.toks + 1 })
    (hk : scope.kind = .function := by rfl) (hl : (envX name scope L a cd cl).kindOf n = some .local := by rfl) :
    wpAny M A (do bindName (envX name scope L a cd cl) n .none; unbindBehindTheSuite (envX name scope L a cd cl) n pos) Q E s :=
  wpAny_nameGoes_keeps hl F.ns (by show (scope.kind == .class || (scope.kind == .module && L != mainGlobals)) = false; rw [hk]; rfl) fun h' v hn hs => h h' v (F.set hn hs) (N.set hs)
end
end Mine
end
section -- PureI
namespace Mine
open PySem PySem.W PySem.Calls PyProof.Rows PySem.Spec PyProof.V Builtin Builtin.Str Builtin.BaseException
theorem bes_kind : builtinKind "BaseException.__str__" = some .slot := by decide +kernel
theorem bes_split : splitId "BaseException.__str__" = some ("BaseException", "__str__") := by decide +kernel
theorem bes_plain : plainId "BaseException.__str__" = true := by decide +kernel
section
variable {prog : Program} {w : World} {A : Around} {E : Value → Shared → Prop} {s : Shared} {K : Frag} {e t C : Addr} {oe : Obj} {od : Option Obj} {ws : Array Value} {y : PySem.Str} {u : Tok}
theorem type_at {M : Model} {h : Heap} (he : h.get? e = some oe) (hc : oe.cls = .ref C) : Looks M h (typeOf (.ref e)) (.ref C) := hc ▸ (Looks.ld he).andThen .now
theorem bexcArgs_own {M : Model} {items : List Value} {Q : Value × List Value → Shared → Prop} (he : s.heap.get? e = some oe) (hd : oe.data = .fields ws) (h0 : ws[0]? = some (.ref t)) (ht : s.heap.TupAt t items) (hq : Q (.ref t, items) s) :
    wpAny M A (bexcArgs (.ref e)) Q E s := by
  obtain ⟨ot, k, hto, _, htd⟩ := ht
  unfold bexcArgs
  refine wpAny_bind (wpAny_field he hd h0 (wpAny_bind (wpAny_seqItems hto htd ?_)))
  have : items.toArray.toList = items := by simp
  show wpAny M A (pure (Value.ref t, items.toArray.toList)) Q E s
  rw [this]; exact wpAny_pure hq
theorem bexcStr_own {Q : Fin → Shared → Prop} (he : s.heap.get? e = some oe) (hd : oe.data = .fields ws) (h0 : ws[0]? = some (.ref t)) (ht : s.heap.TupAt t [.str y u]) (hq : Q (.done (.ret (.str y u))) s) :
    wpAny (model prog w) A (Builtin.«BaseException.__str__» ⟨[.ref e], []⟩) Q E s := by
  unfold Builtin.«BaseException.__str__»
  repeat (first | with_reducible refine bexcArgs_own he hd h0 ht ?_ | wp_step)
  exact hq
/-- `strOf` of an instance of an own class below BaseException, with one text for its argument. -/
theorem strOf_own {Q : Value → Shared → Prop} (hu : A.units < cLine) (X : K.In s.heap) (he : s.heap.get? e = some oe) (hc : oe.cls = .ref C) (hs : findIn K (.ref C) "__str__" = some (some (.builtin "BaseException.__str__")))
    (hm : mroIn K C (.type "BaseException") = some true) (hd : oe.data = .fields ws) (h0 : ws[0]? = some (.ref t)) (ht : s.heap.TupAt t [.str y u]) (hq : Q (.str y u) s) :
    wpAny (model prog w) A (Builtin.Str.strOf (.ref e)) Q E s := by
  unfold Builtin.Str.strOf
  rw [show isExactStr (.ref e) = false from rfl]
  refine wpAny_bind (m := cRoomFor _ _) (wpAny_cRoomFor hu ?_)
  refine wpAny_bind (m := callSpecial? (.ref e) (PySem.Str.ofString "__str__")) ?_
  refine wpAny_bind (wpAny_bind ((type_at he hc).here ((looks_findIn X hs).here (wpAny_holding ?_))))
  rw [PySem.F.excStr_Exception.str.bind]
  refine wpAny_bind (wpAny_pure (wpAny_bind (wpAny_mono (?_ : wpAny (model prog w) A (call (.builtin "BaseException.__str__") [.ref e]) (fun v s' => v = .str y u ∧ Q (.str y u) s') E s) (fun v s' z => ?_) fun _ _ z => z)))
  · have sub : Looks (model prog w) s.heap (isInstance (.ref e) (.type "BaseException")) true := (type_at he hc).andThen (looks_mroIn X hm)
    refine wpAny_call (codeAny_call_builtin bes_plain PySem.F.entry_bexc_str (@check_slot (model prog w) _ _ s "BaseException.__str__" "BaseException" "__str__" (.ref e) [] [] _ bes_kind bes_split sub (PySem.F.args_bexc_str (.ref e)) ?_))
    exact bexcStr_own he hd h0 ht ⟨rfl, hq⟩
  · obtain ⟨rfl, z⟩ := z
    exact wpAny_pure (wpAny_pure z)
theorem str_own {Q : Value → Shared → Prop} (hu : A.in1.in1.units < cLine) (X : K.In s.heap) (he : s.heap.get? e = some oe) (hc : oe.cls = .ref C) (hs : findIn K (.ref C) "__str__" = some (some (.builtin "BaseException.__str__")))
    (hm : mroIn K C (.type "BaseException") = some true) (hd : oe.data = .fields ws) (h0 : ws[0]? = some (.ref t)) (ht : s.heap.TupAt t [.str y u]) (hq : Q (.str y u) s) :
    wpAny (model prog w) A (call (.type "str") [.ref e]) Q E s := by
  refine callType_codes (T := "str") (Bi := Builtin.«object.__init__») (Q₁ := fun r s₁ => ∃ y u, r = .str y u ∧ Q r s₁) PySem.F.called_str (PySem.F.typeCall_str_1 _) PySem.F.entry_object_init ?_ ?_
  · refine codeAny_of_tree ?_
    show wpAny _ A.in1.in1 (do checkBuiltinCall "str.__new__" ⟨[.type "str", .ref e], []⟩; again (.builtin "str.__new__" ⟨[.type "str", .ref e], []⟩)) _ _ s
    refine wpAny_bind (wpAny_of_eq (PySem.F.newCall_str_1 _) (wpAny_pure ⟨plainId_quiet (by decide +kernel) _, codeAny_builtin PySem.F.entry_str_new ?_⟩))
    rw [Around.under_plainId (by decide +kernel) _, str_new_tree]
    refine wpAny_bind (wpAny_pure (wpAny_bind (wpAny_of_eq isSubtype_str_str (wpAny_bind (wpAny_mono (strOf_own hu X he hc hs hm hd h0 ht (Q := fun r s₁ => ∃ y u, r = .str y u ∧ Q r s₁) ⟨_, _, rfl, hq⟩) (fun r s₁ hr => wpAny_pure hr) fun _ _ z => z)))))
  · rintro obj s₁ ⟨y, u, rfl, hq⟩
    exact ⟨typeIs_str _ _ _, PySem.F.args_object_init_2 _ _, object_init_meets PySem.F.called_str.init.lookup PySem.F.called_str.made (by decide) prog w A.in1 _ s₁ ⟨typeIs_str _ _ _, rfl, hq⟩⟩
theorem str_gotX {h₀ : Heap} {L : Addr} {news : List (Addr × Obj)} {ot : Obj} {nt : Nat} {Q : Value → Shared → Prop} (hu : A.in1.in1.units < cLine) (X : K.In s.heap) (N : News h₀ L s.heap news) (h1 : (e, oe) ∈ news) (h2 : (t, ot) ∈ news)
    (hc : oe.cls = .ref C) (hd : oe.data = .fields ws) (h0 : ws[0]? = some (.ref t)) (htc : ot.cls = .type "tuple") (htd : ot.data = .seq [Value.str y u].toArray nt)
    (hno : findIn K (.ref C) "__str__" = some (some (.builtin "BaseException.__str__"))) (hm : mroIn K C (.type "BaseException") = some true) (hq : Q (.str y u) s) :
    wpAny (model prog w) A (call (.type "str") [.ref e]) Q E s :=
  str_own hu X (N _ h1).1 hc hno hm hd h0 ⟨ot, nt, (N _ h2).1, htc, htd⟩ hq
theorem inK_of {h₀ h : Heap} {L : Addr} {m : PySem.Str → Option Value} (F : Fr h₀ L h m) (X : K.In h₀) : K.In h := X.keeps F.keep
theorem item_last {value slice : PySem.Expr} {l : Addr} {xs : Array Value} {v : Value} {k : Int} {tk : Tok} {Q : Value → Shared → Prop} (hl : s.heap.IsList l (xs.push v)) (hk : (xs.size : Int) = k) (hfit : k < 2 ^ 63) (h : Q v s)
    (hs : subscripted slice false (.ref l) (.int k tk) = operate [.ref l, .int k tk] (getItem (.ref l) (.int k tk)) := by with_unfolding_all rfl) :
    wpAny (model prog w) A (subscriptTail value slice (.ref l) (.int k tk)) Q E s := by
  subst hk
  exact tail_any hl.typeIs slot_list_getitem.lookup (wpAny_getItem_list hl (by omega) hfit (x := v) (by simp) h) hs
end
end Mine
namespace Mine
open PySem PySem.W PySem.Calls PyProof.Rows PySem.Spec
theorem blanks_len {b : Int} (h : 0 ≤ b) : ((blanks b).length : Int) = b := by
  have e : (blanks b).length = b.toNat := by
    show (List.replicate b.toNat 32).toArray.size = _
    simp
  rw [e]; omega
end Mine
end
section -- PureJ
namespace Mine
open PySem PySem.W PySem.Calls PyProof.Rows PySem.Spec
theorem wp_execs_append {M : Model} {Γ : PySem.Ctx} {env : Env} {Q : Flow → Pos → Shared → Prop} {E : Value → Pos → Shared → Prop} : ∀ (a b : List Stmt) (p : Pos) (s : Shared),
    Sem.wp M Γ (execs a env) (fun f p' s' => match f with | .next => Sem.wp M Γ (execs b env) Q E p' s' | f => Q f p' s') E p s → Sem.wp M Γ (execs (a ++ b) env) Q E p s
  | [], b, p, s, h => by
    rw [show execs [] env = pure Flow.next from rfl, Sem.wp_pure'] at h
    exact h
  | x :: a, b, p, s, h => by
    rw [List.cons_append, execs_cons, Sem.wp_bind']
    rw [execs_cons, Sem.wp_bind'] at h
    refine Sem.wp_mono M Γ _ (fun f p' s' h' => ?_) (fun _ _ _ z => z) _ _ h
    cases f with
    | next => exact wp_execs_append a b p' s' h'
    | brk => simpa using h'
    | cont => simpa using h'
    | ret v => simpa using h'
theorem execs_append {prog : Program} {w : World} {A : Around} {E : Value → Shared → Prop} {env : Env} {Q : Flow → Shared → Prop} (a b : List Stmt) {s : Shared}
    (h : wpAny (model prog w) A (execs a env) (fun f s' => match f with | .next => wpAny (model prog w) A (execs b env) Q E s' | f => Q f s') E s) :
    wpAny (model prog w) A (execs (a ++ b) env) Q E s := fun Γ p hΓ => by
  refine wp_execs_append a b p s (Sem.wp_mono _ Γ _ (fun f p' s' h' => ?_) (fun _ _ _ z => z) _ _ (h Γ p hΓ))
  cases f with
  | next => exact h' Γ p' hΓ
  | brk => exact h'
  | cont => exact h'
  | ret v => exact h'
/-- A part that goes on, then the rest. -/
theorem execs_split {prog : Program} {w : World} {A : Around} {E : Value → Shared → Prop} {env : Env} {Q : Flow → Shared → Prop} (a b : List Stmt) {s : Shared} (P : Shared → Prop)
    (h : wpAny (model prog w) A (execs a env) (fun f s' => f = .next ∧ P s') (fun _ _ => False) s) (k : ∀ s', P s' → wpAny (model prog w) A (execs b env) Q E s') :
    wpAny (model prog w) A (execs (a ++ b) env) Q E s :=
  execs_append a b (wpAny_mono h (fun f s' z => by obtain ⟨rfl, z⟩ := z; exact k s' z) fun _ _ z => z.elim)
end Mine
namespace Mine
open PySem PySem.W PySem.Calls PyProof.Rows PySem.Spec
noncomputable def frm : List (Str × Value) → (Str → Option Value) → Str → Option Value
  | [], u => u
  | (x, v) :: r, u => fun y => if y = x then some v else frm r u y
noncomputable def AllAt (m : Str → Option Value) : List (Str × Value) → Prop
  | [] => True
  | (x, v) :: r => m x = some v ∧ AllAt m r
theorem frm_eq {m : Str → Option Value} : ∀ l : List (Str × Value), AllAt m l → frm l m = m
  | [], _ => rfl
  | (x, v) :: r, ⟨h1, h2⟩ => by
    funext y
    show (if y = x then some v else frm r m y) = m y
    by_cases e : y = x
    · rw [if_pos e, e, h1]
    · rw [if_neg e, frm_eq r h2]
theorem fr_frm {h₀ h : Heap} {L : Addr} {m : Str → Option Value} (F : Fr h₀ L h m) (l : List (Str × Value)) (hl : AllAt m l) : Fr h₀ L h (frm l m) := by
  rw [frm_eq l hl]; exact F
theorem news_sub {h₀ h : Heap} {L : Addr} {a b : List (Addr × Obj)} (N : News h₀ L h a) (hs : SubL b a) : News h₀ L h b := cb_drop N hs.mem
theorem subL_tail {es a : List (Addr × Obj)} (h : ∀ p ∈ es, p ∈ a) : SubL es a := by
  induction es with
  | nil => trivial
  | cons p r ih => exact ⟨h p (.head _), ih fun q hq => h q (.tail _ hq)⟩
end Mine
end
section -- C6
open PySem PySem.W PySem.Calls PyProof.Rows PySem.Spec
namespace Mine
theorem items_ind {prog : Program} {w : World} {A : Around} {E : Value → Shared → Prop} {h₀ : Heap} {env : Env} {target : PySem.Expr} {body : List Stmt} {Q : Flow → Shared → Prop} {s : Shared} {ws : List (Addr × String)} {keep : List (Addr × Obj)}
    (J : List Value → (Str → Option Value) → List (Addr × Obj) → Prop)
    (turn : ∀ (v : Value) (r : List Value) (m : Str → Option Value) (news : List (Addr × Obj)), J (v :: r) m news → ∀ (R : (Str → Option Value) → List (Addr × Obj) → Prop), (∀ m' n', J r m' n' → R m' n') → ∀ h tk, Fr h₀ env.locals h m → AllObj ws (fun its => News h₀ env.locals h (its ++ news) →
      wpAny (model prog w) A (assign target env v) (fun _ s₂ => wpAny (model prog w) A (execs body env) (UnrPostW h₀ env.locals { s with heap := h, toks := tk } its (fun m' n' => SubL keep n' ∧ R m' n') Q) E s₂) E { s with heap := h, toks := tk }))
    (done : ∀ m news h tk, J [] m news → Fr h₀ env.locals h m → News h₀ env.locals h news → Q .next { s with heap := h, toks := tk }) :
    ∀ (vs : List Value) (m : Str → Option Value) (news : List (Addr × Obj)), J vs m news → ItemsRest prog w A E h₀ env target body Q s ws keep (vs.map Itm.val) m news
  | [], m, news, hJ => ItemsRest.zero fun h tk F N => done m news h tk hJ F N
  | v :: vs, m, news, hJ => ItemsRest.val fun h tk F => turn v vs m news hJ _ (fun m' n' h' => items_ind J turn done vs m' n' h') h tk F
theorem items_start {prog : Program} {w : World} {A : Around} {E : Value → Shared → Prop} {h₀ : Heap} {env : Env} {target : PySem.Expr} {body : List Stmt} {Q : Flow → Shared → Prop} {s : Shared} {ws : List (Addr × String)}
    (J : Addr → Addr → Obj → Addr × Obj → Addr × Obj → Int → Int → List Value → (Str → Option Value) → List (Addr × Obj) → Prop) {D I : Addr} {itI : Obj} {kp kt : Addr × Obj} {L0 F : Int} {vs : List Value} {m : Str → Option Value} {news : List (Addr × Obj)} (h0 : J D I itI kp kt L0 F vs m news)
    (turn : ∀ (D I : Addr) (itI : Obj) (kp kt : Addr × Obj) (L0 F : Int) (Q : Flow → Shared → Prop) (s : Shared) (v : Value) (r : List Value) (m : Str → Option Value) (news : List (Addr × Obj)), J D I itI kp kt L0 F (v :: r) m news → ∀ (R : (Str → Option Value) → List (Addr × Obj) → Prop), (∀ m' n', J D I itI kp kt L0 F r m' n' → R m' n') → ∀ h tk, Fr h₀ env.locals h m → AllObj ws (fun its => News h₀ env.locals h (its ++ news) →
      wpAny (model prog w) A (assign target env v) (fun _ s₂ => wpAny (model prog w) A (execs body env) (UnrPostW h₀ env.locals { s with heap := h, toks := tk } its (fun m' n' => SubL [kp] n' ∧ R m' n') Q) E s₂) E { s with heap := h, toks := tk }))
    (done : ∀ m news h tk, J D I itI kp kt L0 F [] m news → Fr h₀ env.locals h m → News h₀ env.locals h news → Q .next { s with heap := h, toks := tk }) :
    ItemsRest prog w A E h₀ env target body Q s ws [kp] (vs.map Itm.val) m news := items_ind (J D I itI kp kt L0 F) (fun v r m news => turn D I itI kp kt L0 F Q s v r m news) done vs m news h0
noncomputable def runP (w b : List Int) : Nat → (List Int × Int × Int × Int) → (List Int × Int × Int × Int)
  | 0, st => st
  | k + 1, st => runP w b k (stepP w b st ((k + 1 : Nat) : Int))
noncomputable def SzL : Nat → List Value → Prop
  | 0, l => l = []
  | k + 1, l => ∃ t r, l = .int ((k + 1 : Nat) : Int) t :: r ∧ SzL k r
theorem szl_cons {k : Nat} {v : Value} {r : List Value} (h : SzL k (v :: r)) : ∃ k' t, k = k' + 1 ∧ SzL k' r ∧ v = .int ((k' + 1 : Nat) : Int) t := by
  cases k with
  | zero => exact nomatch h
  | succ k => obtain ⟨t, r', e, h'⟩ := h; cases e; exact ⟨k, t, rfl, h', rfl⟩
theorem szl_nil {k : Nat} (h : SzL k []) : k = 0 := by
  cases k with
  | zero => rfl
  | succ k => obtain ⟨t, r', e, h'⟩ := h; cases e
theorem sz_facts {w b g : List Int} {k : Nat} {x y z F : Int} (hk : k + 1 ≤ 4) (hg : g.length = k + 1) (hF : (runP w b (k + 1) (g, x, y, z)).2.2.2 = F) :
    ∃ sz : Int, sz = ((k + 1 : Nat) : Int) ∧ 0 < sz ∧ sz ≤ 4 ∧ sz ≠ 0 ∧ (g.length : Int) = sz ∧ (runP w b k (stepP w b (g, x, y, z) sz)).2.2.2 = F :=
  ⟨_, rfl, by omega, by omega, by omega, by omega, hF⟩
noncomputable def JI (lw lb : Addr) (ww bb : List Int) (ia D I : Addr) (itI : Obj) (kp kt : Addr × Obj) (L0 F : Int) (l : List Value) (m : Str → Option Value) (news : List (Addr × Obj)) : Prop :=
  ∃ k, k ≤ 4 ∧ SzL k l ∧ ∃ (us : List Value) (g : List Int) (n : Nat) (rest more most : Int) (tr tm tM tl : Tok) (u : Str → Option Value), IntsAre us g ∧ In4 g ∧ g.length = k ∧
    m = frm [(Str.ofString "most", .int most tM), (Str.ofString "more", .int more tm), (Str.ofString "rest", .int rest tr), (Str.ofString "guests", .ref D), (Str.ofString "least", .int L0 tl), (Str.ofString "wants", .ref lw), (Str.ofString "brings", .ref lb)] u ∧
    news = [kp, kt, (D, listOf us.toArray n), (I, itI)] ∧ (runP ww bb k (g, rest, more, most)).2.2.2 = F ∧ (ia ≠ D ∧ kp.1 ≠ D ∧ kt.1 ≠ D ∧ I ≠ D ∧ kp.1 ≠ ia ∧ kt.1 ≠ ia ∧ I ≠ ia)
theorem C_purse (w : World) (p : Program) (loose : List Str) (mean : ExcName → Option Value) (mg mb : Str → Option Value) (lw lb : Addr) (ws bs : List Value) (ww bb : List Int) (hw : IntsAre ws ww) (hb : IntsAre bs bb) (lenw : ww.length = 4) (lenb : bb.length = 4) :
    ∀ (dp un : Nat) (gd : Option (List Code)) (cn : Str) (cs : Scope) (a : Addr) (ccd : Value) (cl : List (Str × Addr)) (outer : List Env) (A₀ : Around) (base h₀ : Heap) (L : Addr) (m : Str → Option Value) (s : Shared) (Q E : Value → Shared → Prop)
    (_ : Below A₀ base outer h₀) (_ : Fr h₀ L s.heap m) (_ : (hd.heap_39 w.params).In h₀) (_ : Top p loose mean mg mb h₀) (_ : cs.kind = .function) (_ : dp + 1 < recursionLimit) (_ : un + 8 < cLine) (_ : s.heap.IsList lw ws.toArray) (_ : s.heap.IsList lb bs.toArray) 
    (_ : ∀ (t : Tok) (h' : Heap) (tk' : Nat), Fr h₀ L h' m → (∀ b o, s.heap.get? b = some o → h'.get? b = some o) → Q (.int (purseP ww bb (upto 24)) t) { s with heap := h', toks := tk' }) ,
    wpAny (model PySem.Challenge.rw_yh0007_01.row.prog w) (ktrTop dp un gd cn cs L a ccd cl outer) (call (.ref 128) [.ref lw, .ref lb]) Q E s := by
  w_top off
  k_fill
  k_with_none
  k_with "andf" => first | exact And.left (by with_reducible assumption) | exact And.left (And.right (by with_reducible assumption)) | exact And.left (And.right (And.right (by with_reducible assumption))) | exact And.left (And.right (And.right (And.right (by with_reducible assumption)))) | exact And.left (And.right (And.right (And.right (And.right (by with_reducible assumption))))) | exact And.left (And.right (And.right (And.right (And.right (And.right (by with_reducible assumption)))))) | exact And.right (by with_reducible assumption) | exact And.right (And.right (by with_reducible assumption)) | exact And.right (And.right (And.right (by with_reducible assumption)))
  k_with "lt" => first | with_reducible assumption | exact And.left (by with_reducible assumption) | exact And.left (And.right (by with_reducible assumption)) | exact And.left (And.right (And.right (by with_reducible assumption))) | exact And.left (And.right (And.right (And.right (by with_reducible assumption)))) | exact And.left (And.right (And.right (And.right (And.right (by with_reducible assumption))))) | exact And.left (And.right (And.right (And.right (And.right (And.right (by with_reducible assumption)))))) | (refine Nat.lt_trans (by with_reducible assumption) ?_; k_extra "lt")
  k_with "ne" => first | with_reducible assumption | exact Ne.symm (by with_reducible assumption) | (refine Nat.ne_of_lt ?_; k_extra "lt") | (refine Nat.ne_of_gt ?_; k_extra "lt") | k_extra "andf" | (refine Ne.symm ?_; k_extra "andf") | (refine Nat.ne_of_lt ?_; k_extra "lt2") | (refine Nat.ne_of_gt ?_; k_extra "lt2")
  k_with "lt2" => first | exact Nat.lt_trans (And.left (by with_reducible assumption)) (by with_reducible assumption) | exact Nat.lt_trans (And.left (And.right (by with_reducible assumption))) (by with_reducible assumption) | exact Nat.lt_trans (And.left (And.right (And.right (by with_reducible assumption)))) (by with_reducible assumption) | exact Nat.lt_trans (And.left (And.right (And.right (And.right (by with_reducible assumption))))) (by with_reducible assumption) | exact Nat.lt_trans (And.left (And.right (And.right (And.right (And.right (by with_reducible assumption)))))) (by with_reducible assumption) | exact Nat.lt_trans (And.left (And.right (And.right (And.right (And.right (And.right (by with_reducible assumption))))))) (by with_reducible assumption) | exact Nat.lt_trans (And.left (And.right (And.right (And.right (And.right (And.right (And.right (by with_reducible assumption)))))))) (by with_reducible assumption) | exact Nat.lt_trans (And.left (And.right (And.right (And.right (And.right (And.right (And.right (And.right (by with_reducible assumption))))))))) (by with_reducible assumption) | exact Nat.lt_trans (And.left (And.right (And.right (And.right (And.right (And.right (And.right (And.right (And.right (by with_reducible assumption)))))))))) (by with_reducible assumption) | exact Nat.lt_trans (And.left (And.right (And.right (And.right (And.right (And.right (And.right (And.right (And.right (And.right (by with_reducible assumption))))))))))) (by with_reducible assumption)
  k_with "omega" => first | safely (k_dflt (k_extra "om")) | safely (k_dflt lia)
  k_with "om" => first | with_reducible assumption | ((with_reducible show (_ : Nat) < _); first | exact Nat.lt_succ_self _ | decide | exact ltNl (by with_reducible assumption) (by rfl) | exact ltNl (And.left (by with_reducible assumption)) (by rfl) | exact ltNl (And.right (by with_reducible assumption)) (by rfl) | k_extra "lt") | ((with_reducible show (_ : Nat) ≤ _); first | exact Nat.le_refl _ | decide | exact leNl (by with_reducible assumption) (by rfl) | exact leNl (And.left (by with_reducible assumption)) (by rfl) | exact leNl (And.right (by with_reducible assumption)) (by rfl) | exact leNl2 (by with_reducible assumption) (by rfl) | exact leNl2 (And.left (by with_reducible assumption)) (by rfl) | exact leNl2 (And.right (by with_reducible assumption)) (by rfl) | (refine Nat.le_of_lt ?_; k_extra "lt")) | ((with_reducible show (_ : Int) < _); first | decide | k_extra "andf" | exact ltIl (by with_reducible assumption) (by rfl) | exact ltIl (And.left (by with_reducible assumption)) (by rfl) | exact ltIl (And.right (by with_reducible assumption)) (by rfl) | exact loIt (by with_reducible assumption) (by rfl) | exact loIt (And.left (by with_reducible assumption)) (by rfl) | exact loIt (And.right (by with_reducible assumption)) (by rfl) | exact loP (by with_reducible assumption) | exact loP (And.left (by with_reducible assumption)) | exact loP (And.right (by with_reducible assumption)) | exact hiP (by with_reducible assumption) (by rfl) | exact hiP (And.left (by with_reducible assumption)) (by rfl) | exact hiP (And.right (by with_reducible assumption)) (by rfl)) | ((with_reducible show (_ : Int) ≤ _); first | decide | k_extra "andf" | exact leIl (by with_reducible assumption) (by rfl) | exact leIl (And.left (by with_reducible assumption)) (by rfl) | exact leIl (And.right (by with_reducible assumption)) (by rfl) | exact leIl2 (by with_reducible assumption) (by rfl) | exact leIl2 (And.left (by with_reducible assumption)) (by rfl) | exact leIl2 (And.right (by with_reducible assumption)) (by rfl) | exact loI (by with_reducible assumption) (by rfl) | exact loI (And.left (by with_reducible assumption)) (by rfl) | exact loI (And.right (by with_reducible assumption)) (by rfl) | exact Int.le_of_lt (by with_reducible assumption)) | ((with_reducible show (_ : Nat) ≠ _); k_extra "ne")
  k_with "steps to iter" => repeat' (first | (k_unfold; (try dsimp only)) | (k_end; wrow_close) | ((fail_if_success (with_reducible show wpAny _ _ (pyIter (Value.ref _)) _ _ _)); (first | walk1 | (dsimp only; walk1) | (leave1; walk_say "STEP leave1"; try dsimp only))) | fail "no step")
  k_with "enter0" => k_dflt (refine' code_def0 ?k1r1 ?k2r1 ?k3r1 ?k5r1 ?kAr1 ?kFr1 ?kKr1 ?k6r1 ?k7r1 ?k8r1 ?k9r1 ?kBr1 ?_ ?c2r1 ?c3r1 ?c4r1 ?c5r1; (case kAr1 => exact rfl); (case kFr1 => exact rfl); (case kKr1 => assumption); (case k1r1 => k_asm); (case k2r1 => k_asm); (case k3r1 => k_asm); (case k5r1 => k_asm); (case k6r1 => k_is); (case k7r1 => k_is); (case k8r1 => ktr_room); (case k9r1 => exact BindsTo.of_eq rfl); (case c5r1 => decide); (case kBr1 => exact locs rfl); (case c2r1 => exact rfl); (case c3r1 => exact rfl); (case c4r1 => exact rfl); k_whole; intro L' h' F' N' B' X' T'; (try dsimp only); (try k_fold))
  k_with "call builtin:list.pop" => (k_here; (with_reducible show wpAny _ _ (call (Value.builtin _) [Value.ref _, Value.int _ _]) _ _ _); k_dflt (refine' pop_turn ?Fr2 ?Nr2 ?ir2 ?qr2 ?ar2 ?br2 ?zr2 ?Ur2 ?_; (case Fr2 => k_asm); (case Nr2 => k_asm); (case Ur2 => k_upd); (case ir2 => first | with_reducible assumption | exact .cons _ _ (.cons _ _ (.cons _ _ (.cons _ _ .nil)))); (case qr2 => first | assumption | exact in4_all); (case ar2 => first | assumption | rfl | omega); (case br2 => first | assumption | decide); (case zr2 => first | assumption | decide); k_whole); intro h' t' F' N' hI' hQ' hL' hk0' hk1'; (try dsimp only); (try k_sweep))
  k_with "to items" => repeat' (first | (k_unfold; (try dsimp only)) | (k_end; wrow_close) | ((fail_if_success (with_reducible show ItemsRest _ _ _ _ _ _ _ _ _ _ _ _ _ _ _)); (first | (walk1; (try dsimp only)) | (dsimp only; walk1) | (leave1; walk_say "STEP leave1"; try dsimp only))) | fail "no step")
  k_with "to end" => repeat' (first | (k_unfold; (try dsimp only)) | (k_end; wrow_close) | ((fail_if_success (with_reducible show UnrEndW _ _ _ _ _ _)); (first | (walk1; (try dsimp only)) | (dsimp only; walk1) | (leave1; walk_say "STEP leave1"; try dsimp only))) | fail "no step")
  k_with "nsteps" => repeat' (first | (k_unfold; (try dsimp only)) | (k_end; wrow_close) | (walk1; (try dsimp only)) | (dsimp only; walk1) | (leave1; walk_say "STEP leave1"; try dsimp only) | fail "no step")
  intro dp un gd cn cs a ccd cl outer A₀ base h₀ L m s Q E hBelow hFr hK hTop hKind hdp hun hlw hlb hret
  refine wpAny_call ?_
  walk_at "enter0"
  walk_at "steps to iter"
  rename IsRange _ _ _ _ _ _ _ _ => r1
  rename Fr _ _ _ _ => F1
  rename News _ _ _ _ => N1
  with_unfolding_all refine iter_rangeUnr (n := 24) (by rfl) r1 (by decide) (by decide) F1 N1 ?_
  intro i1 l1
  refine range_ind (JP lw lb ww bb) ?_ ?_ ?_
  · rintro k i m1 news1 hi ⟨t1, u1, rfl⟩ R hR t2 h2 tk2 F2 N2
    clear F1 N1 r1 l1
    replace N2 := news_one N2
    walk_at "to items"
    rename _ < _ ∧ _ < _ ∧ _ < _ ∧ _ < _ => la
    rename _ < _ ∧ _ < _ ∧ _ < _ => lc
    rename _ < _ ∧ _ < _ => ld
    rename i1 < _ => le
    refine items_start (JI lw lb ww bb _) (L0 := purseP ww bb (upto i)) (F := mostP ww bb (0 + (i : Int))) ⟨4, by decide, ⟨_, _, rfl, _, _, rfl, _, _, rfl, _, _, rfl, rfl⟩, _, _, _, _, _, _, _, _, _, _, _, .cons _ _ (.cons _ _ (.cons _ _ (.cons _ _ .nil))), in4_all, rfl, (frm_eq [(Str.ofString "most", _), (Str.ofString "more", _), (Str.ofString "rest", _), (Str.ofString "guests", _), (Str.ofString "least", _), (Str.ofString "wants", _), (Str.ofString "brings", _)] ⟨rfl, rfl, rfl, rfl, rfl, rfl, rfl, trivial⟩).symm, rfl, rfl, Nat.ne_of_gt la.2.2.1, Nat.ne_of_gt lc.2.1, Nat.ne_of_gt ld.1, Nat.ne_of_lt le, Nat.ne_of_lt la.1, Nat.ne_of_lt la.2.1, Nat.ne_of_lt la.2.2.2⟩ ?turn ?done
    case turn =>
      rintro D I itI kp kt L0 FF Q3 s3 v r m3 n3 ⟨k4, hk4, hsz, us, g, nn, rest, more, most, tr, tm, tM, tl, u3, hg, hg4, hgl, rfl, rfl, hF, n1, n2, n3, n4, n5, n6, n7⟩ R3 hR3 h3 tk3 F3
      obtain ⟨k5, t5, rfl, hsz', rfl⟩ := szl_cons hsz
      obtain ⟨sz, hsz2, p1, p2, p3, p4, hF2⟩ := sz_facts hk4 hgl hF
      rw [← hsz2]
      refine AllObj.cons (fun o hc => AllObj.nil (fun N3 => ?_))
      simp only [List.cons_append, List.nil_append] at N3
      dsimp only [frm] at F3
      walk_at "to end"
      rename Fr s.heap L' _ _ => FZ
      rename News s.heap L' _ _ => NZ
      have eg : (g.eraseIdx (rest.fmod sz).toNat).length = k5 := by rw [hsz2] at *; omega
      refine UnrEndW.intro FZ NZ [_, _, (_, listOf (us.eraseIdx (rest.fmod sz).toNat).toArray (nn + 1)), _] ⟨List.Mem.head _, trivial⟩ ⟨List.Mem.tail _ (List.Mem.head _), List.Mem.tail _ (List.Mem.tail _ (List.Mem.head _)), List.Mem.tail _ (List.Mem.tail _ (List.Mem.tail _ (List.Mem.head _))), List.Mem.tail _ (List.Mem.tail _ (List.Mem.tail _ (List.Mem.tail _ (List.Mem.head _)))), trivial⟩ ?off ⟨⟨List.Mem.head _, trivial⟩, hR3 _ _ ⟨k5, by omega, hsz', _, _, _, _, _, _, _, _, _, _, _, by assumption, by assumption, eg, (frm_eq [(Str.ofString "most", _), (Str.ofString "more", _), (Str.ofString "rest", _), (Str.ofString "guests", _), (Str.ofString "least", _), (Str.ofString "wants", _), (Str.ofString "brings", _)] ⟨rfl, rfl, rfl, rfl, rfl, rfl, rfl, trivial⟩).symm, rfl, hF2, n1, n2, n3, n4, n5, n6, n7⟩⟩
      case off => exact ⟨⟨Or.inl n5, trivial⟩, ⟨Or.inl n6, trivial⟩, ⟨Or.inl (Ne.symm n1), trivial⟩, ⟨Or.inl n7, trivial⟩, trivial⟩
    case done =>
      rintro m3 n3 h3 tk3 ⟨k4, hk4, hsz, us, g, nn, rest, more, most, tr, tm, tM, tl, u3, hg, hg4, hgl, rfl, rfl, hF, _⟩ F3 N3
      obtain rfl := szl_nil hsz
      dsimp only [frm] at F3
      have hF' : most = mostP ww bb (0 + (i : Int)) := hF
      subst hF'
      dsimp only
      walk_at "nsteps"
      refine hR _ _ (jp_of rfl rfl rfl ?_)
      rw [upto, purseP_snoc]
      rfl
  · rintro m1 news1 h2 tk2 ⟨t1, u1, rfl⟩ F2 N2
    clear F1 N1 r1 l1
    dsimp only
    have keep := F2.keep
    walk_at "nsteps"
    exact hret _ _ _ (by assumption) keep
  · exact jp_of rfl rfl rfl rfl
end Mine
end
section -- C9
open PySem PySem.W PySem.Calls PyProof.Rows PySem.Spec
namespace Mine

noncomputable def langS : Value → Str
  | .str x _ => x
  | _ => Str.ofString "C"
noncomputable def nameS (v1 v2 : Value) : Str := match v2 with
  | .str y _ => langS v1 ++ Str.ofString "." ++ y
  | _ => langS v1
noncomputable def TextOrNone (v : Value) : Prop := v = .none ∨ ∃ (x : Str) (t : Tok), v = .str x t ∧ x.length < 1000
theorem C_name (w : World) (p : Program) (loose : List Str) (mean : ExcName → Option Value) (mg mb : Str → Option Value) (news : List (Addr × Obj)) (q : Addr) (v1 v2 : Value) (h1 : TextOrNone v1) (h2 : TextOrNone v2) :
   CbClaim PySem.Challenge.rw_yh0007_01.row.prog w (hd.heap_39 w.params) p loose mean mg mb 35 ((q, { cls := .type "tuple", data := Data.seq #[v1, v2] }) :: news) [] (True) [.ref q] (fun t => .str (nameS v1 v2) t) := by
  w_top off
  k_fill
  k_with_none
  k_with "andf" => first | exact And.left (by with_reducible assumption) | exact And.left (And.right (by with_reducible assumption)) | exact And.left (And.right (And.right (by with_reducible assumption))) | exact And.left (And.right (And.right (And.right (by with_reducible assumption)))) | exact And.left (And.right (And.right (And.right (And.right (by with_reducible assumption))))) | exact And.left (And.right (And.right (And.right (And.right (And.right (by with_reducible assumption)))))) | exact And.right (by with_reducible assumption) | exact And.right (And.right (by with_reducible assumption)) | exact And.right (And.right (And.right (by with_reducible assumption)))
  k_with "lt" => first | with_reducible assumption | exact And.left (by with_reducible assumption) | exact And.left (And.right (by with_reducible assumption)) | exact And.left (And.right (And.right (by with_reducible assumption))) | exact And.left (And.right (And.right (And.right (by with_reducible assumption)))) | exact And.left (And.right (And.right (And.right (And.right (by with_reducible assumption))))) | exact And.left (And.right (And.right (And.right (And.right (And.right (by with_reducible assumption)))))) | (refine Nat.lt_trans (by with_reducible assumption) ?_; k_extra "lt")
  k_with "ne" => first | with_reducible assumption | exact Ne.symm (by with_reducible assumption) | (refine Nat.ne_of_lt ?_; k_extra "lt") | (refine Nat.ne_of_gt ?_; k_extra "lt") | k_extra "andf" | (refine Ne.symm ?_; k_extra "andf") | (refine Nat.ne_of_lt ?_; k_extra "lt2") | (refine Nat.ne_of_gt ?_; k_extra "lt2")
  k_with "lt2" => first | exact Nat.lt_trans (And.left (by with_reducible assumption)) (by with_reducible assumption) | exact Nat.lt_trans (And.left (And.right (by with_reducible assumption))) (by with_reducible assumption) | exact Nat.lt_trans (And.left (And.right (And.right (by with_reducible assumption)))) (by with_reducible assumption) | exact Nat.lt_trans (And.left (And.right (And.right (And.right (by with_reducible assumption))))) (by with_reducible assumption) | exact Nat.lt_trans (And.left (And.right (And.right (And.right (And.right (by with_reducible assumption)))))) (by with_reducible assumption) | exact Nat.lt_trans (And.left (And.right (And.right (And.right (And.right (And.right (by with_reducible assumption))))))) (by with_reducible assumption) | exact Nat.lt_trans (And.left (And.right (And.right (And.right (And.right (And.right (And.right (by with_reducible assumption)))))))) (by with_reducible assumption) | exact Nat.lt_trans (And.left (And.right (And.right (And.right (And.right (And.right (And.right (And.right (by with_reducible assumption))))))))) (by with_reducible assumption) | exact Nat.lt_trans (And.left (And.right (And.right (And.right (And.right (And.right (And.right (And.right (And.right (by with_reducible assumption)))))))))) (by with_reducible assumption) | exact Nat.lt_trans (And.left (And.right (And.right (And.right (And.right (And.right (And.right (And.right (And.right (And.right (by with_reducible assumption))))))))))) (by with_reducible assumption)
  k_with "omega" => first | safely (k_dflt (k_extra "om")) | safely (k_dflt lia)
  k_with "om" => first | with_reducible assumption | ((with_reducible show (_ : Nat) < _); first | exact Nat.lt_succ_self _ | decide | exact ltNl (by with_reducible assumption) (by rfl) | exact ltNl (And.left (by with_reducible assumption)) (by rfl) | exact ltNl (And.right (by with_reducible assumption)) (by rfl) | k_extra "lt") | ((with_reducible show (_ : Nat) ≤ _); first | exact Nat.le_refl _ | decide | exact leNl (by with_reducible assumption) (by rfl) | exact leNl (And.left (by with_reducible assumption)) (by rfl) | exact leNl (And.right (by with_reducible assumption)) (by rfl) | exact leNl2 (by with_reducible assumption) (by rfl) | exact leNl2 (And.left (by with_reducible assumption)) (by rfl) | exact leNl2 (And.right (by with_reducible assumption)) (by rfl) | (refine Nat.le_of_lt ?_; k_extra "lt")) | ((with_reducible show (_ : Int) < _); first | decide | k_extra "andf" | exact ltIl (by with_reducible assumption) (by rfl) | exact ltIl (And.left (by with_reducible assumption)) (by rfl) | exact ltIl (And.right (by with_reducible assumption)) (by rfl) | exact loIt (by with_reducible assumption) (by rfl) | exact loIt (And.left (by with_reducible assumption)) (by rfl) | exact loIt (And.right (by with_reducible assumption)) (by rfl) | exact loP (by with_reducible assumption) | exact loP (And.left (by with_reducible assumption)) | exact loP (And.right (by with_reducible assumption)) | exact hiP (by with_reducible assumption) (by rfl) | exact hiP (And.left (by with_reducible assumption)) (by rfl) | exact hiP (And.right (by with_reducible assumption)) (by rfl)) | ((with_reducible show (_ : Int) ≤ _); first | decide | k_extra "andf" | exact leIl (by with_reducible assumption) (by rfl) | exact leIl (And.left (by with_reducible assumption)) (by rfl) | exact leIl (And.right (by with_reducible assumption)) (by rfl) | exact leIl2 (by with_reducible assumption) (by rfl) | exact leIl2 (And.left (by with_reducible assumption)) (by rfl) | exact leIl2 (And.right (by with_reducible assumption)) (by rfl) | exact loI (by with_reducible assumption) (by rfl) | exact loI (And.left (by with_reducible assumption)) (by rfl) | exact loI (And.right (by with_reducible assumption)) (by rfl) | exact Int.le_of_lt (by with_reducible assumption)) | ((with_reducible show (_ : Nat) ≠ _); k_extra "ne")
  unfold CbClaim; dsimp only [CbLists, CbRet]
  intros; rename_i hret
  refine wpAny_call ?_
  k_dflt cell_enter
  k_steps
  rcases h1 with rfl | ⟨x, t1, rfl, hx⟩
  all_goals k_steps
  all_goals rcases h2 with rfl | ⟨y, t2, rfl, hy⟩
  all_goals k_steps
  all_goals (refine' cb_retS hret ?e1 ?e2 ?e3; (case e2 => k_asm); (case e3 => k_asm); (case e1 => rfl))
end Mine
end
section -- LawBase
namespace Mine
open PySem PySem.W PySem.Calls PyProof.Rows PySem.Spec
noncomputable def lastOf : List Stmt → Stmt
  | [] => .Pass ⟨0, 0, 0, 0⟩
  | [x] => x
  | _ :: r => lastOf r
noncomputable def bodyOf : Stmt → List Stmt
  | .FunctionDef _ _ b .. => b
  | .For _ _ b .. => b
  | _ => []
noncomputable def scopeOf : Stmt → Scope
  | .FunctionDef _ _ _ _ _ _ s .. => s
  | _ => { kind := .module, names := [], isGenerator := false, isCoroutine := false, more := [] }
noncomputable def lawFn : Stmt := lastOf PySem.Challenge.pw_yh0007_01.main.body
noncomputable def lawPart (i n : Nat) : List Stmt := ((bodyOf lawFn).drop i).take n
noncomputable def lawFor (i : Nat) : List Stmt := bodyOf (lastOf (lawPart i 1))
noncomputable abbrev lawEnv (L fa : Addr) : Env := envOfC (Str.ofString "law") (scopeOf lawFn) L fa (.ref 132)
noncomputable abbrev lawA (L fa : Addr) : Around := callerA.deeper (lawEnv L fa)
end Mine
end
section -- LD0
open PySem PySem.W PySem.Calls PyProof.Rows PySem.Spec
namespace Mine
structure Box (P : Prop) : Prop where
  out : P
noncomputable def Hold (P : Prop) : Prop := P
noncomputable def forPart (i j n : Nat) : List Stmt := ((lawFor i).drop j).take n
noncomputable def RefStep (k way b d : Int) (I : Nat) (rs rs' : Array Value) (es es' : List (Addr × Obj)) : Prop :=
  (way ≤ 12 ∧ rs' = rs ∧ es' = es) ∨ (12 < way ∧ ∃ (a : Nat) (ta tb : Tok), rs' = rs.push (.ref a) ∧ es' = (a, { cls := .type "tuple", data := Data.seq #[.int k ta, .str (giftS way b d) tb] }) :: es ∧ I < a)
noncomputable def ZoneIs (n : Int) (zv : Value) : Prop := (n.fmod 2 = 1 ∧ zv = .none) ∨ (n.fmod 2 = 0 ∧ ∃ t, zv = .str (Str.ofString (toString n)) t)
noncomputable def langQ (n br : Int) : Str := if br < n then Str.ofString "a" ++ Str.ofString (toString (9 - br)) else if br = n then Str.ofString "C" else Str.ofString "B" ++ Str.ofString (toString n)
noncomputable def nmS (n br : Int) : Str := if n.fmod 2 = 1 then langQ n br else langQ n br ++ Str.ofString "." ++ Str.ofString (toString n)
noncomputable def langV (n br : Int) : Value := if br < n then .str (Str.ofString "a" ++ Str.ofString (toString (9 - br))) 0 else if br = n then .none else .str (Str.ofString "B" ++ Str.ofString (toString n)) 0
theorem execs_splitB {prog : Program} {w : World} {A : Around} {E : Value → Shared → Prop} {env : Env} {Q : Flow → Shared → Prop} (a b : List Stmt) {s : Shared} (P : Shared → Prop)
    (h : Box (wpAny (model prog w) A (execs a env) (fun f s' => Hold (f = .next ∧ P s')) (fun _ _ => False) s)) (k : ∀ s', P s' → Box (wpAny (model prog w) A (execs b env) Q E s')) :
    Box (wpAny (model prog w) A (execs (a ++ b) env) Q E s) := ⟨execs_split a b P h.out fun s' z => (k s' z).out⟩
theorem box_mono {α : Type} {M : Model} {A : Around} {t : Sem α} {Q Q' : α → Shared → Prop} {E : Value → Shared → Prop} {s : Shared} (h : Box (wpAny M A t Q E s)) (hQ : ∀ a s, Q a s → Q' a s) : Box (wpAny M A t Q' E s) := ⟨wpAny_mono h.out hQ fun _ _ e => e⟩
theorem head_sub {a : Addr × Obj} {l : List (Addr × Obj)} (h : a ∈ l) : SubL (a :: l) l := ⟨h, subL_tail fun _ h => h⟩
theorem short_dig (c : String) (hc : (Str.ofString c).length ≤ 1) (m : Int) (h0 : 0 ≤ m) (h9 : m < 10) : (Str.ofString c ++ Str.ofString (toString m)).length < 1000 := by
  have hh : (Str.ofString (toString m)).length ≤ 1 := fin_all (P := fun m => (Str.ofString (toString m)).length ≤ 1) 10 h0 h9 (by decide)
  show (_ ++ _ : Array _).size < 1000
  rw [Array.size_append]
  have h1 : (Str.ofString c).length = (Str.ofString c).cps.size := rfl
  have h2 : (Str.ofString (toString m)).length = (Str.ofString (toString m)).cps.size := rfl
  omega
end Mine
end
section -- PureK
namespace Mine
open PySem PySem.W PySem.Calls PyProof.Rows PySem.Spec
inductive TxtsAre : List Value → List Str → Prop
  | nil : TxtsAre [] []
  | cons (x : Str) (t : Tok) {vs xs} : TxtsAre vs xs → TxtsAre (.str x t :: vs) (x :: xs)
theorem ints_snoc {n : Int} {t : Tok} : ∀ {vs : List Value} {ns : List Int}, IntsAre vs ns → IntsAre (vs ++ [.int n t]) (ns ++ [n])
  | _, _, .nil => .cons n t .nil
  | _, _, .cons a b r => .cons a b (ints_snoc r)
theorem txts_snoc {n : Str} {t : Tok} : ∀ {vs : List Value} {ns : List Str}, TxtsAre vs ns → TxtsAre (vs ++ [.str n t]) (ns ++ [n])
  | _, _, .nil => .cons n t .nil
  | _, _, .cons a b r => .cons a b (txts_snoc r)
theorem ints_push {n : Int} {t : Tok} {vs : Array Value} {ns : List Int} (h : IntsAre vs.toList ns) : IntsAre (vs.push (.int n t)).toList (ns ++ [n]) := by
  rw [Array.toList_push]; exact ints_snoc h
theorem txts_push {n : Str} {t : Tok} {vs : Array Value} {ns : List Str} (h : TxtsAre vs.toList ns) : TxtsAre (vs.push (.str n t)).toList (ns ++ [n]) := by
  rw [Array.toList_push]; exact txts_snoc h
theorem TxtsAre.len : ∀ {vs : List Value} {ns : List Str}, TxtsAre vs ns → vs.length = ns.length
  | _, _, .nil => rfl
  | _, _, .cons _ _ r => by simp [r.len]
noncomputable abbrev tupO (k : Int) (ta : Tok) (x : Str) (tb : Tok) : Obj := { cls := .type "tuple", data := Data.seq #[.int k ta, .str x tb] }
inductive Refs (es : List (Addr × Obj)) : List Value → List PyData → Prop
  | nil : Refs es [] []
  | cons (a : Addr) (k : Int) (ta : Tok) (x : Str) (tb : Tok) {vs ds} : (a, tupO k ta x tb) ∈ es → Refs es vs ds → Refs es (.ref a :: vs) (.tuple [.int k, .str x] :: ds)
theorem Refs.grow {es es' : List (Addr × Obj)} (h : ∀ p ∈ es, p ∈ es') : ∀ {vs : List Value} {ds : List PyData}, Refs es vs ds → Refs es' vs ds
  | _, _, .nil => .nil
  | _, _, .cons a k ta x tb m r => .cons a k ta x tb (h _ m) (r.grow h)
theorem Refs.snoc {es : List (Addr × Obj)} {a : Addr} {k : Int} {ta : Tok} {x : Str} {tb : Tok} (m : (a, tupO k ta x tb) ∈ es) : ∀ {vs : List Value} {ds : List PyData}, Refs es vs ds → Refs es (vs ++ [.ref a]) (ds ++ [.tuple [.int k, .str x]])
  | _, _, .nil => .cons a k ta x tb m .nil
  | _, _, .cons b k' ta' x' tb' m' r => .cons b k' ta' x' tb' m' (r.snoc m)
theorem Refs.reads {h₀ h : Heap} {L : Addr} {news es : List (Addr × Obj)} (N : News h₀ L h news) (sub : ∀ p ∈ es, p ∈ news) : ∀ {vs : List Value} {ds : List PyData}, Refs es vs ds → ∃ as, ReadsAll h vs ds as
  | _, _, .nil => ⟨_, .nil⟩
  | _, _, .cons a k ta x tb m r => by
    obtain ⟨as, ih⟩ := r.reads N sub
    exact ⟨_, .cons (reads_tuple_at (N _ (sub _ m)).1 rfl rfl (.cons (.int _ _) (.cons (.str _ _) .nil))) ih⟩
theorem TxtsAre.reads {h : Heap} : ∀ {vs : List Value} {xs : List Str}, TxtsAre vs xs → ReadsAll h vs (xs.map PyData.str) []
  | _, _, .nil => .nil
  | _, _, .cons x t r => readsAll_cons_val (.str x t) r.reads
noncomputable def wantC (c : Int) : Int := c.fmod 6
noncomputable def wayC (c : Int) : Int := (c.fdiv 144).fmod 16
noncomputable def bC (c : Int) : Int := (c.fdiv 6).fmod 6
noncomputable def dC (c : Int) : Int := (c.fdiv 2304).fmod 2
noncomputable def bringC (c : Int) : Int := bringI (wayC c) (bC c)
noncomputable def cAt (cs : List Int) (k : Int) : Int := cs.getD k.toNat 0
noncomputable def refD (cs : List Int) : Nat → List PyData
  | 0 => []
  | i + 1 => if wayC (cAt cs (0 + (i : Int))) ≤ 12 then refD cs i else refD cs i ++ [.tuple [.int (0 + (i : Int)), .str (giftS (wayC (cAt cs (0 + (i : Int)))) (bC (cAt cs (0 + (i : Int)))) (dC (cAt cs (0 + (i : Int)))))]]
theorem refD_step {cs : List Int} {i : Nat} {I : Nat} {rs rs' : Array Value} {es es' : List (Addr × Obj)}
    (R : RefStep (0 + (i : Int)) (wayC (cAt cs (0 + (i : Int)))) (bC (cAt cs (0 + (i : Int)))) (dC (cAt cs (0 + (i : Int)))) I rs rs' es es') (h : Refs es rs.toList (refD cs i)) (hs : rs.size ≤ i) : Refs es' rs'.toList (refD cs (i + 1)) ∧ rs'.size ≤ i + 1 := by
  rcases R with ⟨hw, rfl, rfl⟩ | ⟨hw, a, ta, tb, rfl, rfl, ha⟩
  · refine ⟨?_, by omega⟩
    rw [refD, if_pos hw]; exact h
  · refine ⟨?_, by rw [Array.size_push]; omega⟩
    rw [refD, if_neg (by omega), Array.toList_push]
    exact (h.grow fun p hp => .tail _ hp).snoc (.head _)
noncomputable def led0 (aH aP aG aN aR D L : Nat) (o3 o4 : Obj) (ys : List Value) (hs ps gs ns rs : Array Value) (nH nP nG nN nR : Nat) (es : List (Addr × Obj)) : List (Addr × Obj) :=
  (aR, listOf rs nR) :: (aN, listOf ns nN) :: (aG, listOf gs nG) :: (aP, listOf ps nP) :: (aH, listOf hs nH) :: (D, LCg.lst ys) :: (L + 1 + 1 + 1 + 1, o4) :: (L + 1 + 1 + 1, o3) :: (130, tabObj #[]) :: es
structure Facts1 (cs : List Int) (i : Nat) (I : Nat) (hs ps gs ns rs : Array Value) (es : List (Addr × Obj)) : Prop where
  h1 : IntsAre hs.toList (upto i)
  h2 : IntsAre ps.toList ((upto i).map fun k => wantC (cAt cs k))
  h3 : TxtsAre gs.toList ((upto i).map fun k => blanks (bringC (cAt cs k)))
  h4 : TxtsAre ns.toList ((upto i).map fun k => nmS (wantC (cAt cs k)) (bringC (cAt cs k)))
  h5 : Refs es rs.toList (refD cs i)
  h6 : rs.size ≤ i
  h7 : ∀ p ∈ es, @LT.lt Nat _ I p.1
theorem ints_nil {vs : List Value} (h : IntsAre vs []) : vs = [] := by cases h; rfl
theorem txts_nil {vs : List Value} (h : TxtsAre vs []) : vs = [] := by cases h; rfl
theorem ints_e {R : Prop} {vs : List Value} {c : Int} {cs : List Int} (h : IntsAre vs (c :: cs)) (k : ∀ t r, vs = .int c t :: r → IntsAre r cs → R) : R := by
  cases h with | cons _ t h => exact k t _ rfl h
theorem txts_e {R : Prop} {vs : List Value} {c : Str} {cs : List Str} (h : TxtsAre vs (c :: cs)) (k : ∀ t r, vs = .str c t :: r → TxtsAre r cs → R) : R := by
  cases h with | cons _ t h => exact k t _ rfl h
theorem len_e {R : Prop} {l : List Int} {n : Nat} (h : l.length = n + 1) (k : ∀ a r, l = a :: r → r.length = n → R) : R := by
  cases l with | nil => cases h | cons a r => exact k a r rfl (Nat.succ.inj h)
theorem eq5 {α : Type} {l r0 r1 r2 r3 r4 : List α} {a b c d e : α} (h : l = a :: r0) (h0 : r0 = b :: r1) (h1 : r1 = c :: r2) (h2 : r2 = d :: r3) (h3 : r3 = e :: r4) (h4 : r4 = []) : l = [a, b, c, d, e] := by
  rw [h, h0, h1, h2, h3, h4]
theorem eq4 {α : Type} {l r0 r1 r2 r3 : List α} {a b c d : α} (h : l = a :: r0) (h0 : r0 = b :: r1) (h1 : r1 = c :: r2) (h2 : r2 = d :: r3) (h3 : r3 = []) : l = [a, b, c, d] := by
  rw [h, h0, h1, h2, h3]
theorem upto_len : ∀ i, (upto i).length = i
  | 0 => rfl
  | i + 1 => by rw [upto, List.length_append, upto_len i]; rfl
theorem IntsAre.len' : ∀ {vs : List Value} {ns : List Int}, IntsAre vs ns → vs.length = ns.length
  | _, _, .nil => rfl
  | _, _, .cons _ _ r => by simp [IntsAre.len' r]
theorem Facts1.sizes {cs : List Int} {i : Nat} {I : Nat} {hs ps gs ns rs : Array Value} {es : List (Addr × Obj)} (f : Facts1 cs i I hs ps gs ns rs es) : hs.size = i ∧ ps.size = i ∧ gs.size = i ∧ ns.size = i := by
  have e1 := IntsAre.len' f.h1; have e2 := IntsAre.len' f.h2; have e3 := f.h3.len; have e4 := f.h4.len
  simp only [List.length_map, upto_len, Array.length_toList] at e1 e2 e3 e4
  exact ⟨e1, e2, e3, e4⟩
theorem Facts1.step {cs : List Int} {i : Nat} {I : Nat} {hs ps gs ns rs rs' : Array Value} {es es' : List (Addr × Obj)} {t1 t2 t3 t4 : Tok} (f : Facts1 cs i I hs ps gs ns rs es)
    (R : RefStep (0 + (i : Int)) (wayC (cAt cs (0 + (i : Int)))) (bC (cAt cs (0 + (i : Int)))) (dC (cAt cs (0 + (i : Int)))) I rs rs' es es') :
    Facts1 cs (i + 1) I (hs.push (.int (0 + (i : Int)) t1)) (ps.push (.int (wantC (cAt cs (0 + (i : Int)))) t2)) (gs.push (.str (blanks (bringC (cAt cs (0 + (i : Int))))) t3))
      (ns.push (.str (nmS (wantC (cAt cs (0 + (i : Int)))) (bringC (cAt cs (0 + (i : Int))))) t4)) rs' es' where
  h1 := ints_push f.h1
  h2 := by rw [upto, List.map_append]; exact ints_push f.h2
  h3 := by rw [upto, List.map_append]; exact txts_push f.h3
  h4 := by rw [upto, List.map_append]; exact txts_push f.h4
  h5 := (refD_step R f.h5 f.h6).1
  h6 := (refD_step R f.h5 f.h6).2
  h7 := by
    rcases R with ⟨_, _, rfl⟩ | ⟨_, a, ta, tb, _, rfl, ha⟩
    · exact f.h7
    · intro p hp
      rcases List.mem_cons.mp hp with rfl | hp
      · exact ha
      · exact f.h7 p hp
theorem facts0 (cs : List Int) (I : Nat) : Facts1 cs 0 I #[] #[] #[] #[] #[] [] :=
  ⟨.nil, .nil, .nil, .nil, .nil, by simp, fun _ h => absurd h (List.not_mem_nil)⟩
end Mine
end
local macro_rules | `(tactic| k_subL) => `(tactic| (refine Mine.subL_tail ?_; intro _ hp; (repeat' apply List.mem_cons_of_mem); exact hp))
section -- LA
open PySem PySem.W PySem.Calls PyProof.Rows PySem.Spec
namespace Mine
local macro_rules | `(tactic| k_all) => `(tactic| exact off_tail (by assumption) (by omega))
theorem turnA (w : World) (p : Program) (loose : List Str) (mean : ExcName → Option Value) (mg mb : Str → Option Value) (L fa : Nat) (h₀ : Heap) (s : Shared) :
    Below callerA h₀ [] h₀ → (hd.heap_39 w.params).In h₀ → Top p loose mean mg mb h₀ →
    ∀ (I aH aP aG aN aR D : Nat) (it o3 o4 : Obj) (es : List (Addr × Obj)) (hs ps gs ns rs : Array Value) (nH nP nG nN nR : Nat) (ys : List Value) (cs : List Int) (tH tk : Tok) (k : Int) (vI vS : Value) (u : Str → Option Value) (h : Heap), o3.data = .cell (some (.ref D)) → o4.data = .cell (some (.ref aN)) → 130 < L → (L + 1 + 1 + 1 + 1 ≠ D ∧ L + 1 + 1 + 1 ≠ D ∧ 130 ≠ D) → (D < aH ∧ L + 1 + 1 + 1 + 1 < aH) → aH < aP → aP < aG → aG < aN → aN < aR → aR < I →
      (∀ p ∈ es, @LT.lt Nat _ I p.1) → hs.size < 5 → ps.size < 5 → IntsAre ys cs → cs.length = 5 → 0 ≤ k → k < 4 →
      Fr h₀ L h (frm [(Str.ofString "k", .int k tk), (Str.ofString "hosts", .ref aH), (Str.ofString "ports", .ref aP), (Str.ofString "gifts", .ref aG), (Str.ofString "refused", .ref aR), (Str.ofString "ink", vI), (Str.ofString "start", vS)] u) → News h₀ L h ([(I, it), (aR, listOf rs nR), (aN, listOf ns nN), (aG, listOf gs nG), (aP, listOf ps nP), (aH, listOf hs nH), (D, LCg.lst ys), (L + 1 + 1 + 1 + 1, o4), (L + 1 + 1 + 1, o3), (130, tabObj #[])] ++ es) →
      Box (wpAny (model PySem.Challenge.rw_yh0007_01.row.prog w) (lawA L fa) (execs (forPart 6 0 3) (lawEnv L fa)) (fun f s' => Hold (f = .next ∧ ∃ h' tk' u' t1 t2, s' = { s with heap := h', toks := tk' } ∧ Fr h₀ L h' (frm [(Str.ofString "k", .int k tk), (Str.ofString "hosts", .ref aH), (Str.ofString "ports", .ref aP), (Str.ofString "gifts", .ref aG), (Str.ofString "refused", .ref aR), (Str.ofString "ink", vI), (Str.ofString "start", vS), (Str.ofString "port", .int ((cs.getD k.toNat 0).fmod 6) t2)] u') ∧ News h₀ L h' ([(I, it), (aR, listOf rs nR), (aN, listOf ns nN), (aG, listOf gs nG), (aP, listOf (ps.push (.int ((cs.getD k.toNat 0).fmod 6) t2)) (nP + 1)), (aH, listOf (hs.push (.int k t1)) (nH + 1)), (D, LCg.lst ys), (L + 1 + 1 + 1 + 1, o4), (L + 1 + 1 + 1, o3), (130, tabObj #[])] ++ es))) (fun _ _ => False) { s with heap := h, toks := tH }) := by
  w_top off
  k_fill
  k_with_none
  k_with "andf" => first | exact And.left (by with_reducible assumption) | exact And.left (And.right (by with_reducible assumption)) | exact And.left (And.right (And.right (by with_reducible assumption))) | exact And.left (And.right (And.right (And.right (by with_reducible assumption)))) | exact And.left (And.right (And.right (And.right (And.right (by with_reducible assumption))))) | exact And.left (And.right (And.right (And.right (And.right (And.right (by with_reducible assumption)))))) | exact And.right (by with_reducible assumption) | exact And.right (And.right (by with_reducible assumption)) | exact And.right (And.right (And.right (by with_reducible assumption)))
  k_with "lt" => first | with_reducible assumption | exact And.left (by with_reducible assumption) | exact And.left (And.right (by with_reducible assumption)) | exact And.left (And.right (And.right (by with_reducible assumption))) | exact And.left (And.right (And.right (And.right (by with_reducible assumption)))) | exact And.left (And.right (And.right (And.right (And.right (by with_reducible assumption))))) | exact And.left (And.right (And.right (And.right (And.right (And.right (by with_reducible assumption)))))) | (refine Nat.lt_trans (by with_reducible assumption) ?_; k_extra "lt")
  k_with "ne" => first | with_reducible assumption | exact Ne.symm (by with_reducible assumption) | (refine Nat.ne_of_lt ?_; k_extra "lt") | (refine Nat.ne_of_gt ?_; k_extra "lt") | k_extra "andf" | (refine Ne.symm ?_; k_extra "andf") | (refine Nat.ne_of_lt ?_; k_extra "lt2") | (refine Nat.ne_of_gt ?_; k_extra "lt2")
  k_with "lt2" => first | exact Nat.lt_trans (And.left (by with_reducible assumption)) (by with_reducible assumption) | exact Nat.lt_trans (And.left (And.right (by with_reducible assumption))) (by with_reducible assumption) | exact Nat.lt_trans (And.left (And.right (And.right (by with_reducible assumption)))) (by with_reducible assumption) | exact Nat.lt_trans (And.left (And.right (And.right (And.right (by with_reducible assumption))))) (by with_reducible assumption) | exact Nat.lt_trans (And.left (And.right (And.right (And.right (And.right (by with_reducible assumption)))))) (by with_reducible assumption) | exact Nat.lt_trans (And.left (And.right (And.right (And.right (And.right (And.right (by with_reducible assumption))))))) (by with_reducible assumption) | exact Nat.lt_trans (And.left (And.right (And.right (And.right (And.right (And.right (And.right (by with_reducible assumption)))))))) (by with_reducible assumption) | exact Nat.lt_trans (And.left (And.right (And.right (And.right (And.right (And.right (And.right (And.right (by with_reducible assumption))))))))) (by with_reducible assumption) | exact Nat.lt_trans (And.left (And.right (And.right (And.right (And.right (And.right (And.right (And.right (And.right (by with_reducible assumption)))))))))) (by with_reducible assumption) | exact Nat.lt_trans (And.left (And.right (And.right (And.right (And.right (And.right (And.right (And.right (And.right (And.right (by with_reducible assumption))))))))))) (by with_reducible assumption)
  k_with "omega" => first | safely (k_dflt (k_extra "om")) | safely (k_dflt lia)
  k_with "om" => first | with_reducible assumption | ((with_reducible show (_ : Nat) < _); first | exact Nat.lt_succ_self _ | decide | exact ltNl (by with_reducible assumption) (by rfl) | exact ltNl (And.left (by with_reducible assumption)) (by rfl) | exact ltNl (And.right (by with_reducible assumption)) (by rfl) | k_extra "lt") | ((with_reducible show (_ : Nat) ≤ _); first | exact Nat.le_refl _ | decide | exact leNl (by with_reducible assumption) (by rfl) | exact leNl (And.left (by with_reducible assumption)) (by rfl) | exact leNl (And.right (by with_reducible assumption)) (by rfl) | exact leNl2 (by with_reducible assumption) (by rfl) | exact leNl2 (And.left (by with_reducible assumption)) (by rfl) | exact leNl2 (And.right (by with_reducible assumption)) (by rfl) | (refine Nat.le_of_lt ?_; k_extra "lt")) | ((with_reducible show (_ : Int) < _); first | decide | k_extra "andf" | exact ltIl (by with_reducible assumption) (by rfl) | exact ltIl (And.left (by with_reducible assumption)) (by rfl) | exact ltIl (And.right (by with_reducible assumption)) (by rfl) | exact loIt (by with_reducible assumption) (by rfl) | exact loIt (And.left (by with_reducible assumption)) (by rfl) | exact loIt (And.right (by with_reducible assumption)) (by rfl) | exact loP (by with_reducible assumption) | exact loP (And.left (by with_reducible assumption)) | exact loP (And.right (by with_reducible assumption)) | exact hiP (by with_reducible assumption) (by rfl) | exact hiP (And.left (by with_reducible assumption)) (by rfl) | exact hiP (And.right (by with_reducible assumption)) (by rfl)) | ((with_reducible show (_ : Int) ≤ _); first | decide | k_extra "andf" | exact leIl (by with_reducible assumption) (by rfl) | exact leIl (And.left (by with_reducible assumption)) (by rfl) | exact leIl (And.right (by with_reducible assumption)) (by rfl) | exact leIl2 (by with_reducible assumption) (by rfl) | exact leIl2 (And.left (by with_reducible assumption)) (by rfl) | exact leIl2 (And.right (by with_reducible assumption)) (by rfl) | exact loI (by with_reducible assumption) (by rfl) | exact loI (And.left (by with_reducible assumption)) (by rfl) | exact loI (And.right (by with_reducible assumption)) (by rfl) | exact Int.le_of_lt (by with_reducible assumption)) | ((with_reducible show (_ : Nat) ≠ _); k_extra "ne")
  k_with "call builtin:list.append" => (k_here; (with_reducible show wpAny _ _ (call (Value.builtin _) [Value.ref _, _]) _ _ _); k_dflt (refine' append_K ?k1r0 ?k2r0 ?k3r0 ?_ ?zr0; (case k1r0 => k_asm); (case k2r0 => k_asm); (case k3r0 => k_upd); (case zr0 => (simp only [sizeLine_eq, Array.size_push]; omega)); k_whole); intro h' F' N'; (try k_sweep))
  k_with "call ref" => (k_here; (with_reducible show wpAny _ _ (call (Value.ref 114) [Value.int _ _]) _ _ _); k_dflt (refine' C_wish _ _ _ _ _ _ _ _ _  _ _ _ _ _ _ _ _ _ _ _ _ _ _ _ _ _ ?k1r1 ?k2r1 ?k3r1 ?k4r1 ?k5r1 ?kKr1 trivial ?kdr1 ?kur1 ?_; (case k1r1 => k_asm); (case k2r1 => k_asm); (case k3r1 => k_asm); (case k4r1 => k_asm); (case k5r1 => k_asm); (case kKr1 => exact rfl); (case kdr1 => ktr_room); (case kur1 => ktr_units); intro t9 h9 tk9 F9 N9; (try dsimp only); (try k_sweep)))
  k_with "call ref" => (k_here; (with_reducible show wpAny _ _ (call (Value.ref 121) [Value.int _ _]) _ _ _); k_dflt (refine' C_gift _ _ _ _ _ _ _ _ _  _ _ _ _ _ _ _ _ _ _ _ _ _ _ _ _ _ ?k1r2 ?k2r2 ?k3r2 ?k4r2 ?k5r2 ?kKr2 trivial ?kdr2 ?kur2 ?_; (case k1r2 => k_asm); (case k2r2 => k_asm); (case k3r2 => k_asm); (case k4r2 => k_asm); (case k5r2 => k_asm); (case kKr2 => exact rfl); (case kdr2 => ktr_room); (case kur2 => ktr_units); intro t9 h9 tk9 F9 N9; (try dsimp only); (try k_sweep)))
  k_with "call ref" => (k_here; (with_reducible show wpAny _ _ (call (Value.ref 79) [Value.str _ _, Value.ref _]) _ _ _); k_dflt (refine' C_229 _ _ _ _ _ _ _ _ _ _ _ _ _ _ (wish_p229 _) _ _ _ _ _ _ _ _ _ _ _ _ _ _ _ _ _ ?k1r3 ?k2r3 ?k3r3 ?k4r3 ?k5r3 ?kKr3 ?kdr3 ?kur3 ?_; (case k1r3 => k_asm); (case k2r3 => k_asm); (case k3r3 => k_asm); (case k4r3 => k_asm); (case k5r3 => k_asm); (case kKr3 => exact rfl); (case kdr3 => ktr_room); (case kur3 => ktr_units); intro q9 t9 h9 tk9 F9 N9 l1; (try k_lt l1); (try dsimp only); (try k_sweep)))
  k_with "steps to 257" => repeat' (first | (k_unfold; (try dsimp only)) | (k_end; wrow_close) | ((fail_if_success (with_reducible show wpAny _ _ (call (Value.ref 86) _) _ _ _)); (first | walk1 | (dsimp only; walk1) | (leave1; walk_say "STEP leave1"; try dsimp only))) | fail "no step")
  k_with "call ref" => (k_here; (with_reducible show wpAny _ _ (call (Value.ref 86) [Value.str (giftS _ _ _) _]) _ _ _); k_dflt (refine' C_257g _ _ _ _ _ _ _ _ _ _ _ ?q1r5 ?q2r5 ?q3r5 _ _ _ _ _ _ _ _ _ _ _ _ _ _ _ _ _ ?k1r5 ?k2r5 ?k3r5 ?k4r5 ?k5r5 ?kKr5 trivial ?kdr5 ?kur5 ?_; (case q1r5 => omega); (case q2r5 => assumption); (case q3r5 => assumption); (case k1r5 => k_asm); (case k2r5 => k_asm); (case k3r5 => k_asm); (case k4r5 => k_asm); (case k5r5 => k_asm); (case kKr5 => exact rfl); (case kdr5 => ktr_room); (case kur5 => ktr_units); intro t9 h9 tk9 F9 N9; (try dsimp only); (try k_sweep)))
  intro hB X' T' I aH aP aG aN aR D it o3 o4 es hs ps gs ns rs nH nP nG nN nR ys cs tH tk k vI vS u h d3 d4 a1 a2 a3 a4 a5 a6 a7 a8 hes zH zP hys hlen hk0 hk4 F N
  obtain ⟨a2, a2b, a2c⟩ := a2
  obtain ⟨b1, b2, b3, b4⟩ := prep a1 a3
  clear a3
  simp only [List.cons_append, List.nil_append] at N
  dsimp only [frm] at F
  refine Box.mk ?_
  dsimp only [lawPart, lawFor, forPart, lawEnv, lawA, lawFn, scopeOf, PySem.Challenge.pw_yh0007_01, lastOf, bodyOf, List.drop, List.take]
  k_fold
  k_steps
  show _ ∧ _
  refine' ⟨rfl, exI5 ⟨rfl, fr_frm (by assumption) _ ⟨rfl, rfl, rfl, rfl, rfl, rfl, rfl, rfl, trivial⟩, news_sub (by assumption) ?S⟩⟩
  case S => k_subL
-- LB
open PySem PySem.W PySem.Calls PyProof.Rows PySem.Spec
theorem turnB (w : World) (p : Program) (loose : List Str) (mean : ExcName → Option Value) (mg mb : Str → Option Value) (L fa : Nat) (h₀ : Heap) (s : Shared) :
    Below callerA h₀ [] h₀ → (hd.heap_39 w.params).In h₀ → Top p loose mean mg mb h₀ →
    ∀ (I aH aP aG aN aR D : Nat) (it o3 o4 : Obj) (es : List (Addr × Obj)) (hs ps gs ns rs : Array Value) (nH nP nG nN nR : Nat) (ys : List Value) (cs : List Int) (tH tk : Tok) (k : Int) (vI vS : Value) (u : Str → Option Value) (h : Heap), o3.data = .cell (some (.ref D)) → o4.data = .cell (some (.ref aN)) → 130 < L → (L + 1 + 1 + 1 + 1 ≠ D ∧ L + 1 + 1 + 1 ≠ D ∧ 130 ≠ D) → (D < aH ∧ L + 1 + 1 + 1 + 1 < aH) → aH < aP → aP < aG → aG < aN → aN < aR → aR < I →
      (∀ p ∈ es, @LT.lt Nat _ I p.1) → (gs.size : Int) = k → rs.size < 5 → IntsAre ys cs → cs.length = 5 → 0 ≤ k → k < 4 → ∀ (n : Int) (tp : Tok),
      Fr h₀ L h (frm [(Str.ofString "k", .int k tk), (Str.ofString "hosts", .ref aH), (Str.ofString "ports", .ref aP), (Str.ofString "gifts", .ref aG), (Str.ofString "refused", .ref aR), (Str.ofString "ink", vI), (Str.ofString "start", vS), (Str.ofString "port", .int n tp)] u) → News h₀ L h ([(I, it), (aR, listOf rs nR), (aN, listOf ns nN), (aG, listOf gs nG), (aP, listOf ps nP), (aH, listOf hs nH), (D, LCg.lst ys), (L + 1 + 1 + 1 + 1, o4), (L + 1 + 1 + 1, o3), (130, tabObj #[])] ++ es) →
      Box (wpAny (model PySem.Challenge.rw_yh0007_01.row.prog w) (lawA L fa) (execs (forPart 6 3 1) (lawEnv L fa)) (fun f s' => Hold (f = .next ∧ ∃ h' tk' u' tg rs' nR' es' nG', s' = { s with heap := h', toks := tk' } ∧ Fr h₀ L h' (frm [(Str.ofString "k", .int k tk), (Str.ofString "hosts", .ref aH), (Str.ofString "ports", .ref aP), (Str.ofString "gifts", .ref aG), (Str.ofString "refused", .ref aR), (Str.ofString "ink", vI), (Str.ofString "start", vS), (Str.ofString "port", .int n tp)] u') ∧ News h₀ L h' ([(I, it), (aR, listOf rs' nR'), (aN, listOf ns nN), (aG, listOf (gs.push (.str (blanks (bringI (((cs.getD k.toNat 0).fdiv 144).fmod 16) (((cs.getD k.toNat 0).fdiv 6).fmod 6))) tg)) nG'), (aP, listOf ps nP), (aH, listOf hs nH), (D, LCg.lst ys), (L + 1 + 1 + 1 + 1, o4), (L + 1 + 1 + 1, o3), (130, tabObj #[])] ++ es') ∧ RefStep k (((cs.getD k.toNat 0).fdiv 144).fmod 16) (((cs.getD k.toNat 0).fdiv 6).fmod 6) (((cs.getD k.toNat 0).fdiv 2304).fmod 2) I rs rs' es es')) (fun _ _ => False) { s with heap := h, toks := tH }) := by
  w_top off
  k_fill
  k_with_none
  k_with "andf" => first | exact And.left (by with_reducible assumption) | exact And.left (And.right (by with_reducible assumption)) | exact And.left (And.right (And.right (by with_reducible assumption))) | exact And.left (And.right (And.right (And.right (by with_reducible assumption)))) | exact And.left (And.right (And.right (And.right (And.right (by with_reducible assumption))))) | exact And.left (And.right (And.right (And.right (And.right (And.right (by with_reducible assumption)))))) | exact And.right (by with_reducible assumption) | exact And.right (And.right (by with_reducible assumption)) | exact And.right (And.right (And.right (by with_reducible assumption)))
  k_with "lt" => first | with_reducible assumption | exact And.left (by with_reducible assumption) | exact And.left (And.right (by with_reducible assumption)) | exact And.left (And.right (And.right (by with_reducible assumption))) | exact And.left (And.right (And.right (And.right (by with_reducible assumption)))) | exact And.left (And.right (And.right (And.right (And.right (by with_reducible assumption))))) | exact And.left (And.right (And.right (And.right (And.right (And.right (by with_reducible assumption)))))) | (refine Nat.lt_trans (by with_reducible assumption) ?_; k_extra "lt")
  k_with "ne" => first | with_reducible assumption | exact Ne.symm (by with_reducible assumption) | (refine Nat.ne_of_lt ?_; k_extra "lt") | (refine Nat.ne_of_gt ?_; k_extra "lt") | k_extra "andf" | (refine Ne.symm ?_; k_extra "andf") | (refine Nat.ne_of_lt ?_; k_extra "lt2") | (refine Nat.ne_of_gt ?_; k_extra "lt2")
  k_with "lt2" => first | exact Nat.lt_trans (And.left (by with_reducible assumption)) (by with_reducible assumption) | exact Nat.lt_trans (And.left (And.right (by with_reducible assumption))) (by with_reducible assumption) | exact Nat.lt_trans (And.left (And.right (And.right (by with_reducible assumption)))) (by with_reducible assumption) | exact Nat.lt_trans (And.left (And.right (And.right (And.right (by with_reducible assumption))))) (by with_reducible assumption) | exact Nat.lt_trans (And.left (And.right (And.right (And.right (And.right (by with_reducible assumption)))))) (by with_reducible assumption) | exact Nat.lt_trans (And.left (And.right (And.right (And.right (And.right (And.right (by with_reducible assumption))))))) (by with_reducible assumption) | exact Nat.lt_trans (And.left (And.right (And.right (And.right (And.right (And.right (And.right (by with_reducible assumption)))))))) (by with_reducible assumption) | exact Nat.lt_trans (And.left (And.right (And.right (And.right (And.right (And.right (And.right (And.right (by with_reducible assumption))))))))) (by with_reducible assumption) | exact Nat.lt_trans (And.left (And.right (And.right (And.right (And.right (And.right (And.right (And.right (And.right (by with_reducible assumption)))))))))) (by with_reducible assumption) | exact Nat.lt_trans (And.left (And.right (And.right (And.right (And.right (And.right (And.right (And.right (And.right (And.right (by with_reducible assumption))))))))))) (by with_reducible assumption)
  k_with "omega" => first | safely (k_dflt (k_extra "om")) | safely (k_dflt lia)
  k_with "om" => first | with_reducible assumption | ((with_reducible show (_ : Nat) < _); first | exact Nat.lt_succ_self _ | decide | exact ltNl (by with_reducible assumption) (by rfl) | exact ltNl (And.left (by with_reducible assumption)) (by rfl) | exact ltNl (And.right (by with_reducible assumption)) (by rfl) | k_extra "lt") | ((with_reducible show (_ : Nat) ≤ _); first | exact Nat.le_refl _ | decide | exact leNl (by with_reducible assumption) (by rfl) | exact leNl (And.left (by with_reducible assumption)) (by rfl) | exact leNl (And.right (by with_reducible assumption)) (by rfl) | exact leNl2 (by with_reducible assumption) (by rfl) | exact leNl2 (And.left (by with_reducible assumption)) (by rfl) | exact leNl2 (And.right (by with_reducible assumption)) (by rfl) | (refine Nat.le_of_lt ?_; k_extra "lt")) | ((with_reducible show (_ : Int) < _); first | decide | k_extra "andf" | exact ltIl (by with_reducible assumption) (by rfl) | exact ltIl (And.left (by with_reducible assumption)) (by rfl) | exact ltIl (And.right (by with_reducible assumption)) (by rfl) | exact loIt (by with_reducible assumption) (by rfl) | exact loIt (And.left (by with_reducible assumption)) (by rfl) | exact loIt (And.right (by with_reducible assumption)) (by rfl) | exact loP (by with_reducible assumption) | exact loP (And.left (by with_reducible assumption)) | exact loP (And.right (by with_reducible assumption)) | exact hiP (by with_reducible assumption) (by rfl) | exact hiP (And.left (by with_reducible assumption)) (by rfl) | exact hiP (And.right (by with_reducible assumption)) (by rfl)) | ((with_reducible show (_ : Int) ≤ _); first | decide | k_extra "andf" | exact leIl (by with_reducible assumption) (by rfl) | exact leIl (And.left (by with_reducible assumption)) (by rfl) | exact leIl (And.right (by with_reducible assumption)) (by rfl) | exact leIl2 (by with_reducible assumption) (by rfl) | exact leIl2 (And.left (by with_reducible assumption)) (by rfl) | exact leIl2 (And.right (by with_reducible assumption)) (by rfl) | exact loI (by with_reducible assumption) (by rfl) | exact loI (And.left (by with_reducible assumption)) (by rfl) | exact loI (And.right (by with_reducible assumption)) (by rfl) | exact Int.le_of_lt (by with_reducible assumption)) | ((with_reducible show (_ : Nat) ≠ _); k_extra "ne")
  k_with "call builtin:list.append" => (k_here; (with_reducible show wpAny _ _ (call (Value.builtin _) [Value.ref _, _]) _ _ _); k_dflt (refine' append_K ?k1r0 ?k2r0 ?k3r0 ?_ ?zr0; (case k1r0 => k_asm); (case k2r0 => k_asm); (case k3r0 => k_upd); (case zr0 => (simp only [sizeLine_eq, Array.size_push]; omega)); k_whole); intro h' F' N'; (try k_sweep))
  k_with "call ref" => (k_here; (with_reducible show wpAny _ _ (call (Value.ref 114) [Value.int _ _]) _ _ _); k_dflt (refine' C_wish _ _ _ _ _ _ _ _ _  _ _ _ _ _ _ _ _ _ _ _ _ _ _ _ _ _ ?k1r1 ?k2r1 ?k3r1 ?k4r1 ?k5r1 ?kKr1 trivial ?kdr1 ?kur1 ?_; (case k1r1 => k_asm); (case k2r1 => k_asm); (case k3r1 => k_asm); (case k4r1 => k_asm); (case k5r1 => k_asm); (case kKr1 => exact rfl); (case kdr1 => ktr_room); (case kur1 => ktr_units); intro t9 h9 tk9 F9 N9; (try dsimp only); (try k_sweep)))
  k_with "call ref" => (k_here; (with_reducible show wpAny _ _ (call (Value.ref 121) [Value.int _ _]) _ _ _); k_dflt (refine' C_gift _ _ _ _ _ _ _ _ _  _ _ _ _ _ _ _ _ _ _ _ _ _ _ _ _ _ ?k1r2 ?k2r2 ?k3r2 ?k4r2 ?k5r2 ?kKr2 trivial ?kdr2 ?kur2 ?_; (case k1r2 => k_asm); (case k2r2 => k_asm); (case k3r2 => k_asm); (case k4r2 => k_asm); (case k5r2 => k_asm); (case kKr2 => exact rfl); (case kdr2 => ktr_room); (case kur2 => ktr_units); intro t9 h9 tk9 F9 N9; (try dsimp only); (try k_sweep)))
  k_with "call ref" => (k_here; (with_reducible show wpAny _ _ (call (Value.ref 79) [Value.str _ _, Value.ref _]) _ _ _); k_dflt (refine' C_229 _ _ _ _ _ _ _ _ _ _ _ _ _ _ (wish_p229 _) _ _ _ _ _ _ _ _ _ _ _ _ _ _ _ _ _ ?k1r3 ?k2r3 ?k3r3 ?k4r3 ?k5r3 ?kKr3 ?kdr3 ?kur3 ?_; (case k1r3 => k_asm); (case k2r3 => k_asm); (case k3r3 => k_asm); (case k4r3 => k_asm); (case k5r3 => k_asm); (case kKr3 => exact rfl); (case kdr3 => ktr_room); (case kur3 => ktr_units); intro q9 t9 h9 tk9 F9 N9 l1; (try k_lt l1); (try dsimp only); (try k_sweep)))
  k_with "steps to 257" => repeat' (first | (k_unfold; (try dsimp only)) | (k_end; wrow_close) | ((fail_if_success (with_reducible show wpAny _ _ (call (Value.ref 86) _) _ _ _)); (first | walk1 | (dsimp only; walk1) | (leave1; walk_say "STEP leave1"; try dsimp only))) | fail "no step")
  k_with "call ref" => (k_here; (with_reducible show wpAny _ _ (call (Value.ref 86) [Value.str (giftS _ _ _) _]) _ _ _); k_dflt (refine' C_257g _ _ _ _ _ _ _ _ _ _ _ ?q1r5 ?q2r5 ?q3r5 _ _ _ _ _ _ _ _ _ _ _ _ _ _ _ _ _ ?k1r5 ?k2r5 ?k3r5 ?k4r5 ?k5r5 ?kKr5 trivial ?kdr5 ?kur5 ?_; (case q1r5 => omega); (case q2r5 => assumption); (case q3r5 => assumption); (case k1r5 => k_asm); (case k2r5 => k_asm); (case k3r5 => k_asm); (case k4r5 => k_asm); (case k5r5 => k_asm); (case kKr5 => exact rfl); (case kdr5 => ktr_room); (case kur5 => ktr_units); intro t9 h9 tk9 F9 N9; (try dsimp only); (try k_sweep)))
  k_with "exec Try" => (k_here; (with_reducible show wpAny _ _ (exec (Stmt.Try _ (_ :: _) _ [] _) _) _ _ _); refine wpAny_Try_except ?_)
  k_with "noteFrame ref" => (k_here; (rename RaisedK _ _ _ _ _ _ _ _ => rkX); k_dflt (refine' caught_XB (bmB := [.type "Exception", .type "BaseException", .type "object"]) (newId := "Exception.__new__") ?Kr7 ?Fr7 ?Ur7 ?Rr7 ?Xr7 ?Tr7 ?exr7 ?qr7 ?hbr7 ?_; (case Kr7 => assumption); (case Fr7 => assumption); (case Ur7 => assumption); (case Rr7 => exact rkX); (case Xr7 => k_asm); (case Tr7 => k_asm); (case exr7 => k_is); (case qr7 => k_exc); (case hbr7 => rfl); k_whole); intro h' oe' ot' ws' nt' tk' F' N' xc' xd' x0' xt' xs' xn' xe'; clear rkX; (try simp only [List.forall_mem_cons] at xn'); (try obtain ⟨⟨y1, z1⟩, ⟨y2, z2⟩, ⟨y3, z3⟩, ⟨y4, z4⟩, ⟨y5, z5⟩, ⟨y6, z6⟩, ⟨y7, z7⟩, ⟨y8, z8⟩, ⟨y9, z9⟩, ⟨y10, z10⟩, xr'⟩ := xn'); (try k_sweep))
  k_with "bind" => (k_here; k_dflt (refine' name_goes_X ?Fr8 ?Nr8 ?_; (case Fr8 => k_asm); (case Nr8 => k_asm); k_whole); intro h' v' F' N'; (try k_sweep))
  k_with "call type:str" => (k_here; (with_reducible show wpAny _ _ (call (Value.type "str") [Value.ref _]) _ _ _); k_dflt (refine' str_gotX ?ur9 ?Xr9 ?Nr9 ?Gr9 ?Hr9 ?cr9 ?dr9 ?zr9 ?tcr9 ?tdr9 ?nr9 ?mr9 ?_; (case ur9 => first | k_units | units_room | k_room); (case Xr9 => exact inK_of (by k_asm) (by k_asm)); (case Nr9 => k_asm); (case Gr9 => k_mem); (case cr9 => assumption); (case dr9 => assumption); (case zr9 => assumption); (case Hr9 => k_mem); (case tcr9 => assumption); (case tdr9 => assumption); (case nr9 => k_is); (case mr9 => k_is); k_whole))
  k_with "subscriptTail" => (k_here; (with_reducible show wpAny _ _ (subscriptTail _ _ (Value.ref _) (Value.int _ _)) _ _ _); (with_unfolding_all refine' item_last ?k1r10 ?k2r10 ?k3r10 ?_ ?k6r10; (case k1r10 => is_list); (case k2r10 => assumption); (case k3r10 => omega); (case k6r10 => with_unfolding_all rfl); k_whole))
  intro hB X' T' I aH aP aG aN aR D it o3 o4 es hs ps gs ns rs nH nP nG nN nR ys cs tH tk k vI vS u h d3 d4 a1 a2 a3 a4 a5 a6 a7 a8 hes zG zR hys hlen hk0 hk4 n tp F N
  obtain ⟨a2, a2b, a2c⟩ := a2
  obtain ⟨b1, b2, b3, b4⟩ := prep a1 a3
  clear a3
  simp only [List.cons_append, List.nil_append] at N
  dsimp only [frm] at F
  refine Box.mk ?_
  dsimp only [lawPart, lawFor, forPart, lawEnv, lawA, lawFn, scopeOf, PySem.Challenge.pw_yh0007_01, lastOf, bodyOf, List.drop, List.take]
  k_fold
  have hb6 := fm ((cs.getD k.toNat 0).fdiv 6) 6
  have hw16 := fm ((cs.getD k.toNat 0).fdiv 144) 16
  have hd2 := fm ((cs.getD k.toNat 0).fdiv 2304) 2
  by_cases hw : ((cs.getD k.toNat 0).fdiv 144).fmod 16 ≤ 12
  · k_steps
    show _ ∧ _
    refine' ⟨rfl, exI8 ⟨rfl, fr_frm (by assumption) _ ⟨rfl, rfl, rfl, rfl, rfl, rfl, rfl, rfl, trivial⟩, news_sub (by assumption) ?S, ?T⟩⟩
    case S => k_subL
    case T => exact Or.inl ⟨hw, rfl, rfl⟩
  · obtain ⟨hr1, hr2⟩ := raise_facts (by omega) hw16.2 hb6 hd2
    k_steps
    have hb0 : blanks (bringI (((cs.getD k.toNat 0).fdiv 144).fmod 16) (((cs.getD k.toNat 0).fdiv 6).fmod 6)) = Str.ofString "" := by
      unfold bringI; rw [if_neg (by omega)]; decide +kernel
    show _ ∧ _
    rw [hb0]
    rename (_ ∧ _ ∧ _ ∧ _ ∧ _ ∧ _ ∧ _ ∧ _ ∧ _ ∧ _ ∧ _ ∧ _ ∧ AllLt _ es) => l1
    refine' ⟨rfl, exI8 ⟨rfl, fr_frm (by assumption) _ ⟨rfl, rfl, rfl, rfl, rfl, rfl, rfl, rfl, trivial⟩, news_sub (by assumption) ?S, Or.inr ⟨by omega, _, _, _, rfl, rfl, ?T⟩⟩⟩
    case S => k_subL
    case T => omega
-- LC
open PySem PySem.W PySem.Calls PyProof.Rows PySem.Spec
theorem turnC (w : World) (p : Program) (loose : List Str) (mean : ExcName → Option Value) (mg mb : Str → Option Value) (L fa : Nat) (h₀ : Heap) (s : Shared) :
    Below callerA h₀ [] h₀ → (hd.heap_39 w.params).In h₀ → Top p loose mean mg mb h₀ →
    ∀ (I aH aP aG aN aR D : Nat) (it o3 o4 : Obj) (es : List (Addr × Obj)) (hs ps gs ns rs : Array Value) (nH nP nG nN nR : Nat) (ys : List Value) (cs : List Int) (tH tk : Tok) (k : Int) (vI vS : Value) (u : Str → Option Value) (h : Heap), o3.data = .cell (some (.ref D)) → o4.data = .cell (some (.ref aN)) → 130 < L → (L + 1 + 1 + 1 + 1 ≠ D ∧ L + 1 + 1 + 1 ≠ D ∧ 130 ≠ D) → (D < aH ∧ L + 1 + 1 + 1 + 1 < aH) → aH < aP → aP < aG → aG < aN → aN < aR → aR < I →
      (∀ p ∈ es, @LT.lt Nat _ I p.1) → (gs.size : Int) = k → 0 ≤ k → k < 4 → ∀ (n br : Int) (tp tg : Tok), 0 ≤ n → n < 6 → 0 ≤ br → br < 6 →
      Fr h₀ L h (frm [(Str.ofString "k", .int k tk), (Str.ofString "hosts", .ref aH), (Str.ofString "ports", .ref aP), (Str.ofString "gifts", .ref aG), (Str.ofString "refused", .ref aR), (Str.ofString "ink", vI), (Str.ofString "start", vS), (Str.ofString "port", .int n tp)] u) → News h₀ L h ([(I, it), (aR, listOf rs nR), (aN, listOf ns nN), (aG, listOf (gs.push (.str (blanks br) tg)) nG), (aP, listOf ps nP), (aH, listOf hs nH), (D, LCg.lst ys), (L + 1 + 1 + 1 + 1, o4), (L + 1 + 1 + 1, o3), (130, tabObj #[])] ++ es) →
      Box (wpAny (model PySem.Challenge.rw_yh0007_01.row.prog w) (lawA L fa) (execs (forPart 6 4 2) (lawEnv L fa)) (fun f s' => Hold (f = .next ∧ ∃ h' tk' u' tm zv, s' = { s with heap := h', toks := tk' } ∧ Fr h₀ L h' (frm [(Str.ofString "k", .int k tk), (Str.ofString "hosts", .ref aH), (Str.ofString "ports", .ref aP), (Str.ofString "gifts", .ref aG), (Str.ofString "refused", .ref aR), (Str.ofString "ink", vI), (Str.ofString "start", vS), (Str.ofString "port", .int n tp), (Str.ofString "more", .int (br - n) tm), (Str.ofString "zone", zv)] u') ∧ News h₀ L h' ([(I, it), (aR, listOf rs nR), (aN, listOf ns nN), (aG, listOf (gs.push (.str (blanks br) tg)) nG), (aP, listOf ps nP), (aH, listOf hs nH), (D, LCg.lst ys), (L + 1 + 1 + 1 + 1, o4), (L + 1 + 1 + 1, o3), (130, tabObj #[])] ++ es) ∧ ZoneIs n zv)) (fun _ _ => False) { s with heap := h, toks := tH }) := by
  w_top off
  k_fill
  k_with_none
  k_with "andf" => first | exact And.left (by with_reducible assumption) | exact And.left (And.right (by with_reducible assumption)) | exact And.left (And.right (And.right (by with_reducible assumption))) | exact And.left (And.right (And.right (And.right (by with_reducible assumption)))) | exact And.left (And.right (And.right (And.right (And.right (by with_reducible assumption))))) | exact And.left (And.right (And.right (And.right (And.right (And.right (by with_reducible assumption)))))) | exact And.right (by with_reducible assumption) | exact And.right (And.right (by with_reducible assumption)) | exact And.right (And.right (And.right (by with_reducible assumption)))
  k_with "lt" => first | with_reducible assumption | exact And.left (by with_reducible assumption) | exact And.left (And.right (by with_reducible assumption)) | exact And.left (And.right (And.right (by with_reducible assumption))) | exact And.left (And.right (And.right (And.right (by with_reducible assumption)))) | exact And.left (And.right (And.right (And.right (And.right (by with_reducible assumption))))) | exact And.left (And.right (And.right (And.right (And.right (And.right (by with_reducible assumption)))))) | (refine Nat.lt_trans (by with_reducible assumption) ?_; k_extra "lt")
  k_with "ne" => first | with_reducible assumption | exact Ne.symm (by with_reducible assumption) | (refine Nat.ne_of_lt ?_; k_extra "lt") | (refine Nat.ne_of_gt ?_; k_extra "lt") | k_extra "andf" | (refine Ne.symm ?_; k_extra "andf") | (refine Nat.ne_of_lt ?_; k_extra "lt2") | (refine Nat.ne_of_gt ?_; k_extra "lt2")
  k_with "lt2" => first | exact Nat.lt_trans (And.left (by with_reducible assumption)) (by with_reducible assumption) | exact Nat.lt_trans (And.left (And.right (by with_reducible assumption))) (by with_reducible assumption) | exact Nat.lt_trans (And.left (And.right (And.right (by with_reducible assumption)))) (by with_reducible assumption) | exact Nat.lt_trans (And.left (And.right (And.right (And.right (by with_reducible assumption))))) (by with_reducible assumption) | exact Nat.lt_trans (And.left (And.right (And.right (And.right (And.right (by with_reducible assumption)))))) (by with_reducible assumption) | exact Nat.lt_trans (And.left (And.right (And.right (And.right (And.right (And.right (by with_reducible assumption))))))) (by with_reducible assumption) | exact Nat.lt_trans (And.left (And.right (And.right (And.right (And.right (And.right (And.right (by with_reducible assumption)))))))) (by with_reducible assumption) | exact Nat.lt_trans (And.left (And.right (And.right (And.right (And.right (And.right (And.right (And.right (by with_reducible assumption))))))))) (by with_reducible assumption) | exact Nat.lt_trans (And.left (And.right (And.right (And.right (And.right (And.right (And.right (And.right (And.right (by with_reducible assumption)))))))))) (by with_reducible assumption) | exact Nat.lt_trans (And.left (And.right (And.right (And.right (And.right (And.right (And.right (And.right (And.right (And.right (by with_reducible assumption))))))))))) (by with_reducible assumption)
  k_with "omega" => first | safely (k_dflt (k_extra "om")) | safely (k_dflt lia)
  k_with "om" => first | with_reducible assumption | ((with_reducible show (_ : Nat) < _); first | exact Nat.lt_succ_self _ | decide | exact ltNl (by with_reducible assumption) (by rfl) | exact ltNl (And.left (by with_reducible assumption)) (by rfl) | exact ltNl (And.right (by with_reducible assumption)) (by rfl) | k_extra "lt") | ((with_reducible show (_ : Nat) ≤ _); first | exact Nat.le_refl _ | decide | exact leNl (by with_reducible assumption) (by rfl) | exact leNl (And.left (by with_reducible assumption)) (by rfl) | exact leNl (And.right (by with_reducible assumption)) (by rfl) | exact leNl2 (by with_reducible assumption) (by rfl) | exact leNl2 (And.left (by with_reducible assumption)) (by rfl) | exact leNl2 (And.right (by with_reducible assumption)) (by rfl) | (refine Nat.le_of_lt ?_; k_extra "lt")) | ((with_reducible show (_ : Int) < _); first | decide | k_extra "andf" | exact ltIl (by with_reducible assumption) (by rfl) | exact ltIl (And.left (by with_reducible assumption)) (by rfl) | exact ltIl (And.right (by with_reducible assumption)) (by rfl) | exact loIt (by with_reducible assumption) (by rfl) | exact loIt (And.left (by with_reducible assumption)) (by rfl) | exact loIt (And.right (by with_reducible assumption)) (by rfl) | exact loP (by with_reducible assumption) | exact loP (And.left (by with_reducible assumption)) | exact loP (And.right (by with_reducible assumption)) | exact hiP (by with_reducible assumption) (by rfl) | exact hiP (And.left (by with_reducible assumption)) (by rfl) | exact hiP (And.right (by with_reducible assumption)) (by rfl)) | ((with_reducible show (_ : Int) ≤ _); first | decide | k_extra "andf" | exact leIl (by with_reducible assumption) (by rfl) | exact leIl (And.left (by with_reducible assumption)) (by rfl) | exact leIl (And.right (by with_reducible assumption)) (by rfl) | exact leIl2 (by with_reducible assumption) (by rfl) | exact leIl2 (And.left (by with_reducible assumption)) (by rfl) | exact leIl2 (And.right (by with_reducible assumption)) (by rfl) | exact loI (by with_reducible assumption) (by rfl) | exact loI (And.left (by with_reducible assumption)) (by rfl) | exact loI (And.right (by with_reducible assumption)) (by rfl) | exact Int.le_of_lt (by with_reducible assumption)) | ((with_reducible show (_ : Nat) ≠ _); k_extra "ne")
  k_with "call builtin:list.append" => (k_here; (with_reducible show wpAny _ _ (call (Value.builtin _) [Value.ref _, _]) _ _ _); k_dflt (refine' append_K ?k1r0 ?k2r0 ?k3r0 ?_ ?zr0; (case k1r0 => k_asm); (case k2r0 => k_asm); (case k3r0 => k_upd); (case zr0 => (simp only [sizeLine_eq, Array.size_push]; omega)); k_whole); intro h' F' N'; (try k_sweep))
  k_with "subscriptTail" => (k_here; (with_reducible show wpAny _ _ (subscriptTail _ _ (Value.ref _) (Value.int _ _)) _ _ _); (with_unfolding_all refine' pickK ?k1r1 ?k3r1 ?k4r1 ?k5r1 ?_ ?k6r1; (case k1r1 => is_list); (case k3r1 => omega); (case k4r1 => (simp only [List.length_cons, List.length_nil]; omega)); (case k5r1 => omega); (case k6r1 => with_unfolding_all rfl); k_whole); k_places; all_goals (try dsimp only))
  k_with "subscriptTail" => (k_here; (with_reducible show wpAny _ _ (subscriptTail _ _ (Value.ref _) (Value.int _ _)) _ _ _); (with_unfolding_all refine' item_last ?k1r2 ?k2r2 ?k3r2 ?_ ?k6r2; (case k1r2 => is_list); (case k2r2 => assumption); (case k3r2 => omega); (case k6r2 => with_unfolding_all rfl); k_whole))
  intro hB X' T' I aH aP aG aN aR D it o3 o4 es hs ps gs ns rs nH nP nG nN nR ys cs tH tk k vI vS u h d3 d4 a1 a2 a3 a4 a5 a6 a7 a8 hes zG hk0 hk4 n br tp tg hn0 hn6 hb0 hb6 F N
  simp only [List.cons_append, List.nil_append] at N
  dsimp only [frm] at F
  refine Box.mk ?_
  dsimp only [lawPart, lawFor, forPart, lawEnv, lawA, lawFn, scopeOf, PySem.Challenge.pw_yh0007_01, lastOf, bodyOf, List.drop, List.take]
  k_fold
  have hbl := blanks_len hb0
  have hn2 := fm n 2
  k_steps
  · show _ ∧ _
    refine' ⟨rfl, exI5 ⟨rfl, fr_frm (by assumption) _ ⟨rfl, rfl, rfl, rfl, rfl, rfl, rfl, rfl, ?A, rfl, trivial⟩, news_sub (by assumption) ?S, ?T⟩⟩
    case S => k_subL
    case T => exact Or.inr ⟨by omega, _, rfl⟩
    case A =>
      show some (Value.int (((blanks br).length : Int) - n) _) = some (Value.int (br - n) _)
      rw [hbl]
  · show _ ∧ _
    refine' ⟨rfl, exI5 ⟨rfl, fr_frm (by assumption) _ ⟨rfl, rfl, rfl, rfl, rfl, rfl, rfl, rfl, ?A, rfl, trivial⟩, news_sub (by assumption) ?S, ?T⟩⟩
    case S => k_subL
    case T => exact Or.inl ⟨by omega, rfl⟩
    case A =>
      show some (Value.int (((blanks br).length : Int) - n) _) = some (Value.int (br - n) _)
      rw [hbl]
-- LD1
open PySem PySem.W PySem.Calls PyProof.Rows PySem.Spec
theorem turnD (w : World) (p : Program) (loose : List Str) (mean : ExcName → Option Value) (mg mb : Str → Option Value) (L fa : Nat) (h₀ : Heap) (s : Shared) :
    Below callerA h₀ [] h₀ → (hd.heap_39 w.params).In h₀ → Top p loose mean mg mb h₀ →
    ∀ (I aH aP aG aN aR D : Nat) (it o3 o4 : Obj) (es : List (Addr × Obj)) (hs ps gs ns rs : Array Value) (nH nP nG nN nR : Nat) (ys : List Value) (cs : List Int) (tH tk : Tok) (k : Int) (vI vS : Value) (u : Str → Option Value) (h : Heap), o3.data = .cell (some (.ref D)) → o4.data = .cell (some (.ref aN)) → 130 < L → (L + 1 + 1 + 1 + 1 ≠ D ∧ L + 1 + 1 + 1 ≠ D ∧ 130 ≠ D) → (D < aH ∧ L + 1 + 1 + 1 + 1 < aH) → aH < aP → aP < aG → aG < aN → aN < aR → aR < I →
      (∀ p ∈ es, @LT.lt Nat _ I p.1) → (gs.size : Int) = k → ns.size < 5 → 0 ≤ k → k < 4 → ∀ (n br : Int) (tp tg tm : Tok) (zv : Value), 0 ≤ n → n < 6 → 0 ≤ br → br < 6 → TextOrNone zv →
      Fr h₀ L h (frm [(Str.ofString "k", .int k tk), (Str.ofString "hosts", .ref aH), (Str.ofString "ports", .ref aP), (Str.ofString "gifts", .ref aG), (Str.ofString "refused", .ref aR), (Str.ofString "ink", vI), (Str.ofString "start", vS), (Str.ofString "port", .int n tp), (Str.ofString "more", .int (br - n) tm), (Str.ofString "zone", zv)] u) → News h₀ L h ([(I, it), (aR, listOf rs nR), (aN, listOf ns nN), (aG, listOf (gs.push (.str (blanks br) tg)) nG), (aP, listOf ps nP), (aH, listOf hs nH), (D, LCg.lst ys), (L + 1 + 1 + 1 + 1, o4), (L + 1 + 1 + 1, o3), (130, tabObj #[])] ++ es) →
      Box (wpAny (model PySem.Challenge.rw_yh0007_01.row.prog w) (lawA L fa) (execs (forPart 6 6 4) (lawEnv L fa)) (fun f s' => Hold (f = .next ∧ ∃ h' tk' u' t1, s' = { s with heap := h', toks := tk' } ∧ Fr h₀ L h' (frm [(Str.ofString "k", .int k tk), (Str.ofString "hosts", .ref aH), (Str.ofString "ports", .ref aP), (Str.ofString "gifts", .ref aG), (Str.ofString "refused", .ref aR), (Str.ofString "ink", vI), (Str.ofString "start", vS)] u') ∧ News h₀ L h' ([(I, it), (aR, listOf rs nR), (aN, listOf (ns.push (.str (nameS (langV n br) zv) t1)) (nN + 1)), (aG, listOf (gs.push (.str (blanks br) tg)) nG), (aP, listOf ps nP), (aH, listOf hs nH), (D, LCg.lst ys), (L + 1 + 1 + 1 + 1, o4), (L + 1 + 1 + 1, o3), (130, tabObj #[])] ++ es))) (fun _ _ => False) { s with heap := h, toks := tH }) := by
  w_top off
  k_fill
  k_with_none
  k_with "andf" => first | exact And.left (by with_reducible assumption) | exact And.left (And.right (by with_reducible assumption)) | exact And.left (And.right (And.right (by with_reducible assumption))) | exact And.left (And.right (And.right (And.right (by with_reducible assumption)))) | exact And.left (And.right (And.right (And.right (And.right (by with_reducible assumption))))) | exact And.left (And.right (And.right (And.right (And.right (And.right (by with_reducible assumption)))))) | exact And.right (by with_reducible assumption) | exact And.right (And.right (by with_reducible assumption)) | exact And.right (And.right (And.right (by with_reducible assumption)))
  k_with "lt" => first | with_reducible assumption | exact And.left (by with_reducible assumption) | exact And.left (And.right (by with_reducible assumption)) | exact And.left (And.right (And.right (by with_reducible assumption))) | exact And.left (And.right (And.right (And.right (by with_reducible assumption)))) | exact And.left (And.right (And.right (And.right (And.right (by with_reducible assumption))))) | exact And.left (And.right (And.right (And.right (And.right (And.right (by with_reducible assumption)))))) | (refine Nat.lt_trans (by with_reducible assumption) ?_; k_extra "lt")
  k_with "ne" => first | with_reducible assumption | exact Ne.symm (by with_reducible assumption) | (refine Nat.ne_of_lt ?_; k_extra "lt") | (refine Nat.ne_of_gt ?_; k_extra "lt") | k_extra "andf" | (refine Ne.symm ?_; k_extra "andf") | (refine Nat.ne_of_lt ?_; k_extra "lt2") | (refine Nat.ne_of_gt ?_; k_extra "lt2")
  k_with "lt2" => first | exact Nat.lt_trans (And.left (by with_reducible assumption)) (by with_reducible assumption) | exact Nat.lt_trans (And.left (And.right (by with_reducible assumption))) (by with_reducible assumption) | exact Nat.lt_trans (And.left (And.right (And.right (by with_reducible assumption)))) (by with_reducible assumption) | exact Nat.lt_trans (And.left (And.right (And.right (And.right (by with_reducible assumption))))) (by with_reducible assumption) | exact Nat.lt_trans (And.left (And.right (And.right (And.right (And.right (by with_reducible assumption)))))) (by with_reducible assumption) | exact Nat.lt_trans (And.left (And.right (And.right (And.right (And.right (And.right (by with_reducible assumption))))))) (by with_reducible assumption) | exact Nat.lt_trans (And.left (And.right (And.right (And.right (And.right (And.right (And.right (by with_reducible assumption)))))))) (by with_reducible assumption) | exact Nat.lt_trans (And.left (And.right (And.right (And.right (And.right (And.right (And.right (And.right (by with_reducible assumption))))))))) (by with_reducible assumption) | exact Nat.lt_trans (And.left (And.right (And.right (And.right (And.right (And.right (And.right (And.right (And.right (by with_reducible assumption)))))))))) (by with_reducible assumption) | exact Nat.lt_trans (And.left (And.right (And.right (And.right (And.right (And.right (And.right (And.right (And.right (And.right (by with_reducible assumption))))))))))) (by with_reducible assumption)
  k_with "omega" => first | safely (k_dflt (k_extra "om")) | safely (k_dflt lia)
  k_with "om" => first | with_reducible assumption | ((with_reducible show (_ : Nat) < _); first | exact Nat.lt_succ_self _ | decide | exact ltNl (by with_reducible assumption) (by rfl) | exact ltNl (And.left (by with_reducible assumption)) (by rfl) | exact ltNl (And.right (by with_reducible assumption)) (by rfl) | k_extra "lt") | ((with_reducible show (_ : Nat) ≤ _); first | exact Nat.le_refl _ | decide | exact leNl (by with_reducible assumption) (by rfl) | exact leNl (And.left (by with_reducible assumption)) (by rfl) | exact leNl (And.right (by with_reducible assumption)) (by rfl) | exact leNl2 (by with_reducible assumption) (by rfl) | exact leNl2 (And.left (by with_reducible assumption)) (by rfl) | exact leNl2 (And.right (by with_reducible assumption)) (by rfl) | (refine Nat.le_of_lt ?_; k_extra "lt")) | ((with_reducible show (_ : Int) < _); first | decide | k_extra "andf" | exact ltIl (by with_reducible assumption) (by rfl) | exact ltIl (And.left (by with_reducible assumption)) (by rfl) | exact ltIl (And.right (by with_reducible assumption)) (by rfl) | exact loIt (by with_reducible assumption) (by rfl) | exact loIt (And.left (by with_reducible assumption)) (by rfl) | exact loIt (And.right (by with_reducible assumption)) (by rfl) | exact loP (by with_reducible assumption) | exact loP (And.left (by with_reducible assumption)) | exact loP (And.right (by with_reducible assumption)) | exact hiP (by with_reducible assumption) (by rfl) | exact hiP (And.left (by with_reducible assumption)) (by rfl) | exact hiP (And.right (by with_reducible assumption)) (by rfl)) | ((with_reducible show (_ : Int) ≤ _); first | decide | k_extra "andf" | exact leIl (by with_reducible assumption) (by rfl) | exact leIl (And.left (by with_reducible assumption)) (by rfl) | exact leIl (And.right (by with_reducible assumption)) (by rfl) | exact leIl2 (by with_reducible assumption) (by rfl) | exact leIl2 (And.left (by with_reducible assumption)) (by rfl) | exact leIl2 (And.right (by with_reducible assumption)) (by rfl) | exact loI (by with_reducible assumption) (by rfl) | exact loI (And.left (by with_reducible assumption)) (by rfl) | exact loI (And.right (by with_reducible assumption)) (by rfl) | exact Int.le_of_lt (by with_reducible assumption)) | ((with_reducible show (_ : Nat) ≠ _); k_extra "ne")
  k_with "call builtin:list.append" => (k_here; (with_reducible show wpAny _ _ (call (Value.builtin _) [Value.ref _, _]) _ _ _); k_dflt (refine' append_K ?k1r0 ?k2r0 ?k3r0 ?_ ?zr0; (case k1r0 => k_asm); (case k2r0 => k_asm); (case k3r0 => k_upd); (case zr0 => (simp only [sizeLine_eq, Array.size_push]; omega)); k_whole); intro h' F' N'; (try k_sweep))
  k_with "subscriptTail" => (k_here; (with_reducible show wpAny _ _ (subscriptTail _ _ (Value.ref _) (Value.int _ _)) _ _ _); (with_unfolding_all refine' pickK ?k1r1 ?k3r1 ?k4r1 ?k5r1 ?_ ?k6r1; (case k1r1 => is_list); (case k3r1 => omega); (case k4r1 => (simp only [List.length_cons, List.length_nil]; omega)); (case k5r1 => omega); (case k6r1 => with_unfolding_all rfl); k_whole); k_places; all_goals (try dsimp only))
  k_with "subscriptTail" => (k_here; (with_reducible show wpAny _ _ (subscriptTail _ _ (Value.ref _) (Value.int _ _)) _ _ _); (with_unfolding_all refine' item_last ?k1r2 ?k2r2 ?k3r2 ?_ ?k6r2; (case k1r2 => is_list); (case k2r2 => assumption); (case k3r2 => omega); (case k6r2 => with_unfolding_all rfl); k_whole))
  k_with "compareOp NotIn str ref" => (k_here; k_dflt (refine kdg_notin (knd := PySem.strKind _ _) (by k_asm) (by k_mem) (by assumption) (by k_asm) (strKind_is _ _ _ _) true (by rfl) ?_); (try dsimp only [Bool.not_true, Bool.not_false]))
  k_with "subscriptTail" => (k_here; (with_reducible show wpAny _ _ (subscriptTail _ _ (Value.ref _) (Value.str _ _)) _ _ _); k_dflt (refine kda_item (knd := PySem.strKind _ _) (by k_asm) (by k_mem) (by assumption) (strKind_is _ _ _ _) (by rfl) ?_))
  k_with "call ref" => (k_here; (with_reducible show wpAny _ _ (call (Value.ref 35) [Value.ref _]) _ _ _); k_dflt (refine' C_name _ _ _ _ _ _ _ _ _ _ ?h1r5 ?h2r5 _ _ _ _ _ _ _ _ _ _ _ _ _ _ _ _ _ ?k1r5 ?k2r5 ?k3r5 ?k4r5 ?k5r5 ?kKr5 trivial ?kdr5 ?kur5 ?_; (case k1r5 => (first | k_asm | (refine news_sub (by assumption) ?_; refine head_sub ?_; k_mem))); (case k2r5 => (first | k_asm | (refine news_sub (by assumption) ?_; refine head_sub ?_; k_mem))); (case k3r5 => (first | k_asm | (refine news_sub (by assumption) ?_; refine head_sub ?_; k_mem))); (case k4r5 => (first | k_asm | (refine news_sub (by assumption) ?_; refine head_sub ?_; k_mem))); (case k5r5 => (first | k_asm | (refine news_sub (by assumption) ?_; refine head_sub ?_; k_mem))); (case kKr5 => exact rfl); (case kdr5 => ktr_room); (case kur5 => ktr_units); (case h1r5 => first | exact Or.inl rfl | exact Or.inr ⟨_, _, rfl, by assumption⟩); (case h2r5 => first | exact Or.inl rfl | assumption); intro t9 h9 tk9 F9 N9; (try dsimp only); (try k_sweep)))
  intro hB X' T' I aH aP aG aN aR D it o3 o4 es hs ps gs ns rs nH nP nG nN nR ys cs tH tk k vI vS u h d3 d4 a1 a2 a3 a4 a5 a6 a7 a8 hes zG zN hk0 hk4 n br tp tg tm zv hn0 hn6 hb0 hb6 hzv F N
  obtain ⟨a2, a2b, a2c⟩ := a2
  obtain ⟨b1, b2, b3, b4⟩ := prep a1 a3
  clear a3
  simp only [List.cons_append, List.nil_append] at N
  dsimp only [frm] at F
  refine Box.mk ?_
  dsimp only [lawPart, lawFor, forPart, lawEnv, lawA, lawFn, scopeOf, PySem.Challenge.pw_yh0007_01, lastOf, bodyOf, List.drop, List.take]
  k_fold
  have hbl := blanks_len hb0
  have hs1 := short_dig "a" (by decide) (9 - br) (by omega) (by omega)
  have hs3 := short_dig "a" (by decide) (9 - ((blanks br).length : Int)) (by omega) (by omega)
  have hs2 := short_dig "B" (by decide) n (by omega) (by omega)
  k_steps
  rename Fr h₀ L _ _ => FX
  rcases Int.lt_trichotomy br n with hc | hc | hc
  · have e : (Str.ofString "[" ++ ((if decide (256 + (br - n) < 256) = true then Str.ofString "True" else Str.ofString "False") ++ Str.ofString ", " ++ ((if (br - n == 0) = true then Str.ofString "True" else Str.ofString "False") ++ Str.ofString ", " ++ if decide (256 ≤ 256 + (br - n)) = true then Str.ofString "True" else Str.ofString "False")) ++ Str.ofString "]") = Str.ofString "[True, False, False]" := by
      rw [if_pos (by simp; omega), if_neg (by simp; omega), if_neg (by simp; omega)]; decide
    simp only [e] at FX; rw [e]
    k_steps
    show _ ∧ _
    refine' ⟨rfl, exI4 ⟨rfl, fr_frm (by assumption) _ ⟨rfl, rfl, rfl, rfl, rfl, rfl, rfl, trivial⟩, ?N⟩⟩
    case N =>
      have e2 : nameS (langV n br) zv = nameS (.str (Str.ofString "a" ++ Str.ofString (toString (9 - ((blanks br).length : Int)))) 0) zv := by unfold langV; rw [if_pos hc, hbl]
      rw [e2]
      exact news_sub (by assumption) (by k_subL)
  · have e : (Str.ofString "[" ++ ((if decide (256 + (br - n) < 256) = true then Str.ofString "True" else Str.ofString "False") ++ Str.ofString ", " ++ ((if (br - n == 0) = true then Str.ofString "True" else Str.ofString "False") ++ Str.ofString ", " ++ if decide (256 ≤ 256 + (br - n)) = true then Str.ofString "True" else Str.ofString "False")) ++ Str.ofString "]") = Str.ofString "[False, True, True]" := by
      rw [if_neg (by simp; omega), if_pos (by simp; omega), if_pos (by simp; omega)]; decide
    simp only [e] at FX; rw [e]
    k_steps
    show _ ∧ _
    refine' ⟨rfl, exI4 ⟨rfl, fr_frm (by assumption) _ ⟨rfl, rfl, rfl, rfl, rfl, rfl, rfl, trivial⟩, ?N⟩⟩
    case N =>
      have e2 : nameS (langV n br) zv = nameS (.none) zv := by unfold langV; rw [if_neg (by omega), if_pos hc]
      rw [e2]
      exact news_sub (by assumption) (by k_subL)
  · have e : (Str.ofString "[" ++ ((if decide (256 + (br - n) < 256) = true then Str.ofString "True" else Str.ofString "False") ++ Str.ofString ", " ++ ((if (br - n == 0) = true then Str.ofString "True" else Str.ofString "False") ++ Str.ofString ", " ++ if decide (256 ≤ 256 + (br - n)) = true then Str.ofString "True" else Str.ofString "False")) ++ Str.ofString "]") = Str.ofString "[False, False, True]" := by
      rw [if_neg (by simp; omega), if_neg (by simp; omega), if_pos (by simp; omega)]; decide
    simp only [e] at FX; rw [e]
    k_steps
    show _ ∧ _
    refine' ⟨rfl, exI4 ⟨rfl, fr_frm (by assumption) _ ⟨rfl, rfl, rfl, rfl, rfl, rfl, rfl, trivial⟩, ?N⟩⟩
    case N =>
      have e2 : nameS (langV n br) zv = nameS (.str (Str.ofString "B" ++ Str.ofString (toString n)) 0) zv := by unfold langV; rw [if_neg (by omega), if_neg (by omega)]
      rw [e2]
      exact news_sub (by assumption) (by k_subL)
end Mine
end
section -- LT
open PySem PySem.W PySem.Calls PyProof.Rows PySem.Spec
namespace Mine
theorem name_nm (n br : Int) (zv : Value) (hz : ZoneIs n zv) : nameS (langV n br) zv = nmS n br := by
  have el : langS (langV n br) = langQ n br := by
    unfold langV langQ
    split
    · rfl
    · split <;> rfl
  rcases hz with ⟨h1, rfl⟩ | ⟨h0, t, rfl⟩
  · unfold nmS; rw [if_pos h1]; exact el
  · unfold nmS; rw [if_neg (by omega), ← el]; rfl
theorem zone_text {n : Int} {zv : Value} (hn0 : 0 ≤ n) (hn6 : n < 6) (hz : ZoneIs n zv) : TextOrNone zv := by
  rcases hz with ⟨_, rfl⟩ | ⟨_, t, rfl⟩
  · exact Or.inl rfl
  · refine Or.inr ⟨_, _, rfl, ?_⟩
    have e := i6 hn0 hn6
    rcases e with rfl | rfl | rfl | rfl | rfl | rfl <;> decide
theorem ref_es {k way b d : Int} {I : Nat} {rs rs' : Array Value} {es es' : List (Addr × Obj)} (R : RefStep k way b d I rs rs' es es') (h : ∀ p ∈ es, @LT.lt Nat _ I p.1) : ∀ p ∈ es', @LT.lt Nat _ I p.1 := by
  rcases R with ⟨_, _, rfl⟩ | ⟨_, a, ta, tb, _, rfl, ha⟩
  · exact h
  · intro p hp
    rcases List.mem_cons.mp hp with rfl | hp
    · exact ha
    · exact h p hp
theorem law6 : lawFor 6 = forPart 6 0 3 ++ (forPart 6 3 1 ++ (forPart 6 4 2 ++ forPart 6 6 4)) := rfl
theorem turnAll (w : World) (p : Program) (loose : List Str) (mean : ExcName → Option Value) (mg mb : Str → Option Value) (L fa : Nat) (h₀ : Heap) (s : Shared) :
    Below callerA h₀ [] h₀ → (hd.heap_39 w.params).In h₀ → Top p loose mean mg mb h₀ →
    ∀ (I aH aP aG aN aR D : Nat) (it o3 o4 : Obj) (es : List (Addr × Obj)) (hs ps gs ns rs : Array Value) (nH nP nG nN nR : Nat) (ys : List Value) (cs : List Int) (tH tk : Tok) (k : Int) (vI vS : Value) (u : Str → Option Value) (h : Heap), o3.data = .cell (some (.ref D)) → o4.data = .cell (some (.ref aN)) → 130 < L → (L + 1 + 1 + 1 + 1 ≠ D ∧ L + 1 + 1 + 1 ≠ D ∧ 130 ≠ D) → (D < aH ∧ L + 1 + 1 + 1 + 1 < aH) → aH < aP → aP < aG → aG < aN → aN < aR → aR < I →
      (∀ p ∈ es, @LT.lt Nat _ I p.1) → hs.size < 5 → ps.size < 5 → (gs.size : Int) = k → ns.size < 5 → rs.size < 5 → IntsAre ys cs → cs.length = 5 → 0 ≤ k → k < 4 →
      Fr h₀ L h (frm [(Str.ofString "k", .int k tk), (Str.ofString "hosts", .ref aH), (Str.ofString "ports", .ref aP), (Str.ofString "gifts", .ref aG), (Str.ofString "refused", .ref aR), (Str.ofString "ink", vI), (Str.ofString "start", vS)] u) → News h₀ L h ([(I, it), (aR, listOf rs nR), (aN, listOf ns nN), (aG, listOf gs nG), (aP, listOf ps nP), (aH, listOf hs nH), (D, LCg.lst ys), (L + 1 + 1 + 1 + 1, o4), (L + 1 + 1 + 1, o3), (130, tabObj #[])] ++ es) →
      Box (wpAny (model PySem.Challenge.rw_yh0007_01.row.prog w) (lawA L fa) (execs (lawFor 6) (lawEnv L fa)) (fun f s' => Hold (f = .next ∧ ∃ h' tk' u' t1 t2 t3 t4 rs' nR' es' nG', s' = { s with heap := h', toks := tk' } ∧ Fr h₀ L h' (frm [(Str.ofString "k", .int k tk), (Str.ofString "hosts", .ref aH), (Str.ofString "ports", .ref aP), (Str.ofString "gifts", .ref aG), (Str.ofString "refused", .ref aR), (Str.ofString "ink", vI), (Str.ofString "start", vS)] u') ∧ News h₀ L h' ([(I, it), (aR, listOf rs' nR'), (aN, listOf (ns.push (.str (nmS ((cs.getD k.toNat 0).fmod 6) (bringI (((cs.getD k.toNat 0).fdiv 144).fmod 16) (((cs.getD k.toNat 0).fdiv 6).fmod 6))) t4)) (nN + 1)), (aG, listOf (gs.push (.str (blanks (bringI (((cs.getD k.toNat 0).fdiv 144).fmod 16) (((cs.getD k.toNat 0).fdiv 6).fmod 6))) t3)) nG'), (aP, listOf (ps.push (.int ((cs.getD k.toNat 0).fmod 6) t2)) (nP + 1)), (aH, listOf (hs.push (.int k t1)) (nH + 1)), (D, LCg.lst ys), (L + 1 + 1 + 1 + 1, o4), (L + 1 + 1 + 1, o3), (130, tabObj #[])] ++ es') ∧ RefStep k (((cs.getD k.toNat 0).fdiv 144).fmod 16) (((cs.getD k.toNat 0).fdiv 6).fmod 6) (((cs.getD k.toNat 0).fdiv 2304).fmod 2) I rs rs' es es')) (fun _ _ => False) { s with heap := h, toks := tH }) := by
  intro hB X' T' I aH aP aG aN aR D it o3 o4 es hs ps gs ns rs nH nP nG nN nR ys cs tH tk k vI vS u h d3 d4 a1 a2 a3 a4 a5 a6 a7 a8 hes zH zP zG zN zR hys hlen hk0 hk4 F N
  have hb6 := fm ((cs.getD k.toNat 0).fdiv 6) 6
  have hw16 := fm ((cs.getD k.toNat 0).fdiv 144) 16
  have hn := fm (cs.getD k.toNat 0) 6
  have hbr : 0 ≤ bringI (((cs.getD k.toNat 0).fdiv 144).fmod 16) (((cs.getD k.toNat 0).fdiv 6).fmod 6) ∧ bringI (((cs.getD k.toNat 0).fdiv 144).fmod 16) (((cs.getD k.toNat 0).fdiv 6).fmod 6) < 6 := by unfold bringI; split <;> omega
  rw [law6]
  refine execs_splitB _ _ _ (turnA w p loose mean mg mb L fa h₀ s hB X' T' I aH aP aG aN aR D it o3 o4 es hs ps gs ns rs nH nP nG nN nR ys cs tH tk k vI vS u h d3 d4 a1 a2 a3 a4 a5 a6 a7 a8 hes zH zP hys hlen hk0 hk4 F N) ?_
  rintro _ zz
  refine exE5 zz ?_
  clear zz
  rintro h1 tk1 u1 t1 t2 ⟨rfl, F1, N1⟩
  refine execs_splitB _ _ _ (turnB w p loose mean mg mb L fa h₀ s hB X' T' I aH aP aG aN aR D it o3 o4 es _ _ gs ns rs _ _ nG nN nR ys cs tk1 tk k vI vS u1 h1 d3 d4 a1 a2 a3 a4 a5 a6 a7 a8 hes zG zR hys hlen hk0 hk4 _ _ F1 N1) ?_
  rintro _ zz
  refine exE8 zz ?_
  clear zz
  rintro h2 tk2 u2 tg rs' nR' es' nG' ⟨rfl, F2, N2, R⟩
  have hes' := ref_es R hes
  refine execs_splitB _ _ _ (turnC w p loose mean mg mb L fa h₀ s hB X' T' I aH aP aG aN aR D it o3 o4 es' _ _ gs ns rs' _ _ nG' nN nR' ys cs tk2 tk k vI vS u2 h2 d3 d4 a1 a2 a3 a4 a5 a6 a7 a8 hes' zG hk0 hk4 _ _ _ _ hn.1 hn.2 hbr.1 hbr.2 F2 N2) ?_
  rintro _ zz
  refine exE5 zz ?_
  clear zz
  rintro h3 tk3 u3 tm zv ⟨rfl, F3, N3, Z⟩
  have hz := zone_text hn.1 hn.2 Z
  refine box_mono (turnD w p loose mean mg mb L fa h₀ s hB X' T' I aH aP aG aN aR D it o3 o4 es' _ _ gs ns rs' _ _ nG' nN nR' ys cs tk3 tk k vI vS u3 h3 d3 d4 a1 a2 a3 a4 a5 a6 a7 a8 hes' zG zN hk0 hk4 _ _ _ _ _ zv hn.1 hn.2 hbr.1 hbr.2 hz F3 N3) (fun f s' z => ?_)
  obtain ⟨rfl, zz⟩ := z
  refine exE4 zz ?_
  clear zz
  rintro h' tk' u' t4 ⟨rfl, F', N'⟩
  rw [name_nm _ _ _ Z] at N'
  exact ⟨rfl, exI8 (a0 := h') (a1 := tk') (a2 := u') (a3 := t1) (a4 := t2) (a5 := tg) (a6 := t4) (a7 := rs') (exI3 (a0 := nR') (a1 := es') (a2 := nG') ⟨rfl, F', N', R⟩)⟩
end Mine
end
section -- LL
open PySem PySem.W PySem.Calls PyProof.Rows PySem.Spec
namespace Mine
noncomputable def J1 (cs : List Int) (ys : List Value) (I aH aP aG aN aR D L : Nat) (o3 o4 : Obj) (vI vS : Value) (i : Nat) (m : Str → Option Value) (news : List (Addr × Obj)) : Prop :=
  ∃ (u : Str → Option Value) (hs ps gs ns rs : Array Value) (nH nP nG nN nR : Nat) (es : List (Addr × Obj)), m = frm [(Str.ofString "hosts", .ref aH), (Str.ofString "ports", .ref aP), (Str.ofString "gifts", .ref aG), (Str.ofString "refused", .ref aR), (Str.ofString "ink", vI), (Str.ofString "start", vS)] u ∧ news = led0 aH aP aG aN aR D L o3 o4 ys hs ps gs ns rs nH nP nG nN nR es ∧ Facts1 cs i I hs ps gs ns rs es
theorem loop1 (w : World) (p : Program) (loose : List Str) (mean : ExcName → Option Value) (mg mb : Str → Option Value) (L fa : Nat) (h₀ : Heap) (s : Shared) :
    Below callerA h₀ [] h₀ → (hd.heap_39 w.params).In h₀ → Top p loose mean mg mb h₀ →
    ∀ (aH aP aG aN aR D : Nat) (o3 o4 : Obj) (nH nP nG nN nR : Nat) (ys : List Value) (cs : List Int) (tH : Tok) (vI vS : Value) (u : Str → Option Value) (h : Heap),
      o3.data = .cell (some (.ref D)) → o4.data = .cell (some (.ref aN)) → 130 < L → (L + 1 + 1 + 1 + 1 ≠ D ∧ L + 1 + 1 + 1 ≠ D ∧ 130 ≠ D) → (D < aH ∧ L + 1 + 1 + 1 + 1 < aH) → aH < aP → aP < aG → aG < aN → aN < aR → IntsAre ys cs → cs.length = 5 →
      Fr h₀ L h (frm [(Str.ofString "hosts", .ref aH), (Str.ofString "ports", .ref aP), (Str.ofString "gifts", .ref aG), (Str.ofString "refused", .ref aR), (Str.ofString "ink", vI), (Str.ofString "start", vS)] u) → News h₀ L h (led0 aH aP aG aN aR D L o3 o4 ys #[] #[] #[] #[] #[] nH nP nG nN nR []) →
      Box (wpAny (model PySem.Challenge.rw_yh0007_01.row.prog w) (lawA L fa) (execs (lawPart 6 1) (lawEnv L fa)) (fun f s' => Hold (f = .next ∧ ∃ h' tk' u' hs ps gs ns rs nH nP nG nN nR es I, s' = { s with heap := h', toks := tk' } ∧ Fr h₀ L h' (frm [(Str.ofString "hosts", .ref aH), (Str.ofString "ports", .ref aP), (Str.ofString "gifts", .ref aG), (Str.ofString "refused", .ref aR), (Str.ofString "ink", vI), (Str.ofString "start", vS)] u') ∧ News h₀ L h' (led0 aH aP aG aN aR D L o3 o4 ys hs ps gs ns rs nH nP nG nN nR es) ∧ aR < I ∧ Facts1 cs 4 I hs ps gs ns rs es)) (fun _ _ => False) { s with heap := h, toks := tH }) := by
  w_top off
  k_fill
  k_with_none
  k_with "andf" => first | exact And.left (by with_reducible assumption) | exact And.left (And.right (by with_reducible assumption)) | exact And.left (And.right (And.right (by with_reducible assumption))) | exact And.left (And.right (And.right (And.right (by with_reducible assumption)))) | exact And.left (And.right (And.right (And.right (And.right (by with_reducible assumption))))) | exact And.left (And.right (And.right (And.right (And.right (And.right (by with_reducible assumption)))))) | exact And.right (by with_reducible assumption) | exact And.right (And.right (by with_reducible assumption)) | exact And.right (And.right (And.right (by with_reducible assumption)))
  k_with "lt" => first | with_reducible assumption | exact And.left (by with_reducible assumption) | exact And.left (And.right (by with_reducible assumption)) | exact And.left (And.right (And.right (by with_reducible assumption))) | exact And.left (And.right (And.right (And.right (by with_reducible assumption)))) | exact And.left (And.right (And.right (And.right (And.right (by with_reducible assumption))))) | exact And.left (And.right (And.right (And.right (And.right (And.right (by with_reducible assumption)))))) | (refine Nat.lt_trans (by with_reducible assumption) ?_; k_extra "lt")
  k_with "ne" => first | with_reducible assumption | exact Ne.symm (by with_reducible assumption) | (refine Nat.ne_of_lt ?_; k_extra "lt") | (refine Nat.ne_of_gt ?_; k_extra "lt") | k_extra "andf" | (refine Ne.symm ?_; k_extra "andf") | (refine Nat.ne_of_lt ?_; k_extra "lt2") | (refine Nat.ne_of_gt ?_; k_extra "lt2")
  k_with "lt2" => first | exact Nat.lt_trans (And.left (by with_reducible assumption)) (by with_reducible assumption) | exact Nat.lt_trans (And.left (And.right (by with_reducible assumption))) (by with_reducible assumption) | exact Nat.lt_trans (And.left (And.right (And.right (by with_reducible assumption)))) (by with_reducible assumption) | exact Nat.lt_trans (And.left (And.right (And.right (And.right (by with_reducible assumption))))) (by with_reducible assumption) | exact Nat.lt_trans (And.left (And.right (And.right (And.right (And.right (by with_reducible assumption)))))) (by with_reducible assumption) | exact Nat.lt_trans (And.left (And.right (And.right (And.right (And.right (And.right (by with_reducible assumption))))))) (by with_reducible assumption) | exact Nat.lt_trans (And.left (And.right (And.right (And.right (And.right (And.right (And.right (by with_reducible assumption)))))))) (by with_reducible assumption) | exact Nat.lt_trans (And.left (And.right (And.right (And.right (And.right (And.right (And.right (And.right (by with_reducible assumption))))))))) (by with_reducible assumption) | exact Nat.lt_trans (And.left (And.right (And.right (And.right (And.right (And.right (And.right (And.right (And.right (by with_reducible assumption)))))))))) (by with_reducible assumption) | exact Nat.lt_trans (And.left (And.right (And.right (And.right (And.right (And.right (And.right (And.right (And.right (And.right (by with_reducible assumption))))))))))) (by with_reducible assumption)
  k_with "omega" => first | safely (k_dflt (k_extra "om")) | safely (k_dflt lia)
  k_with "om" => first | with_reducible assumption | ((with_reducible show (_ : Nat) < _); first | exact Nat.lt_succ_self _ | decide | exact ltNl (by with_reducible assumption) (by rfl) | exact ltNl (And.left (by with_reducible assumption)) (by rfl) | exact ltNl (And.right (by with_reducible assumption)) (by rfl) | k_extra "lt") | ((with_reducible show (_ : Nat) ≤ _); first | exact Nat.le_refl _ | decide | exact leNl (by with_reducible assumption) (by rfl) | exact leNl (And.left (by with_reducible assumption)) (by rfl) | exact leNl (And.right (by with_reducible assumption)) (by rfl) | exact leNl2 (by with_reducible assumption) (by rfl) | exact leNl2 (And.left (by with_reducible assumption)) (by rfl) | exact leNl2 (And.right (by with_reducible assumption)) (by rfl) | (refine Nat.le_of_lt ?_; k_extra "lt")) | ((with_reducible show (_ : Int) < _); first | decide | k_extra "andf" | exact ltIl (by with_reducible assumption) (by rfl) | exact ltIl (And.left (by with_reducible assumption)) (by rfl) | exact ltIl (And.right (by with_reducible assumption)) (by rfl) | exact loIt (by with_reducible assumption) (by rfl) | exact loIt (And.left (by with_reducible assumption)) (by rfl) | exact loIt (And.right (by with_reducible assumption)) (by rfl) | exact loP (by with_reducible assumption) | exact loP (And.left (by with_reducible assumption)) | exact loP (And.right (by with_reducible assumption)) | exact hiP (by with_reducible assumption) (by rfl) | exact hiP (And.left (by with_reducible assumption)) (by rfl) | exact hiP (And.right (by with_reducible assumption)) (by rfl)) | ((with_reducible show (_ : Int) ≤ _); first | decide | k_extra "andf" | exact leIl (by with_reducible assumption) (by rfl) | exact leIl (And.left (by with_reducible assumption)) (by rfl) | exact leIl (And.right (by with_reducible assumption)) (by rfl) | exact leIl2 (by with_reducible assumption) (by rfl) | exact leIl2 (And.left (by with_reducible assumption)) (by rfl) | exact leIl2 (And.right (by with_reducible assumption)) (by rfl) | exact loI (by with_reducible assumption) (by rfl) | exact loI (And.left (by with_reducible assumption)) (by rfl) | exact loI (And.right (by with_reducible assumption)) (by rfl) | exact Int.le_of_lt (by with_reducible assumption)) | ((with_reducible show (_ : Nat) ≠ _); k_extra "ne")
  k_with "steps to iter" => repeat' (first | (k_unfold; (try dsimp only)) | (k_end; wrow_close) | ((fail_if_success (with_reducible show wpAny _ _ (pyIter (Value.ref _)) _ _ _)); (first | walk1 | (dsimp only; walk1) | (leave1; walk_say "STEP leave1"; try dsimp only))) | fail "no step")
  intro hB X' T' aH aP aG aN aR D o3 o4 nH nP nG nN nR ys cs tH vI vS u h d3 d4 a1 a2 a3 a4 a5 a6 a7 hys hlen F N
  refine Box.mk ?_
  dsimp only [lawPart, lawFor, forPart, lawEnv, lawA, lawFn, scopeOf, PySem.Challenge.pw_yh0007_01, lastOf, bodyOf, List.drop, List.take]
  k_fold
  have T0 := turnAll w p loose mean mg mb L fa h₀ s hB X' T'
  dsimp only [lawPart, lawFor, forPart, lawEnv, lawA, lawFn, scopeOf, PySem.Challenge.pw_yh0007_01, lastOf, bodyOf, List.drop, List.take] at T0
  dsimp only [frm] at F
  dsimp only [led0] at N
  walk_at "steps to iter"
  rename IsRange _ _ _ _ _ _ _ _ => r1
  rename Fr _ _ _ _ => F1
  rename News _ _ _ _ => N1
  have N2 : News h₀ L _ (led0 aH aP aG aN aR D L o3 o4 ys #[] #[] #[] #[] #[] nH nP nG nN nR []) := news_sub N1 (by dsimp only [led0]; k_subL)
  with_unfolding_all refine iter_rangeUnr (n := 4) (by rfl) r1 (by decide) (by decide) F1 N2 ?_
  intro I l1
  have hI : aR < I := l1 (aR, listOf #[] nR) (List.Mem.head _)
  refine range_ind (J1 cs ys I aH aP aG aN aR D L o3 o4 vI vS) ?_ ?_ ?_
  · rintro k i m1 news1 hi ⟨u1, hs, ps, gs, ns, rs, mH, mP, mG, mN, mR, es, rfl, rfl, f⟩ R hR t2 h2 tk2 F2 N3
    obtain ⟨z1, z2, z3, z4⟩ := f.sizes
    have z5 := f.h6
    have sd := side1 hi z1 z2 z3 z4 z5
    clear z1 z2 z3 z4 z5
    refine Box.out ?_
    refine box_mono (T0 I aH aP aG aN aR D _ o3 o4 es hs ps gs ns rs mH mP mG mN mR ys cs tk2 t2 (0 + (i : Int)) vI vS u1 h2 d3 d4 a1 a2 a3 a4 a5 a6 a7 hI f.h7 sd.1 sd.2.1 sd.2.2.1 sd.2.2.2.1 sd.2.2.2.2.1 hys hlen sd.2.2.2.2.2.1 sd.2.2.2.2.2.2 F2 N3) ?_
    rintro fl s' ⟨rfl, zz⟩
    refine exE8 zz ?_
    clear zz
    rintro h' tk' u' t1 t2 t3 t4 rs' zz
    refine exE3 zz ?_
    clear zz
    rintro nR' es' nG' ⟨rfl, F', N', RS⟩
    refine UnrEnd.intro (fr_frm F' [(Str.ofString "hosts", .ref aH), (Str.ofString "ports", .ref aP), (Str.ofString "gifts", .ref aG), (Str.ofString "refused", .ref aR), (Str.ofString "ink", vI), (Str.ofString "start", vS)] ⟨rfl, rfl, rfl, rfl, rfl, rfl, trivial⟩) N' (led0 aH aP aG aN aR D L o3 o4 ys _ _ _ _ rs' _ _ nG' _ nR' es') (fun p hp => hp) (fun p hp => ?_) (hR _ _ ⟨_, _, _, _, _, _, _, _, _, _, _, _, rfl, rfl, f.step RS⟩)
    have f' := (f.step (t1 := t1) (t2 := t2) (t3 := t3) (t4 := t4) RS).h7
    simp only [led0, List.mem_cons] at hp
    obtain ⟨b1, b2, b3, b4⟩ := prep a1 a3
    rcases hp with rfl | rfl | rfl | rfl | rfl | rfl | rfl | rfl | rfl | hp
    all_goals first | exact Nat.ne_of_gt (f' _ hp) | (refine neN ?_; dsimp only; k_extra "ne")
  · rintro m1 news1 h2 tk2 ⟨u1, hs, ps, gs, ns, rs, mH, mP, mG, mN, mR, es, rfl, rfl, f⟩ F2 N3
    dsimp only
    k_steps
    show _ ∧ _
    exact ⟨rfl, exI8 (a2 := u1) (a3 := hs) (a4 := ps) (a5 := gs) (a6 := ns) (a7 := rs) (exI7 (a0 := mH) (a1 := mP) (a2 := mG) (a3 := mN) (a4 := mR) (a5 := es) (a6 := I) ⟨rfl, F2, N3, hI, f⟩)⟩
  · exact ⟨_, _, _, _, _, _, _, _, _, _, _, _, rfl, rfl, facts0 cs I⟩
end Mine
end
section -- LS
open PySem PySem.W PySem.Calls PyProof.Rows PySem.Spec
namespace Mine
noncomputable def inkT (i : Int) : Str := if i = 0 then Str.ofString "x" else if i = 1 then Str.ofString "\"" else if i = 2 then Str.ofString "\"\"a" else Str.ofString "\tb \"c\""
noncomputable def inkM (i : Int) : List Nat := (inkT i).cps.toList
noncomputable def RepOf (i : Int) (X : Str) : Prop := Txt.replace ([Str.ofString "x", Str.ofString "\"", Str.ofString "\"\"a", Str.ofString "\tb \"c\""].getD i.toNat Str.empty) (Str.ofString "\"") (Str.ofString "\"\"") = X
theorem repOf_eq {i : Int} {X : Str} (h : RepOf i X) : Txt.replace ([Str.ofString "x", Str.ofString "\"", Str.ofString "\"\"a", Str.ofString "\tb \"c\""].getD i.toNat Str.empty) (Str.ofString "\"") (Str.ofString "\"\"") = X := h
theorem rep_own {prog : Program} {w : World} {A : Around} {E : Value → Shared → Prop} {s : Shared} {x y z X : Str} {t u v : Tok} {Q : Value → Shared → Prop} (hu : u ≠ 0) (hv : v ≠ 0) (huv : u ≠ v) (hyz : (y == z) = false) (hx : x.length ≤ 1048576) (hz : z.length ≤ 14) (e : Txt.replace x y z = X)
    (hq : ∀ t' k, Q (.str X t') { s with toks := k }) : wpAny (model prog w) A (call (.builtin "str.replace") [.str x t, .str y u, .str z v]) Q E s := by
  subst e; exact SC.replaceW hu hv huv hyz hx hz hq
noncomputable abbrev inkE (cs : List Int) : Str := [Str.ofString "x", Str.ofString "\"", Str.ofString "\"\"a", Str.ofString "\tb \"c\""].getD ((cs.getD (Int.toNat 4) 0).fmod 4).toNat Str.empty
theorem four {i : Int} (h : 0 ≤ i ∧ i < 4) : i = 0 ∨ i = 1 ∨ i = 2 ∨ i = 3 := i4 h.1 h.2
theorem ink_len (i : Int) (h : 0 ≤ i ∧ i < 4) : ([Str.ofString "x", Str.ofString "\"", Str.ofString "\"\"a", Str.ofString "\tb \"c\""].getD i.toNat Str.empty).length ≤ 1048576 := by
  rcases four h with rfl | rfl | rfl | rfl <;> decide
theorem ink_eq (i : Int) (h : 0 ≤ i ∧ i < 4) : [Str.ofString "x", Str.ofString "\"", Str.ofString "\"\"a", Str.ofString "\tb \"c\""].getD i.toNat Str.empty = inkT i := by
  rcases four h with rfl | rfl | rfl | rfl <;> rfl
theorem rep_len (i : Int) (h : 0 ≤ i ∧ i < 4) : (Txt.replace ([Str.ofString "x", Str.ofString "\"", Str.ofString "\"\"a", Str.ofString "\tb \"c\""].getD i.toNat Str.empty) (Str.ofString "\"") (Str.ofString "\"\"")).length < 1000 := by
  rcases four h with rfl | rfl | rfl | rfl <;> decide +kernel
noncomputable def okStart (x : Str) (R : List Nat) : Bool :=
  decide (x.length < 100) && decide (5 ≤ x.length) && !(Txt.slice x none (some 3) != Str.ofString "257") && !(Txt.slice x (some 3) (some 5) != Str.ofString " \"") && decide (go (x.cps.toList.drop 5) = R)
theorem start_ok : ∀ i ∈ [(0:Int), 1, 2, 3], ∀ j ∈ [(0:Int), 1, 2], okStart (Str.ofString "257 \"" ++ Txt.replace ([Str.ofString "x", Str.ofString "\"", Str.ofString "\"\"a", Str.ofString "\tb \"c\""].getD i.toNat Str.empty) (Str.ofString "\"") (Str.ofString "\"\"") ++ Txt.mul (Str.ofString " ") 21 ++ [Str.ofString "\"", Str.ofString "\" \"\" x", Str.ofString "\"made"].getD j.toNat Str.empty) (List.replicate 0 32 ++ inkM i ++ List.replicate 21 32) = true := by decide +kernel
structure OkT (x : Str) (R : List Nat) : Prop where
  a1 : x.length < 100
  a2 : 5 ≤ x.length
  a3 : (Txt.slice x none (some 3) != Str.ofString "257") = false
  a4 : (Txt.slice x (some 3) (some 5) != Str.ofString " \"") = false
  a5 : go (x.cps.toList.drop 5) = R
theorem okT_of {i j : Int} {X : Str} (hX : RepOf i X) (h1 : 0 ≤ i ∧ i < 4) (h2 : 0 ≤ j ∧ j < 3) :
    OkT (Str.ofString "257 \"" ++ X ++ Txt.mul (Str.ofString " ") 21 ++ [Str.ofString "\"", Str.ofString "\" \"\" x", Str.ofString "\"made"].getD j.toNat Str.empty) (List.replicate 0 32 ++ inkM i ++ List.replicate 21 32) := by
  have h := start_ok i (fin_all (P := fun x => x ∈ [(0:Int), 1, 2, 3]) 4 h1.1 h1.2 (by decide)) j (fin_all (P := fun x => x ∈ [(0:Int), 1, 2]) 3 h2.1 h2.2 (by decide))
  rw [repOf_eq hX] at h
  unfold okStart at h
  simp only [Bool.and_eq_true, decide_eq_true_eq, Bool.not_eq_true'] at h
  obtain ⟨⟨⟨⟨a1, a2⟩, a3⟩, a4⟩, a5⟩ := h
  exact ⟨a1, a2, a3, a4, a5⟩
theorem C_257s (w : World) (p : Program) (loose : List Str) (mean : ExcName → Option Value) (mg mb : Str → Option Value) (news : List (Addr × Obj)) (x : Str) (t : Tok) (M : List Nat) (h : OkT x (List.replicate 0 32 ++ M ++ List.replicate 21 32)) :
    CbClaim PySem.Challenge.rw_yh0007_01.row.prog w (hd.heap_39 w.params) p loose mean mg mb 86 news [] (True) [.str x t] (fun t => .str (lineS 0 M 21) t) :=
  C_257 w p loose mean mg mb news _ _ t h.a1 h.a2 h.a3 h.a4 h.a5
theorem startS (w : World) (p : Program) (loose : List Str) (mean : ExcName → Option Value) (mg mb : Str → Option Value) (L fa : Nat) (h₀ : Heap) (s : Shared) :
    Below callerA h₀ [] h₀ → (hd.heap_39 w.params).In h₀ → Top p loose mean mg mb h₀ →
    ∀ (D : Nat) (o3 o4 : Obj) (ys : List Value) (cs : List Int) (tH : Tok) (u : Str → Option Value) (h : Heap),
      o3.data = .cell (some (.ref D)) → o4.data = .cell none → 130 < L → (L + 1 + 1 + 1 + 1 ≠ D ∧ L + 1 + 1 + 1 ≠ D ∧ 130 ≠ D) → IntsAre ys cs → cs.length = 5 →
      Fr h₀ L h u → News h₀ L h [(D, LCg.lst ys), (L + 1 + 1 + 1 + 1, o4), (L + 1 + 1 + 1, o3), (130, tabObj #[])] →
      Box (wpAny (model PySem.Challenge.rw_yh0007_01.row.prog w) (lawA L fa) (execs (lawPart 2 3) (lawEnv L fa)) (fun f s' => Hold (f = .next ∧ ∃ h' tk' u' tI tS, s' = { s with heap := h', toks := tk' } ∧ Fr h₀ L h' (frm [(Str.ofString "ink", .str (inkT ((cs.getD (Int.toNat 4) 0).fmod 4)) tI), (Str.ofString "start", .str (lineS 0 (inkM ((cs.getD (Int.toNat 4) 0).fmod 4)) 21) tS)] u') ∧ News h₀ L h' [(D, LCg.lst ys), (L + 1 + 1 + 1 + 1, o4), (L + 1 + 1 + 1, o3), (130, tabObj #[])])) (fun _ _ => False) { s with heap := h, toks := tH }) := by
  w_top off
  k_fill
  k_with_none
  k_with "andf" => first | exact And.left (by with_reducible assumption) | exact And.left (And.right (by with_reducible assumption)) | exact And.left (And.right (And.right (by with_reducible assumption))) | exact And.left (And.right (And.right (And.right (by with_reducible assumption)))) | exact And.left (And.right (And.right (And.right (And.right (by with_reducible assumption))))) | exact And.left (And.right (And.right (And.right (And.right (And.right (by with_reducible assumption)))))) | exact And.right (by with_reducible assumption) | exact And.right (And.right (by with_reducible assumption)) | exact And.right (And.right (And.right (by with_reducible assumption)))
  k_with "lt" => first | with_reducible assumption | exact And.left (by with_reducible assumption) | exact And.left (And.right (by with_reducible assumption)) | exact And.left (And.right (And.right (by with_reducible assumption))) | exact And.left (And.right (And.right (And.right (by with_reducible assumption)))) | exact And.left (And.right (And.right (And.right (And.right (by with_reducible assumption))))) | exact And.left (And.right (And.right (And.right (And.right (And.right (by with_reducible assumption)))))) | (refine Nat.lt_trans (by with_reducible assumption) ?_; k_extra "lt")
  k_with "ne" => first | with_reducible assumption | exact Ne.symm (by with_reducible assumption) | (refine Nat.ne_of_lt ?_; k_extra "lt") | (refine Nat.ne_of_gt ?_; k_extra "lt") | k_extra "andf" | (refine Ne.symm ?_; k_extra "andf") | (refine Nat.ne_of_lt ?_; k_extra "lt2") | (refine Nat.ne_of_gt ?_; k_extra "lt2")
  k_with "lt2" => first | exact Nat.lt_trans (And.left (by with_reducible assumption)) (by with_reducible assumption) | exact Nat.lt_trans (And.left (And.right (by with_reducible assumption))) (by with_reducible assumption) | exact Nat.lt_trans (And.left (And.right (And.right (by with_reducible assumption)))) (by with_reducible assumption) | exact Nat.lt_trans (And.left (And.right (And.right (And.right (by with_reducible assumption))))) (by with_reducible assumption) | exact Nat.lt_trans (And.left (And.right (And.right (And.right (And.right (by with_reducible assumption)))))) (by with_reducible assumption) | exact Nat.lt_trans (And.left (And.right (And.right (And.right (And.right (And.right (by with_reducible assumption))))))) (by with_reducible assumption) | exact Nat.lt_trans (And.left (And.right (And.right (And.right (And.right (And.right (And.right (by with_reducible assumption)))))))) (by with_reducible assumption) | exact Nat.lt_trans (And.left (And.right (And.right (And.right (And.right (And.right (And.right (And.right (by with_reducible assumption))))))))) (by with_reducible assumption) | exact Nat.lt_trans (And.left (And.right (And.right (And.right (And.right (And.right (And.right (And.right (And.right (by with_reducible assumption)))))))))) (by with_reducible assumption) | exact Nat.lt_trans (And.left (And.right (And.right (And.right (And.right (And.right (And.right (And.right (And.right (And.right (by with_reducible assumption))))))))))) (by with_reducible assumption)
  k_with "omega" => first | safely (k_dflt (k_extra "om")) | safely (k_dflt lia)
  k_with "om" => first | with_reducible assumption | ((with_reducible show (_ : Nat) < _); first | exact Nat.lt_succ_self _ | decide | exact ltNl (by with_reducible assumption) (by rfl) | exact ltNl (And.left (by with_reducible assumption)) (by rfl) | exact ltNl (And.right (by with_reducible assumption)) (by rfl) | k_extra "lt") | ((with_reducible show (_ : Nat) ≤ _); first | exact Nat.le_refl _ | decide | exact leNl (by with_reducible assumption) (by rfl) | exact leNl (And.left (by with_reducible assumption)) (by rfl) | exact leNl (And.right (by with_reducible assumption)) (by rfl) | exact leNl2 (by with_reducible assumption) (by rfl) | exact leNl2 (And.left (by with_reducible assumption)) (by rfl) | exact leNl2 (And.right (by with_reducible assumption)) (by rfl) | (refine Nat.le_of_lt ?_; k_extra "lt")) | ((with_reducible show (_ : Int) < _); first | decide | k_extra "andf" | exact ltIl (by with_reducible assumption) (by rfl) | exact ltIl (And.left (by with_reducible assumption)) (by rfl) | exact ltIl (And.right (by with_reducible assumption)) (by rfl) | exact loIt (by with_reducible assumption) (by rfl) | exact loIt (And.left (by with_reducible assumption)) (by rfl) | exact loIt (And.right (by with_reducible assumption)) (by rfl) | exact loP (by with_reducible assumption) | exact loP (And.left (by with_reducible assumption)) | exact loP (And.right (by with_reducible assumption)) | exact hiP (by with_reducible assumption) (by rfl) | exact hiP (And.left (by with_reducible assumption)) (by rfl) | exact hiP (And.right (by with_reducible assumption)) (by rfl)) | ((with_reducible show (_ : Int) ≤ _); first | decide | k_extra "andf" | exact leIl (by with_reducible assumption) (by rfl) | exact leIl (And.left (by with_reducible assumption)) (by rfl) | exact leIl (And.right (by with_reducible assumption)) (by rfl) | exact leIl2 (by with_reducible assumption) (by rfl) | exact leIl2 (And.left (by with_reducible assumption)) (by rfl) | exact leIl2 (And.right (by with_reducible assumption)) (by rfl) | exact loI (by with_reducible assumption) (by rfl) | exact loI (And.left (by with_reducible assumption)) (by rfl) | exact loI (And.right (by with_reducible assumption)) (by rfl) | exact Int.le_of_lt (by with_reducible assumption)) | ((with_reducible show (_ : Nat) ≠ _); k_extra "ne")
  k_with "call builtin:str.replace" => (k_here; k_dflt (refine' rep_own ?ar0 ?br0 ?cr0 ?er0 ?dr0 ?fr0 ?gr0 ?_; (case er0 => decide); (case fr0 => decide); (case gr0 => exact repOf_eq (by assumption)); (case ar0 => exact Nat.succ_ne_zero _); (case br0 => exact Nat.succ_ne_zero _); (case cr0 => exact Nat.ne_of_lt (Nat.lt_succ_self _)); (case dr0 => assumption)); intro t' k'; (try dsimp only))
  k_with "subscriptTail" => (k_here; (with_reducible show wpAny _ _ (subscriptTail _ _ (Value.ref _) (Value.int _ _)) _ _ _); (with_unfolding_all refine' pickK ?k1r1 ?k3r1 ?k4r1 ?k5r1 ?_ ?k6r1; (case k1r1 => is_list); (case k3r1 => omega); (case k4r1 => (simp only [List.length_cons, List.length_nil]; omega)); (case k5r1 => omega); (case k6r1 => with_unfolding_all rfl); k_whole); k_places; all_goals (try dsimp only))
  k_with "call ref" => (k_here; (with_reducible show wpAny _ _ (call (Value.ref 86) [Value.str _ _]) _ _ _); (rename OkT _ _ => okX); k_dflt (refine' C_257s _ _ _ _ _ _ _ _ _ _ okX _ _ _ _ _ _ _ _ _ _ _ _ _ _ _ _ _ ?k1r2 ?k2r2 ?k3r2 ?k4r2 ?k5r2 ?kKr2 trivial ?kdr2 ?kur2 ?_; (case k1r2 => k_asm); (case k2r2 => k_asm); (case k3r2 => k_asm); (case k4r2 => k_asm); (case k5r2 => k_asm); (case kKr2 => exact rfl); (case kdr2 => ktr_room); (case kur2 => ktr_units); intro t9 h9 tk9 F9 N9; (try dsimp only); (try k_sweep)))
  intro hB X' T' D o3 o4 ys cs tH u h d3 d4 a1 a2 hys hlen F N
  refine Box.mk ?_
  dsimp only [lawPart, lawFor, forPart, lawEnv, lawA, lawFn, scopeOf, PySem.Challenge.pw_yh0007_01, lastOf, bodyOf, List.drop, List.take]
  k_fold
  have f4 := fm (cs.getD (Int.toNat 4) 0) 4
  have f3 := fm ((cs.getD (Int.toNat 4) 0).fdiv 4) 3
  have hil := ink_len _ f4
  have hXl := rep_len _ f4
  generalize hX : Txt.replace _ _ _ = X at hXl
  replace hX : RepOf ((cs.getD (Int.toNat 4) 0).fmod 4) X := hX
  have hOK := okT_of hX f4 f3

  k_with "table" => skip
  k_steps
  show _ ∧ _
  refine' ⟨rfl, exI5 ⟨rfl, fr_frm (by assumption) _ ⟨?A, ?B, trivial⟩, news_sub (by assumption) ?S⟩⟩
  case S => k_subL
  case B => exact rfl
  case A => exact congrArg (fun x => some (Value.str x _)) (ink_eq _ f4)
end Mine
end
section -- LF
open PySem PySem.W PySem.Calls PyProof.Rows PySem.Spec
namespace Mine
theorem fiveS (w : World) (p : Program) (loose : List Str) (mean : ExcName → Option Value) (mg mb : Str → Option Value) (L fa : Nat) (h₀ : Heap) (s : Shared) :
    Below callerA h₀ [] h₀ → (hd.heap_39 w.params).In h₀ → Top p loose mean mg mb h₀ →
    ∀ (D : Nat) (o3 o4 : Obj) (ys : List Value) (tH : Tok) (vI vS : Value) (u : Str → Option Value) (h : Heap),
      o3.data = .cell (some (.ref D)) → o4.data = .cell none → 130 < L → (L + 1 + 1 + 1 + 1 ≠ D ∧ L + 1 + 1 + 1 ≠ D ∧ 130 ≠ D) →
      Fr h₀ L h (frm [(Str.ofString "ink", vI), (Str.ofString "start", vS)] u) → News h₀ L h [(D, LCg.lst ys), (L + 1 + 1 + 1 + 1, o4), (L + 1 + 1 + 1, o3), (130, tabObj #[])] →
      Box (wpAny (model PySem.Challenge.rw_yh0007_01.row.prog w) (lawA L fa) (execs (lawPart 5 1) (lawEnv L fa)) (fun f s' => Hold (f = .next ∧ ∃ h' tk' u' aH aP aG aN aR o4' nH nP nG nN nR, s' = { s with heap := h', toks := tk' } ∧ o4'.data = .cell (some (.ref aN)) ∧ (D < aH ∧ L + 1 + 1 + 1 + 1 < aH) ∧ aH < aP ∧ aP < aG ∧ aG < aN ∧ aN < aR ∧ Fr h₀ L h' (frm [(Str.ofString "hosts", .ref aH), (Str.ofString "ports", .ref aP), (Str.ofString "gifts", .ref aG), (Str.ofString "refused", .ref aR), (Str.ofString "ink", vI), (Str.ofString "start", vS)] u') ∧ News h₀ L h' (led0 aH aP aG aN aR D L o3 o4' ys #[] #[] #[] #[] #[] nH nP nG nN nR []))) (fun _ _ => False) { s with heap := h, toks := tH }) := by
  w_top off
  k_fill
  k_with_none
  k_with "andf" => first | exact And.left (by with_reducible assumption) | exact And.left (And.right (by with_reducible assumption)) | exact And.left (And.right (And.right (by with_reducible assumption))) | exact And.left (And.right (And.right (And.right (by with_reducible assumption)))) | exact And.left (And.right (And.right (And.right (And.right (by with_reducible assumption))))) | exact And.left (And.right (And.right (And.right (And.right (And.right (by with_reducible assumption)))))) | exact And.right (by with_reducible assumption) | exact And.right (And.right (by with_reducible assumption)) | exact And.right (And.right (And.right (by with_reducible assumption)))
  k_with "lt" => first | with_reducible assumption | exact And.left (by with_reducible assumption) | exact And.left (And.right (by with_reducible assumption)) | exact And.left (And.right (And.right (by with_reducible assumption))) | exact And.left (And.right (And.right (And.right (by with_reducible assumption)))) | exact And.left (And.right (And.right (And.right (And.right (by with_reducible assumption))))) | exact And.left (And.right (And.right (And.right (And.right (And.right (by with_reducible assumption)))))) | (refine Nat.lt_trans (by with_reducible assumption) ?_; k_extra "lt")
  k_with "ne" => first | with_reducible assumption | exact Ne.symm (by with_reducible assumption) | (refine Nat.ne_of_lt ?_; k_extra "lt") | (refine Nat.ne_of_gt ?_; k_extra "lt") | k_extra "andf" | (refine Ne.symm ?_; k_extra "andf") | (refine Nat.ne_of_lt ?_; k_extra "lt2") | (refine Nat.ne_of_gt ?_; k_extra "lt2")
  k_with "lt2" => first | exact Nat.lt_trans (And.left (by with_reducible assumption)) (by with_reducible assumption) | exact Nat.lt_trans (And.left (And.right (by with_reducible assumption))) (by with_reducible assumption) | exact Nat.lt_trans (And.left (And.right (And.right (by with_reducible assumption)))) (by with_reducible assumption) | exact Nat.lt_trans (And.left (And.right (And.right (And.right (by with_reducible assumption))))) (by with_reducible assumption) | exact Nat.lt_trans (And.left (And.right (And.right (And.right (And.right (by with_reducible assumption)))))) (by with_reducible assumption) | exact Nat.lt_trans (And.left (And.right (And.right (And.right (And.right (And.right (by with_reducible assumption))))))) (by with_reducible assumption) | exact Nat.lt_trans (And.left (And.right (And.right (And.right (And.right (And.right (And.right (by with_reducible assumption)))))))) (by with_reducible assumption) | exact Nat.lt_trans (And.left (And.right (And.right (And.right (And.right (And.right (And.right (And.right (by with_reducible assumption))))))))) (by with_reducible assumption) | exact Nat.lt_trans (And.left (And.right (And.right (And.right (And.right (And.right (And.right (And.right (And.right (by with_reducible assumption)))))))))) (by with_reducible assumption) | exact Nat.lt_trans (And.left (And.right (And.right (And.right (And.right (And.right (And.right (And.right (And.right (And.right (by with_reducible assumption))))))))))) (by with_reducible assumption)
  k_with "omega" => first | safely (k_dflt (k_extra "om")) | safely (k_dflt lia)
  k_with "om" => first | with_reducible assumption | ((with_reducible show (_ : Nat) < _); first | exact Nat.lt_succ_self _ | decide | exact ltNl (by with_reducible assumption) (by rfl) | exact ltNl (And.left (by with_reducible assumption)) (by rfl) | exact ltNl (And.right (by with_reducible assumption)) (by rfl) | k_extra "lt") | ((with_reducible show (_ : Nat) ≤ _); first | exact Nat.le_refl _ | decide | exact leNl (by with_reducible assumption) (by rfl) | exact leNl (And.left (by with_reducible assumption)) (by rfl) | exact leNl (And.right (by with_reducible assumption)) (by rfl) | exact leNl2 (by with_reducible assumption) (by rfl) | exact leNl2 (And.left (by with_reducible assumption)) (by rfl) | exact leNl2 (And.right (by with_reducible assumption)) (by rfl) | (refine Nat.le_of_lt ?_; k_extra "lt")) | ((with_reducible show (_ : Int) < _); first | decide | k_extra "andf" | exact ltIl (by with_reducible assumption) (by rfl) | exact ltIl (And.left (by with_reducible assumption)) (by rfl) | exact ltIl (And.right (by with_reducible assumption)) (by rfl) | exact loIt (by with_reducible assumption) (by rfl) | exact loIt (And.left (by with_reducible assumption)) (by rfl) | exact loIt (And.right (by with_reducible assumption)) (by rfl) | exact loP (by with_reducible assumption) | exact loP (And.left (by with_reducible assumption)) | exact loP (And.right (by with_reducible assumption)) | exact hiP (by with_reducible assumption) (by rfl) | exact hiP (And.left (by with_reducible assumption)) (by rfl) | exact hiP (And.right (by with_reducible assumption)) (by rfl)) | ((with_reducible show (_ : Int) ≤ _); first | decide | k_extra "andf" | exact leIl (by with_reducible assumption) (by rfl) | exact leIl (And.left (by with_reducible assumption)) (by rfl) | exact leIl (And.right (by with_reducible assumption)) (by rfl) | exact leIl2 (by with_reducible assumption) (by rfl) | exact leIl2 (And.left (by with_reducible assumption)) (by rfl) | exact leIl2 (And.right (by with_reducible assumption)) (by rfl) | exact loI (by with_reducible assumption) (by rfl) | exact loI (And.left (by with_reducible assumption)) (by rfl) | exact loI (And.right (by with_reducible assumption)) (by rfl) | exact Int.le_of_lt (by with_reducible assumption)) | ((with_reducible show (_ : Nat) ≠ _); k_extra "ne")
  intro hB X' T' D o3 o4 ys tH vI vS u h d3 d4 a1 a2 F N
  refine Box.mk ?_
  dsimp only [lawPart, lawFor, forPart, lawEnv, lawA, lawFn, scopeOf, PySem.Challenge.pw_yh0007_01, lastOf, bodyOf, List.drop, List.take]
  k_fold
  dsimp only [frm] at F
  k_steps
  show _ ∧ _
  refine' ⟨rfl, exI8 (exI6 ⟨rfl, by assumption, ?l1, ?l2, ?l3, ?l4, ?l5, fr_frm (by assumption) _ ⟨rfl, rfl, rfl, rfl, rfl, rfl, trivial⟩, news_sub (by assumption) ?S⟩)⟩
  case S => dsimp only [led0]; k_subL
  all_goals omega
end Mine
end
section -- LG
open PySem PySem.W PySem.Calls PyProof.Rows PySem.Spec
namespace Mine
theorem wantsS (w : World) (p : Program) (loose : List Str) (mean : ExcName → Option Value) (mg mb : Str → Option Value) (L fa : Nat) (h₀ : Heap) (s : Shared) :
    Below callerA h₀ [] h₀ → (hd.heap_39 w.params).In h₀ → Top p loose mean mg mb h₀ →
    ∀ (aH aP aG aN aR D : Nat) (o3 o4 : Obj) (es : List (Addr × Obj)) (hs ps gs ns rs : Array Value) (nH nP nG nN nR : Nat) (ys : List Value) (tH : Tok) (vI vS : Value) (u : Str → Option Value) (h : Heap) (c0 c1 c2 c3 c4 : Int) (t0 t1 t2 t3 t4 : Tok), o3.data = .cell (some (.ref D)) → o4.data = .cell (some (.ref aN)) → 130 < L → (L + 1 + 1 + 1 + 1 ≠ D ∧ L + 1 + 1 + 1 ≠ D ∧ 130 ≠ D) → (D < aH ∧ L + 1 + 1 + 1 + 1 < aH) → aH < aP → aP < aG → aG < aN → aN < aR → (∀ p ∈ es, @LT.lt Nat _ aR p.1) →
      ys = [.int c0 t0, .int c1 t1, .int c2 t2, .int c3 t3, .int c4 t4] →
      Fr h₀ L h (frm [(Str.ofString "hosts", .ref aH), (Str.ofString "ports", .ref aP), (Str.ofString "gifts", .ref aG), (Str.ofString "refused", .ref aR), (Str.ofString "ink", vI), (Str.ofString "start", vS)] u) → News h₀ L h (led0 aH aP aG aN aR D L o3 o4 ys hs ps gs ns rs nH nP nG nN nR es) →
      Box (wpAny (model PySem.Challenge.rw_yh0007_01.row.prog w) (lawA L fa) (execs (lawPart 7 1) (lawEnv L fa)) (fun f s' => Hold (f = .next ∧ ∃ h' tk' u' aW w0 w1 w2 w3, s' = { s with heap := h', toks := tk' } ∧ 130 ≠ aW ∧ Fr h₀ L h' (frm [(Str.ofString "wants", .ref aW), (Str.ofString "hosts", .ref aH), (Str.ofString "ports", .ref aP), (Str.ofString "gifts", .ref aG), (Str.ofString "refused", .ref aR), (Str.ofString "ink", vI), (Str.ofString "start", vS)] u') ∧ News h₀ L h' ((aW, LCg.lst [.int (wantC c0) w0, .int (wantC c1) w1, .int (wantC c2) w2, .int (wantC c3) w3]) :: (led0 aH aP aG aN aR D L o3 o4 ys hs ps gs ns rs nH nP nG nN nR es)))) (fun _ _ => False) { s with heap := h, toks := tH }) := by
  w_top off
  k_fill
  k_with_none
  k_with "andf" => first | exact And.left (by with_reducible assumption) | exact And.left (And.right (by with_reducible assumption)) | exact And.left (And.right (And.right (by with_reducible assumption))) | exact And.left (And.right (And.right (And.right (by with_reducible assumption)))) | exact And.left (And.right (And.right (And.right (And.right (by with_reducible assumption))))) | exact And.left (And.right (And.right (And.right (And.right (And.right (by with_reducible assumption)))))) | exact And.right (by with_reducible assumption) | exact And.right (And.right (by with_reducible assumption)) | exact And.right (And.right (And.right (by with_reducible assumption)))
  k_with "lt" => first | with_reducible assumption | exact And.left (by with_reducible assumption) | exact And.left (And.right (by with_reducible assumption)) | exact And.left (And.right (And.right (by with_reducible assumption))) | exact And.left (And.right (And.right (And.right (by with_reducible assumption)))) | exact And.left (And.right (And.right (And.right (And.right (by with_reducible assumption))))) | exact And.left (And.right (And.right (And.right (And.right (And.right (by with_reducible assumption)))))) | (refine Nat.lt_trans (by with_reducible assumption) ?_; k_extra "lt")
  k_with "ne" => first | with_reducible assumption | exact Ne.symm (by with_reducible assumption) | (refine Nat.ne_of_lt ?_; k_extra "lt") | (refine Nat.ne_of_gt ?_; k_extra "lt") | k_extra "andf" | (refine Ne.symm ?_; k_extra "andf") | (refine Nat.ne_of_lt ?_; k_extra "lt2") | (refine Nat.ne_of_gt ?_; k_extra "lt2")
  k_with "lt2" => first | exact Nat.lt_trans (And.left (by with_reducible assumption)) (by with_reducible assumption) | exact Nat.lt_trans (And.left (And.right (by with_reducible assumption))) (by with_reducible assumption) | exact Nat.lt_trans (And.left (And.right (And.right (by with_reducible assumption)))) (by with_reducible assumption) | exact Nat.lt_trans (And.left (And.right (And.right (And.right (by with_reducible assumption))))) (by with_reducible assumption) | exact Nat.lt_trans (And.left (And.right (And.right (And.right (And.right (by with_reducible assumption)))))) (by with_reducible assumption) | exact Nat.lt_trans (And.left (And.right (And.right (And.right (And.right (And.right (by with_reducible assumption))))))) (by with_reducible assumption) | exact Nat.lt_trans (And.left (And.right (And.right (And.right (And.right (And.right (And.right (by with_reducible assumption)))))))) (by with_reducible assumption) | exact Nat.lt_trans (And.left (And.right (And.right (And.right (And.right (And.right (And.right (And.right (by with_reducible assumption))))))))) (by with_reducible assumption) | exact Nat.lt_trans (And.left (And.right (And.right (And.right (And.right (And.right (And.right (And.right (And.right (by with_reducible assumption)))))))))) (by with_reducible assumption) | exact Nat.lt_trans (And.left (And.right (And.right (And.right (And.right (And.right (And.right (And.right (And.right (And.right (by with_reducible assumption))))))))))) (by with_reducible assumption)
  k_with "omega" => first | safely (k_dflt (k_extra "om")) | safely (k_dflt lia)
  k_with "om" => first | with_reducible assumption | ((with_reducible show (_ : Nat) < _); first | exact Nat.lt_succ_self _ | decide | exact ltNl (by with_reducible assumption) (by rfl) | exact ltNl (And.left (by with_reducible assumption)) (by rfl) | exact ltNl (And.right (by with_reducible assumption)) (by rfl) | k_extra "lt") | ((with_reducible show (_ : Nat) ≤ _); first | exact Nat.le_refl _ | decide | exact leNl (by with_reducible assumption) (by rfl) | exact leNl (And.left (by with_reducible assumption)) (by rfl) | exact leNl (And.right (by with_reducible assumption)) (by rfl) | exact leNl2 (by with_reducible assumption) (by rfl) | exact leNl2 (And.left (by with_reducible assumption)) (by rfl) | exact leNl2 (And.right (by with_reducible assumption)) (by rfl) | (refine Nat.le_of_lt ?_; k_extra "lt")) | ((with_reducible show (_ : Int) < _); first | decide | k_extra "andf" | exact ltIl (by with_reducible assumption) (by rfl) | exact ltIl (And.left (by with_reducible assumption)) (by rfl) | exact ltIl (And.right (by with_reducible assumption)) (by rfl) | exact loIt (by with_reducible assumption) (by rfl) | exact loIt (And.left (by with_reducible assumption)) (by rfl) | exact loIt (And.right (by with_reducible assumption)) (by rfl) | exact loP (by with_reducible assumption) | exact loP (And.left (by with_reducible assumption)) | exact loP (And.right (by with_reducible assumption)) | exact hiP (by with_reducible assumption) (by rfl) | exact hiP (And.left (by with_reducible assumption)) (by rfl) | exact hiP (And.right (by with_reducible assumption)) (by rfl)) | ((with_reducible show (_ : Int) ≤ _); first | decide | k_extra "andf" | exact leIl (by with_reducible assumption) (by rfl) | exact leIl (And.left (by with_reducible assumption)) (by rfl) | exact leIl (And.right (by with_reducible assumption)) (by rfl) | exact leIl2 (by with_reducible assumption) (by rfl) | exact leIl2 (And.left (by with_reducible assumption)) (by rfl) | exact leIl2 (And.right (by with_reducible assumption)) (by rfl) | exact loI (by with_reducible assumption) (by rfl) | exact loI (And.left (by with_reducible assumption)) (by rfl) | exact loI (And.right (by with_reducible assumption)) (by rfl) | exact Int.le_of_lt (by with_reducible assumption)) | ((with_reducible show (_ : Nat) ≠ _); k_extra "ne")
  k_with "CompEnd" => (k_dflt (refine LCg.CompEnd.intro (by assumption) (by assumption) _ (fun p hp => hp) ?or0 ?Sr0 ?_); k_dflt ((case or0 => (simp only [LCg.Off3, and_true, List.nil_append, List.cons_append]; assumption)); (case Sr0 => lcg_src)); (try dsimp only))
  intro hB X' T' aH aP aG aN aR D o3 o4 es hs ps gs ns rs nH nP nG nN nR ys tH vI vS u h c0 c1 c2 c3 c4 t0 t1 t2 t3 t4 d3 d4 a1 a2 a3 a4 a5 a6 a7 hes hys F N
  refine Box.mk ?_
  dsimp only [lawPart, lawFor, forPart, lawEnv, lawA, lawFn, scopeOf, PySem.Challenge.pw_yh0007_01, lastOf, bodyOf, List.drop, List.take]
  k_fold
  subst hys
  dsimp only [frm] at F
  dsimp only [led0] at N
  k_steps
  show _ ∧ _
  refine' ⟨rfl, exI8 ⟨rfl, ?Z, fr_frm (by assumption) _ ⟨rfl, rfl, rfl, rfl, rfl, rfl, rfl, trivial⟩, news_skip2 (by assumption)⟩⟩
  case Z => (rename _ ∧ _ => OX; obtain ⟨_, _, _, _, _, _, _, _, _, o130, _⟩ := OX; exact o130)
end Mine
end
section -- LG8
open PySem PySem.W PySem.Calls PyProof.Rows PySem.Spec
namespace Mine
theorem ints4 {vs : List Value} {a b c d : Int} (h : IntsAre vs [a, b, c, d]) : ∃ t0 t1 t2 t3, vs = [.int a t0, .int b t1, .int c t2, .int d t3] := by
  refine ints_e h fun t0 r0 e0 h0 => ints_e h0 fun t1 r1 e1 h1 => ints_e h1 fun t2 r2 e2 h2 => ints_e h2 fun t3 r3 e3 h3 => ?_
  exact exI4 (a0 := t0) (a1 := t1) (a2 := t2) (a3 := t3) (eq4 e0 e1 e2 e3 (ints_nil h3))
theorem bring_lo {c : Int} (h : (c.fdiv 144).fmod 16 < 12) : bringC c = (c.fdiv 6).fmod 6 := by unfold bringC bringI wayC bC; rw [if_pos h]
theorem bring_hi {c : Int} (h : 12 ≤ (c.fdiv 144).fmod 16) : bringC c = 0 := by unfold bringC bringI wayC bC; rw [if_neg (by omega)]
theorem bringsS (w : World) (p : Program) (loose : List Str) (mean : ExcName → Option Value) (mg mb : Str → Option Value) (L fa : Nat) (h₀ : Heap) (s : Shared) :
    Below callerA h₀ [] h₀ → (hd.heap_39 w.params).In h₀ → Top p loose mean mg mb h₀ →
    ∀ (aW : Nat) (w0 w1 w2 w3 : Tok) (aH aP aG aN aR D : Nat) (o3 o4 : Obj) (es : List (Addr × Obj)) (hs ps gs ns rs : Array Value) (nH nP nG nN nR : Nat) (ys : List Value) (tH : Tok) (vI vS : Value) (u : Str → Option Value) (h : Heap) (c0 c1 c2 c3 c4 : Int) (t0 t1 t2 t3 t4 : Tok), o3.data = .cell (some (.ref D)) → o4.data = .cell (some (.ref aN)) → 130 < L → (L + 1 + 1 + 1 + 1 ≠ D ∧ L + 1 + 1 + 1 ≠ D ∧ 130 ≠ D) → (D < aH ∧ L + 1 + 1 + 1 + 1 < aH) → aH < aP → aP < aG → aG < aN → aN < aR → (∀ p ∈ es, @LT.lt Nat _ aR p.1) →
      ys = [.int c0 t0, .int c1 t1, .int c2 t2, .int c3 t3, .int c4 t4] →
      Fr h₀ L h (frm [(Str.ofString "wants", .ref aW), (Str.ofString "hosts", .ref aH), (Str.ofString "ports", .ref aP), (Str.ofString "gifts", .ref aG), (Str.ofString "refused", .ref aR), (Str.ofString "ink", vI), (Str.ofString "start", vS)] u) → News h₀ L h ((aW, LCg.lst [.int (wantC c0) w0, .int (wantC c1) w1, .int (wantC c2) w2, .int (wantC c3) w3]) :: (led0 aH aP aG aN aR D L o3 o4 ys hs ps gs ns rs nH nP nG nN nR es)) →
      Box (wpAny (model PySem.Challenge.rw_yh0007_01.row.prog w) (lawA L fa) (execs (lawPart 8 1) (lawEnv L fa)) (fun f s' => Hold (f = .next ∧ ∃ h' tk' u' aB b0 b1 b2 b3, s' = { s with heap := h', toks := tk' } ∧ 130 ≠ aB ∧ Fr h₀ L h' (frm [(Str.ofString "brings", .ref aB), (Str.ofString "wants", .ref aW), (Str.ofString "hosts", .ref aH), (Str.ofString "ports", .ref aP), (Str.ofString "gifts", .ref aG), (Str.ofString "refused", .ref aR), (Str.ofString "ink", vI), (Str.ofString "start", vS)] u') ∧ News h₀ L h' ((aB, LCg.lst [.int (bringC c0) b0, .int (bringC c1) b1, .int (bringC c2) b2, .int (bringC c3) b3]) :: (aW, LCg.lst [.int (wantC c0) w0, .int (wantC c1) w1, .int (wantC c2) w2, .int (wantC c3) w3]) :: (led0 aH aP aG aN aR D L o3 o4 ys hs ps gs ns rs nH nP nG nN nR es)))) (fun _ _ => False) { s with heap := h, toks := tH }) := by
  w_top off
  k_fill
  k_with_none
  k_with "andf" => first | exact And.left (by with_reducible assumption) | exact And.left (And.right (by with_reducible assumption)) | exact And.left (And.right (And.right (by with_reducible assumption))) | exact And.left (And.right (And.right (And.right (by with_reducible assumption)))) | exact And.left (And.right (And.right (And.right (And.right (by with_reducible assumption))))) | exact And.left (And.right (And.right (And.right (And.right (And.right (by with_reducible assumption)))))) | exact And.right (by with_reducible assumption) | exact And.right (And.right (by with_reducible assumption)) | exact And.right (And.right (And.right (by with_reducible assumption)))
  k_with "lt" => first | with_reducible assumption | exact And.left (by with_reducible assumption) | exact And.left (And.right (by with_reducible assumption)) | exact And.left (And.right (And.right (by with_reducible assumption))) | exact And.left (And.right (And.right (And.right (by with_reducible assumption)))) | exact And.left (And.right (And.right (And.right (And.right (by with_reducible assumption))))) | exact And.left (And.right (And.right (And.right (And.right (And.right (by with_reducible assumption)))))) | (refine Nat.lt_trans (by with_reducible assumption) ?_; k_extra "lt")
  k_with "ne" => first | with_reducible assumption | exact Ne.symm (by with_reducible assumption) | (refine Nat.ne_of_lt ?_; k_extra "lt") | (refine Nat.ne_of_gt ?_; k_extra "lt") | k_extra "andf" | (refine Ne.symm ?_; k_extra "andf") | (refine Nat.ne_of_lt ?_; k_extra "lt2") | (refine Nat.ne_of_gt ?_; k_extra "lt2")
  k_with "lt2" => first | exact Nat.lt_trans (And.left (by with_reducible assumption)) (by with_reducible assumption) | exact Nat.lt_trans (And.left (And.right (by with_reducible assumption))) (by with_reducible assumption) | exact Nat.lt_trans (And.left (And.right (And.right (by with_reducible assumption)))) (by with_reducible assumption) | exact Nat.lt_trans (And.left (And.right (And.right (And.right (by with_reducible assumption))))) (by with_reducible assumption) | exact Nat.lt_trans (And.left (And.right (And.right (And.right (And.right (by with_reducible assumption)))))) (by with_reducible assumption) | exact Nat.lt_trans (And.left (And.right (And.right (And.right (And.right (And.right (by with_reducible assumption))))))) (by with_reducible assumption) | exact Nat.lt_trans (And.left (And.right (And.right (And.right (And.right (And.right (And.right (by with_reducible assumption)))))))) (by with_reducible assumption) | exact Nat.lt_trans (And.left (And.right (And.right (And.right (And.right (And.right (And.right (And.right (by with_reducible assumption))))))))) (by with_reducible assumption) | exact Nat.lt_trans (And.left (And.right (And.right (And.right (And.right (And.right (And.right (And.right (And.right (by with_reducible assumption)))))))))) (by with_reducible assumption) | exact Nat.lt_trans (And.left (And.right (And.right (And.right (And.right (And.right (And.right (And.right (And.right (And.right (by with_reducible assumption))))))))))) (by with_reducible assumption)
  k_with "omega" => first | safely (k_dflt (k_extra "om")) | safely (k_dflt lia)
  k_with "om" => first | with_reducible assumption | ((with_reducible show (_ : Nat) < _); first | exact Nat.lt_succ_self _ | decide | exact ltNl (by with_reducible assumption) (by rfl) | exact ltNl (And.left (by with_reducible assumption)) (by rfl) | exact ltNl (And.right (by with_reducible assumption)) (by rfl) | k_extra "lt") | ((with_reducible show (_ : Nat) ≤ _); first | exact Nat.le_refl _ | decide | exact leNl (by with_reducible assumption) (by rfl) | exact leNl (And.left (by with_reducible assumption)) (by rfl) | exact leNl (And.right (by with_reducible assumption)) (by rfl) | exact leNl2 (by with_reducible assumption) (by rfl) | exact leNl2 (And.left (by with_reducible assumption)) (by rfl) | exact leNl2 (And.right (by with_reducible assumption)) (by rfl) | (refine Nat.le_of_lt ?_; k_extra "lt")) | ((with_reducible show (_ : Int) < _); first | decide | k_extra "andf" | exact ltIl (by with_reducible assumption) (by rfl) | exact ltIl (And.left (by with_reducible assumption)) (by rfl) | exact ltIl (And.right (by with_reducible assumption)) (by rfl) | exact loIt (by with_reducible assumption) (by rfl) | exact loIt (And.left (by with_reducible assumption)) (by rfl) | exact loIt (And.right (by with_reducible assumption)) (by rfl) | exact loP (by with_reducible assumption) | exact loP (And.left (by with_reducible assumption)) | exact loP (And.right (by with_reducible assumption)) | exact hiP (by with_reducible assumption) (by rfl) | exact hiP (And.left (by with_reducible assumption)) (by rfl) | exact hiP (And.right (by with_reducible assumption)) (by rfl)) | ((with_reducible show (_ : Int) ≤ _); first | decide | k_extra "andf" | exact leIl (by with_reducible assumption) (by rfl) | exact leIl (And.left (by with_reducible assumption)) (by rfl) | exact leIl (And.right (by with_reducible assumption)) (by rfl) | exact leIl2 (by with_reducible assumption) (by rfl) | exact leIl2 (And.left (by with_reducible assumption)) (by rfl) | exact leIl2 (And.right (by with_reducible assumption)) (by rfl) | exact loI (by with_reducible assumption) (by rfl) | exact loI (And.left (by with_reducible assumption)) (by rfl) | exact loI (And.right (by with_reducible assumption)) (by rfl) | exact Int.le_of_lt (by with_reducible assumption)) | ((with_reducible show (_ : Nat) ≠ _); k_extra "ne")
  k_with "CompSrc" => (k_here; k_dflt (refine LCg.CompSrc.ledger (by rfl) (by k_asm) (by k_asm) (by k_mem) (by first | size_fits | exact Nat.le_of_ble_eq_true rfl) ?_); intro g'; k_dflt ((refine' kcf_list bringC (by first | assumption | l_ints) (fun k' t' I' oI' C' oC' D' m' ys' h' tk' E' hk' hC' hx' F' N' off' ne' hMark' => ?_) ?_); (all_goals (try (simp only [LCg.Off3, and_true] at off'))); kcf_last))
  k_with "KCfEl" => ((refine kcf_el ?kcer1 (by with_unfolding_all rfl) (by with_unfolding_all rfl)); (case kcer1 => first | exact bring_lo (by assumption) | exact bring_hi (by assumption)))
  intro hB X' T' aW w0 w1 w2 w3 aH aP aG aN aR D o3 o4 es hs ps gs ns rs nH nP nG nN nR ys tH vI vS u h c0 c1 c2 c3 c4 t0 t1 t2 t3 t4 d3 d4 a1 a2 a3 a4 a5 a6 a7 hes hys F N
  refine Box.mk ?_
  dsimp only [lawPart, lawFor, forPart, lawEnv, lawA, lawFn, scopeOf, PySem.Challenge.pw_yh0007_01, lastOf, bodyOf, List.drop, List.take]
  k_fold
  subst hys
  dsimp only [frm] at F
  dsimp only [led0] at N
  k_steps
  rename IntsAre _ _ => HI
  dsimp only [List.map] at HI
  obtain ⟨b0, b1, b2, b3, rfl⟩ := ints4 HI
  show _ ∧ _
  refine' ⟨rfl, exI8 ⟨rfl, ?Z, fr_frm (by assumption) _ ⟨rfl, rfl, rfl, rfl, rfl, rfl, rfl, rfl, trivial⟩, news_skip2 (by assumption)⟩⟩
  case Z => (rename _ ∧ _ => OX; obtain ⟨_, _, _, _, _, _, _, _, _, _, o130, _⟩ := OX; exact o130)
end Mine
end
section -- LE
open PySem PySem.W PySem.Calls PyProof.Rows PySem.Spec
namespace Mine
theorem off_tail2 {es : List (Addr × Obj)} {d : Nat} (h : ∀ p ∈ es, @LT.lt Nat _ p.1 d) : ∀ p ∈ es, p.1 ≠ d := fun p hp e => by
  have h1 : p.1 < d := h p hp
  rw [e] at h1
  exact absurd h1 (Nat.lt_irrefl _)
theorem str_assoc (a b c : Str) : a ++ b ++ c = a ++ (b ++ c) := by
  show Str.mk _ = Str.mk _
  exact congrArg Str.mk (Array.append_assoc ..)
theorem str_nil (a : Str) : a ++ Str.ofString "" = a := by
  show Str.mk _ = _
  have : (Str.ofString "").cps = #[] := by decide
  show Str.mk (a.cps ++ (Str.ofString "").cps) = a
  rw [this, Array.append_empty]
noncomputable def tailS (n : Int) : Str := if n.fmod 2 = 1 then Str.ofString "" else Str.ofString "." ++ Str.ofString (toString n)
theorem nm_tail (n b : Int) : nmS n b = langQ n b ++ tailS n := by
  unfold nmS tailS
  split
  · rw [str_nil]
  · rw [str_assoc]
theorem nm_of {n b : Int} {x y : Str} (h1 : langQ n b = x) (h2 : tailS n = y) : x ++ y = nmS n b := by rw [nm_tail, h1, h2]
theorem lq_a {n b : Int} (h : b < n) : langQ n b = Str.ofString "a" ++ Str.ofString (toString (9 - b)) := if_pos h
theorem lq_c {n b : Int} (h : b = n) : langQ n b = Str.ofString "C" := by unfold langQ; rw [if_neg (by omega), if_pos h]
theorem lq_b {n b : Int} (h : n < b) : langQ n b = Str.ofString "B" ++ Str.ofString (toString n) := by unfold langQ; rw [if_neg (by omega), if_neg (by omega)]
theorem tl_o {n : Int} (h : n.fmod 2 = 1) : tailS n = Str.ofString "" := if_pos h
theorem tl_e {n : Int} (h : ¬ n.fmod 2 = 1) : tailS n = Str.ofString "." ++ Str.ofString (toString n) := if_neg h
theorem nmN {h₀ h : Heap} {L I aS aB aW : Nat} {it : Obj} {sp : Array Value} {nS : Nat} {bv wv : List Value} {es : List (Addr × Obj)} {x y : Str} {n b : Int} {t : Tok}
    (N : News h₀ L h ((I, it) :: (aS, listOf (sp.push (.str (x ++ y) t)) (nS + 1)) :: (aB, LCg.lst bv) :: (aW, LCg.lst wv) :: es)) (h1 : langQ n b = x) (h2 : tailS n = y) :
    News h₀ L h ((I, it) :: (aS, listOf (sp.push (.str (nmS n b) t)) (nS + 1)) :: (aB, LCg.lst bv) :: (aW, LCg.lst wv) :: es) := by
  rw [← nm_of h1 h2]; exact N
local macro_rules | `(tactic| k_all) => `(tactic| exact off_tail2 (by assumption))
theorem turnE (w : World) (p : Program) (loose : List Str) (mean : ExcName → Option Value) (mg mb : Str → Option Value) (L fa : Nat) (h₀ : Heap) (s : Shared) :
    Below callerA h₀ [] h₀ → (hd.heap_39 w.params).In h₀ → Top p loose mean mg mb h₀ →
    ∀ (I aS aB aW aH aP aG aR : Nat) (it : Obj) (es : List (Addr × Obj)) (sp : Array Value) (nS : Nat) (bv wv : List Value) (bs ws : List Int) (tH tk : Tok) (k : Int) (vI vS : Value) (u : Str → Option Value) (h : Heap),
      130 < L → aW < aS → aB < aS → aS < I → (∀ p ∈ es, @LT.lt Nat _ p.1 aS) → sp.size < 5 → IntsAre wv ws → ws.length = 4 → IntsAre bv bs → bs.length = 4 → 0 ≤ k → k < 4 →
      0 ≤ ws.getD k.toNat 0 → ws.getD k.toNat 0 < 6 → 0 ≤ bs.getD k.toNat 0 → bs.getD k.toNat 0 < 6 →
      Fr h₀ L h (frm [(Str.ofString "k", .int k tk), (Str.ofString "spelled", .ref aS), (Str.ofString "brings", .ref aB), (Str.ofString "wants", .ref aW), (Str.ofString "hosts", .ref aH), (Str.ofString "ports", .ref aP), (Str.ofString "gifts", .ref aG), (Str.ofString "refused", .ref aR), (Str.ofString "ink", vI), (Str.ofString "start", vS)] u) → News h₀ L h ((I, it) :: (aS, listOf sp nS) :: (aB, LCg.lst bv) :: (aW, LCg.lst wv) :: es) →
      Box (wpAny (model PySem.Challenge.rw_yh0007_01.row.prog w) (lawA L fa) (execs (lawFor 10) (lawEnv L fa)) (fun f s' => Hold (f = .next ∧ ∃ h' tk' u' t1, s' = { s with heap := h', toks := tk' } ∧ Fr h₀ L h' (frm [(Str.ofString "spelled", .ref aS), (Str.ofString "brings", .ref aB), (Str.ofString "wants", .ref aW), (Str.ofString "hosts", .ref aH), (Str.ofString "ports", .ref aP), (Str.ofString "gifts", .ref aG), (Str.ofString "refused", .ref aR), (Str.ofString "ink", vI), (Str.ofString "start", vS)] u') ∧ News h₀ L h' ((I, it) :: (aS, listOf (sp.push (.str (nmS (ws.getD k.toNat 0) (bs.getD k.toNat 0)) t1)) (nS + 1)) :: (aB, LCg.lst bv) :: (aW, LCg.lst wv) :: es))) (fun _ _ => False) { s with heap := h, toks := tH }) := by
  w_top off
  k_fill
  k_with_none
  k_with "andf" => first | exact And.left (by with_reducible assumption) | exact And.left (And.right (by with_reducible assumption)) | exact And.left (And.right (And.right (by with_reducible assumption))) | exact And.left (And.right (And.right (And.right (by with_reducible assumption)))) | exact And.left (And.right (And.right (And.right (And.right (by with_reducible assumption))))) | exact And.left (And.right (And.right (And.right (And.right (And.right (by with_reducible assumption)))))) | exact And.right (by with_reducible assumption) | exact And.right (And.right (by with_reducible assumption)) | exact And.right (And.right (And.right (by with_reducible assumption)))
  k_with "lt" => first | with_reducible assumption | exact And.left (by with_reducible assumption) | exact And.left (And.right (by with_reducible assumption)) | exact And.left (And.right (And.right (by with_reducible assumption))) | exact And.left (And.right (And.right (And.right (by with_reducible assumption)))) | exact And.left (And.right (And.right (And.right (And.right (by with_reducible assumption))))) | exact And.left (And.right (And.right (And.right (And.right (And.right (by with_reducible assumption)))))) | (refine Nat.lt_trans (by with_reducible assumption) ?_; k_extra "lt")
  k_with "ne" => first | with_reducible assumption | exact Ne.symm (by with_reducible assumption) | (refine Nat.ne_of_lt ?_; k_extra "lt") | (refine Nat.ne_of_gt ?_; k_extra "lt") | k_extra "andf" | (refine Ne.symm ?_; k_extra "andf") | (refine Nat.ne_of_lt ?_; k_extra "lt2") | (refine Nat.ne_of_gt ?_; k_extra "lt2")
  k_with "lt2" => first | exact Nat.lt_trans (And.left (by with_reducible assumption)) (by with_reducible assumption) | exact Nat.lt_trans (And.left (And.right (by with_reducible assumption))) (by with_reducible assumption) | exact Nat.lt_trans (And.left (And.right (And.right (by with_reducible assumption)))) (by with_reducible assumption) | exact Nat.lt_trans (And.left (And.right (And.right (And.right (by with_reducible assumption))))) (by with_reducible assumption) | exact Nat.lt_trans (And.left (And.right (And.right (And.right (And.right (by with_reducible assumption)))))) (by with_reducible assumption) | exact Nat.lt_trans (And.left (And.right (And.right (And.right (And.right (And.right (by with_reducible assumption))))))) (by with_reducible assumption) | exact Nat.lt_trans (And.left (And.right (And.right (And.right (And.right (And.right (And.right (by with_reducible assumption)))))))) (by with_reducible assumption) | exact Nat.lt_trans (And.left (And.right (And.right (And.right (And.right (And.right (And.right (And.right (by with_reducible assumption))))))))) (by with_reducible assumption) | exact Nat.lt_trans (And.left (And.right (And.right (And.right (And.right (And.right (And.right (And.right (And.right (by with_reducible assumption)))))))))) (by with_reducible assumption) | exact Nat.lt_trans (And.left (And.right (And.right (And.right (And.right (And.right (And.right (And.right (And.right (And.right (by with_reducible assumption))))))))))) (by with_reducible assumption)
  k_with "omega" => first | safely (k_dflt (k_extra "om")) | safely (k_dflt lia)
  k_with "om" => first | with_reducible assumption | ((with_reducible show (_ : Nat) < _); first | exact Nat.lt_succ_self _ | decide | exact ltNl (by with_reducible assumption) (by rfl) | exact ltNl (And.left (by with_reducible assumption)) (by rfl) | exact ltNl (And.right (by with_reducible assumption)) (by rfl) | k_extra "lt") | ((with_reducible show (_ : Nat) ≤ _); first | exact Nat.le_refl _ | decide | exact leNl (by with_reducible assumption) (by rfl) | exact leNl (And.left (by with_reducible assumption)) (by rfl) | exact leNl (And.right (by with_reducible assumption)) (by rfl) | exact leNl2 (by with_reducible assumption) (by rfl) | exact leNl2 (And.left (by with_reducible assumption)) (by rfl) | exact leNl2 (And.right (by with_reducible assumption)) (by rfl) | (refine Nat.le_of_lt ?_; k_extra "lt")) | ((with_reducible show (_ : Int) < _); first | decide | k_extra "andf" | exact ltIl (by with_reducible assumption) (by rfl) | exact ltIl (And.left (by with_reducible assumption)) (by rfl) | exact ltIl (And.right (by with_reducible assumption)) (by rfl) | exact loIt (by with_reducible assumption) (by rfl) | exact loIt (And.left (by with_reducible assumption)) (by rfl) | exact loIt (And.right (by with_reducible assumption)) (by rfl) | exact loP (by with_reducible assumption) | exact loP (And.left (by with_reducible assumption)) | exact loP (And.right (by with_reducible assumption)) | exact hiP (by with_reducible assumption) (by rfl) | exact hiP (And.left (by with_reducible assumption)) (by rfl) | exact hiP (And.right (by with_reducible assumption)) (by rfl)) | ((with_reducible show (_ : Int) ≤ _); first | decide | k_extra "andf" | exact leIl (by with_reducible assumption) (by rfl) | exact leIl (And.left (by with_reducible assumption)) (by rfl) | exact leIl (And.right (by with_reducible assumption)) (by rfl) | exact leIl2 (by with_reducible assumption) (by rfl) | exact leIl2 (And.left (by with_reducible assumption)) (by rfl) | exact leIl2 (And.right (by with_reducible assumption)) (by rfl) | exact loI (by with_reducible assumption) (by rfl) | exact loI (And.left (by with_reducible assumption)) (by rfl) | exact loI (And.right (by with_reducible assumption)) (by rfl) | exact Int.le_of_lt (by with_reducible assumption)) | ((with_reducible show (_ : Nat) ≠ _); k_extra "ne")
  k_with "call builtin:list.append" => (k_here; (with_reducible show wpAny _ _ (call (Value.builtin _) [Value.ref _, _]) _ _ _); k_dflt (refine' append_K ?k1r0 ?k2r0 ?k3r0 ?_ ?zr0; (case k1r0 => k_asm); (case k2r0 => k_asm); (case k3r0 => k_upd); (case zr0 => (simp only [sizeLine_eq, Array.size_push]; omega)); k_whole); intro h' F' N'; (try k_sweep))
  k_with "subscriptTail" => (k_here; (with_reducible show wpAny _ _ (subscriptTail _ _ (Value.ref _) (Value.int _ _)) _ _ _); (with_unfolding_all refine' pickK ?k1r1 ?k3r1 ?k4r1 ?k5r1 ?_ ?k6r1; (case k1r1 => is_list); (case k3r1 => assumption); (case k4r1 => omega); (case k5r1 => omega); (case k6r1 => with_unfolding_all rfl); k_whole); k_places; all_goals (try dsimp only))
  intro hB X' T' I aS aB aW aH aP aG aR it es sp nS bv wv bs ws tH tk k vI vS u h a1 a2 a3 a4 hes zS hwv hwl hbv hbl hk0 hk4 hw0 hw6 hb0 hb6 F N
  dsimp only [frm] at F
  refine Box.mk ?_
  dsimp only [lawPart, lawFor, forPart, lawEnv, lawA, lawFn, scopeOf, PySem.Challenge.pw_yh0007_01, lastOf, bodyOf, List.drop, List.take]
  k_fold
  have l1 := short_dig "a" (by decide) (9 - bs.getD k.toNat 0) (by omega) (by omega)
  have l2 := short_dig "B" (by decide) (ws.getD k.toNat 0) (by omega) (by omega)
  k_steps
  all_goals (show _ ∧ _)
  all_goals (refine' ⟨rfl, exI4 ⟨rfl, fr_frm (by assumption) _ ⟨rfl, rfl, rfl, rfl, rfl, rfl, rfl, rfl, rfl, trivial⟩, nmN (by assumption) (by first | exact lq_a (by assumption) | exact lq_c (by assumption) | exact lq_b (by omega)) (by first | exact tl_o (by assumption) | exact tl_e (by assumption))⟩⟩)
end Mine
end
section -- PureL
namespace Mine
open PySem PySem.W PySem.Calls PyProof.Rows PySem.Spec PyProof
theorem lay_append : ∀ (a b : List PyData), PyData.canLayAll0 (a ++ b) = (PyData.canLayAll0 a && PyData.canLayAll0 b)
  | [], b => by simp [PyData.canLayAll0]
  | x :: a, b => by
    show (PyData.canLay0 x && PyData.canLayAll0 (a ++ b)) = ((PyData.canLay0 x && PyData.canLayAll0 a) && PyData.canLayAll0 b)
    rw [lay_append a b, Bool.and_assoc]
theorem dep_append : ∀ (a b : List PyData), PyData.depthAll (a ++ b) = max (PyData.depthAll a) (PyData.depthAll b)
  | [], b => by simp [PyData.depthAll]
  | x :: a, b => by
    show max (PyData.depth x) (PyData.depthAll (a ++ b)) = max (max (PyData.depth x) (PyData.depthAll a)) (PyData.depthAll b)
    rw [dep_append a b, Nat.max_assoc]
theorem txt_lay : ∀ (xs : List Str), (∀ x ∈ xs, PyData.strOk x = true) → PyData.canLayAll0 (xs.map PyData.str) = true
  | [], _ => rfl
  | x :: xs, h => by
    have h1 := txt_lay xs fun y hy => h y (.tail _ hy)
    simp [PyData.canLayAll0, PyData.canLay0, h1, h x (.head _)]
theorem txt_dep : ∀ (xs : List Str), PyData.depthAll (xs.map PyData.str) = 0
  | [] => rfl
  | x :: xs => by
    show max 0 (PyData.depthAll (xs.map PyData.str)) = 0
    rw [txt_dep xs]; rfl
theorem shaped_txts (xs : List Str) (h : ∀ x ∈ xs, PyData.strOk x = true) : SeqAt.shaped (.list (xs.map PyData.str)) = true := by
  show (PyData.canLayAll0 _ && decide (PyData.depthAll _ + 1 ≤ 64)) = true
  rw [txt_lay xs h, txt_dep xs]; rfl
theorem gift_strok : ∀ way ∈ [(12:Int), 13, 14, 15], ∀ b ∈ [(0:Int), 1, 2, 3, 4, 5], ∀ d ∈ [(0:Int), 1], PyData.strOk (giftS way b d) = true := by decide +kernel
theorem gift_ok' (c : Int) (h : 12 < wayC c) : PyData.strOk (giftS (wayC c) (bC c) (dC c)) = true := by
  have h1 := fm (c.fdiv 144) 16
  have h2 := fm (c.fdiv 6) 6
  have h3 := fm (c.fdiv 2304) 2
  have h4 : wayC c < 16 := h1.2
  refine gift_strok _ ?_ _ ?_ _ ?_
  · simp only [List.mem_cons, List.not_mem_nil, or_false]; omega
  · exact m6 h2
  · exact fin_all (P := fun x => x ∈ [(0:Int), 1]) 2 h3.1 h3.2 (by decide)
theorem refD_lay (cs : List Int) : ∀ i, PyData.canLayAll0 (refD cs i) = true ∧ PyData.depthAll (refD cs i) ≤ 1
  | 0 => ⟨rfl, Nat.zero_le _⟩
  | i + 1 => by
    have ih := refD_lay cs i
    unfold refD
    split
    · exact ih
    · rename_i hw
      rw [lay_append, dep_append, ih.1]
      have hg := gift_ok' (cAt cs (0 + (i : Int))) (by omega)
      constructor
      · simp only [PyData.canLayAll0, PyData.canLay0, hg, Bool.and_true, Bool.true_and]
      · have : PyData.depthAll [PyData.tuple [PyData.int (0 + (i : Int)), PyData.str (giftS (wayC (cAt cs (0 + (i : Int)))) (bC (cAt cs (0 + (i : Int)))) (dC (cAt cs (0 + (i : Int)))))]] = 1 := rfl
        rw [this]; omega
theorem shaped_refD (cs : List Int) (i : Nat) : SeqAt.shaped (.list (refD cs i)) = true := by
  have h := refD_lay cs i
  show (PyData.canLayAll0 _ && decide (PyData.depthAll _ + 1 ≤ 64)) = true
  rw [h.1]
  have : PyData.depthAll (refD cs i) + 1 ≤ 64 := by omega
  rw [decide_eq_true this]; rfl
section
variable {prog : Program} {w : World} {A : Around} {E : Value → Shared → Prop} {s : Shared} {h₀ : Heap} {L : Addr} {news : List (Addr × Obj)}
theorem ne_names {a b : Addr} {ns sp : Array Value} {na nb : Nat} {xs : List Str} {Q : Value → Shared → Prop} (N : News h₀ L s.heap news) (ha : (a, listOf ns na) ∈ news) (hb : (b, listOf sp nb) ∈ news) (h1 : TxtsAre ns.toList xs) (h2 : TxtsAre sp.toList xs) (hok : ∀ x ∈ xs, PyData.strOk x = true) (hu : A.units + 64 < cLine) (h : Q (.bool false) s) :
    wpAny (model prog w) A (compareOp .NotEq (.ref a) (.ref b)) Q E s := by
  have hs := shaped_txts xs hok
  refine ne_dataH (reads_list_at (N.get ha) rfl rfl h1.reads) (reads_list_at (N.get hb) rfl rfl h2.reads) hs hs hu ?_
  rw [SeqAt.eqv_refl _ (SeqAt.canLay_of_shaped hs)]; exact h
theorem ne_refs {a b : Addr} {rs : Array Value} {ys : List Value} {na : Nat} {cs : List Int} {i : Nat} {e1 e2 : List (Addr × Obj)} {Q : Value → Shared → Prop} (N : News h₀ L s.heap news) (ha : (a, listOf rs na) ∈ news) (hb : (b, LCg.lst ys) ∈ news) (s1 : ∀ p ∈ e1, p ∈ news) (s2 : ∀ p ∈ e2, p ∈ news) (h1 : Refs e1 rs.toList (refD cs i)) (h2 : Refs e2 ys (refD cs i)) (hu : A.units + 64 < cLine) (h : Q (.bool false) s) :
    wpAny (model prog w) A (compareOp .NotEq (.ref a) (.ref b)) Q E s := by
  have hs := shaped_refD cs i
  obtain ⟨as, r1⟩ := h1.reads N s1
  obtain ⟨bs, r2⟩ := h2.reads N s2
  refine ne_dataH (reads_list_at (N.get ha) rfl rfl r1) (reads_list_at (N.get hb) rfl rfl (by simpa using r2)) hs hs hu ?_
  rw [SeqAt.eqv_refl _ (SeqAt.canLay_of_shaped hs)]; exact h
end
section
variable {prog : Program} {w : World} {A : Around} {h₀ : Heap} {L : Addr} {m : Str → Option Value} {env : Env} {ct elt : PySem.Expr} {x : Str} {scope : Scope} {cl : List (Str × Addr)} {s : Shared} {S : List (Addr × Obj) → Prop} {P : Nat → Value → Prop} {Fin : List Value → List (Addr × Obj) → Prop}
theorem compT_ind {n : Nat} {news₀ : List (Addr × Obj)} (J : Nat → List Value → List (Addr × Obj) → Prop)
    (turn : ∀ i v I oI C oC D m₂ ys news h tk (E' : Value → Shared → Prop), i < n → J i ys news → P i v → LCg.NsObj oC m₂ → m₂ x = some v → Fr h₀ L h m → News h₀ L h ((I, oI) :: (C, oC) :: (D, LCg.lst ys) :: news) → LCg.Off3 I C D news → ((@Ne Nat I C) ∧ (@Ne Nat I D) ∧ (@Ne Nat C D)) →
      wpAny (model prog w) A (isTrue ct (compEnvC scope cl C env) (eval ct (compEnvC scope cl C env))) (fun ok s' => if ok = true then
        wpAny (model prog w) A (eval elt (compEnvC scope cl C env)) (LCg.CompEnd h₀ L m { s with heap := h, toks := tk } I oI C oC D (LCg.lst ys) S (fun y news' => J (i + 1) (ys ++ [y]) news')) E' s'
        else LCg.CompEnd h₀ L m { s with heap := h, toks := tk } I oI C oC D (LCg.lst ys) S (fun _ news' => J (i + 1) ys news') Value.none s') E' { s with heap := h, toks := tk })
    (fin : ∀ ys news, J n ys news → Fin ys news) (h0 : J 0 [] news₀) : LCt.CompRestT prog w A h₀ L m env ct elt x scope cl s S P Fin n 0 [] news₀ := by
  have key : ∀ (j i : Nat) (ys : List Value) (news : List (Addr × Obj)), i + j = n → J i ys news → LCt.CompRestT prog w A h₀ L m env ct elt x scope cl s S P Fin j i ys news := by
    intro j
    induction j with
    | zero =>
      intro i ys news hi hJ
      obtain rfl : i = n := by omega
      exact LCt.CompRestT.zero (fin ys news hJ)
    | succ j ih =>
      intro i ys news hi hJ
      refine LCt.CompRestT.succ ?_
      intro v I oI C oC D m₂ h tk E' hv hC hx F N off ne
      refine wpAny_mono (turn i v I oI C oC D m₂ ys news h tk E' (by omega) hJ hv hC hx F N off ne) (fun ok s' hq => ?_) fun _ _ e => e
      cases ok with
      | true =>
        simp only [if_true] at hq ⊢
        refine wpAny_mono hq (fun y s₂ hq => ?_) fun _ _ e => e
        obtain ⟨h', tk', nw, e, F', N', off', hS, hn⟩ := hq
        exact ⟨h', tk', nw, e, F', N', off', hS, ih (i + 1) _ _ (by omega) hn⟩
      | false =>
        simp only [Bool.false_eq_true, if_false] at hq ⊢
        obtain ⟨h', tk', nw, e, F', N', off', hS, hn⟩ := hq
        exact ⟨h', tk', nw, e, F', N', off', hS, ih (i + 1) _ _ (by omega) hn⟩
  exact key n 0 [] news₀ (by omega) h0
end
end Mine
end
section -- LH9
open PySem PySem.W PySem.Calls PyProof.Rows PySem.Spec
namespace Mine
theorem spell0S (w : World) (p : Program) (loose : List Str) (mean : ExcName → Option Value) (mg mb : Str → Option Value) (L fa : Nat) (h₀ : Heap) (s : Shared) :
    Below callerA h₀ [] h₀ → (hd.heap_39 w.params).In h₀ → Top p loose mean mg mb h₀ →
    ∀ (aW aB : Nat) (w0 w1 w2 w3 b0 b1 b2 b3 : Tok) (aH aP aG aN aR D : Nat) (o3 o4 : Obj) (es : List (Addr × Obj)) (hs ps gs ns rs : Array Value) (nH nP nG nN nR : Nat) (ys : List Value) (tH : Tok) (vI vS : Value) (u : Str → Option Value) (h : Heap) (c0 c1 c2 c3 c4 : Int) (t0 t1 t2 t3 t4 : Tok), o3.data = .cell (some (.ref D)) → o4.data = .cell (some (.ref aN)) → 130 < L → (L + 1 + 1 + 1 + 1 ≠ D ∧ L + 1 + 1 + 1 ≠ D ∧ 130 ≠ D) → (D < aH ∧ L + 1 + 1 + 1 + 1 < aH) → aH < aP → aP < aG → aG < aN → aN < aR → (∀ p ∈ es, @LT.lt Nat _ aR p.1) →
      Fr h₀ L h (frm [(Str.ofString "brings", .ref aB), (Str.ofString "wants", .ref aW), (Str.ofString "hosts", .ref aH), (Str.ofString "ports", .ref aP), (Str.ofString "gifts", .ref aG), (Str.ofString "refused", .ref aR), (Str.ofString "ink", vI), (Str.ofString "start", vS)] u) → News h₀ L h ((aB, LCg.lst [.int (bringC c0) b0, .int (bringC c1) b1, .int (bringC c2) b2, .int (bringC c3) b3]) :: (aW, LCg.lst [.int (wantC c0) w0, .int (wantC c1) w1, .int (wantC c2) w2, .int (wantC c3) w3]) :: (led0 aH aP aG aN aR D L o3 o4 ys hs ps gs ns rs nH nP nG nN nR es)) →
      Box (wpAny (model PySem.Challenge.rw_yh0007_01.row.prog w) (lawA L fa) (execs (lawPart 9 1) (lawEnv L fa)) (fun f s' => Hold (f = .next ∧ ∃ h' tk' u' aS nS, s' = { s with heap := h', toks := tk' } ∧ Fr h₀ L h' (frm [(Str.ofString "spelled", .ref aS), (Str.ofString "brings", .ref aB), (Str.ofString "wants", .ref aW), (Str.ofString "hosts", .ref aH), (Str.ofString "ports", .ref aP), (Str.ofString "gifts", .ref aG), (Str.ofString "refused", .ref aR), (Str.ofString "ink", vI), (Str.ofString "start", vS)] u') ∧ News h₀ L h' ((aS, listOf #[] nS) :: (aB, LCg.lst [.int (bringC c0) b0, .int (bringC c1) b1, .int (bringC c2) b2, .int (bringC c3) b3]) :: (aW, LCg.lst [.int (wantC c0) w0, .int (wantC c1) w1, .int (wantC c2) w2, .int (wantC c3) w3]) :: (led0 aH aP aG aN aR D L o3 o4 ys hs ps gs ns rs nH nP nG nN nR es)) ∧ (aB < aS ∧ aW < aS ∧ aR < aS ∧ ∀ p ∈ es, @LT.lt Nat _ p.1 aS))) (fun _ _ => False) { s with heap := h, toks := tH }) := by
  w_top off
  k_fill
  k_with_none
  k_with "andf" => first | exact And.left (by with_reducible assumption) | exact And.left (And.right (by with_reducible assumption)) | exact And.left (And.right (And.right (by with_reducible assumption))) | exact And.left (And.right (And.right (And.right (by with_reducible assumption)))) | exact And.left (And.right (And.right (And.right (And.right (by with_reducible assumption))))) | exact And.left (And.right (And.right (And.right (And.right (And.right (by with_reducible assumption)))))) | exact And.right (by with_reducible assumption) | exact And.right (And.right (by with_reducible assumption)) | exact And.right (And.right (And.right (by with_reducible assumption)))
  k_with "lt" => first | with_reducible assumption | exact And.left (by with_reducible assumption) | exact And.left (And.right (by with_reducible assumption)) | exact And.left (And.right (And.right (by with_reducible assumption))) | exact And.left (And.right (And.right (And.right (by with_reducible assumption)))) | exact And.left (And.right (And.right (And.right (And.right (by with_reducible assumption))))) | exact And.left (And.right (And.right (And.right (And.right (And.right (by with_reducible assumption)))))) | (refine Nat.lt_trans (by with_reducible assumption) ?_; k_extra "lt")
  k_with "ne" => first | with_reducible assumption | exact Ne.symm (by with_reducible assumption) | (refine Nat.ne_of_lt ?_; k_extra "lt") | (refine Nat.ne_of_gt ?_; k_extra "lt") | k_extra "andf" | (refine Ne.symm ?_; k_extra "andf") | (refine Nat.ne_of_lt ?_; k_extra "lt2") | (refine Nat.ne_of_gt ?_; k_extra "lt2")
  k_with "lt2" => first | exact Nat.lt_trans (And.left (by with_reducible assumption)) (by with_reducible assumption) | exact Nat.lt_trans (And.left (And.right (by with_reducible assumption))) (by with_reducible assumption) | exact Nat.lt_trans (And.left (And.right (And.right (by with_reducible assumption)))) (by with_reducible assumption) | exact Nat.lt_trans (And.left (And.right (And.right (And.right (by with_reducible assumption))))) (by with_reducible assumption) | exact Nat.lt_trans (And.left (And.right (And.right (And.right (And.right (by with_reducible assumption)))))) (by with_reducible assumption) | exact Nat.lt_trans (And.left (And.right (And.right (And.right (And.right (And.right (by with_reducible assumption))))))) (by with_reducible assumption) | exact Nat.lt_trans (And.left (And.right (And.right (And.right (And.right (And.right (And.right (by with_reducible assumption)))))))) (by with_reducible assumption) | exact Nat.lt_trans (And.left (And.right (And.right (And.right (And.right (And.right (And.right (And.right (by with_reducible assumption))))))))) (by with_reducible assumption) | exact Nat.lt_trans (And.left (And.right (And.right (And.right (And.right (And.right (And.right (And.right (And.right (by with_reducible assumption)))))))))) (by with_reducible assumption) | exact Nat.lt_trans (And.left (And.right (And.right (And.right (And.right (And.right (And.right (And.right (And.right (And.right (by with_reducible assumption))))))))))) (by with_reducible assumption)
  k_with "omega" => first | safely (k_dflt (k_extra "om")) | safely (k_dflt lia)
  k_with "om" => first | with_reducible assumption | ((with_reducible show (_ : Nat) < _); first | exact Nat.lt_succ_self _ | decide | exact ltNl (by with_reducible assumption) (by rfl) | exact ltNl (And.left (by with_reducible assumption)) (by rfl) | exact ltNl (And.right (by with_reducible assumption)) (by rfl) | k_extra "lt") | ((with_reducible show (_ : Nat) ≤ _); first | exact Nat.le_refl _ | decide | exact leNl (by with_reducible assumption) (by rfl) | exact leNl (And.left (by with_reducible assumption)) (by rfl) | exact leNl (And.right (by with_reducible assumption)) (by rfl) | exact leNl2 (by with_reducible assumption) (by rfl) | exact leNl2 (And.left (by with_reducible assumption)) (by rfl) | exact leNl2 (And.right (by with_reducible assumption)) (by rfl) | (refine Nat.le_of_lt ?_; k_extra "lt")) | ((with_reducible show (_ : Int) < _); first | decide | k_extra "andf" | exact ltIl (by with_reducible assumption) (by rfl) | exact ltIl (And.left (by with_reducible assumption)) (by rfl) | exact ltIl (And.right (by with_reducible assumption)) (by rfl) | exact loIt (by with_reducible assumption) (by rfl) | exact loIt (And.left (by with_reducible assumption)) (by rfl) | exact loIt (And.right (by with_reducible assumption)) (by rfl) | exact loP (by with_reducible assumption) | exact loP (And.left (by with_reducible assumption)) | exact loP (And.right (by with_reducible assumption)) | exact hiP (by with_reducible assumption) (by rfl) | exact hiP (And.left (by with_reducible assumption)) (by rfl) | exact hiP (And.right (by with_reducible assumption)) (by rfl)) | ((with_reducible show (_ : Int) ≤ _); first | decide | k_extra "andf" | exact leIl (by with_reducible assumption) (by rfl) | exact leIl (And.left (by with_reducible assumption)) (by rfl) | exact leIl (And.right (by with_reducible assumption)) (by rfl) | exact leIl2 (by with_reducible assumption) (by rfl) | exact leIl2 (And.left (by with_reducible assumption)) (by rfl) | exact leIl2 (And.right (by with_reducible assumption)) (by rfl) | exact loI (by with_reducible assumption) (by rfl) | exact loI (And.left (by with_reducible assumption)) (by rfl) | exact loI (And.right (by with_reducible assumption)) (by rfl) | exact Int.le_of_lt (by with_reducible assumption)) | ((with_reducible show (_ : Nat) ≠ _); k_extra "ne")
  k_with "steps to iter" => repeat' (first | (k_unfold; (try dsimp only)) | (k_end; wrow_close) | ((fail_if_success (with_reducible show wpAny _ _ (pyIter (Value.ref _)) _ _ _)); (first | walk1 | (dsimp only; walk1) | (leave1; walk_say "STEP leave1"; try dsimp only))) | fail "no step")
  intro hB X' T' aW aB w0 w1 w2 w3 b0 b1 b2 b3 aH aP aG aN aR D o3 o4 es hs ps gs ns rs nH nP nG nN nR ys tH vI vS u h c0 c1 c2 c3 c4 t0 t1 t2 t3 t4 d3 d4 a1 a2 a3 a4 a5 a6 a7 hes F N
  refine Box.mk ?_
  dsimp only [lawPart, lawFor, forPart, lawEnv, lawA, lawFn, scopeOf, PySem.Challenge.pw_yh0007_01, lastOf, bodyOf, List.drop, List.take]
  k_fold
  dsimp only [frm] at F
  dsimp only [led0] at N
  k_steps
  show _ ∧ _
  rename _ ∧ _ => LX
  obtain ⟨l1, l2, l3, _, _, _, _, _, _, _, _, l4⟩ := LX
  exact ⟨rfl, exI5 ⟨rfl, fr_frm (by assumption) _ ⟨rfl, rfl, rfl, rfl, rfl, rfl, rfl, rfl, rfl, trivial⟩, by assumption, l1, l2, l3, allLt_all l4⟩⟩
end Mine
end
section -- LH
open PySem PySem.W PySem.Calls PyProof.Rows PySem.Spec
namespace Mine
noncomputable def J2 (aS aB aW : Nat) (es : List (Addr × Obj)) (bv wv : List Value) (c0 c1 c2 c3 c4 : Int) (aH aP aG aR : Nat) (vI vS : Value) (i : Nat) (m : Str → Option Value) (news : List (Addr × Obj)) : Prop :=
  ∃ (u : Str → Option Value) (sp : Array Value) (nS : Nat), m = frm [(Str.ofString "spelled", .ref aS), (Str.ofString "brings", .ref aB), (Str.ofString "wants", .ref aW), (Str.ofString "hosts", .ref aH), (Str.ofString "ports", .ref aP), (Str.ofString "gifts", .ref aG), (Str.ofString "refused", .ref aR), (Str.ofString "ink", vI), (Str.ofString "start", vS)] u ∧ news = (aS, listOf sp nS) :: (aB, LCg.lst bv) :: (aW, LCg.lst wv) :: es ∧ TxtsAre sp.toList ((upto i).map fun k => nmS (wantC (cAt [c0, c1, c2, c3, c4] k)) (bringC (cAt [c0, c1, c2, c3, c4] k)))
theorem nat4 {i : Nat} (h : i < 4) : i = 0 ∨ i = 1 ∨ i = 2 ∨ i = 3 := n4 h
theorem wAt {c0 c1 c2 c3 c4 : Int} {i : Nat} (h : i < 4) : [wantC c0, wantC c1, wantC c2, wantC c3].getD (0 + (i : Int)).toNat 0 = wantC (cAt [c0, c1, c2, c3, c4] (0 + (i : Int))) := by
  rcases nat4 h with rfl | rfl | rfl | rfl <;> rfl
theorem bAt {c0 c1 c2 c3 c4 : Int} {i : Nat} (h : i < 4) : [bringC c0, bringC c1, bringC c2, bringC c3].getD (0 + (i : Int)).toNat 0 = bringC (cAt [c0, c1, c2, c3, c4] (0 + (i : Int))) := by
  rcases nat4 h with rfl | rfl | rfl | rfl <;> rfl
theorem wantC_lt (c : Int) : 0 ≤ wantC c ∧ wantC c < 6 := fm c 6
theorem bringC_lt (c : Int) : 0 ≤ bringC c ∧ bringC c < 6 := by
  have := fm (c.fdiv 6) 6
  unfold bringC bringI bC; split <;> omega
theorem spelledS (w : World) (p : Program) (loose : List Str) (mean : ExcName → Option Value) (mg mb : Str → Option Value) (L fa : Nat) (h₀ : Heap) (s : Shared) :
    Below callerA h₀ [] h₀ → (hd.heap_39 w.params).In h₀ → Top p loose mean mg mb h₀ →
    ∀ (aS nS : Nat) (aW aB : Nat) (w0 w1 w2 w3 b0 b1 b2 b3 : Tok) (aH aP aG aN aR D : Nat) (o3 o4 : Obj) (es : List (Addr × Obj)) (hs ps gs ns rs : Array Value) (nH nP nG nN nR : Nat) (ys : List Value) (tH : Tok) (vI vS : Value) (u : Str → Option Value) (h : Heap) (c0 c1 c2 c3 c4 : Int) (t0 t1 t2 t3 t4 : Tok), o3.data = .cell (some (.ref D)) → o4.data = .cell (some (.ref aN)) → 130 < L → (L + 1 + 1 + 1 + 1 ≠ D ∧ L + 1 + 1 + 1 ≠ D ∧ 130 ≠ D) → (D < aH ∧ L + 1 + 1 + 1 + 1 < aH) → aH < aP → aP < aG → aG < aN → aN < aR → (∀ p ∈ es, @LT.lt Nat _ aR p.1) → aW < aS → aB < aS → aR < aS → (∀ p ∈ es, @LT.lt Nat _ p.1 aS) →
      Fr h₀ L h (frm [(Str.ofString "spelled", .ref aS), (Str.ofString "brings", .ref aB), (Str.ofString "wants", .ref aW), (Str.ofString "hosts", .ref aH), (Str.ofString "ports", .ref aP), (Str.ofString "gifts", .ref aG), (Str.ofString "refused", .ref aR), (Str.ofString "ink", vI), (Str.ofString "start", vS)] u) → News h₀ L h ((aS, listOf #[] nS) :: (aB, LCg.lst [.int (bringC c0) b0, .int (bringC c1) b1, .int (bringC c2) b2, .int (bringC c3) b3]) :: (aW, LCg.lst [.int (wantC c0) w0, .int (wantC c1) w1, .int (wantC c2) w2, .int (wantC c3) w3]) :: (led0 aH aP aG aN aR D L o3 o4 ys hs ps gs ns rs nH nP nG nN nR es)) →
      Box (wpAny (model PySem.Challenge.rw_yh0007_01.row.prog w) (lawA L fa) (execs (lawPart 10 1) (lawEnv L fa)) (fun f s' => Hold (f = .next ∧ ∃ h' tk' u' sp nS', s' = { s with heap := h', toks := tk' } ∧ Fr h₀ L h' (frm [(Str.ofString "spelled", .ref aS), (Str.ofString "brings", .ref aB), (Str.ofString "wants", .ref aW), (Str.ofString "hosts", .ref aH), (Str.ofString "ports", .ref aP), (Str.ofString "gifts", .ref aG), (Str.ofString "refused", .ref aR), (Str.ofString "ink", vI), (Str.ofString "start", vS)] u') ∧ News h₀ L h' ((aS, listOf sp nS') :: (aB, LCg.lst [.int (bringC c0) b0, .int (bringC c1) b1, .int (bringC c2) b2, .int (bringC c3) b3]) :: (aW, LCg.lst [.int (wantC c0) w0, .int (wantC c1) w1, .int (wantC c2) w2, .int (wantC c3) w3]) :: (led0 aH aP aG aN aR D L o3 o4 ys hs ps gs ns rs nH nP nG nN nR es)) ∧ TxtsAre sp.toList ((upto 4).map fun k => nmS (wantC (cAt [c0, c1, c2, c3, c4] k)) (bringC (cAt [c0, c1, c2, c3, c4] k))))) (fun _ _ => False) { s with heap := h, toks := tH }) := by
  w_top off
  k_fill
  k_with_none
  k_with "andf" => first | exact And.left (by with_reducible assumption) | exact And.left (And.right (by with_reducible assumption)) | exact And.left (And.right (And.right (by with_reducible assumption))) | exact And.left (And.right (And.right (And.right (by with_reducible assumption)))) | exact And.left (And.right (And.right (And.right (And.right (by with_reducible assumption))))) | exact And.left (And.right (And.right (And.right (And.right (And.right (by with_reducible assumption)))))) | exact And.right (by with_reducible assumption) | exact And.right (And.right (by with_reducible assumption)) | exact And.right (And.right (And.right (by with_reducible assumption)))
  k_with "lt" => first | with_reducible assumption | exact And.left (by with_reducible assumption) | exact And.left (And.right (by with_reducible assumption)) | exact And.left (And.right (And.right (by with_reducible assumption))) | exact And.left (And.right (And.right (And.right (by with_reducible assumption)))) | exact And.left (And.right (And.right (And.right (And.right (by with_reducible assumption))))) | exact And.left (And.right (And.right (And.right (And.right (And.right (by with_reducible assumption)))))) | (refine Nat.lt_trans (by with_reducible assumption) ?_; k_extra "lt")
  k_with "ne" => first | with_reducible assumption | exact Ne.symm (by with_reducible assumption) | (refine Nat.ne_of_lt ?_; k_extra "lt") | (refine Nat.ne_of_gt ?_; k_extra "lt") | k_extra "andf" | (refine Ne.symm ?_; k_extra "andf") | (refine Nat.ne_of_lt ?_; k_extra "lt2") | (refine Nat.ne_of_gt ?_; k_extra "lt2")
  k_with "lt2" => first | exact Nat.lt_trans (And.left (by with_reducible assumption)) (by with_reducible assumption) | exact Nat.lt_trans (And.left (And.right (by with_reducible assumption))) (by with_reducible assumption) | exact Nat.lt_trans (And.left (And.right (And.right (by with_reducible assumption)))) (by with_reducible assumption) | exact Nat.lt_trans (And.left (And.right (And.right (And.right (by with_reducible assumption))))) (by with_reducible assumption) | exact Nat.lt_trans (And.left (And.right (And.right (And.right (And.right (by with_reducible assumption)))))) (by with_reducible assumption) | exact Nat.lt_trans (And.left (And.right (And.right (And.right (And.right (And.right (by with_reducible assumption))))))) (by with_reducible assumption) | exact Nat.lt_trans (And.left (And.right (And.right (And.right (And.right (And.right (And.right (by with_reducible assumption)))))))) (by with_reducible assumption) | exact Nat.lt_trans (And.left (And.right (And.right (And.right (And.right (And.right (And.right (And.right (by with_reducible assumption))))))))) (by with_reducible assumption) | exact Nat.lt_trans (And.left (And.right (And.right (And.right (And.right (And.right (And.right (And.right (And.right (by with_reducible assumption)))))))))) (by with_reducible assumption) | exact Nat.lt_trans (And.left (And.right (And.right (And.right (And.right (And.right (And.right (And.right (And.right (And.right (by with_reducible assumption))))))))))) (by with_reducible assumption)
  k_with "omega" => first | safely (k_dflt (k_extra "om")) | safely (k_dflt lia)
  k_with "om" => first | with_reducible assumption | ((with_reducible show (_ : Nat) < _); first | exact Nat.lt_succ_self _ | decide | exact ltNl (by with_reducible assumption) (by rfl) | exact ltNl (And.left (by with_reducible assumption)) (by rfl) | exact ltNl (And.right (by with_reducible assumption)) (by rfl) | k_extra "lt") | ((with_reducible show (_ : Nat) ≤ _); first | exact Nat.le_refl _ | decide | exact leNl (by with_reducible assumption) (by rfl) | exact leNl (And.left (by with_reducible assumption)) (by rfl) | exact leNl (And.right (by with_reducible assumption)) (by rfl) | exact leNl2 (by with_reducible assumption) (by rfl) | exact leNl2 (And.left (by with_reducible assumption)) (by rfl) | exact leNl2 (And.right (by with_reducible assumption)) (by rfl) | (refine Nat.le_of_lt ?_; k_extra "lt")) | ((with_reducible show (_ : Int) < _); first | decide | k_extra "andf" | exact ltIl (by with_reducible assumption) (by rfl) | exact ltIl (And.left (by with_reducible assumption)) (by rfl) | exact ltIl (And.right (by with_reducible assumption)) (by rfl) | exact loIt (by with_reducible assumption) (by rfl) | exact loIt (And.left (by with_reducible assumption)) (by rfl) | exact loIt (And.right (by with_reducible assumption)) (by rfl) | exact loP (by with_reducible assumption) | exact loP (And.left (by with_reducible assumption)) | exact loP (And.right (by with_reducible assumption)) | exact hiP (by with_reducible assumption) (by rfl) | exact hiP (And.left (by with_reducible assumption)) (by rfl) | exact hiP (And.right (by with_reducible assumption)) (by rfl)) | ((with_reducible show (_ : Int) ≤ _); first | decide | k_extra "andf" | exact leIl (by with_reducible assumption) (by rfl) | exact leIl (And.left (by with_reducible assumption)) (by rfl) | exact leIl (And.right (by with_reducible assumption)) (by rfl) | exact leIl2 (by with_reducible assumption) (by rfl) | exact leIl2 (And.left (by with_reducible assumption)) (by rfl) | exact leIl2 (And.right (by with_reducible assumption)) (by rfl) | exact loI (by with_reducible assumption) (by rfl) | exact loI (And.left (by with_reducible assumption)) (by rfl) | exact loI (And.right (by with_reducible assumption)) (by rfl) | exact Int.le_of_lt (by with_reducible assumption)) | ((with_reducible show (_ : Nat) ≠ _); k_extra "ne")
  k_with "steps to iter" => repeat' (first | (k_unfold; (try dsimp only)) | (k_end; wrow_close) | ((fail_if_success (with_reducible show wpAny _ _ (pyIter (Value.ref _)) _ _ _)); (first | walk1 | (dsimp only; walk1) | (leave1; walk_say "STEP leave1"; try dsimp only))) | fail "no step")
  intro hB X' T' aS nS aW aB w0 w1 w2 w3 b0 b1 b2 b3 aH aP aG aN aR D o3 o4 es hs ps gs ns rs nH nP nG nN nR ys tH vI vS u h c0 c1 c2 c3 c4 t0 t1 t2 t3 t4 d3 d4 a1 a2 a3 a4 a5 a6 a7 hes hWS hBS hRS hesS F N
  have hes2 : ∀ p ∈ (led0 aH aP aG aN aR D L o3 o4 ys hs ps gs ns rs nH nP nG nN nR es), @LT.lt Nat _ p.1 aS := by
    intro p hp
    simp only [led0, List.mem_cons] at hp
    rcases hp with rfl | rfl | rfl | rfl | rfl | rfl | rfl | rfl | rfl | hp
    all_goals first | exact hesS _ hp | (dsimp only; omega)
  revert N hes2
  generalize (led0 aH aP aG aN aR D L o3 o4 ys hs ps gs ns rs nH nP nG nN nR es) = es2
  intro N hes2
  refine Box.mk ?_
  dsimp only [lawPart, lawFor, forPart, lawEnv, lawA, lawFn, scopeOf, PySem.Challenge.pw_yh0007_01, lastOf, bodyOf, List.drop, List.take]
  k_fold
  have T0 := turnE w p loose mean mg mb L fa h₀ s hB X' T'
  dsimp only [lawPart, lawFor, forPart, lawEnv, lawA, lawFn, scopeOf, PySem.Challenge.pw_yh0007_01, lastOf, bodyOf, List.drop, List.take] at T0
  dsimp only [frm] at F
  walk_at "steps to iter"
  rename IsRange _ _ _ _ _ _ _ _ => r1
  rename Fr _ _ _ _ => F1
  rename News _ _ _ _ => N1
  with_unfolding_all refine iter_rangeUnr (n := 4) (by rfl) r1 (by decide) (by decide) F1 N1 ?_
  intro I l1
  have hI : aS < I := l1 (aS, listOf #[] nS) (List.Mem.head _)
  refine range_ind (J2 aS aB aW es2 [.int (bringC c0) b0, .int (bringC c1) b1, .int (bringC c2) b2, .int (bringC c3) b3] [.int (wantC c0) w0, .int (wantC c1) w1, .int (wantC c2) w2, .int (wantC c3) w3] c0 c1 c2 c3 c4 aH aP aG aR vI vS) ?_ ?_ ?_
  · rintro k i m1 news1 hi ⟨u1, sp, mS, rfl, rfl, f⟩ R hR t2 h2 tk2 F2 N3
    have z1 := f.len
    simp only [List.length_map, upto_len, Array.length_toList] at z1
    refine Box.out ?_
    refine box_mono (T0 I aS aB aW aH aP aG aR _ es2 sp mS [.int (bringC c0) b0, .int (bringC c1) b1, .int (bringC c2) b2, .int (bringC c3) b3] [.int (wantC c0) w0, .int (wantC c1) w1, .int (wantC c2) w2, .int (wantC c3) w3] [bringC c0, bringC c1, bringC c2, bringC c3] [wantC c0, wantC c1, wantC c2, wantC c3] tk2 t2 (0 + (i : Int)) vI vS u1 h2 a1 hWS hBS hI hes2 (by omega) (.cons _ _ (.cons _ _ (.cons _ _ (.cons _ _ .nil)))) rfl (.cons _ _ (.cons _ _ (.cons _ _ (.cons _ _ .nil)))) rfl (by omega) (by omega) (by rw [wAt (c4 := c4) hi]; exact (wantC_lt _).1) (by rw [wAt (c4 := c4) hi]; exact (wantC_lt _).2) (by rw [bAt (c4 := c4) hi]; exact (bringC_lt _).1) (by rw [bAt (c4 := c4) hi]; exact (bringC_lt _).2) F2 N3) ?_
    rintro fl s' ⟨rfl, zz⟩
    refine exE4 zz ?_
    clear zz
    rintro h' tk' u' t1 ⟨rfl, F', N'⟩
    rw [wAt (c4 := c4) hi, bAt (c4 := c4) hi] at N'
    refine UnrEnd.intro (fr_frm F' [(Str.ofString "spelled", .ref aS), (Str.ofString "brings", .ref aB), (Str.ofString "wants", .ref aW), (Str.ofString "hosts", .ref aH), (Str.ofString "ports", .ref aP), (Str.ofString "gifts", .ref aG), (Str.ofString "refused", .ref aR), (Str.ofString "ink", vI), (Str.ofString "start", vS)] ⟨rfl, rfl, rfl, rfl, rfl, rfl, rfl, rfl, rfl, trivial⟩) N' ((aS, listOf _ _) :: (aB, LCg.lst _) :: (aW, LCg.lst _) :: es2) (fun p hp => hp) (fun p hp => ?_) (hR _ _ ⟨_, _, _, rfl, rfl, ?_⟩)
    · rcases List.mem_cons.mp hp with rfl | hp
      · exact neN (by dsimp only; omega)
      rcases List.mem_cons.mp hp with rfl | hp
      · exact neN (by dsimp only; omega)
      rcases List.mem_cons.mp hp with rfl | hp
      · exact neN (by dsimp only; omega)
      · have := hes2 p hp
        exact neN (by omega)
    · rw [upto, List.map_append]; exact txts_push f
  · rintro m1 news1 h2 tk2 ⟨u1, sp, mS, rfl, rfl, f⟩ F2 N3
    dsimp only
    k_steps
    show _ ∧ _
    exact ⟨rfl, exI5 (a2 := u1) (a3 := sp) (a4 := mS) ⟨rfl, F2, N3, f⟩⟩
  · exact ⟨_, _, _, rfl, rfl, .nil⟩
end Mine
end
section -- LN
open PySem PySem.W PySem.Calls PyProof.Rows PySem.Spec
namespace Mine
theorem mem_mid {α : Type} {p i c d t : α} {B e : List α} (h : p ∈ i :: c :: d :: (B ++ (t :: e))) : p ∈ t :: i :: c :: d :: (B ++ e) := by
  simp only [List.mem_cons, List.mem_append] at h ⊢
  rcases h with h | h | h | h | h | h <;> simp [h]
theorem off_mid {I C D : Addr} {t : Addr × Obj} {B e : List (Addr × Obj)} (h : LCg.Off3 I C D (B ++ e)) (ht : t.1 ≠ I ∧ t.1 ≠ C ∧ t.1 ≠ D) : LCg.Off3 I C D (B ++ (t :: e)) := by
  refine LCg.Off3.of fun p hp => ?_
  rcases List.mem_append.mp hp with hp | hp
  · exact h.mem p (List.mem_append_left _ hp)
  · rcases List.mem_cons.mp hp with rfl | hp
    · exact ht
    · exact h.mem p (List.mem_append_right _ hp)
theorem refs_take {cs : List Int} {i : Nat} {a : Addr} {ta tb : Tok} {e : List (Addr × Obj)} {zs : List Value} (hw : 12 < wayC (cAt cs (0 + (i : Int)))) (h : Refs e zs (refD cs i)) :
    Refs ((a, tupO (0 + (i : Int)) ta (giftS (wayC (cAt cs (0 + (i : Int)))) (bC (cAt cs (0 + (i : Int)))) (dC (cAt cs (0 + (i : Int))))) tb) :: e) (zs ++ [.ref a]) (refD cs (i + 1)) := by
  unfold refD
  rw [if_neg (by omega)]
  exact (h.grow fun p hp => .tail _ hp).snoc (.head _)
theorem refs_skip {cs : List Int} {i : Nat} {e : List (Addr × Obj)} {zs : List Value} (hw : wayC (cAt cs (0 + (i : Int))) ≤ 12) (h : Refs e zs (refD cs i)) : Refs e zs (refD cs (i + 1)) := by
  unfold refD
  rw [if_pos hw]; exact h
theorem news_left {h₀ h : Heap} {L : Addr} {x : Addr × Obj} {a b : List (Addr × Obj)} (N : News h₀ L h (x :: (a ++ b))) : News h₀ L h a := cb_drop N fun p hp => .tail _ (List.mem_append_left _ hp)
theorem hold_of {P : Prop} (h : Hold P) : P := h
theorem cmpS (w : World) (p : Program) (loose : List Str) (mean : ExcName → Option Value) (mg mb : Str → Option Value) (L fa : Nat) (h₀ : Heap) (s : Shared) :
    Below callerA h₀ [] h₀ → (hd.heap_39 w.params).In h₀ → Top p loose mean mg mb h₀ →
    ∀ (aS : Nat) (sp : Array Value) (nS : Nat) (aW aB : Nat) (w0 w1 w2 w3 b0 b1 b2 b3 : Tok) (aH aP aG aN aR D : Nat) (o3 o4 : Obj) (es : List (Addr × Obj)) (hs ps gs ns rs : Array Value) (nH nP nG nN nR : Nat) (ys : List Value) (tH : Tok) (vI vS : Value) (u : Str → Option Value) (h : Heap) (c0 c1 c2 c3 c4 : Int) (t0 t1 t2 t3 t4 : Tok) (xs : List Str), o3.data = .cell (some (.ref D)) → o4.data = .cell (some (.ref aN)) → 130 < L → (L + 1 + 1 + 1 + 1 ≠ D ∧ L + 1 + 1 + 1 ≠ D ∧ 130 ≠ D) → (D < aH ∧ L + 1 + 1 + 1 + 1 < aH) → aH < aP → aP < aG → aG < aN → aN < aR → (∀ p ∈ es, @LT.lt Nat _ aR p.1) →
      ys = [.int c0 t0, .int c1 t1, .int c2 t2, .int c3 t3, .int c4 t4] → TxtsAre ns.toList xs → TxtsAre sp.toList xs → (∀ x ∈ xs, PyData.strOk x = true) → Refs es rs.toList (refD [c0, c1, c2, c3, c4] 4) → rs.size ≤ 4 →
      Fr h₀ L h (frm [(Str.ofString "spelled", .ref aS), (Str.ofString "brings", .ref aB), (Str.ofString "wants", .ref aW), (Str.ofString "hosts", .ref aH), (Str.ofString "ports", .ref aP), (Str.ofString "gifts", .ref aG), (Str.ofString "refused", .ref aR), (Str.ofString "ink", vI), (Str.ofString "start", vS)] u) → News h₀ L h ((aS, listOf sp nS) :: (aB, LCg.lst [.int (bringC c0) b0, .int (bringC c1) b1, .int (bringC c2) b2, .int (bringC c3) b3]) :: (aW, LCg.lst [.int (wantC c0) w0, .int (wantC c1) w1, .int (wantC c2) w2, .int (wantC c3) w3]) :: (led0 aH aP aG aN aR D L o3 o4 ys hs ps gs ns rs nH nP nG nN nR es)) →
      Box (wpAny (model PySem.Challenge.rw_yh0007_01.row.prog w) (lawA L fa) (execs (lawPart 11 1) (lawEnv L fa)) (fun f s' => Hold (f = .next ∧ ∃ h' tk' u', s' = { s with heap := h', toks := tk' } ∧ Fr h₀ L h' (frm [(Str.ofString "spelled", .ref aS), (Str.ofString "brings", .ref aB), (Str.ofString "wants", .ref aW), (Str.ofString "hosts", .ref aH), (Str.ofString "ports", .ref aP), (Str.ofString "gifts", .ref aG), (Str.ofString "refused", .ref aR), (Str.ofString "ink", vI), (Str.ofString "start", vS)] u') ∧ News h₀ L h' ((aS, listOf sp nS) :: (aB, LCg.lst [.int (bringC c0) b0, .int (bringC c1) b1, .int (bringC c2) b2, .int (bringC c3) b3]) :: (aW, LCg.lst [.int (wantC c0) w0, .int (wantC c1) w1, .int (wantC c2) w2, .int (wantC c3) w3]) :: (led0 aH aP aG aN aR D L o3 o4 ys hs ps gs ns rs nH nP nG nN nR es)))) (fun _ _ => False) { s with heap := h, toks := tH }) := by
  w_top off
  k_fill
  k_with_none
  k_with "andf" => first | exact And.left (by with_reducible assumption) | exact And.left (And.right (by with_reducible assumption)) | exact And.left (And.right (And.right (by with_reducible assumption))) | exact And.left (And.right (And.right (And.right (by with_reducible assumption)))) | exact And.left (And.right (And.right (And.right (And.right (by with_reducible assumption))))) | exact And.left (And.right (And.right (And.right (And.right (And.right (by with_reducible assumption)))))) | exact And.right (by with_reducible assumption) | exact And.right (And.right (by with_reducible assumption)) | exact And.right (And.right (And.right (by with_reducible assumption)))
  k_with "lt" => first | with_reducible assumption | exact And.left (by with_reducible assumption) | exact And.left (And.right (by with_reducible assumption)) | exact And.left (And.right (And.right (by with_reducible assumption))) | exact And.left (And.right (And.right (And.right (by with_reducible assumption)))) | exact And.left (And.right (And.right (And.right (And.right (by with_reducible assumption))))) | exact And.left (And.right (And.right (And.right (And.right (And.right (by with_reducible assumption)))))) | (refine Nat.lt_trans (by with_reducible assumption) ?_; k_extra "lt")
  k_with "ne" => first | with_reducible assumption | exact Ne.symm (by with_reducible assumption) | (refine Nat.ne_of_lt ?_; k_extra "lt") | (refine Nat.ne_of_gt ?_; k_extra "lt") | k_extra "andf" | (refine Ne.symm ?_; k_extra "andf") | (refine Nat.ne_of_lt ?_; k_extra "lt2") | (refine Nat.ne_of_gt ?_; k_extra "lt2")
  k_with "lt2" => first | exact Nat.lt_trans (And.left (by with_reducible assumption)) (by with_reducible assumption) | exact Nat.lt_trans (And.left (And.right (by with_reducible assumption))) (by with_reducible assumption) | exact Nat.lt_trans (And.left (And.right (And.right (by with_reducible assumption)))) (by with_reducible assumption) | exact Nat.lt_trans (And.left (And.right (And.right (And.right (by with_reducible assumption))))) (by with_reducible assumption) | exact Nat.lt_trans (And.left (And.right (And.right (And.right (And.right (by with_reducible assumption)))))) (by with_reducible assumption) | exact Nat.lt_trans (And.left (And.right (And.right (And.right (And.right (And.right (by with_reducible assumption))))))) (by with_reducible assumption) | exact Nat.lt_trans (And.left (And.right (And.right (And.right (And.right (And.right (And.right (by with_reducible assumption)))))))) (by with_reducible assumption) | exact Nat.lt_trans (And.left (And.right (And.right (And.right (And.right (And.right (And.right (And.right (by with_reducible assumption))))))))) (by with_reducible assumption) | exact Nat.lt_trans (And.left (And.right (And.right (And.right (And.right (And.right (And.right (And.right (And.right (by with_reducible assumption)))))))))) (by with_reducible assumption) | exact Nat.lt_trans (And.left (And.right (And.right (And.right (And.right (And.right (And.right (And.right (And.right (And.right (by with_reducible assumption))))))))))) (by with_reducible assumption)
  k_with "omega" => first | safely (k_dflt (k_extra "om")) | safely (k_dflt lia)
  k_with "om" => first | with_reducible assumption | ((with_reducible show (_ : Nat) < _); first | exact Nat.lt_succ_self _ | decide | exact ltNl (by with_reducible assumption) (by rfl) | exact ltNl (And.left (by with_reducible assumption)) (by rfl) | exact ltNl (And.right (by with_reducible assumption)) (by rfl) | k_extra "lt") | ((with_reducible show (_ : Nat) ≤ _); first | exact Nat.le_refl _ | decide | exact leNl (by with_reducible assumption) (by rfl) | exact leNl (And.left (by with_reducible assumption)) (by rfl) | exact leNl (And.right (by with_reducible assumption)) (by rfl) | exact leNl2 (by with_reducible assumption) (by rfl) | exact leNl2 (And.left (by with_reducible assumption)) (by rfl) | exact leNl2 (And.right (by with_reducible assumption)) (by rfl) | (refine Nat.le_of_lt ?_; k_extra "lt")) | ((with_reducible show (_ : Int) < _); first | decide | k_extra "andf" | exact ltIl (by with_reducible assumption) (by rfl) | exact ltIl (And.left (by with_reducible assumption)) (by rfl) | exact ltIl (And.right (by with_reducible assumption)) (by rfl) | exact loIt (by with_reducible assumption) (by rfl) | exact loIt (And.left (by with_reducible assumption)) (by rfl) | exact loIt (And.right (by with_reducible assumption)) (by rfl) | exact loP (by with_reducible assumption) | exact loP (And.left (by with_reducible assumption)) | exact loP (And.right (by with_reducible assumption)) | exact hiP (by with_reducible assumption) (by rfl) | exact hiP (And.left (by with_reducible assumption)) (by rfl) | exact hiP (And.right (by with_reducible assumption)) (by rfl)) | ((with_reducible show (_ : Int) ≤ _); first | decide | k_extra "andf" | exact leIl (by with_reducible assumption) (by rfl) | exact leIl (And.left (by with_reducible assumption)) (by rfl) | exact leIl (And.right (by with_reducible assumption)) (by rfl) | exact leIl2 (by with_reducible assumption) (by rfl) | exact leIl2 (And.left (by with_reducible assumption)) (by rfl) | exact leIl2 (And.right (by with_reducible assumption)) (by rfl) | exact loI (by with_reducible assumption) (by rfl) | exact loI (And.left (by with_reducible assumption)) (by rfl) | exact loI (And.right (by with_reducible assumption)) (by rfl) | exact Int.le_of_lt (by with_reducible assumption)) | ((with_reducible show (_ : Nat) ≠ _); k_extra "ne")
  k_with "compareOp NotEq ref ref" => (k_here; (fail_if_success (fail_if_success (with_reducible rename TxtsAre _ _ => hTX))); k_dflt (refine' ne_names ?Nr0 ?ar0 ?br0 ?t1r0 ?t2r0 ?okr0 ?ur0 ?_; (case Nr0 => k_asm); (case ar0 => k_mem); (case br0 => k_mem); (case t1r0 => assumption); (case t2r0 => assumption); (case okr0 => assumption); (case ur0 => ke_room); k_whole))
  k_with "CompSrcT" => (k_here; k_dflt (refine' hold_of ?_))
  k_with "subscriptTail" => (k_here; (with_reducible show wpAny _ _ (subscriptTail _ _ (Value.ref _) (Value.int _ _)) _ _ _); (with_unfolding_all refine' pickK ?k1r2 ?k3r2 ?k4r2 ?k5r2 ?_ ?k6r2; (case k1r2 => is_list); (case k3r2 => omega); (case k4r2 => (simp only [List.length_cons, List.length_nil]; omega)); (case k5r2 => omega); (case k6r2 => with_unfolding_all rfl); k_whole); k_places; all_goals (try dsimp only))
  k_with "call ref" => (k_here; (with_reducible show wpAny _ _ (call (Value.ref 114) [Value.int _ _]) _ _ _); k_dflt (refine' C_wish _ _ _ _ _ _ _ _ _  _ _ _ _ _ _ _ _ _ _ _ _ _ _ _ _ _ ?k1r3 ?k2r3 ?k3r3 ?k4r3 ?k5r3 ?kKr3 trivial ?kdr3 ?kur3 ?_; (case k1r3 => k_asm); (case k2r3 => k_asm); (case k3r3 => k_asm); (case k4r3 => k_asm); (case k5r3 => k_asm); (case kKr3 => exact rfl); (case kdr3 => ktr_room); (case kur3 => ktr_units); intro t9 h9 tk9 F9 N9; (try dsimp only); (try k_sweep)))
  k_with "call ref" => (k_here; (with_reducible show wpAny _ _ (call (Value.ref 121) [Value.int _ _]) _ _ _); k_dflt (refine' C_gift _ _ _ _ _ _ _ _ _  _ _ _ _ _ _ _ _ _ _ _ _ _ _ _ _ _ ?k1r4 ?k2r4 ?k3r4 ?k4r4 ?k5r4 ?kKr4 trivial ?kdr4 ?kur4 ?_; (case k1r4 => k_asm); (case k2r4 => k_asm); (case k3r4 => k_asm); (case k4r4 => k_asm); (case k5r4 => k_asm); (case kKr4 => exact rfl); (case kdr4 => ktr_room); (case kur4 => ktr_units); intro t9 h9 tk9 F9 N9; (try dsimp only); (try k_sweep)))
  intro hB X' T' aS sp nS aW aB w0 w1 w2 w3 b0 b1 b2 b3 aH aP aG aN aR D o3 o4 es hs ps gs ns rs nH nP nG nN nR ys tH vI vS u h c0 c1 c2 c3 c4 t0 t1 t2 t3 t4 xs d3 d4 a1 a2 a3 a4 a5 a6 a7 hes hys hns hsp hok hrf hr4 F N
  refine Box.mk ?_
  dsimp only [lawPart, lawFor, forPart, lawEnv, lawA, lawFn, scopeOf, PySem.Challenge.pw_yh0007_01, lastOf, bodyOf, List.drop, List.take]
  k_fold
  dsimp only [frm] at F
  dsimp only [led0] at N
  k_steps
  unfold Hold
  rename Fr _ _ _ _ => F1
  rename News _ _ _ _ => N1
  rename IsRange _ _ _ _ _ _ _ _ => r1
  refine LCt.CompSrcT.range (n := 4) (by rfl) F1 N1 r1 (by decide) (by rfl) (by size_fits) ?_
  intro g'
  refine compT_ind (fun i zs news => ∃ es2, news = ((aS, listOf sp nS) :: (aB, LCg.lst [.int (bringC c0) b0, .int (bringC c1) b1, .int (bringC c2) b2, .int (bringC c3) b3]) :: (aW, LCg.lst [.int (wantC c0) w0, .int (wantC c1) w1, .int (wantC c2) w2, .int (wantC c3) w3]) :: (led0 aH aP aG aN aR D L o3 o4 ys hs ps gs ns rs nH nP nG nN nR es)) ++ es2 ∧ Refs es2 zs (refD [c0, c1, c2, c3, c4] i) ∧ zs.length ≤ i) ?_ ?_ ?_
  · rintro i v I oI C oC D' m₂ zs news h tk E' hi ⟨es2, rfl, hre, hzl⟩ ⟨t, rfl⟩ hC hx F2 N2 off ne
    subst hys
    clear F1 N1 hns hsp hok
    simp only [led0, List.cons_append] at N2
    dsimp only
    k_steps
    · rename News _ _ _ _ => NX
      rename _ ∧ _ => LX
      obtain ⟨lI, lC, lD, _⟩ := LX
      have hw : 12 < wayC (cAt [c0, c1, c2, c3, c4] (0 + (i : Int))) := by assumption
      show LCg.CompEnd _ _ _ _ _ _ _ _ _ _ _ _ _ _
      refine LCg.CompEnd.intro (by assumption) NX (((aS, listOf sp nS) :: (aB, LCg.lst [.int (bringC c0) b0, .int (bringC c1) b1, .int (bringC c2) b2, .int (bringC c3) b3]) :: (aW, LCg.lst [.int (wantC c0) w0, .int (wantC c1) w1, .int (wantC c2) w2, .int (wantC c3) w3]) :: (led0 aH aP aG aN aR D L o3 o4 _ hs ps gs ns rs nH nP nG nN nR es)) ++ ((_, tupO (0 + (i : Int)) _ (giftS (wayC (cAt [c0, c1, c2, c3, c4] (0 + (i : Int)))) (bC (cAt [c0, c1, c2, c3, c4] (0 + (i : Int)))) (dC (cAt [c0, c1, c2, c3, c4] (0 + (i : Int))))) _) :: es2)) (fun p hp => mem_mid hp) (off_mid off ⟨Nat.ne_of_gt lI, Nat.ne_of_gt lC, Nat.ne_of_gt lD⟩) trivial ⟨_, rfl, refs_take hw hre, by simp only [List.length_append, List.length_singleton]; omega⟩
    · have hw : wayC (cAt [c0, c1, c2, c3, c4] (0 + (i : Int))) ≤ 12 := Int.not_lt.mp (by assumption)
      show LCg.CompEnd _ _ _ _ _ _ _ _ _ _ _ _ _ _
      refine LCg.CompEnd.intro (by assumption) N2 (((aS, listOf sp nS) :: (aB, LCg.lst [.int (bringC c0) b0, .int (bringC c1) b1, .int (bringC c2) b2, .int (bringC c3) b3]) :: (aW, LCg.lst [.int (wantC c0) w0, .int (wantC c1) w1, .int (wantC c2) w2, .int (wantC c3) w3]) :: (led0 aH aP aG aN aR D L o3 o4 _ hs ps gs ns rs nH nP nG nN nR es)) ++ es2) (fun p hp => hp) off trivial ⟨_, rfl, refs_skip hw hre, by omega⟩
  · rintro zs news ⟨es2, rfl, hre, hzl⟩
    unfold LCg.FinE
    intro D' h2 tk2 F2 N2 o1
    clear F1 N1 hns hsp hok
    simp only [led0, List.cons_append] at N2
    dsimp only
    refine' ne_refs N2 ?a ?b ?s1 ?s2 hrf hre ?u ?_
    case a => k_mem
    case b => k_mem
    case s1 => (intro p hp; (repeat' apply List.mem_cons_of_mem); exact List.mem_append_left _ hp)
    case s2 => (intro p hp; (repeat' apply List.mem_cons_of_mem); exact List.mem_append_right _ hp)
    case u => ke_room
    clear hrf hre
    k_steps
    show _ ∧ _
    exact ⟨rfl, exI3 ⟨rfl, fr_frm (by assumption) _ ⟨rfl, rfl, rfl, rfl, rfl, rfl, rfl, rfl, rfl, trivial⟩, news_left (a := ((aS, listOf sp nS) :: (aB, LCg.lst [.int (bringC c0) b0, .int (bringC c1) b1, .int (bringC c2) b2, .int (bringC c3) b3]) :: (aW, LCg.lst [.int (wantC c0) w0, .int (wantC c1) w1, .int (wantC c2) w2, .int (wantC c3) w3]) :: (led0 aH aP aG aN aR D L o3 o4 ys hs ps gs ns rs nH nP nG nN nR es))) N2⟩⟩
  · exact ⟨[], (List.append_nil _).symm, .nil, Nat.le_refl _⟩
end Mine
end
section -- PureM
namespace Mine
open PySem PySem.W PySem.Calls PyProof.Rows PySem.Spec PyProof
noncomputable def runK {α : Type} (lt : Nat → Nat → Bool) : KasT α → α
  | .ret a => a
  | .ask i j k => runK lt (k (lt i j))
noncomputable def okK {α : Type} : KasT α → Bool
  | .ret _ => true
  | .ask i j k => decide (i < 4) && (decide (j < 4) && (okK (k true) && okK (k false)))
theorem ok4 : okK (kas_sort 4) = true := by decide +kernel
theorem okK_at {α : Type} {i j : Nat} {k : Bool → KasT α} (h : okK (.ask i j k) = true) : i < 4 ∧ j < 4 ∧ ∀ b, okK (k b) = true := by
  unfold okK at h
  simp only [Bool.and_eq_true, decide_eq_true_eq] at h
  exact ⟨h.1, h.2.1, fun b => by cases b; exact h.2.2.2; exact h.2.2.1⟩
theorem runK_congr {α : Type} {lt lt' : Nat → Nat → Bool} (e : ∀ i j, i < 4 → j < 4 → lt i j = lt' i j) : ∀ t : KasT α, okK t = true → runK lt t = runK lt' t
  | .ret _, _ => rfl
  | .ask i j k, h => by
    obtain ⟨h1, h2, h3⟩ := okK_at h
    show runK lt (k (lt i j)) = runK lt' (k (lt' i j))
    rw [e i j h1 h2]
    exact runK_congr e (k (lt' i j)) (h3 _)
section
variable {prog : Program} {w : World} {A : Around}
theorem kas_run {α : Type} {vs : List Value} {lt : Nat → Nat → Bool} {G : α → Shared → Prop} (hk : ∀ i j, i < 4 → j < 4 → ∃ a c t u, vs.getD i .none = .str a t ∧ vs.getD j .none = .str c u ∧ lt i j = decide (a.cps.toList < c.cps.toList)) :
    ∀ (t : KasT α) (s : Shared), okK t = true → G (runK lt t) s → t.kasWp (kas_ask prog w A oneType' vs) G s
  | .ret _, _, _, h => h
  | .ask i j k, s, h, hg => by
    obtain ⟨h1, h2, h3⟩ := okK_at h
    obtain ⟨a, c, t, u, e1, e2, e3⟩ := hk i j h1 h2
    show wpAny (model prog w) A (keyLt' oneType' (vs.getD i .none) (vs.getD j .none)) _ _ s
    rw [e1, e2]
    refine kas_lt_str ?_
    rw [← e3]
    exact kas_run hk (k (lt i j)) s (h3 _) hg
end
/-- Ranks of the names. -/
noncomputable def rk (n b : Int) : Int := if b < n then 100 + (9 - b) * 10 + (if n.fmod 2 = 1 then 0 else 1 + n) else if b = n then 50 + (if n.fmod 2 = 1 then 0 else 1 + n) else n
theorem rk_lt : ∀ n ∈ [(0:Int), 1, 2, 3, 4, 5], ∀ b ∈ [(0:Int), 1, 2, 3, 4, 5], ∀ n' ∈ [(0:Int), 1, 2, 3, 4, 5], ∀ b' ∈ [(0:Int), 1, 2, 3, 4, 5], decide ((nmS n b).cps.toList < (nmS n' b').cps.toList) = decide (rk n b < rk n' b') := by decide +kernel
noncomputable def lt4 (b01 b02 b03 b10 b12 b13 b20 b21 b23 b30 b31 b32 : Bool) (i j : Nat) : Bool :=
  match i, j with
  | 0, 1 => b01 | 0, 2 => b02 | 0, 3 => b03 | 1, 0 => b10 | 1, 2 => b12 | 1, 3 => b13 | 2, 0 => b20 | 2, 1 => b21 | 2, 3 => b23 | 3, 0 => b30 | 3, 1 => b31 | 3, 2 => b32
  | _, _ => false
noncomputable def weak4 (lt : Nat → Nat → Bool) : Bool :=
  [0, 1, 2, 3].all fun i => [0, 1, 2, 3].all fun j => !(lt i j && lt j i) && [0, 1, 2, 3].all fun k => lt i j || lt j k || !lt i k
noncomputable def good4 (lt : Nat → Nat → Bool) : List Nat → Bool
  | [a, b, c, d] => [a, b, c, d].all (· < 4) && (a != b && a != c && a != d && b != c && b != d && c != d) && !lt b a && !lt c a && !lt d a && !lt c b && !lt d b && !lt d c
  | _ => false
noncomputable def bb (p : Bool → Bool → Bool) : Bool := p false false && (p false true && p true false)
theorem bb_at {p : Bool → Bool → Bool} (h : bb p = true) {x y : Bool} (e : (x && y) = false) : p x y = true := by
  unfold bb at h
  simp only [Bool.and_eq_true] at h
  cases x <;> cases y
  · exact h.1
  · exact h.2.1
  · exact h.2.2
  · cases e
theorem sort4' : (bb fun b01 b10 => bb fun b02 b20 => bb fun b12 b21 => bb fun b03 b30 => bb fun b13 b31 => bb fun b23 b32 =>
    !weak4 (lt4 b01 b02 b03 b10 b12 b13 b20 b21 b23 b30 b31 b32) || good4 (lt4 b01 b02 b03 b10 b12 b13 b20 b21 b23 b30 b31 b32) (runK (lt4 b01 b02 b03 b10 b12 b13 b20 b21 b23 b30 b31 b32) (kas_sort 4)).toList) = true := by decide +kernel
theorem sort4 {b01 b02 b03 b10 b12 b13 b20 b21 b23 b30 b31 b32 : Bool} (h1 : (b01 && b10) = false) (h2 : (b02 && b20) = false) (h3 : (b12 && b21) = false) (h4 : (b03 && b30) = false) (h5 : (b13 && b31) = false) (h6 : (b23 && b32) = false)
    (hw : weak4 (lt4 b01 b02 b03 b10 b12 b13 b20 b21 b23 b30 b31 b32) = true) : good4 (lt4 b01 b02 b03 b10 b12 b13 b20 b21 b23 b30 b31 b32) (runK (lt4 b01 b02 b03 b10 b12 b13 b20 b21 b23 b30 b31 b32) (kas_sort 4)).toList = true := by
  have h := bb_at (bb_at (bb_at (bb_at (bb_at (bb_at sort4' h1) h2) h3) h4) h5) h6
  rw [hw] at h
  exact h
end Mine
end
section -- PureN
namespace Mine
open PySem PySem.W PySem.Calls PyProof.Rows PySem.Spec PyProof
noncomputable def ltR (r : Nat → Int) (i j : Nat) : Bool := decide (r i < r j)
noncomputable abbrev ltT (r : Nat → Int) : Nat → Nat → Bool := lt4 (ltR r 0 1) (ltR r 0 2) (ltR r 0 3) (ltR r 1 0) (ltR r 1 2) (ltR r 1 3) (ltR r 2 0) (ltR r 2 1) (ltR r 2 3) (ltR r 3 0) (ltR r 3 1) (ltR r 3 2)
theorem ltR_self (r : Nat → Int) (i : Nat) : ltR r i i = false := by
  unfold ltR; exact decide_eq_false (Int.lt_irrefl _)
theorem ltR_asym (r : Nat → Int) (i j : Nat) : (ltR r i j && ltR r j i) = false := by
  unfold ltR
  by_cases h : r i < r j
  · rw [decide_eq_false (p := r j < r i) (by omega)]; simp
  · rw [decide_eq_false h]; simp
theorem ltT_eq (r : Nat → Int) (i j : Nat) (hi : i < 4) (hj : j < 4) : ltR r i j = ltT r i j := by
  have e1 := n4 hi
  have e2 := n4 hj
  rcases e1 with rfl | rfl | rfl | rfl <;> rcases e2 with rfl | rfl | rfl | rfl <;> first | rfl | exact ltR_self r _
theorem weakT (r : Nat → Int) : weak4 (ltT r) = true := by
  have m4 : ∀ i : Nat, i ∈ [0, 1, 2, 3] → i < 4 := by intro i hi; simp only [List.mem_cons, List.not_mem_nil, or_false] at hi; omega
  unfold weak4
  simp only [List.all_eq_true, Bool.and_eq_true]
  intro i hi j hj
  have h1 := m4 i hi
  have h2 := m4 j hj
  refine ⟨?_, fun k hk => ?_⟩
  · rw [← ltT_eq r i j h1 h2, ← ltT_eq r j i h2 h1]
    unfold ltR
    by_cases h : r i < r j
    · rw [decide_eq_false (p := r j < r i) (by omega)]; simp
    · rw [decide_eq_false h]; simp
  · have h3 := m4 k hk
    rw [← ltT_eq r i j h1 h2, ← ltT_eq r j k h2 h3, ← ltT_eq r i k h1 h3]
    unfold ltR
    by_cases h : r i < r j
    · rw [decide_eq_true h]; simp
    · by_cases h' : r j < r k
      · rw [decide_eq_true h']; simp
      · rw [decide_eq_false (p := r i < r k) (by omega)]; simp
structure Ord4 (r : Nat → Int) (a b c d : Nat) : Prop where
  a4 : a < 4
  b4 : b < 4
  c4 : c < 4
  d4 : d < 4
  ab : a ≠ b
  ac : a ≠ c
  ad : a ≠ d
  bc : b ≠ c
  bd : b ≠ d
  cd : c ≠ d
  rab : r a ≤ r b
  rac : r a ≤ r c
  rad : r a ≤ r d
  rbc : r b ≤ r c
  rbd : r b ≤ r d
  rcd : r c ≤ r d
theorem sorted4 (r : Nat → Int) : ∃ a b c d, (runK (ltR r) (kas_sort 4)).toList = [a, b, c, d] ∧ Ord4 r a b c d := by
  have h := sort4 (ltR_asym r 0 1) (ltR_asym r 0 2) (ltR_asym r 1 2) (ltR_asym r 0 3) (ltR_asym r 1 3) (ltR_asym r 2 3) (weakT r)
  rw [← runK_congr (ltT_eq r) (kas_sort 4) ok4] at h
  revert h
  generalize (runK (ltR r) (kas_sort 4)).toList = l
  intro h
  match l, h with
  | [a, b, c, d], h =>
    unfold good4 at h
    simp only [Bool.and_eq_true, Bool.not_eq_true', List.all_cons, List.all_nil, decide_eq_true_eq, bne_iff_ne, ne_eq, Bool.and_true] at h
    obtain ⟨⟨⟨⟨⟨⟨⟨⟨a4, b4, c4, d4⟩, ⟨⟨⟨⟨ab, ac⟩, ad⟩, bc⟩, bd⟩, cd⟩, r1⟩, r2⟩, r3⟩, r4⟩, r5⟩, r6⟩ := h
    have key : ∀ x y, x < 4 → y < 4 → ltT r x y = false → r y ≤ r x := fun x y hx hy e => by
      rw [← ltT_eq r x y hx hy] at e
      have := of_decide_eq_false e
      omega
    exact ⟨a, b, c, d, rfl, ⟨a4, b4, c4, d4, ab, ac, ad, bc, bd, cd, key b a b4 a4 r1, key c a c4 a4 r2, key d a d4 a4 r3, key c b c4 b4 r4, key d b d4 b4 r5, key d c d4 c4 r6⟩⟩
theorem mem6x {x : Int} (h : 0 ≤ x ∧ x < 6) : x ∈ [(0:Int), 1, 2, 3, 4, 5] := m6 h
theorem rk_lt' {n b n' b' : Int} (h1 : 0 ≤ n ∧ n < 6) (h2 : 0 ≤ b ∧ b < 6) (h3 : 0 ≤ n' ∧ n' < 6) (h4 : 0 ≤ b' ∧ b' < 6) : decide (rk n b < rk n' b') = decide ((nmS n b).cps.toList < (nmS n' b').cps.toList) :=
  (rk_lt n (mem6x h1) b (mem6x h2) n' (mem6x h3) b' (mem6x h4)).symm
/-- The guests' wants and brings as functions of the number. -/
noncomputable def at4 (a b c d : Int) : Nat → Int
  | 0 => a | 1 => b | 2 => c | _ => d
noncomputable def rk4 (w0 w1 w2 w3 b0 b1 b2 b3 : Int) (i : Nat) : Int := rk (at4 w0 w1 w2 w3 i) (at4 b0 b1 b2 b3 i)
noncomputable def In6 (x : Int) : Prop := 0 ≤ x ∧ x < 6
section
variable {prog : Program} {w : World} {A : Around}
theorem kas_run4 {w0 w1 w2 w3 b0 b1 b2 b3 : Int} {n0 n1 n2 n3 : Tok} {G : Array Nat → Shared → Prop} {s : Shared} (hw : In6 w0 ∧ In6 w1 ∧ In6 w2 ∧ In6 w3) (hb : In6 b0 ∧ In6 b1 ∧ In6 b2 ∧ In6 b3)
    (h : ∀ (p : Array Nat) (a b c d : Nat), p.toList = [a, b, c, d] → Ord4 (rk4 w0 w1 w2 w3 b0 b1 b2 b3) a b c d → G p s) :
    (kas_sort 4).kasWp (kas_ask prog w A oneType' [.str (nmS w0 b0) n0, .str (nmS w1 b1) n1, .str (nmS w2 b2) n2, .str (nmS w3 b3) n3]) G s := by
  obtain ⟨a, b, c, d, e, o⟩ := sorted4 (rk4 w0 w1 w2 w3 b0 b1 b2 b3)
  obtain ⟨u0, u1, u2, u3⟩ := hw
  obtain ⟨v0, v1, v2, v3⟩ := hb
  refine kas_run (lt := ltR (rk4 w0 w1 w2 w3 b0 b1 b2 b3)) (fun i j hi hj => ?_) _ _ ok4 (h _ a b c d e o)
  have e1 := n4 hi
  have e2 := n4 hj
  rcases e1 with rfl | rfl | rfl | rfl <;> rcases e2 with rfl | rfl | rfl | rfl <;>
    exact ⟨_, _, _, _, rfl, rfl, rk_lt' (by assumption) (by assumption) (by assumption) (by assumption)⟩
end
theorem pick_int {h0 h1 h2 h3 : Tok} {q : Nat} (hq : q < 4) : ∃ t : Tok, [Value.int 0 h0, .int 1 h1, .int 2 h2, .int 3 h3].getD q .none = .int (q : Int) t := by
  have e1 := n4 hq
  rcases e1 with rfl | rfl | rfl | rfl <;> exact ⟨_, rfl⟩
end Mine
end
section -- LO
open PySem PySem.W PySem.Calls PyProof.Rows PySem.Spec
namespace Mine
theorem hold_of2 {P : Prop} (h : Hold P) : P := h
theorem sortS (w : World) (p : Program) (loose : List Str) (mean : ExcName → Option Value) (mg mb : Str → Option Value) (L fa : Nat) (h₀ : Heap) (s : Shared) :
    Below callerA h₀ [] h₀ → (hd.heap_39 w.params).In h₀ → Top p loose mean mg mb h₀ →
    ∀ (aB aW aN aG aP aH : Nat) (o4 : Obj) (nN nG nP nH : Nat) (x0 x1 x2 x3 : Str) (w0 w1 w2 w3 b0 b1 b2 b3 : Int) (n0 n1 n2 n3 h0 h1 h2 h3 p0 p1 p2 p3 g0 g1 g2 g3 y0 y1 y2 y3 z0 z1 z2 z3 : Tok) (tH : Tok) (vI vS : Value) (u : Str → Option Value) (h : Heap), o4.data = .cell (some (.ref aN)) → 130 < L → L + 1 + 1 + 1 + 1 < aH → aH < aP → aP < aG → aG < aN → 130 ≠ aW → 130 ≠ aB → CodeHd h₀ 132 130 → (In6 w0 ∧ In6 w1 ∧ In6 w2 ∧ In6 w3) → (In6 b0 ∧ In6 b1 ∧ In6 b2 ∧ In6 b3) →
      Fr h₀ L h (frm [(Str.ofString "brings", .ref aB), (Str.ofString "wants", .ref aW), (Str.ofString "hosts", .ref aH), (Str.ofString "ports", .ref aP), (Str.ofString "gifts", .ref aG), (Str.ofString "ink", vI), (Str.ofString "start", vS)] u) → News h₀ L h [(aB, LCg.lst [.int b0 y0, .int b1 y1, .int b2 y2, .int b3 y3]), (aW, LCg.lst [.int w0 z0, .int w1 z1, .int w2 z2, .int w3 z3]), (aN, listOf #[.str (nmS w0 b0) n0, .str (nmS w1 b1) n1, .str (nmS w2 b2) n2, .str (nmS w3 b3) n3] nN), (aG, listOf #[.str (blanks b0) g0, .str (blanks b1) g1, .str (blanks b2) g2, .str (blanks b3) g3] nG), (aP, listOf #[.int w0 p0, .int w1 p1, .int w2 p2, .int w3 p3] nP), (aH, listOf #[.int 0 h0, .int 1 h1, .int 2 h2, .int 3 h3] nH), (L + 1 + 1 + 1 + 1, o4), (130, tabObj #[])] →
      Box (wpAny (model PySem.Challenge.rw_yh0007_01.row.prog w) (lawA L fa) (execs (lawPart 12 1) (lawEnv L fa)) (fun f s' => Hold (f = .next ∧ ∃ h' tk' u' aO nO a b c d e0 e1 e2 e3 pT, s' = { s with heap := h', toks := tk' } ∧ Ord4 (rk4 w0 w1 w2 w3 b0 b1 b2 b3) a b c d ∧ Fr h₀ L h' (frm [(Str.ofString "order", .ref aO), (Str.ofString "brings", .ref aB), (Str.ofString "wants", .ref aW), (Str.ofString "hosts", .ref aH), (Str.ofString "ports", .ref aP), (Str.ofString "gifts", .ref aG), (Str.ofString "ink", vI), (Str.ofString "start", vS)] u') ∧ News h₀ L h' [(aO, listOf #[.int (a : Int) e0, .int (b : Int) e1, .int (c : Int) e2, .int (d : Int) e3] nO), (aB, LCg.lst [.int b0 y0, .int b1 y1, .int b2 y2, .int b3 y3]), (aW, LCg.lst [.int w0 z0, .int w1 z1, .int w2 z2, .int w3 z3]), (aG, listOf #[.str (blanks b0) g0, .str (blanks b1) g1, .str (blanks b2) g2, .str (blanks b3) g3] nG), (aP, listOf #[.int w0 p0, .int w1 p1, .int w2 p2, .int w3 p3] nP), (130, tabObj pT)])) (fun _ _ => False) { s with heap := h, toks := tH }) := by
  w_top off
  k_fill
  k_with_none
  k_with "andf" => first | exact And.left (by with_reducible assumption) | exact And.left (And.right (by with_reducible assumption)) | exact And.left (And.right (And.right (by with_reducible assumption))) | exact And.left (And.right (And.right (And.right (by with_reducible assumption)))) | exact And.left (And.right (And.right (And.right (And.right (by with_reducible assumption))))) | exact And.left (And.right (And.right (And.right (And.right (And.right (by with_reducible assumption)))))) | exact And.right (by with_reducible assumption) | exact And.right (And.right (by with_reducible assumption)) | exact And.right (And.right (And.right (by with_reducible assumption)))
  k_with "lt" => first | with_reducible assumption | exact And.left (by with_reducible assumption) | exact And.left (And.right (by with_reducible assumption)) | exact And.left (And.right (And.right (by with_reducible assumption))) | exact And.left (And.right (And.right (And.right (by with_reducible assumption)))) | exact And.left (And.right (And.right (And.right (And.right (by with_reducible assumption))))) | exact And.left (And.right (And.right (And.right (And.right (And.right (by with_reducible assumption)))))) | (refine Nat.lt_trans (by with_reducible assumption) ?_; k_extra "lt")
  k_with "ne" => first | with_reducible assumption | exact Ne.symm (by with_reducible assumption) | (refine Nat.ne_of_lt ?_; k_extra "lt") | (refine Nat.ne_of_gt ?_; k_extra "lt") | k_extra "andf" | (refine Ne.symm ?_; k_extra "andf") | (refine Nat.ne_of_lt ?_; k_extra "lt2") | (refine Nat.ne_of_gt ?_; k_extra "lt2")
  k_with "lt2" => first | exact Nat.lt_trans (And.left (by with_reducible assumption)) (by with_reducible assumption) | exact Nat.lt_trans (And.left (And.right (by with_reducible assumption))) (by with_reducible assumption) | exact Nat.lt_trans (And.left (And.right (And.right (by with_reducible assumption)))) (by with_reducible assumption) | exact Nat.lt_trans (And.left (And.right (And.right (And.right (by with_reducible assumption))))) (by with_reducible assumption) | exact Nat.lt_trans (And.left (And.right (And.right (And.right (And.right (by with_reducible assumption)))))) (by with_reducible assumption) | exact Nat.lt_trans (And.left (And.right (And.right (And.right (And.right (And.right (by with_reducible assumption))))))) (by with_reducible assumption) | exact Nat.lt_trans (And.left (And.right (And.right (And.right (And.right (And.right (And.right (by with_reducible assumption)))))))) (by with_reducible assumption) | exact Nat.lt_trans (And.left (And.right (And.right (And.right (And.right (And.right (And.right (And.right (by with_reducible assumption))))))))) (by with_reducible assumption) | exact Nat.lt_trans (And.left (And.right (And.right (And.right (And.right (And.right (And.right (And.right (And.right (by with_reducible assumption)))))))))) (by with_reducible assumption) | exact Nat.lt_trans (And.left (And.right (And.right (And.right (And.right (And.right (And.right (And.right (And.right (And.right (by with_reducible assumption))))))))))) (by with_reducible assumption)
  k_with "omega" => first | safely (k_dflt (k_extra "om")) | safely (k_dflt lia)
  k_with "om" => first | with_reducible assumption | ((with_reducible show (_ : Nat) < _); first | exact Nat.lt_succ_self _ | decide | exact ltNl (by with_reducible assumption) (by rfl) | exact ltNl (And.left (by with_reducible assumption)) (by rfl) | exact ltNl (And.right (by with_reducible assumption)) (by rfl) | k_extra "lt") | ((with_reducible show (_ : Nat) ≤ _); first | exact Nat.le_refl _ | decide | exact leNl (by with_reducible assumption) (by rfl) | exact leNl (And.left (by with_reducible assumption)) (by rfl) | exact leNl (And.right (by with_reducible assumption)) (by rfl) | exact leNl2 (by with_reducible assumption) (by rfl) | exact leNl2 (And.left (by with_reducible assumption)) (by rfl) | exact leNl2 (And.right (by with_reducible assumption)) (by rfl) | (refine Nat.le_of_lt ?_; k_extra "lt")) | ((with_reducible show (_ : Int) < _); first | decide | k_extra "andf" | exact ltIl (by with_reducible assumption) (by rfl) | exact ltIl (And.left (by with_reducible assumption)) (by rfl) | exact ltIl (And.right (by with_reducible assumption)) (by rfl) | exact loIt (by with_reducible assumption) (by rfl) | exact loIt (And.left (by with_reducible assumption)) (by rfl) | exact loIt (And.right (by with_reducible assumption)) (by rfl) | exact loP (by with_reducible assumption) | exact loP (And.left (by with_reducible assumption)) | exact loP (And.right (by with_reducible assumption)) | exact hiP (by with_reducible assumption) (by rfl) | exact hiP (And.left (by with_reducible assumption)) (by rfl) | exact hiP (And.right (by with_reducible assumption)) (by rfl)) | ((with_reducible show (_ : Int) ≤ _); first | decide | k_extra "andf" | exact leIl (by with_reducible assumption) (by rfl) | exact leIl (And.left (by with_reducible assumption)) (by rfl) | exact leIl (And.right (by with_reducible assumption)) (by rfl) | exact leIl2 (by with_reducible assumption) (by rfl) | exact leIl2 (And.left (by with_reducible assumption)) (by rfl) | exact leIl2 (And.right (by with_reducible assumption)) (by rfl) | exact loI (by with_reducible assumption) (by rfl) | exact loI (And.left (by with_reducible assumption)) (by rfl) | exact loI (And.right (by with_reducible assumption)) (by rfl) | exact Int.le_of_lt (by with_reducible assumption)) | ((with_reducible show (_ : Nat) ≠ _); k_extra "ne")
  k_with "kasWp" => (k_dflt (refine' hold_of2 ?_))
  intro hB X' T' aB aW aN aG aP aH o4 nN nG nP nH x0 x1 x2 x3 w0 w1 w2 w3 b0 b1 b2 b3 n0 n1 n2 n3 h0 h1 h2 h3 p0 p1 p2 p3 g0 g1 g2 g3 y0 y1 y2 y3 z0 z1 z2 z3 tH vI vS u h d4 a1 a2 a3 a4 a5 a6 a7 hCH hw6 hb6 F N
  have a8 := prep2 a1 a2
  obtain ⟨oB, eB⟩ : ∃ x : Obj, LCg.lst [.int b0 y0, .int b1 y1, .int b2 y2, .int b3 y3] = x := ⟨_, rfl⟩
  obtain ⟨oW, eW⟩ : ∃ x : Obj, LCg.lst [.int w0 z0, .int w1 z1, .int w2 z2, .int w3 z3] = x := ⟨_, rfl⟩
  obtain ⟨oG, eG⟩ : ∃ x : Obj, listOf #[.str (blanks b0) g0, .str (blanks b1) g1, .str (blanks b2) g2, .str (blanks b3) g3] nG = x := ⟨_, rfl⟩
  obtain ⟨oP, eP⟩ : ∃ x : Obj, listOf #[.int w0 p0, .int w1 p1, .int w2 p2, .int w3 p3] nP = x := ⟨_, rfl⟩
  rw [eB, eW, eG, eP] at N ⊢
  clear eB eW eG eP
  refine Box.mk ?_
  dsimp only [lawPart, lawFor, forPart, lawEnv, lawA, lawFn, scopeOf, PySem.Challenge.pw_yh0007_01, lastOf, bodyOf, List.drop, List.take]
  k_fold
  dsimp only [frm] at F
  k_steps
  unfold Hold
  refine kas_run4 hw6 hb6 fun p a b c d e o => ?_
  obtain ⟨e0, q0⟩ := pick_int (h0 := h0) (h1 := h1) (h2 := h2) (h3 := h3) o.a4
  obtain ⟨e1, q1⟩ := pick_int (h0 := h0) (h1 := h1) (h2 := h2) (h3 := h3) o.b4
  obtain ⟨e2, q2⟩ := pick_int (h0 := h0) (h1 := h1) (h2 := h2) (h3 := h3) o.c4
  obtain ⟨e3, q3⟩ := pick_int (h0 := h0) (h1 := h1) (h2 := h2) (h3 := h3) o.d4
  have eL : katRev false (List.map (fun i => (katRev false [Value.int 0 h0, Value.int 1 h1, Value.int 2 h2, Value.int 3 h3]).getD i Value.none) p.toList) = [.int (a : Int) e0, .int (b : Int) e1, .int (c : Int) e2, .int (d : Int) e3] := by
    rw [e]
    show [_, _, _, _] = _
    show [[Value.int 0 h0, Value.int 1 h1, Value.int 2 h2, Value.int 3 h3].getD a .none, [Value.int 0 h0, Value.int 1 h1, Value.int 2 h2, Value.int 3 h3].getD b .none, [Value.int 0 h0, Value.int 1 h1, Value.int 2 h2, Value.int 3 h3].getD c .none, [Value.int 0 h0, Value.int 1 h1, Value.int 2 h2, Value.int 3 h3].getD d .none] = _
    rw [q0, q1, q2, q3]
  rw [eL]
  k_steps
  show _ ∧ _
  rename News h₀ L _ _ => NX
  refine' ⟨rfl, exI8 (a5 := a) (a6 := b) (a7 := c) (exI6 (a0 := d) (a1 := e0) (a2 := e1) (a3 := e2) (a4 := e3) ⟨rfl, o, fr_frm (by assumption) _ ⟨rfl, rfl, rfl, rfl, rfl, rfl, rfl, rfl, trivial⟩, news_sub NX ⟨List.Mem.tail _ (List.Mem.head _), ?m2, ?m3, ?m4, ?m5, by k_mem, trivial⟩⟩)⟩
  all_goals k_mem
end Mine
end
section -- PureO
namespace Mine
open PySem PySem.W PySem.Calls PyProof.Rows PySem.Spec PyProof
noncomputable def ItemIs (its : Array Value) (k : Int) (v : Value) : Prop := its[k.toNat]? = some v
section
variable {prog : Program} {w : World} {A : Around} {E : Value → Shared → Prop} {s : Shared}
theorem item_at {value slice : PySem.Expr} {l : Addr} {its : Array Value} {v : Value} {k : Int} {tk : Tok} {Q : Value → Shared → Prop} (hl : s.heap.IsList l its) (h0 : 0 ≤ k) (hfit : k < 2 ^ 63) (hi : ItemIs its k v) (h : Q v s)
    (hs : subscripted slice false (.ref l) (.int k tk) = operate [.ref l, .int k tk] (getItem (.ref l) (.int k tk)) := by with_unfolding_all rfl) :
    wpAny (model prog w) A (subscriptTail value slice (.ref l) (.int k tk)) Q E s := by
  obtain ⟨n, rfl⟩ := Int.eq_ofNat_of_zero_le h0
  exact tail_any hl.typeIs slot_list_getitem.lookup (wpAny_getItem_list hl (by omega) hfit (x := v) (by simpa [ItemIs] using hi) h) hs
end
section
variable {prog : Program} {w : World} {A : Around} {E : Value → Shared → Prop} {s : Shared} {env : Env} {h₀ : Heap} {x : Str} {body : List Stmt} {Q : Flow → Shared → Prop}
theorem list_ind {I : Addr} {lp : Addr × Obj} {m₀ : Str → Option Value} {news₀ : List (Addr × Obj)} (vs : List Value) (J : Nat → (Str → Option Value) → List (Addr × Obj) → Prop)
    (turn : ∀ (i : Nat) (v : Value) (m : Str → Option Value) (news : List (Addr × Obj)), vs[i]? = some v → J i m news → lp ∈ news → ∀ (R : (Str → Option Value) → List (Addr × Obj) → Prop), (∀ m' n', J (i + 1) m' n' → lp ∈ n' → R m' n') → ∀ (it : Obj) h tk, Fr h₀ env.locals h (fun y => if y = x then some v else m y) →
      News h₀ env.locals h ((I, it) :: news) →
      wpAny (model prog w) A (execs body env) (UnrPost h₀ env.locals { s with heap := h, toks := tk } I it (fun m' n' => lp ∈ n' ∧ R m' n') Q) E { s with heap := h, toks := tk })
    (done : ∀ m news h tk, J vs.length m news → Fr h₀ env.locals h m → News h₀ env.locals h news → Q .next { s with heap := h, toks := tk }) (h0 : J 0 m₀ news₀) (hl : lp ∈ news₀) :
    ListRest prog w A E h₀ env x body Q s I lp vs m₀ news₀ := by
  have key : ∀ (k i : Nat) (m : Str → Option Value) (news : List (Addr × Obj)), k + i = vs.length → J i m news → lp ∈ news → ListRest prog w A E h₀ env x body Q s I lp (vs.drop i) m news := by
    intro k
    induction k with
    | zero =>
      intro i m news hk hJ hlp
      have : i = vs.length := by omega
      subst this
      rw [List.drop_length]
      exact ListRest.zero fun h tk F N => done m news h tk hJ F N
    | succ k ih =>
      intro i m news hk hJ hlp
      have hlt : i < vs.length := by omega
      rw [List.drop_eq_getElem_cons hlt]
      exact ListRest.succ fun it h tk _ F N => turn i vs[i] m news (List.getElem?_eq_getElem hlt) hJ hlp _ (fun m' n' h' hl' => ih (i + 1) m' n' (by omega) h' hl') it h tk F N
  have := key vs.length 0 m₀ news₀ (by omega) h0 hl
  rwa [List.drop_zero] at this
end
theorem blanks_line (n : Int) (a : Nat) (M : List Nat) (b : Nat) : blanks n ++ lineS a M b = lineS (n.toNat + a) M b := by
  show Str.mk (_ ++ _) = Str.mk _
  congr 1
  apply Array.toList_inj.mp
  simp only [blanks, lineS, Array.toList_append, List.toList_toArray, ← List.append_assoc, List.replicate_append_replicate]
theorem mul_blank {n : Int} (h : 0 ≤ n ∧ n < 6) : Txt.mul (Str.ofString " ") n = blanks n := by
  have e := i6 h.1 h.2
  rcases e with rfl | rfl | rfl | rfl | rfl | rfl <;> decide +kernel
theorem at4_in6 {a b c d : Int} (h : In6 a ∧ In6 b ∧ In6 c ∧ In6 d) (q : Nat) : In6 (at4 a b c d q) := by
  obtain ⟨h0, h1, h2, h3⟩ := h
  unfold at4; split <;> assumption
theorem item_int {a b c d : Int} {t0 t1 t2 t3 : Tok} {q : Nat} (hq : q < 4) : ∃ t, ItemIs #[.int a t0, .int b t1, .int c t2, .int d t3] (q : Int) (.int (at4 a b c d q) t) := by
  have e1 := n4 hq
  rcases e1 with rfl | rfl | rfl | rfl <;> exact ⟨_, rfl⟩
theorem item_txt {a b c d : Int} {t0 t1 t2 t3 : Tok} {q : Nat} (hq : q < 4) : ∃ t, ItemIs #[.str (blanks a) t0, .str (blanks b) t1, .str (blanks c) t2, .str (blanks d) t3] (q : Int) (.str (blanks (at4 a b c d q)) t) := by
  have e1 := n4 hq
  rcases e1 with rfl | rfl | rfl | rfl <;> exact ⟨_, rfl⟩
/-- One guest at the line: blanks ahead and behind. -/
noncomputable def stepT (w b : Nat → Int) (st : Nat × Nat) (q : Nat) : Nat × Nat := ((b q).toNat + (st.1 - (w q).toNat), st.2 - ((w q).toNat - st.1))
noncomputable def runT (w b : Nat → Int) (l : List Nat) : Nat × Nat := l.foldl (stepT w b) (0, 21)
theorem runT_snoc (w b : Nat → Int) (l : List Nat) (q : Nat) : runT w b (l ++ [q]) = stepT w b (runT w b l) q := by
  unfold runT; rw [List.foldl_append]; rfl
theorem stepT_le {w b : Nat → Int} {st : Nat × Nat} {q n : Nat} (hb : In6 (b q)) (h1 : st.1 ≤ 5 * n) (h2 : st.2 ≤ 21) : (stepT w b st q).1 ≤ 5 * (n + 1) ∧ (stepT w b st q).2 ≤ 21 := by
  have h5 : (b q).toNat ≤ 5 := Int.toNat_le.mpr (Int.le_of_lt_add_one hb.2)
  refine ⟨Nat.le_trans (Nat.add_le_add h5 (Nat.le_trans (Nat.sub_le _ _) h1)) (Nat.le_of_eq ?_), Nat.le_trans (Nat.sub_le _ _) h2⟩
  rw [Nat.mul_succ, Nat.add_comm]
theorem runT_le {w b : Nat → Int} (hb : ∀ q, In6 (b q)) : ∀ (l : List Nat) (st : Nat × Nat) (n : Nat), st.1 ≤ 5 * n → st.2 ≤ 21 → (l.foldl (stepT w b) st).1 ≤ 5 * (n + l.length) ∧ (l.foldl (stepT w b) st).2 ≤ 21
  | [], st, n, h1, h2 => ⟨h1, h2⟩
  | q :: l, st, n, h1, h2 => by
    have h := stepT_le (w := w) (hb q) h1 h2
    have := runT_le (w := w) hb l _ (n + 1) h.1 h.2
    rw [List.foldl_cons, List.length_cons]
    have e : n + (l.length + 1) = n + 1 + l.length := by omega
    rw [e]; exact this
theorem runT_bnd {w b : Nat → Int} (hb : ∀ q, In6 (b q)) (l : List Nat) (h : l.length ≤ 4) : (runT w b l).1 ≤ 20 ∧ (runT w b l).2 ≤ 21 := by
  have := runT_le (w := w) hb l (0, 21) 0 (Nat.zero_le _) (Nat.le_refl _)
  unfold runT
  omega
theorem sub_turn {h₀ h : Heap} {L : Addr} {i g p : Addr × Obj} {r N0 : List (Addr × Obj)} (N : News h₀ L h (i :: (r ++ N0))) (hG : g ∈ N0) (hP : p ∈ N0) : News h₀ L h (i :: g :: p :: (r ++ N0)) := fun y hy => by
  rcases List.mem_cons.mp hy with rfl | hy
  · exact N _ (.head _)
  rcases List.mem_cons.mp hy with rfl | hy
  · exact N _ (.tail _ (List.mem_append_right _ hG))
  rcases List.mem_cons.mp hy with rfl | hy
  · exact N _ (.tail _ (List.mem_append_right _ hP))
  · exact N _ (.tail _ hy)
theorem mem_turn {i g p y : Addr × Obj} {r N0 : List (Addr × Obj)} (h : y ∈ i :: (r ++ N0)) : y ∈ i :: g :: p :: (r ++ N0) := by
  rcases List.mem_cons.mp h with rfl | h
  · exact .head _
  · exact .tail _ (.tail _ (.tail _ h))
theorem take4 {a b c d : Nat} {i : Nat} {q : Nat} (h : [a, b, c, d][i]? = some q) : [a, b, c, d].take (i + 1) = [a, b, c, d].take i ++ [q] := by
  rw [List.take_add_one, h]; rfl
theorem ints_at4 {a b c d : Nat} {e0 e1 e2 e3 : Tok} {i : Nat} {v : Value} (h : [Value.int (a : Int) e0, .int (b : Int) e1, .int (c : Int) e2, .int (d : Int) e3][i]? = some v) : ∃ (q : Nat) (t : Tok), v = .int (q : Int) t ∧ [a, b, c, d][i]? = some q := by
  match i, h with
  | 0, h => cases h; exact ⟨_, _, rfl, rfl⟩
  | 1, h => cases h; exact ⟨_, _, rfl, rfl⟩
  | 2, h => cases h; exact ⟨_, _, rfl, rfl⟩
  | 3, h => cases h; exact ⟨_, _, rfl, rfl⟩
end Mine
end
section -- PureP
namespace Mine
open PySem PySem.W PySem.Calls PyProof.Rows PySem.Spec PyProof
theorem mulB_all : ∀ n ∈ List.range 42, Txt.mul (Str.ofString " ") (n : Int) = blanks (n : Int) := by decide +kernel
theorem mulB {n : Int} (h0 : 0 ≤ n) (h1 : n ≤ 41) : Txt.mul (Str.ofString " ") n = blanks n := by
  obtain ⟨m, rfl⟩ := Int.eq_ofNat_of_zero_le h0
  exact mulB_all m (List.mem_range.mpr (by omega))
theorem blanks_lt {n : Int} (h : n < 1000) : (blanks n).length < 1000 := by
  have e : (blanks n).length = n.toNat := by simp [blanks, Str.length]
  rw [e]; omega
theorem app_lt {a b : Str} (h : a.length < 1000) (h2 : b.length ≤ 100) : (a ++ b).length < 2000 := by
  have e : (a ++ b).length = a.length + b.length := by
    show (_ ++ _ : Array _).size = _
    rw [Array.size_append]; rfl
  rw [e]; omega
theorem blank_both (n m : Int) (M : List Nat) : blanks n ++ ⟨M.toArray⟩ ++ blanks m = lineS n.toNat M m.toNat := by
  show Str.mk (_ ++ _ ++ _) = Str.mk _
  congr 1
  apply Array.toList_inj.mp
  simp only [blanks, Array.toList_append, List.toList_toArray]
theorem line_same (n m : Int) (M : List Nat) (T : Str) (X Y : Nat) (eT : T = ⟨M.toArray⟩) (h0 : 0 ≤ n) (h1 : n ≤ 41) (k0 : 0 ≤ m) (k1 : m ≤ 41) (e1 : X = n.toNat) (e2 : Y = m.toNat) : (lineS X M Y == Txt.mul (Str.ofString " ") n ++ T ++ Txt.mul (Str.ofString " ") m) = true := by
  rw [mulB h0 h1, mulB k0 k1, eT, blank_both, e1, e2]; exact beq_self_eq_true _
theorem mul_lt {n : Int} (h0 : 0 ≤ n) (h1 : n ≤ 41) : (Txt.mul (Str.ofString " ") n).length < 1000 := by rw [mulB h0 h1]; exact blanks_lt (by omega)
end Mine
end
section -- PureQ
namespace Mine
open PySem PySem.W PySem.Calls PyProof.Rows PySem.Spec PyProof
noncomputable def stepM (w b : Nat → Int) (st : Int × Int) (q : Nat) : Int × Int := (st.1 + (b q - w q), pymax st.2 (w q - st.1))
noncomputable def moL (w b : Nat → Int) (l : List Nat) : Int × Int := l.foldl (stepM w b) (0, 0)
noncomputable def waysL : List (List Nat) := [[0, 1, 2, 3], [1, 0, 2, 3], [2, 0, 1, 3], [3, 0, 1, 2], [0, 2, 1, 3], [1, 2, 0, 3], [2, 1, 0, 3], [3, 1, 0, 2], [0, 3, 1, 2], [1, 3, 0, 2], [2, 3, 0, 1], [3, 2, 0, 1], [0, 1, 3, 2], [1, 0, 3, 2], [2, 0, 3, 1], [3, 0, 2, 1], [0, 2, 3, 1], [1, 2, 3, 0], [2, 1, 3, 0], [3, 1, 2, 0], [0, 3, 2, 1], [1, 3, 2, 0], [2, 3, 1, 0], [3, 2, 1, 0]]
theorem ways_all' : ([0, 1, 2, 3].all fun a => [0, 1, 2, 3].all fun b => [0, 1, 2, 3].all fun c => [0, 1, 2, 3].all fun d => (a == b || a == c || a == d || b == c || b == d || c == d) || waysL.contains [a, b, c, d]) = true := by decide +kernel
theorem m4 {a : Nat} (h : a < 4) : a ∈ [0, 1, 2, 3] := by rcases n4 h with rfl | rfl | rfl | rfl <;> decide
theorem ways_all {a b c d : Nat} (qa : a < 4) (qb : b < 4) (qc : c < 4) (qd : d < 4) (ab : a ≠ b) (ac : a ≠ c) (ad : a ≠ d) (bc : b ≠ c) (bd : b ≠ d) (cd : c ≠ d) : [a, b, c, d] ∈ waysL := by
  have h := ways_all'
  simp only [List.all_eq_true] at h
  have h1 := h a (m4 qa) b (m4 qb) c (m4 qc) d (m4 qd)
  simp only [Bool.or_eq_true, beq_iff_eq, List.contains_iff_mem] at h1
  rcases h1 with (((((h | h) | h) | h) | h) | h) | h
  all_goals first | exact h | exact absurd h (by assumption)
theorem ways_perm : ∀ l ∈ waysL, l.Perm [0, 1, 2, 3] := by decide +kernel
theorem pymax_le {a b c : Int} (h1 : a ≤ c) (h2 : b ≤ c) : pymax a b ≤ c := by unfold pymax; split <;> omega
theorem le_pymaxL (a b : Int) : a ≤ pymax a b := by unfold pymax; split <;> omega
theorem le_pymaxR (a b : Int) : b ≤ pymax a b := by unfold pymax; split <;> omega
theorem pymax_spec (a b : Int) : (pymax a b = a ∧ b ≤ a) ∨ (pymax a b = b ∧ a ≤ b) := by unfold pymax; split <;> omega
section
variable {w b : Nat → Int}
noncomputable def RJ (w b : Nat → Int) (x y : Nat) : Prop := (w x ≤ w y ∨ b y ≤ w y) ∧ (w x ≤ b x ∨ b y ≤ b x)
theorem fold_mono : ∀ (l : List Nat) (m k k' : Int), k ≤ k' → (l.foldl (stepM w b) (m, k)).2 ≤ (l.foldl (stepM w b) (m, k')).2
  | [], _, _, _, h => h
  | q :: l, m, k, k', h => by
    show (l.foldl (stepM w b) (_, _)).2 ≤ (l.foldl (stepM w b) (_, _)).2
    exact fold_mono l _ _ _ (pymax_le (Int.le_trans h (le_pymaxL _ _)) (le_pymaxR _ _))
theorem swp1 {p q r m : Int} (h : p ≤ q) : r - m ≤ r - (m + (p - q)) := by omega
theorem swp2 {p q r m : Int} (h : q ≤ p) : r - (m + (p - q)) ≤ r - m := by omega
theorem swp3 {p q r u m : Int} (h : p ≤ q) : r - (m + (q - u)) ≤ u - (m + (p - r)) := by omega
theorem swap_le {x y : Nat} (h : RJ w b x y) (l : List Nat) (m k : Int) : ((x :: y :: l).foldl (stepM w b) (m, k)).2 ≤ ((y :: x :: l).foldl (stepM w b) (m, k)).2 := by
  have e : m + (b x - w x) + (b y - w y) = m + (b y - w y) + (b x - w x) := by omega
  show (l.foldl (stepM w b) (m + (b x - w x) + (b y - w y), pymax (pymax k (w x - m)) (w y - (m + (b x - w x))))).2 ≤ (l.foldl (stepM w b) (m + (b y - w y) + (b x - w x), pymax (pymax k (w y - m)) (w x - (m + (b y - w y))))).2
  rw [e]
  refine fold_mono l _ _ _ ?_
  have k1 := Int.le_trans (le_pymaxL k (w y - m)) (le_pymaxL (pymax k (w y - m)) (w x - (m + (b y - w y))))
  have k2 := Int.le_trans (le_pymaxR k (w y - m)) (le_pymaxL (pymax k (w y - m)) (w x - (m + (b y - w y))))
  have k3 := le_pymaxR (pymax k (w y - m)) (w x - (m + (b y - w y)))
  refine pymax_le (pymax_le k1 ?_) ?_
  · rcases h.1 with h | h
    · exact Int.le_trans (Int.sub_le_sub_right h m) k2
    · exact Int.le_trans (swp1 h) k3
  · rcases h.2 with h | h
    · exact Int.le_trans (swp2 h) k2
    · exact Int.le_trans (swp3 h) k3
theorem front_le {x : Nat} : ∀ (u v : List Nat) (m k : Int), (∀ y ∈ u, RJ w b x y) → ((x :: (u ++ v)).foldl (stepM w b) (m, k)).2 ≤ ((u ++ x :: v).foldl (stepM w b) (m, k)).2
  | [], _, _, _, _ => Int.le_refl _
  | y :: u, v, m, k, h => by
    refine Int.le_trans (swap_le (h y (.head _)) (u ++ v) m k) ?_
    show ((x :: (u ++ v)).foldl (stepM w b) (stepM w b (m, k) y)).2 ≤ ((u ++ x :: v).foldl (stepM w b) (stepM w b (m, k) y)).2
    exact front_le u v _ _ fun z hz => h z (.tail _ hz)
theorem sorted_le : ∀ (l l' : List Nat) (m k : Int), l.Pairwise (RJ w b) → l'.Perm l → (l.foldl (stepM w b) (m, k)).2 ≤ (l'.foldl (stepM w b) (m, k)).2
  | [], l', m, k, _, hp => by rw [hp.eq_nil]; exact Int.le_refl _
  | x :: t, l', m, k, hs, hp => by
    have hm : x ∈ l' := hp.symm.subset (.head _)
    obtain ⟨u, v, rfl⟩ := List.append_of_mem hm
    have hp2 : (u ++ v).Perm t := (List.perm_middle.symm.trans hp).cons_inv
    rw [List.pairwise_cons] at hs
    refine Int.le_trans ?_ (front_le u v m k fun y hy => hs.1 y (hp2.subset (List.mem_append_left _ hy)))
    show (t.foldl (stepM w b) (stepM w b (m, k) x)).2 ≤ ((u ++ v).foldl (stepM w b) (stepM w b (m, k) x)).2
    exact sorted_le t (u ++ v) _ _ hs.2 hp2
theorem more_perm : ∀ {l l' : List Nat}, l.Perm l' → ∀ m k k', (l.foldl (stepM w b) (m, k)).1 = (l'.foldl (stepM w b) (m, k')).1 := by
  intro l l' h
  induction h with
  | nil => intro m k k'; rfl
  | cons x _ ih => intro m k k'; exact ih _ _ _
  | swap x y l =>
    intro m k k'
    have key : ∀ (l : List Nat) (m m' k k' : Int), m = m' → (l.foldl (stepM w b) (m, k)).1 = (l.foldl (stepM w b) (m', k')).1 := by
      intro l
      induction l with
      | nil => intro m m' k k' e; exact e
      | cons q l ih => intro m m' k k' e; exact ih _ _ _ _ (by show m + _ = m' + _; rw [e])
    exact key l _ _ _ _ (by show m + (b y - w y) + (b x - w x) = m + (b x - w x) + (b y - w y); omega)
  | trans _ _ ih1 ih2 => intro m k k'; exact (ih1 m k k).trans (ih2 m k k')
end
theorem rk_j : ∀ n ∈ [(0:Int), 1, 2, 3, 4, 5], ∀ b ∈ [(0:Int), 1, 2, 3, 4, 5], ∀ n' ∈ [(0:Int), 1, 2, 3, 4, 5], ∀ b' ∈ [(0:Int), 1, 2, 3, 4, 5], (!decide (rk n b ≤ rk n' b') || ((decide (n ≤ n') || decide (b' ≤ n')) && (decide (n ≤ b) || decide (b' ≤ b)))) = true := by decide +kernel
theorem rk_johnson {n b n' b' : Int} (h1 : In6 n) (h2 : In6 b) (h3 : In6 n') (h4 : In6 b') (h : rk n b ≤ rk n' b') : (n ≤ n' ∨ b' ≤ n') ∧ (n ≤ b ∨ b' ≤ b) := by
  have k := rk_j n (mem6x h1) b (mem6x h2) n' (mem6x h3) b' (mem6x h4)
  rw [decide_eq_true h] at k
  simpa only [Bool.not_true, Bool.false_or, Bool.and_eq_true, Bool.or_eq_true, decide_eq_true_eq] using k
end Mine
end
section -- PureR
namespace Mine
open PySem PySem.W PySem.Calls PyProof.Rows PySem.Spec PyProof
section
variable {w0 w1 w2 w3 b0 b1 b2 b3 : Int}
theorem wayq0 : mostP [w0, w1, w2, w3] [b0, b1, b2, b3] (0 + ((0 : Nat) : Int)) = (moL (at4 w0 w1 w2 w3) (at4 b0 b1 b2 b3) [0, 1, 2, 3]).2 := by with_unfolding_all rfl
theorem wayq1 : mostP [w0, w1, w2, w3] [b0, b1, b2, b3] (0 + ((1 : Nat) : Int)) = (moL (at4 w0 w1 w2 w3) (at4 b0 b1 b2 b3) [1, 0, 2, 3]).2 := by with_unfolding_all rfl
theorem wayq2 : mostP [w0, w1, w2, w3] [b0, b1, b2, b3] (0 + ((2 : Nat) : Int)) = (moL (at4 w0 w1 w2 w3) (at4 b0 b1 b2 b3) [2, 0, 1, 3]).2 := by with_unfolding_all rfl
theorem wayq3 : mostP [w0, w1, w2, w3] [b0, b1, b2, b3] (0 + ((3 : Nat) : Int)) = (moL (at4 w0 w1 w2 w3) (at4 b0 b1 b2 b3) [3, 0, 1, 2]).2 := by with_unfolding_all rfl
theorem wayq4 : mostP [w0, w1, w2, w3] [b0, b1, b2, b3] (0 + ((4 : Nat) : Int)) = (moL (at4 w0 w1 w2 w3) (at4 b0 b1 b2 b3) [0, 2, 1, 3]).2 := by with_unfolding_all rfl
theorem wayq5 : mostP [w0, w1, w2, w3] [b0, b1, b2, b3] (0 + ((5 : Nat) : Int)) = (moL (at4 w0 w1 w2 w3) (at4 b0 b1 b2 b3) [1, 2, 0, 3]).2 := by with_unfolding_all rfl
theorem wayq6 : mostP [w0, w1, w2, w3] [b0, b1, b2, b3] (0 + ((6 : Nat) : Int)) = (moL (at4 w0 w1 w2 w3) (at4 b0 b1 b2 b3) [2, 1, 0, 3]).2 := by with_unfolding_all rfl
theorem wayq7 : mostP [w0, w1, w2, w3] [b0, b1, b2, b3] (0 + ((7 : Nat) : Int)) = (moL (at4 w0 w1 w2 w3) (at4 b0 b1 b2 b3) [3, 1, 0, 2]).2 := by with_unfolding_all rfl
theorem wayq8 : mostP [w0, w1, w2, w3] [b0, b1, b2, b3] (0 + ((8 : Nat) : Int)) = (moL (at4 w0 w1 w2 w3) (at4 b0 b1 b2 b3) [0, 3, 1, 2]).2 := by with_unfolding_all rfl
theorem wayq9 : mostP [w0, w1, w2, w3] [b0, b1, b2, b3] (0 + ((9 : Nat) : Int)) = (moL (at4 w0 w1 w2 w3) (at4 b0 b1 b2 b3) [1, 3, 0, 2]).2 := by with_unfolding_all rfl
theorem wayq10 : mostP [w0, w1, w2, w3] [b0, b1, b2, b3] (0 + ((10 : Nat) : Int)) = (moL (at4 w0 w1 w2 w3) (at4 b0 b1 b2 b3) [2, 3, 0, 1]).2 := by with_unfolding_all rfl
theorem wayq11 : mostP [w0, w1, w2, w3] [b0, b1, b2, b3] (0 + ((11 : Nat) : Int)) = (moL (at4 w0 w1 w2 w3) (at4 b0 b1 b2 b3) [3, 2, 0, 1]).2 := by with_unfolding_all rfl
theorem wayq12 : mostP [w0, w1, w2, w3] [b0, b1, b2, b3] (0 + ((12 : Nat) : Int)) = (moL (at4 w0 w1 w2 w3) (at4 b0 b1 b2 b3) [0, 1, 3, 2]).2 := by with_unfolding_all rfl
theorem wayq13 : mostP [w0, w1, w2, w3] [b0, b1, b2, b3] (0 + ((13 : Nat) : Int)) = (moL (at4 w0 w1 w2 w3) (at4 b0 b1 b2 b3) [1, 0, 3, 2]).2 := by with_unfolding_all rfl
theorem wayq14 : mostP [w0, w1, w2, w3] [b0, b1, b2, b3] (0 + ((14 : Nat) : Int)) = (moL (at4 w0 w1 w2 w3) (at4 b0 b1 b2 b3) [2, 0, 3, 1]).2 := by with_unfolding_all rfl
theorem wayq15 : mostP [w0, w1, w2, w3] [b0, b1, b2, b3] (0 + ((15 : Nat) : Int)) = (moL (at4 w0 w1 w2 w3) (at4 b0 b1 b2 b3) [3, 0, 2, 1]).2 := by with_unfolding_all rfl
theorem wayq16 : mostP [w0, w1, w2, w3] [b0, b1, b2, b3] (0 + ((16 : Nat) : Int)) = (moL (at4 w0 w1 w2 w3) (at4 b0 b1 b2 b3) [0, 2, 3, 1]).2 := by with_unfolding_all rfl
theorem wayq17 : mostP [w0, w1, w2, w3] [b0, b1, b2, b3] (0 + ((17 : Nat) : Int)) = (moL (at4 w0 w1 w2 w3) (at4 b0 b1 b2 b3) [1, 2, 3, 0]).2 := by with_unfolding_all rfl
theorem wayq18 : mostP [w0, w1, w2, w3] [b0, b1, b2, b3] (0 + ((18 : Nat) : Int)) = (moL (at4 w0 w1 w2 w3) (at4 b0 b1 b2 b3) [2, 1, 3, 0]).2 := by with_unfolding_all rfl
theorem wayq19 : mostP [w0, w1, w2, w3] [b0, b1, b2, b3] (0 + ((19 : Nat) : Int)) = (moL (at4 w0 w1 w2 w3) (at4 b0 b1 b2 b3) [3, 1, 2, 0]).2 := by with_unfolding_all rfl
theorem wayq20 : mostP [w0, w1, w2, w3] [b0, b1, b2, b3] (0 + ((20 : Nat) : Int)) = (moL (at4 w0 w1 w2 w3) (at4 b0 b1 b2 b3) [0, 3, 2, 1]).2 := by with_unfolding_all rfl
theorem wayq21 : mostP [w0, w1, w2, w3] [b0, b1, b2, b3] (0 + ((21 : Nat) : Int)) = (moL (at4 w0 w1 w2 w3) (at4 b0 b1 b2 b3) [1, 3, 2, 0]).2 := by with_unfolding_all rfl
theorem wayq22 : mostP [w0, w1, w2, w3] [b0, b1, b2, b3] (0 + ((22 : Nat) : Int)) = (moL (at4 w0 w1 w2 w3) (at4 b0 b1 b2 b3) [2, 3, 1, 0]).2 := by with_unfolding_all rfl
theorem wayq23 : mostP [w0, w1, w2, w3] [b0, b1, b2, b3] (0 + ((23 : Nat) : Int)) = (moL (at4 w0 w1 w2 w3) (at4 b0 b1 b2 b3) [3, 2, 1, 0]).2 := by with_unfolding_all rfl
theorem fall_c {α : Type} {p : α → Prop} {a : α} {l : List α} (h : p a) (t : ∀ x ∈ l, p x) : ∀ x ∈ a :: l, p x := List.forall_mem_cons.mpr ⟨h, t⟩
theorem way_mem : ∀ l ∈ waysL, ∃ i, i < 24 ∧ mostP [w0, w1, w2, w3] [b0, b1, b2, b3] (0 + ((i : Nat) : Int)) = (moL (at4 w0 w1 w2 w3) (at4 b0 b1 b2 b3) l).2 := by
  unfold waysL
  exact fall_c ⟨0, by decide, wayq0⟩ (fall_c ⟨1, by decide, wayq1⟩ (fall_c ⟨2, by decide, wayq2⟩ (fall_c ⟨3, by decide, wayq3⟩ (fall_c ⟨4, by decide, wayq4⟩ (fall_c ⟨5, by decide, wayq5⟩ (fall_c ⟨6, by decide, wayq6⟩ (fall_c ⟨7, by decide, wayq7⟩ (fall_c ⟨8, by decide, wayq8⟩ (fall_c ⟨9, by decide, wayq9⟩ (fall_c ⟨10, by decide, wayq10⟩ (fall_c ⟨11, by decide, wayq11⟩ (fall_c ⟨12, by decide, wayq12⟩ (fall_c ⟨13, by decide, wayq13⟩ (fall_c ⟨14, by decide, wayq14⟩ (fall_c ⟨15, by decide, wayq15⟩ (fall_c ⟨16, by decide, wayq16⟩ (fall_c ⟨17, by decide, wayq17⟩ (fall_c ⟨18, by decide, wayq18⟩ (fall_c ⟨19, by decide, wayq19⟩ (fall_c ⟨20, by decide, wayq20⟩ (fall_c ⟨21, by decide, wayq21⟩ (fall_c ⟨22, by decide, wayq22⟩ (fall_c ⟨23, by decide, wayq23⟩ (List.forall_mem_nil _))))))))))))))))))))))))
theorem way_of : ∀ i : Nat, i < 24 → ∃ l ∈ waysL, mostP [w0, w1, w2, w3] [b0, b1, b2, b3] (0 + ((i : Nat) : Int)) = (moL (at4 w0 w1 w2 w3) (at4 b0 b1 b2 b3) l).2
  | 0, _ => ⟨[0, 1, 2, 3], by decide, wayq0⟩
  | 1, _ => ⟨[1, 0, 2, 3], by decide, wayq1⟩
  | 2, _ => ⟨[2, 0, 1, 3], by decide, wayq2⟩
  | 3, _ => ⟨[3, 0, 1, 2], by decide, wayq3⟩
  | 4, _ => ⟨[0, 2, 1, 3], by decide, wayq4⟩
  | 5, _ => ⟨[1, 2, 0, 3], by decide, wayq5⟩
  | 6, _ => ⟨[2, 1, 0, 3], by decide, wayq6⟩
  | 7, _ => ⟨[3, 1, 0, 2], by decide, wayq7⟩
  | 8, _ => ⟨[0, 3, 1, 2], by decide, wayq8⟩
  | 9, _ => ⟨[1, 3, 0, 2], by decide, wayq9⟩
  | 10, _ => ⟨[2, 3, 0, 1], by decide, wayq10⟩
  | 11, _ => ⟨[3, 2, 0, 1], by decide, wayq11⟩
  | 12, _ => ⟨[0, 1, 3, 2], by decide, wayq12⟩
  | 13, _ => ⟨[1, 0, 3, 2], by decide, wayq13⟩
  | 14, _ => ⟨[2, 0, 3, 1], by decide, wayq14⟩
  | 15, _ => ⟨[3, 0, 2, 1], by decide, wayq15⟩
  | 16, _ => ⟨[0, 2, 3, 1], by decide, wayq16⟩
  | 17, _ => ⟨[1, 2, 3, 0], by decide, wayq17⟩
  | 18, _ => ⟨[2, 1, 3, 0], by decide, wayq18⟩
  | 19, _ => ⟨[3, 1, 2, 0], by decide, wayq19⟩
  | 20, _ => ⟨[0, 3, 2, 1], by decide, wayq20⟩
  | 21, _ => ⟨[1, 3, 2, 0], by decide, wayq21⟩
  | 22, _ => ⟨[2, 3, 1, 0], by decide, wayq22⟩
  | 23, _ => ⟨[3, 2, 1, 0], by decide, wayq23⟩
  | n + 24, h => absurd h (Nat.not_lt.mpr (Nat.le_add_left ..))
end
theorem mo_step1 {w b m k p : Int} (w0 : 0 ≤ w) (b0 : 0 ≤ b) (h1 : 0 ≤ m + k) (hs : (p = k ∧ w - m ≤ k) ∨ (p = w - m ∧ k ≤ w - m)) : b.toNat + ((m + k).toNat - w.toNat) = (m + (b - w) + p).toNat := by
  obtain ⟨B, rfl⟩ := Int.eq_ofNat_of_zero_le b0
  obtain ⟨W, rfl⟩ := Int.eq_ofNat_of_zero_le w0
  obtain ⟨K, hK⟩ := Int.eq_ofNat_of_zero_le h1
  have ek : k = K - m := by omega
  subst ek
  rw [hK]
  show B + (K - W) = _
  rcases hs with ⟨rfl, g⟩ | ⟨rfl, g⟩
  · have e : m + ((B : Int) - W) + (K - m) = ((B + (K - W) : Nat) : Int) := by
      have : W ≤ K := by omega
      rw [Int.natCast_add, Int.ofNat_sub this]; omega
    rw [e]; rfl
  · have : K ≤ W := by omega
    have e : m + ((B : Int) - W) + ((W : Int) - m) = (B : Int) := by omega
    rw [e, Nat.sub_eq_zero_of_le this]; rfl
theorem mo_step2 {w m k p : Int} (w0 : 0 ≤ w) (h1 : 0 ≤ m + k) (hs : (p = k ∧ w - m ≤ k) ∨ (p = w - m ∧ k ≤ w - m)) : (21 - k).toNat - (w.toNat - (m + k).toNat) = (21 - p).toNat := by
  obtain ⟨W, rfl⟩ := Int.eq_ofNat_of_zero_le w0
  obtain ⟨K, hK⟩ := Int.eq_ofNat_of_zero_le h1
  have ek : k = K - m := by omega
  subst ek
  rw [hK]
  show (21 - ((K : Int) - m)).toNat - (W - K) = _
  rcases hs with ⟨rfl, g⟩ | ⟨rfl, g⟩
  · have : W ≤ K := by omega
    rw [Nat.sub_eq_zero_of_le this]; rfl
  · have e : (21 - ((W : Int) - m)) = (21 - ((K : Int) - m)) - ((W - K : Nat) : Int) := by
      have : K ≤ W := by omega
      rw [Int.ofNat_sub this]; omega
    rw [e]
    generalize (21 - ((K : Int) - m)) = X
    generalize W - K = Y
    clear e g hK h1
    exact (Int.toNat_sub' X Y).symm
theorem pymin_spec (a b : Int) : (pymin a b = a ∧ a ≤ b) ∨ (pymin a b = b ∧ b ≤ a) := by unfold pymin; split <;> omega
theorem purse_min (w b : List Int) : ∀ n, (purseP w b (upto n) ≤ 99) ∧ (∀ i, i < n → purseP w b (upto n) ≤ mostP w b (0 + (i : Int))) ∧ (purseP w b (upto n) = 99 ∨ ∃ i, i < n ∧ purseP w b (upto n) = mostP w b (0 + (i : Int)))
  | 0 => ⟨Int.le_refl _, fun i h => absurd h (Nat.not_lt_zero _), .inl rfl⟩
  | n + 1 => by
    obtain ⟨h1, h2, h3⟩ := purse_min w b n
    rw [upto, purseP_snoc]
    revert h1 h2 h3
    generalize purseP w b (upto n) = P
    intro h1 h2 h3
    have hs := pymin_spec P (mostP w b (0 + (n : Int)))
    revert hs
    generalize pymin P (mostP w b (0 + (n : Int))) = Q
    intro hs
    refine ⟨by rcases hs with ⟨h, _⟩ | ⟨h, g⟩ <;> (rw [h]; first | exact h1 | exact Int.le_trans g h1), fun i hi => ?_, ?_⟩
    · rcases Nat.lt_succ_iff_lt_or_eq.mp hi with hi | rfl
      · have := h2 i hi
        rcases hs with ⟨h, _⟩ | ⟨h, g⟩
        · rw [h]; exact this
        · rw [h]; exact Int.le_trans g this
      · rcases hs with ⟨h, g⟩ | ⟨h, _⟩
        · rw [h]; exact g
        · rw [h]; exact Int.le_refl _
    · rcases hs with ⟨h, _⟩ | ⟨h, _⟩
      · rw [h]
        rcases h3 with h3 | ⟨i, hi, h3⟩
        · exact .inl h3
        · exact .inr ⟨i, by omega, h3⟩
      · exact .inr ⟨n, by omega, h⟩
theorem run_mo {w b : Nat → Int} (hw : ∀ q, In6 (w q)) (hb : ∀ q, In6 (b q)) : ∀ (l : List Nat) (m k : Int) (n : Nat), 0 ≤ k → 0 ≤ m + k → k ≤ 5 * n → n + l.length ≤ 4 →
    ∃ m' k' : Int, l.foldl (stepM w b) (m, k) = (m', k') ∧ l.foldl (stepT w b) ((m + k).toNat, (21 - k).toNat) = ((m' + k').toNat, (21 - k').toNat) ∧ 0 ≤ k' ∧ 0 ≤ m' + k' ∧ k' ≤ 20
  | [], m, k, n, h0, h1, h2, h3 => ⟨m, k, rfl, rfl, h0, h1, by have : n ≤ 4 := h3; omega⟩
  | q :: l, m, k, n, h0, h1, h2, h3 => by
    obtain ⟨w0, w6⟩ := hw q
    obtain ⟨b0, b6⟩ := hb q
    have hs := pymax_spec k (w q - m)
    have hl : (q :: l).length = l.length + 1 := rfl
    have h3' : n + 1 + l.length ≤ 4 := by omega
    have ih := run_mo hw hb l (m + (b q - w q)) (pymax k (w q - m)) (n + 1) (by rcases hs with ⟨h, g⟩ | ⟨h, g⟩ <;> rw [h] <;> omega) (by rcases hs with ⟨h, g⟩ | ⟨h, g⟩ <;> rw [h] <;> omega) (by rcases hs with ⟨h, g⟩ | ⟨h, g⟩ <;> rw [h] <;> omega) h3'
    obtain ⟨m', k', e1, e2, r⟩ := ih
    refine ⟨m', k', e1, ?_, r⟩
    rw [← e2]
    show l.foldl (stepT w b) (stepT w b ((m + k).toNat, (21 - k).toNat) q) = _
    congr 1
    unfold stepT
    dsimp only
    refine Prod.ext ?_ ?_
    · show (b q).toNat + ((m + k).toNat - (w q).toNat) = (m + (b q - w q) + pymax k (w q - m)).toNat
      exact mo_step1 w0 b0 h1 hs
    · show (21 - k).toNat - ((w q).toNat - (m + k).toNat) = (21 - pymax k (w q - m)).toNat
      exact mo_step2 w0 h1 hs
theorem pm4_ge (a b c d : Int) : 0 ≤ pymax (pymax (pymax (pymax 0 a) b) c) d ∧ a ≤ pymax (pymax (pymax (pymax 0 a) b) c) d ∧ b ≤ pymax (pymax (pymax (pymax 0 a) b) c) d ∧ c ≤ pymax (pymax (pymax (pymax 0 a) b) c) d ∧ d ≤ pymax (pymax (pymax (pymax 0 a) b) c) d :=
  have h1 := le_pymaxL (pymax (pymax (pymax 0 a) b) c) d
  have h2 := Int.le_trans (le_pymaxL (pymax (pymax 0 a) b) c) h1
  have h3 := Int.le_trans (le_pymaxL (pymax 0 a) b) h2
  ⟨Int.le_trans (le_pymaxL 0 a) h3, Int.le_trans (le_pymaxR 0 a) h3, Int.le_trans (le_pymaxR _ b) h2, Int.le_trans (le_pymaxR _ c) h1, le_pymaxR _ d⟩
theorem pm4_le {a b c d x : Int} (h0 : 0 ≤ x) (h1 : a ≤ x) (h2 : b ≤ x) (h3 : c ≤ x) (h4 : d ≤ x) : pymax (pymax (pymax (pymax 0 a) b) c) d ≤ x :=
  pymax_le (pymax_le (pymax_le (pymax_le h0 h1) h2) h3) h4
theorem dual {w b : Nat → Int} (hw : ∀ q, In6 (w q)) (hb : ∀ q, In6 (b q)) (a c d e : Nat) : (moL b w [e, d, c, a]).2 = (moL w b [a, c, d, e]).2 + (moL w b [a, c, d, e]).1 ∧ (moL b w [e, d, c, a]).1 = - (moL w b [a, c, d, e]).1 := by
  obtain ⟨u0, u1⟩ := hw a
  obtain ⟨u2, u3⟩ := hb a
  obtain ⟨u4, u5⟩ := hw c
  obtain ⟨u6, u7⟩ := hb c
  obtain ⟨u8, u9⟩ := hw d
  obtain ⟨v0, v1⟩ := hb d
  obtain ⟨v2, v3⟩ := hw e
  obtain ⟨v4, v5⟩ := hb e
  constructor
  · show pymax (pymax (pymax (pymax 0 (b e - 0)) (b d - (0 + (w e - b e)))) (b c - (0 + (w e - b e) + (w d - b d)))) (b a - (0 + (w e - b e) + (w d - b d) + (w c - b c))) = pymax (pymax (pymax (pymax 0 (w a - 0)) (w c - (0 + (b a - w a)))) (w d - (0 + (b a - w a) + (b c - w c)))) (w e - (0 + (b a - w a) + (b c - w c) + (b d - w d))) + (0 + (b a - w a) + (b c - w c) + (b d - w d) + (b e - w e))
    revert u0 u1 u2 u3 u4 u5 u6 u7 u8 u9 v0 v1 v2 v3 v4 v5
    generalize w a = x0
    generalize w c = x1
    generalize w d = x2
    generalize w e = x3
    generalize b a = y0
    generalize b c = y1
    generalize b d = y2
    generalize b e = y3
    intro u0 u1 u2 u3 u4 u5 u6 u7 u8 u9 v0 v1 v2 v3 v4 v5
    obtain ⟨_, e1, e2, e3, e4⟩ := pm4_ge (x0 - 0) (x1 - (0 + (y0 - x0))) (x2 - (0 + (y0 - x0) + (y1 - x1))) (x3 - (0 + (y0 - x0) + (y1 - x1) + (y2 - x2)))
    obtain ⟨_, f1, f2, f3, f4⟩ := pm4_ge (y3 - 0) (y2 - (0 + (x3 - y3))) (y1 - (0 + (x3 - y3) + (x2 - y2))) (y0 - (0 + (x3 - y3) + (x2 - y2) + (x1 - y1)))
    refine Int.le_antisymm (pm4_le ?_ ?_ ?_ ?_ ?_) (Int.add_le_of_le_sub_right (pm4_le ?_ ?_ ?_ ?_ ?_))
    · clear f1 f2 f3 f4; revert e4; generalize pymax _ _ = Z; intro e4; omega
    · clear f1 f2 f3 f4; revert e4; generalize pymax _ _ = Z; intro e4; omega
    · clear f1 f2 f3 f4; revert e3; generalize pymax (pymax _ _) (x3 - _) = Z; intro e3; omega
    · clear f1 f2 f3 f4; revert e2; generalize pymax (pymax _ _) (x3 - _) = Z; intro e2; omega
    · clear f1 f2 f3 f4; revert e1; generalize pymax (pymax _ _) (x3 - _) = Z; intro e1; omega
    · clear e1 e2 e3 e4; revert f4; generalize pymax _ _ = Z; intro f4; omega
    · clear e1 e2 e3 e4; revert f4; generalize pymax _ _ = Z; intro f4; omega
    · clear e1 e2 e3 e4; revert f3; generalize pymax (pymax _ _) (y0 - _) = Z; intro f3; omega
    · clear e1 e2 e3 e4; revert f2; generalize pymax (pymax _ _) (y0 - _) = Z; intro f2; omega
    · clear e1 e2 e3 e4; revert f1; generalize pymax (pymax _ _) (y0 - _) = Z; intro f1; omega
  · show 0 + (w e - b e) + (w d - b d) + (w c - b c) + (w a - b a) = - (0 + (b a - w a) + (b c - w c) + (b d - w d) + (b e - w e))
    omega
theorem law_end {w0 w1 w2 w3 b0 b1 b2 b3 P : Int} {a b c d : Nat} (hw : In6 w0 ∧ In6 w1 ∧ In6 w2 ∧ In6 w3) (hb : In6 b0 ∧ In6 b1 ∧ In6 b2 ∧ In6 b3) (o : Ord4 (rk4 w0 w1 w2 w3 b0 b1 b2 b3) a b c d) (hP : purseP [w0, w1, w2, w3] [b0, b1, b2, b3] (upto 24) = P) :
    0 ≤ P ∧ P ≤ 21 ∧ 0 ≤ P + (b0 + (b1 + (b2 + (b3 + 0)))) - (w0 + (w1 + (w2 + (w3 + 0)))) ∧ P + (b0 + (b1 + (b2 + (b3 + 0)))) - (w0 + (w1 + (w2 + (w3 + 0)))) ≤ 21 ∧
    (runT (at4 w0 w1 w2 w3) (at4 b0 b1 b2 b3) [a, b, c, d]).1 = (P + (b0 + (b1 + (b2 + (b3 + 0)))) - (w0 + (w1 + (w2 + (w3 + 0))))).toNat ∧ (runT (at4 w0 w1 w2 w3) (at4 b0 b1 b2 b3) [a, b, c, d]).2 = (21 - P).toNat ∧
    (runT (at4 b0 b1 b2 b3) (at4 w0 w1 w2 w3) [d, c, b, a]).1 = P.toNat ∧ (runT (at4 b0 b1 b2 b3) (at4 w0 w1 w2 w3) [d, c, b, a]).2 = (21 - (P + (b0 + (b1 + (b2 + (b3 + 0)))) - (w0 + (w1 + (w2 + (w3 + 0)))))).toNat := by
  have hw4 := at4_in6 hw
  have hb4 := at4_in6 hb
  have hmem := ways_all o.a4 o.b4 o.c4 o.d4 o.ab o.ac o.ad o.bc o.bd o.cd
  have hperm := ways_perm _ hmem
  obtain ⟨q1, q2, q3⟩ := purse_min [w0, w1, w2, w3] [b0, b1, b2, b3] 24
  rw [hP] at q1 q2 q3
  clear hP
  have J : ∀ x y : Nat, rk4 w0 w1 w2 w3 b0 b1 b2 b3 x ≤ rk4 w0 w1 w2 w3 b0 b1 b2 b3 y → RJ (at4 w0 w1 w2 w3) (at4 b0 b1 b2 b3) x y := fun x y h => rk_johnson (hw4 x) (hb4 x) (hw4 y) (hb4 y) h
  have hpair : List.Pairwise (RJ (at4 w0 w1 w2 w3) (at4 b0 b1 b2 b3)) [a, b, c, d] := by
    refine .cons ?_ (.cons ?_ (.cons ?_ (.cons ?_ .nil)))
    · intro y hy
      simp only [List.mem_cons, List.not_mem_nil, or_false] at hy
      rcases hy with rfl | rfl | rfl
      · exact J _ _ o.rab
      · exact J _ _ o.rac
      · exact J _ _ o.rad
    · intro y hy
      simp only [List.mem_cons, List.not_mem_nil, or_false] at hy
      rcases hy with rfl | rfl
      · exact J _ _ o.rbc
      · exact J _ _ o.rbd
    · intro y hy
      simp only [List.mem_cons, List.not_mem_nil, or_false] at hy
      rcases hy with rfl
      exact J _ _ o.rcd
    · intro y hy; exact nomatch hy
  obtain ⟨m1, k1, e1, e2, r1, r2, r3⟩ := run_mo hw4 hb4 [a, b, c, d] 0 0 0 (Int.le_refl _) (Int.le_refl _) (Int.le_refl _) (Nat.le_refl _)
  obtain ⟨m2, k2, f1, f2, t1, t2, t3⟩ := run_mo hb4 hw4 [d, c, b, a] 0 0 0 (Int.le_refl _) (Int.le_refl _) (Int.le_refl _) (Nat.le_refl _)
  have eM : moL (at4 w0 w1 w2 w3) (at4 b0 b1 b2 b3) [a, b, c, d] = (m1, k1) := e1
  have fM : moL (at4 b0 b1 b2 b3) (at4 w0 w1 w2 w3) [d, c, b, a] = (m2, k2) := f1
  have eR : runT (at4 w0 w1 w2 w3) (at4 b0 b1 b2 b3) [a, b, c, d] = ((m1 + k1).toNat, (21 - k1).toNat) := e2
  have fR : runT (at4 b0 b1 b2 b3) (at4 w0 w1 w2 w3) [d, c, b, a] = ((m2 + k2).toNat, (21 - k2).toNat) := f2
  have dd := dual hw4 hb4 a b c d
  rw [eM, fM] at dd
  obtain ⟨d1, d2⟩ := dd
  have tot : m1 = (b0 + (b1 + (b2 + (b3 + 0)))) - (w0 + (w1 + (w2 + (w3 + 0)))) := by
    have h := more_perm (w := (at4 w0 w1 w2 w3)) (b := (at4 b0 b1 b2 b3)) hperm 0 0 0
    rw [e1] at h
    have h2 : m1 = 0 + (b0 - w0) + (b1 - w1) + (b2 - w2) + (b3 - w3) := h
    omega
  have hk : P = k1 := by
    apply Int.le_antisymm
    · obtain ⟨i, hi, e⟩ := way_mem (w0 := w0) (w1 := w1) (w2 := w2) (w3 := w3) (b0 := b0) (b1 := b1) (b2 := b2) (b3 := b3) _ hmem
      have := q2 i hi
      rw [e, eM] at this
      exact this
    · rcases q3 with h | ⟨i, hi, h⟩
      · rw [h]; omega
      · obtain ⟨l, hl, e⟩ := way_of (w0 := w0) (w1 := w1) (w2 := w2) (w3 := w3) (b0 := b0) (b1 := b1) (b2 := b2) (b3 := b3) i hi
        rw [h, e]
        have hs := sorted_le [a, b, c, d] l 0 0 hpair ((ways_perm l hl).trans hperm.symm)
        rw [e1] at hs
        exact hs
  rw [eR, fR]
  dsimp only at d1 d2 ⊢
  subst hk
  have z : P + (b0 + (b1 + (b2 + (b3 + 0)))) - (w0 + (w1 + (w2 + (w3 + 0)))) = m1 + P := by omega
  rw [z]
  refine ⟨r1, by omega, r2, by omega, rfl, rfl, ?_, ?_⟩
  · congr 1; omega
  · congr 1; omega
end Mine
end
section -- LPf
open PySem PySem.W PySem.Calls PyProof.Rows PySem.Spec
namespace Mine
theorem pick4 {a b c d : Int} {q : Nat} (hq : q < 4) : [a, b, c, d].getD (q : Int).toNat 0 = at4 a b c d q := by
  have e1 := n4 hq
  rcases e1 with rfl | rfl | rfl | rfl <;> rfl
structure StripOk (A : Nat) (M : List Nat) (B : Nat) (n : Int) : Prop where
  hM : Solid M
  hn : 0 ≤ n
  hx : (lineS A M B).length < 1000
theorem C_stripH (w : World) (p : Program) (loose : List Str) (mean : ExcName → Option Value) (mg mb : Str → Option Value) (news : List (Addr × Obj)) (n : Int) (t u : Tok) (a b : Nat) (M : List Nat) (h : StripOk a M b n) :
   CbClaim PySem.Challenge.rw_yh0007_01.row.prog w (hd.heap_39 w.params) p loose mean mg mb 28 news [] (True) [.str (lineS a M b) t, .int n u] (fun t => .str (lineS (a - n.toNat) M (b - (n.toNat - a))) t) :=
  C_strip w p loose mean mg mb news n t u a b M h.hM h.hn h.hx
theorem turnF (w : World) (p : Program) (loose : List Str) (mean : ExcName → Option Value) (mg mb : Str → Option Value) (L fa : Nat) (h₀ : Heap) (s : Shared) :
    Below callerA h₀ [] h₀ → (hd.heap_39 w.params).In h₀ → Top p loose mean mg mb h₀ →
    ∀ (I aG aP : Nat) (it : Obj) (es : List (Addr × Obj)) (nG nP : Nat) (A B q : Nat) (M : List Nat) (w0 w1 w2 w3 b0 b1 b2 b3 : Int) (g0 g1 g2 g3 p0 p1 p2 p3 tk tt tH : Tok) (vO vB vW vI vS vT : Value) (u : Str → Option Value) (h : Heap), q < 4 → In6 (at4 w0 w1 w2 w3 q) → In6 (at4 b0 b1 b2 b3 q) → Solid M → A + M.length + B < 900 →
      Fr h₀ L h (frm [(Str.ofString "k", .int (q : Int) tk), (Str.ofString "there", .str (lineS A M B) tt), (Str.ofString "order", vO), (Str.ofString "brings", vB), (Str.ofString "wants", vW), (Str.ofString "ports", .ref aP), (Str.ofString "gifts", .ref aG), (Str.ofString "ink", vI), (Str.ofString "start", vS)] u) → News h₀ L h ((I, it) :: (aG, listOf #[.str (blanks b0) g0, .str (blanks b1) g1, .str (blanks b2) g2, .str (blanks b3) g3] nG) :: (aP, listOf #[.int w0 p0, .int w1 p1, .int w2 p2, .int w3 p3] nP) :: es) →
      Box (wpAny (model PySem.Challenge.rw_yh0007_01.row.prog w) (lawA L fa) (execs (lawFor 14) (lawEnv L fa)) (fun f s' => Hold (f = .next ∧ ∃ h' tk' u' t1, s' = { s with heap := h', toks := tk' } ∧ Fr h₀ L h' (frm [(Str.ofString "there", .str (lineS ((at4 b0 b1 b2 b3 q).toNat + (A - (at4 w0 w1 w2 w3 q).toNat)) M (B - ((at4 w0 w1 w2 w3 q).toNat - A))) t1), (Str.ofString "order", vO), (Str.ofString "brings", vB), (Str.ofString "wants", vW), (Str.ofString "ports", .ref aP), (Str.ofString "gifts", .ref aG), (Str.ofString "ink", vI), (Str.ofString "start", vS)] u') ∧ News h₀ L h' ((I, it) :: (aG, listOf #[.str (blanks b0) g0, .str (blanks b1) g1, .str (blanks b2) g2, .str (blanks b3) g3] nG) :: (aP, listOf #[.int w0 p0, .int w1 p1, .int w2 p2, .int w3 p3] nP) :: es))) (fun _ _ => False) { s with heap := h, toks := tH }) := by
  w_top off
  k_fill
  k_with_none
  k_with "andf" => first | exact And.left (by with_reducible assumption) | exact And.left (And.right (by with_reducible assumption)) | exact And.left (And.right (And.right (by with_reducible assumption))) | exact And.left (And.right (And.right (And.right (by with_reducible assumption)))) | exact And.left (And.right (And.right (And.right (And.right (by with_reducible assumption))))) | exact And.left (And.right (And.right (And.right (And.right (And.right (by with_reducible assumption)))))) | exact And.right (by with_reducible assumption) | exact And.right (And.right (by with_reducible assumption)) | exact And.right (And.right (And.right (by with_reducible assumption)))
  k_with "lt" => first | with_reducible assumption | exact And.left (by with_reducible assumption) | exact And.left (And.right (by with_reducible assumption)) | exact And.left (And.right (And.right (by with_reducible assumption))) | exact And.left (And.right (And.right (And.right (by with_reducible assumption)))) | exact And.left (And.right (And.right (And.right (And.right (by with_reducible assumption))))) | exact And.left (And.right (And.right (And.right (And.right (And.right (by with_reducible assumption)))))) | (refine Nat.lt_trans (by with_reducible assumption) ?_; k_extra "lt")
  k_with "ne" => first | with_reducible assumption | exact Ne.symm (by with_reducible assumption) | (refine Nat.ne_of_lt ?_; k_extra "lt") | (refine Nat.ne_of_gt ?_; k_extra "lt") | k_extra "andf" | (refine Ne.symm ?_; k_extra "andf") | (refine Nat.ne_of_lt ?_; k_extra "lt2") | (refine Nat.ne_of_gt ?_; k_extra "lt2")
  k_with "lt2" => first | exact Nat.lt_trans (And.left (by with_reducible assumption)) (by with_reducible assumption) | exact Nat.lt_trans (And.left (And.right (by with_reducible assumption))) (by with_reducible assumption) | exact Nat.lt_trans (And.left (And.right (And.right (by with_reducible assumption)))) (by with_reducible assumption) | exact Nat.lt_trans (And.left (And.right (And.right (And.right (by with_reducible assumption))))) (by with_reducible assumption) | exact Nat.lt_trans (And.left (And.right (And.right (And.right (And.right (by with_reducible assumption)))))) (by with_reducible assumption) | exact Nat.lt_trans (And.left (And.right (And.right (And.right (And.right (And.right (by with_reducible assumption))))))) (by with_reducible assumption) | exact Nat.lt_trans (And.left (And.right (And.right (And.right (And.right (And.right (And.right (by with_reducible assumption)))))))) (by with_reducible assumption) | exact Nat.lt_trans (And.left (And.right (And.right (And.right (And.right (And.right (And.right (And.right (by with_reducible assumption))))))))) (by with_reducible assumption) | exact Nat.lt_trans (And.left (And.right (And.right (And.right (And.right (And.right (And.right (And.right (And.right (by with_reducible assumption)))))))))) (by with_reducible assumption) | exact Nat.lt_trans (And.left (And.right (And.right (And.right (And.right (And.right (And.right (And.right (And.right (And.right (by with_reducible assumption))))))))))) (by with_reducible assumption)
  k_with "omega" => first | safely (k_dflt (k_extra "om")) | safely (k_dflt lia)
  k_with "om" => first | with_reducible assumption | ((with_reducible show (_ : Nat) < _); first | exact Nat.lt_succ_self _ | decide | exact ltNl (by with_reducible assumption) (by rfl) | exact ltNl (And.left (by with_reducible assumption)) (by rfl) | exact ltNl (And.right (by with_reducible assumption)) (by rfl) | k_extra "lt") | ((with_reducible show (_ : Nat) ≤ _); first | exact Nat.le_refl _ | decide | exact leNl (by with_reducible assumption) (by rfl) | exact leNl (And.left (by with_reducible assumption)) (by rfl) | exact leNl (And.right (by with_reducible assumption)) (by rfl) | exact leNl2 (by with_reducible assumption) (by rfl) | exact leNl2 (And.left (by with_reducible assumption)) (by rfl) | exact leNl2 (And.right (by with_reducible assumption)) (by rfl) | (refine Nat.le_of_lt ?_; k_extra "lt")) | ((with_reducible show (_ : Int) < _); first | decide | k_extra "andf" | exact ltIl (by with_reducible assumption) (by rfl) | exact ltIl (And.left (by with_reducible assumption)) (by rfl) | exact ltIl (And.right (by with_reducible assumption)) (by rfl) | exact loIt (by with_reducible assumption) (by rfl) | exact loIt (And.left (by with_reducible assumption)) (by rfl) | exact loIt (And.right (by with_reducible assumption)) (by rfl) | exact loP (by with_reducible assumption) | exact loP (And.left (by with_reducible assumption)) | exact loP (And.right (by with_reducible assumption)) | exact hiP (by with_reducible assumption) (by rfl) | exact hiP (And.left (by with_reducible assumption)) (by rfl) | exact hiP (And.right (by with_reducible assumption)) (by rfl)) | ((with_reducible show (_ : Int) ≤ _); first | decide | k_extra "andf" | exact leIl (by with_reducible assumption) (by rfl) | exact leIl (And.left (by with_reducible assumption)) (by rfl) | exact leIl (And.right (by with_reducible assumption)) (by rfl) | exact leIl2 (by with_reducible assumption) (by rfl) | exact leIl2 (And.left (by with_reducible assumption)) (by rfl) | exact leIl2 (And.right (by with_reducible assumption)) (by rfl) | exact loI (by with_reducible assumption) (by rfl) | exact loI (And.left (by with_reducible assumption)) (by rfl) | exact loI (And.right (by with_reducible assumption)) (by rfl) | exact Int.le_of_lt (by with_reducible assumption)) | ((with_reducible show (_ : Nat) ≠ _); k_extra "ne")
  k_with "call ref" => (k_here; (with_reducible show wpAny _ _ (call (Value.ref 28) [Value.str _ _, Value.int _ _]) _ _ _); (rename StripOk _ _ _ _ => okX); k_dflt (refine' C_stripH _ _ _ _ _ _ _ _ _ _ _ _ _ okX _ _ _ _ _ _ _ _ _ _ _ _ _ _ _ _ _ ?k1r0 ?k2r0 ?k3r0 ?k4r0 ?k5r0 ?kKr0 trivial ?kdr0 ?kur0 ?_; (case k1r0 => k_asm); (case k2r0 => k_asm); (case k3r0 => k_asm); (case k4r0 => k_asm); (case k5r0 => k_asm); (case kKr0 => exact rfl); (case kdr0 => ktr_room); (case kur0 => ktr_units); intro t9 h9 tk9 F9 N9; (try dsimp only); (try k_sweep)))
  k_with "subscriptTail" => (k_here; (with_reducible show wpAny _ _ (subscriptTail _ _ (Value.ref _) (Value.int _ _)) _ _ _); (with_unfolding_all refine' item_at ?k1r1 ?k2r1 ?k3r1 ?k4r1 ?_ ?k6r1; (case k1r1 => is_list); (case k2r1 => omega); (case k3r1 => omega); (case k4r1 => first | exact (by with_reducible assumption) | assumption); (case k6r1 => with_unfolding_all rfl); k_whole))
  intro hB X' T' I aG aP it es nG nP A B q M w0 w1 w2 w3 b0 b1 b2 b3 g0 g1 g2 g3 p0 p1 p2 p3 tk tt tH vO vB vW vI vS vT u h hq hw6 hb6 hM hAB F N
  dsimp only [frm] at F
  refine Box.mk ?_
  dsimp only [lawPart, lawFor, forPart, lawEnv, lawA, lawFn, scopeOf, PySem.Challenge.pw_yh0007_01, lastOf, bodyOf, List.drop, List.take]
  k_fold
  obtain ⟨tg, hg⟩ := item_txt (a := b0) (b := b1) (c := b2) (d := b3) (t0 := g0) (t1 := g1) (t2 := g2) (t3 := g3) hq
  obtain ⟨tp, hp⟩ := item_int (a := w0) (b := w1) (c := w2) (d := w3) (t0 := p0) (t1 := p1) (t2 := p2) (t3 := p3) hq
  have hl1 : (blanks (at4 b0 b1 b2 b3 q)).length < 1000 := by have := blanks_len hb6.1; have := hb6.2; omega
  have en := pick4 (a := w0) (b := w1) (c := w2) (d := w3) hq
  have hS : StripOk A M B ([w0, w1, w2, w3].getD (q : Int).toNat 0) := ⟨hM, by rw [en]; exact hw6.1, by rw [line_len]; omega⟩
  have hl2 : (lineS (A - ([w0, w1, w2, w3].getD (q : Int).toNat 0).toNat) M (B - (([w0, w1, w2, w3].getD (q : Int).toNat 0).toNat - A))).length < 1000 := by rw [line_len]; exact sz_cut hAB
  k_steps
  show _ ∧ _
  rename Fr h₀ L _ _ => FX
  simp only [en, blanks_line] at FX
  exact ⟨rfl, exI4 ⟨rfl, fr_frm FX _ ⟨rfl, rfl, rfl, rfl, rfl, rfl, rfl, rfl, trivial⟩, by assumption⟩⟩
end Mine
end
section -- LPg
open PySem PySem.W PySem.Calls PyProof.Rows PySem.Spec
namespace Mine
theorem turnG (w : World) (p : Program) (loose : List Str) (mean : ExcName → Option Value) (mg mb : Str → Option Value) (L fa : Nat) (h₀ : Heap) (s : Shared) :
    Below callerA h₀ [] h₀ → (hd.heap_39 w.params).In h₀ → Top p loose mean mg mb h₀ →
    ∀ (I aG aP : Nat) (it : Obj) (es : List (Addr × Obj)) (nG nP : Nat) (A B q : Nat) (M : List Nat) (w0 w1 w2 w3 b0 b1 b2 b3 : Int) (g0 g1 g2 g3 p0 p1 p2 p3 tk tt tH : Tok) (vO vB vW vI vS vT : Value) (u : Str → Option Value) (h : Heap), q < 4 → In6 (at4 w0 w1 w2 w3 q) → In6 (at4 b0 b1 b2 b3 q) → Solid M → A + M.length + B < 900 →
      Fr h₀ L h (frm [(Str.ofString "k", .int (q : Int) tk), (Str.ofString "back", .str (lineS A M B) tt), (Str.ofString "there", vT), (Str.ofString "order", vO), (Str.ofString "brings", vB), (Str.ofString "wants", vW), (Str.ofString "ports", .ref aP), (Str.ofString "gifts", .ref aG), (Str.ofString "ink", vI), (Str.ofString "start", vS)] u) → News h₀ L h ((I, it) :: (aG, listOf #[.str (blanks b0) g0, .str (blanks b1) g1, .str (blanks b2) g2, .str (blanks b3) g3] nG) :: (aP, listOf #[.int w0 p0, .int w1 p1, .int w2 p2, .int w3 p3] nP) :: es) →
      Box (wpAny (model PySem.Challenge.rw_yh0007_01.row.prog w) (lawA L fa) (execs (lawFor 16) (lawEnv L fa)) (fun f s' => Hold (f = .next ∧ ∃ h' tk' u' t1, s' = { s with heap := h', toks := tk' } ∧ Fr h₀ L h' (frm [(Str.ofString "back", .str (lineS ((at4 w0 w1 w2 w3 q).toNat + (A - (at4 b0 b1 b2 b3 q).toNat)) M (B - ((at4 b0 b1 b2 b3 q).toNat - A))) t1), (Str.ofString "there", vT), (Str.ofString "order", vO), (Str.ofString "brings", vB), (Str.ofString "wants", vW), (Str.ofString "ports", .ref aP), (Str.ofString "gifts", .ref aG), (Str.ofString "ink", vI), (Str.ofString "start", vS)] u') ∧ News h₀ L h' ((I, it) :: (aG, listOf #[.str (blanks b0) g0, .str (blanks b1) g1, .str (blanks b2) g2, .str (blanks b3) g3] nG) :: (aP, listOf #[.int w0 p0, .int w1 p1, .int w2 p2, .int w3 p3] nP) :: es))) (fun _ _ => False) { s with heap := h, toks := tH }) := by
  w_top off
  k_fill
  k_with_none
  k_with "andf" => first | exact And.left (by with_reducible assumption) | exact And.left (And.right (by with_reducible assumption)) | exact And.left (And.right (And.right (by with_reducible assumption))) | exact And.left (And.right (And.right (And.right (by with_reducible assumption)))) | exact And.left (And.right (And.right (And.right (And.right (by with_reducible assumption))))) | exact And.left (And.right (And.right (And.right (And.right (And.right (by with_reducible assumption)))))) | exact And.right (by with_reducible assumption) | exact And.right (And.right (by with_reducible assumption)) | exact And.right (And.right (And.right (by with_reducible assumption)))
  k_with "lt" => first | with_reducible assumption | exact And.left (by with_reducible assumption) | exact And.left (And.right (by with_reducible assumption)) | exact And.left (And.right (And.right (by with_reducible assumption))) | exact And.left (And.right (And.right (And.right (by with_reducible assumption)))) | exact And.left (And.right (And.right (And.right (And.right (by with_reducible assumption))))) | exact And.left (And.right (And.right (And.right (And.right (And.right (by with_reducible assumption)))))) | (refine Nat.lt_trans (by with_reducible assumption) ?_; k_extra "lt")
  k_with "ne" => first | with_reducible assumption | exact Ne.symm (by with_reducible assumption) | (refine Nat.ne_of_lt ?_; k_extra "lt") | (refine Nat.ne_of_gt ?_; k_extra "lt") | k_extra "andf" | (refine Ne.symm ?_; k_extra "andf") | (refine Nat.ne_of_lt ?_; k_extra "lt2") | (refine Nat.ne_of_gt ?_; k_extra "lt2")
  k_with "lt2" => first | exact Nat.lt_trans (And.left (by with_reducible assumption)) (by with_reducible assumption) | exact Nat.lt_trans (And.left (And.right (by with_reducible assumption))) (by with_reducible assumption) | exact Nat.lt_trans (And.left (And.right (And.right (by with_reducible assumption)))) (by with_reducible assumption) | exact Nat.lt_trans (And.left (And.right (And.right (And.right (by with_reducible assumption))))) (by with_reducible assumption) | exact Nat.lt_trans (And.left (And.right (And.right (And.right (And.right (by with_reducible assumption)))))) (by with_reducible assumption) | exact Nat.lt_trans (And.left (And.right (And.right (And.right (And.right (And.right (by with_reducible assumption))))))) (by with_reducible assumption) | exact Nat.lt_trans (And.left (And.right (And.right (And.right (And.right (And.right (And.right (by with_reducible assumption)))))))) (by with_reducible assumption) | exact Nat.lt_trans (And.left (And.right (And.right (And.right (And.right (And.right (And.right (And.right (by with_reducible assumption))))))))) (by with_reducible assumption) | exact Nat.lt_trans (And.left (And.right (And.right (And.right (And.right (And.right (And.right (And.right (And.right (by with_reducible assumption)))))))))) (by with_reducible assumption) | exact Nat.lt_trans (And.left (And.right (And.right (And.right (And.right (And.right (And.right (And.right (And.right (And.right (by with_reducible assumption))))))))))) (by with_reducible assumption)
  k_with "omega" => first | safely (k_dflt (k_extra "om")) | safely (k_dflt lia)
  k_with "om" => first | with_reducible assumption | ((with_reducible show (_ : Nat) < _); first | exact Nat.lt_succ_self _ | decide | exact ltNl (by with_reducible assumption) (by rfl) | exact ltNl (And.left (by with_reducible assumption)) (by rfl) | exact ltNl (And.right (by with_reducible assumption)) (by rfl) | k_extra "lt") | ((with_reducible show (_ : Nat) ≤ _); first | exact Nat.le_refl _ | decide | exact leNl (by with_reducible assumption) (by rfl) | exact leNl (And.left (by with_reducible assumption)) (by rfl) | exact leNl (And.right (by with_reducible assumption)) (by rfl) | exact leNl2 (by with_reducible assumption) (by rfl) | exact leNl2 (And.left (by with_reducible assumption)) (by rfl) | exact leNl2 (And.right (by with_reducible assumption)) (by rfl) | (refine Nat.le_of_lt ?_; k_extra "lt")) | ((with_reducible show (_ : Int) < _); first | decide | k_extra "andf" | exact ltIl (by with_reducible assumption) (by rfl) | exact ltIl (And.left (by with_reducible assumption)) (by rfl) | exact ltIl (And.right (by with_reducible assumption)) (by rfl) | exact loIt (by with_reducible assumption) (by rfl) | exact loIt (And.left (by with_reducible assumption)) (by rfl) | exact loIt (And.right (by with_reducible assumption)) (by rfl) | exact loP (by with_reducible assumption) | exact loP (And.left (by with_reducible assumption)) | exact loP (And.right (by with_reducible assumption)) | exact hiP (by with_reducible assumption) (by rfl) | exact hiP (And.left (by with_reducible assumption)) (by rfl) | exact hiP (And.right (by with_reducible assumption)) (by rfl)) | ((with_reducible show (_ : Int) ≤ _); first | decide | k_extra "andf" | exact leIl (by with_reducible assumption) (by rfl) | exact leIl (And.left (by with_reducible assumption)) (by rfl) | exact leIl (And.right (by with_reducible assumption)) (by rfl) | exact leIl2 (by with_reducible assumption) (by rfl) | exact leIl2 (And.left (by with_reducible assumption)) (by rfl) | exact leIl2 (And.right (by with_reducible assumption)) (by rfl) | exact loI (by with_reducible assumption) (by rfl) | exact loI (And.left (by with_reducible assumption)) (by rfl) | exact loI (And.right (by with_reducible assumption)) (by rfl) | exact Int.le_of_lt (by with_reducible assumption)) | ((with_reducible show (_ : Nat) ≠ _); k_extra "ne")
  k_with "call ref" => (k_here; (with_reducible show wpAny _ _ (call (Value.ref 28) [Value.str _ _, Value.int _ _]) _ _ _); (rename StripOk _ _ _ _ => okX); k_dflt (refine' C_stripH _ _ _ _ _ _ _ _ _ _ _ _ _ okX _ _ _ _ _ _ _ _ _ _ _ _ _ _ _ _ _ ?k1r0 ?k2r0 ?k3r0 ?k4r0 ?k5r0 ?kKr0 trivial ?kdr0 ?kur0 ?_; (case k1r0 => k_asm); (case k2r0 => k_asm); (case k3r0 => k_asm); (case k4r0 => k_asm); (case k5r0 => k_asm); (case kKr0 => exact rfl); (case kdr0 => ktr_room); (case kur0 => ktr_units); intro t9 h9 tk9 F9 N9; (try dsimp only); (try k_sweep)))
  k_with "subscriptTail" => (k_here; (with_reducible show wpAny _ _ (subscriptTail _ _ (Value.ref _) (Value.int _ _)) _ _ _); (with_unfolding_all refine' item_at ?k1r1 ?k2r1 ?k3r1 ?k4r1 ?_ ?k6r1; (case k1r1 => is_list); (case k2r1 => omega); (case k3r1 => omega); (case k4r1 => first | exact (by with_reducible assumption) | assumption); (case k6r1 => with_unfolding_all rfl); k_whole))
  intro hB X' T' I aG aP it es nG nP A B q M w0 w1 w2 w3 b0 b1 b2 b3 g0 g1 g2 g3 p0 p1 p2 p3 tk tt tH vO vB vW vI vS vT u h hq hw6 hb6 hM hAB F N
  dsimp only [frm] at F
  refine Box.mk ?_
  dsimp only [lawPart, lawFor, forPart, lawEnv, lawA, lawFn, scopeOf, PySem.Challenge.pw_yh0007_01, lastOf, bodyOf, List.drop, List.take]
  k_fold
  obtain ⟨tg, hg⟩ := item_txt (a := b0) (b := b1) (c := b2) (d := b3) (t0 := g0) (t1 := g1) (t2 := g2) (t3 := g3) hq
  obtain ⟨tp, hp⟩ := item_int (a := w0) (b := w1) (c := w2) (d := w3) (t0 := p0) (t1 := p1) (t2 := p2) (t3 := p3) hq
  have hl1 : (blanks (at4 b0 b1 b2 b3 q)).length < 1000 := by have := blanks_len hb6.1; have := hb6.2; omega
  have en := pick4 (a := w0) (b := w1) (c := w2) (d := w3) hq
  have hw0 : 0 ≤ [w0, w1, w2, w3].getD (q : Int).toNat 0 := by rw [en]; exact hw6.1
  have hw5 : [w0, w1, w2, w3].getD (q : Int).toNat 0 < 6 := by rw [en]; exact hw6.2
  have hS : StripOk A M B ((blanks (at4 b0 b1 b2 b3 q)).length : Int) := ⟨hM, Int.natCast_nonneg _, by rw [line_len]; omega⟩
  have hl2 : (lineS (A - (((blanks (at4 b0 b1 b2 b3 q)).length : Int)).toNat) M (B - ((((blanks (at4 b0 b1 b2 b3 q)).length : Int)).toNat - A))).length < 1000 := by rw [line_len]; exact sz_cut hAB
  have em := mul_blank hw6
  have el := blanks_len hb6.1
  k_steps
  show _ ∧ _
  rename Fr h₀ L _ _ => FX
  simp only [en, em, el, blanks_line] at FX
  exact ⟨rfl, exI4 ⟨rfl, fr_frm FX _ ⟨rfl, rfl, rfl, rfl, rfl, rfl, rfl, rfl, rfl, trivial⟩, by assumption⟩⟩
end Mine
end
section -- LQf
open PySem PySem.W PySem.Calls PyProof.Rows PySem.Spec
namespace Mine
theorem thereS (w : World) (p : Program) (loose : List Str) (mean : ExcName → Option Value) (mg mb : Str → Option Value) (L fa : Nat) (h₀ : Heap) (s : Shared) :
    Below callerA h₀ [] h₀ → (hd.heap_39 w.params).In h₀ → Top p loose mean mg mb h₀ →
    ∀ (aO aG aP : Nat) (N0 : List (Addr × Obj)) (nO nG nP : Nat) (a b c d : Nat) (M : List Nat) (w0 w1 w2 w3 b0 b1 b2 b3 : Int) (e0 e1 e2 e3 g0 g1 g2 g3 p0 p1 p2 p3 tS tH : Tok) (vB vW vI vT : Value) (u : Str → Option Value) (h : Heap), a < 4 → b < 4 → c < 4 → d < 4 → In6 w0 ∧ In6 w1 ∧ In6 w2 ∧ In6 w3 → In6 b0 ∧ In6 b1 ∧ In6 b2 ∧ In6 b3 → Solid M → M.length ≤ 100 → (aO, listOf #[.int (a : Int) e0, .int (b : Int) e1, .int (c : Int) e2, .int (d : Int) e3] nO) ∈ N0 → (aG, listOf #[.str (blanks b0) g0, .str (blanks b1) g1, .str (blanks b2) g2, .str (blanks b3) g3] nG) ∈ N0 → (aP, listOf #[.int w0 p0, .int w1 p1, .int w2 p2, .int w3 p3] nP) ∈ N0 →
      Fr h₀ L h (frm [(Str.ofString "order", .ref aO), (Str.ofString "brings", vB), (Str.ofString "wants", vW), (Str.ofString "ports", .ref aP), (Str.ofString "gifts", .ref aG), (Str.ofString "ink", vI), (Str.ofString "start", .str (lineS 0 M 21) tS)] u) → News h₀ L h N0 →
      Box (wpAny (model PySem.Challenge.rw_yh0007_01.row.prog w) (lawA L fa) (execs (lawPart 13 2) (lawEnv L fa)) (fun f s' => Hold (f = .next ∧ ∃ h' tk' u' t1, s' = { s with heap := h', toks := tk' } ∧ Fr h₀ L h' (frm [(Str.ofString "there", .str (lineS (runT (at4 w0 w1 w2 w3) (at4 b0 b1 b2 b3) [a, b, c, d]).1 M (runT (at4 w0 w1 w2 w3) (at4 b0 b1 b2 b3) [a, b, c, d]).2) t1), (Str.ofString "order", .ref aO), (Str.ofString "brings", vB), (Str.ofString "wants", vW), (Str.ofString "ports", .ref aP), (Str.ofString "gifts", .ref aG), (Str.ofString "ink", vI), (Str.ofString "start", .str (lineS 0 M 21) tS)] u') ∧ News h₀ L h' N0)) (fun _ _ => False) { s with heap := h, toks := tH }) := by
  w_top off
  k_fill
  k_with_none
  k_with "andf" => first | exact And.left (by with_reducible assumption) | exact And.left (And.right (by with_reducible assumption)) | exact And.left (And.right (And.right (by with_reducible assumption))) | exact And.left (And.right (And.right (And.right (by with_reducible assumption)))) | exact And.left (And.right (And.right (And.right (And.right (by with_reducible assumption))))) | exact And.left (And.right (And.right (And.right (And.right (And.right (by with_reducible assumption)))))) | exact And.right (by with_reducible assumption) | exact And.right (And.right (by with_reducible assumption)) | exact And.right (And.right (And.right (by with_reducible assumption)))
  k_with "lt" => first | with_reducible assumption | exact And.left (by with_reducible assumption) | exact And.left (And.right (by with_reducible assumption)) | exact And.left (And.right (And.right (by with_reducible assumption))) | exact And.left (And.right (And.right (And.right (by with_reducible assumption)))) | exact And.left (And.right (And.right (And.right (And.right (by with_reducible assumption))))) | exact And.left (And.right (And.right (And.right (And.right (And.right (by with_reducible assumption)))))) | (refine Nat.lt_trans (by with_reducible assumption) ?_; k_extra "lt")
  k_with "ne" => first | with_reducible assumption | exact Ne.symm (by with_reducible assumption) | (refine Nat.ne_of_lt ?_; k_extra "lt") | (refine Nat.ne_of_gt ?_; k_extra "lt") | k_extra "andf" | (refine Ne.symm ?_; k_extra "andf") | (refine Nat.ne_of_lt ?_; k_extra "lt2") | (refine Nat.ne_of_gt ?_; k_extra "lt2")
  k_with "lt2" => first | exact Nat.lt_trans (And.left (by with_reducible assumption)) (by with_reducible assumption) | exact Nat.lt_trans (And.left (And.right (by with_reducible assumption))) (by with_reducible assumption) | exact Nat.lt_trans (And.left (And.right (And.right (by with_reducible assumption)))) (by with_reducible assumption) | exact Nat.lt_trans (And.left (And.right (And.right (And.right (by with_reducible assumption))))) (by with_reducible assumption) | exact Nat.lt_trans (And.left (And.right (And.right (And.right (And.right (by with_reducible assumption)))))) (by with_reducible assumption) | exact Nat.lt_trans (And.left (And.right (And.right (And.right (And.right (And.right (by with_reducible assumption))))))) (by with_reducible assumption) | exact Nat.lt_trans (And.left (And.right (And.right (And.right (And.right (And.right (And.right (by with_reducible assumption)))))))) (by with_reducible assumption) | exact Nat.lt_trans (And.left (And.right (And.right (And.right (And.right (And.right (And.right (And.right (by with_reducible assumption))))))))) (by with_reducible assumption) | exact Nat.lt_trans (And.left (And.right (And.right (And.right (And.right (And.right (And.right (And.right (And.right (by with_reducible assumption)))))))))) (by with_reducible assumption) | exact Nat.lt_trans (And.left (And.right (And.right (And.right (And.right (And.right (And.right (And.right (And.right (And.right (by with_reducible assumption))))))))))) (by with_reducible assumption)
  k_with "omega" => first | safely (k_dflt (k_extra "om")) | safely (k_dflt lia)
  k_with "om" => first | with_reducible assumption | ((with_reducible show (_ : Nat) < _); first | exact Nat.lt_succ_self _ | decide | exact ltNl (by with_reducible assumption) (by rfl) | exact ltNl (And.left (by with_reducible assumption)) (by rfl) | exact ltNl (And.right (by with_reducible assumption)) (by rfl) | k_extra "lt") | ((with_reducible show (_ : Nat) ≤ _); first | exact Nat.le_refl _ | decide | exact leNl (by with_reducible assumption) (by rfl) | exact leNl (And.left (by with_reducible assumption)) (by rfl) | exact leNl (And.right (by with_reducible assumption)) (by rfl) | exact leNl2 (by with_reducible assumption) (by rfl) | exact leNl2 (And.left (by with_reducible assumption)) (by rfl) | exact leNl2 (And.right (by with_reducible assumption)) (by rfl) | (refine Nat.le_of_lt ?_; k_extra "lt")) | ((with_reducible show (_ : Int) < _); first | decide | k_extra "andf" | exact ltIl (by with_reducible assumption) (by rfl) | exact ltIl (And.left (by with_reducible assumption)) (by rfl) | exact ltIl (And.right (by with_reducible assumption)) (by rfl) | exact loIt (by with_reducible assumption) (by rfl) | exact loIt (And.left (by with_reducible assumption)) (by rfl) | exact loIt (And.right (by with_reducible assumption)) (by rfl) | exact loP (by with_reducible assumption) | exact loP (And.left (by with_reducible assumption)) | exact loP (And.right (by with_reducible assumption)) | exact hiP (by with_reducible assumption) (by rfl) | exact hiP (And.left (by with_reducible assumption)) (by rfl) | exact hiP (And.right (by with_reducible assumption)) (by rfl)) | ((with_reducible show (_ : Int) ≤ _); first | decide | k_extra "andf" | exact leIl (by with_reducible assumption) (by rfl) | exact leIl (And.left (by with_reducible assumption)) (by rfl) | exact leIl (And.right (by with_reducible assumption)) (by rfl) | exact leIl2 (by with_reducible assumption) (by rfl) | exact leIl2 (And.left (by with_reducible assumption)) (by rfl) | exact leIl2 (And.right (by with_reducible assumption)) (by rfl) | exact loI (by with_reducible assumption) (by rfl) | exact loI (And.left (by with_reducible assumption)) (by rfl) | exact loI (And.right (by with_reducible assumption)) (by rfl) | exact Int.le_of_lt (by with_reducible assumption)) | ((with_reducible show (_ : Nat) ≠ _); k_extra "ne")
  k_with "steps to iter" => repeat' (first | (k_unfold; (try dsimp only)) | (k_end; wrow_close) | ((fail_if_success (with_reducible show wpAny _ _ (pyIter (Value.ref _)) _ _ _)); (first | walk1 | (dsimp only; walk1) | (leave1; walk_say "STEP leave1"; try dsimp only))) | fail "no step")
  k_with "exec For" => (k_here; (with_reducible show wpAny _ _ (exec (Stmt.For _ _ _ [] _) _) _ _ _); (rename Fr _ _ _ _ => lF'); (with_unfolding_all refine' For_invVF lF' ?k1r1 ?k2r1 ?_; (case k1r1 => exact rfl); (case k2r1 => exact rfl); k_whole))
  k_with "exec For Name Name cons nil" => (k_here; (with_reducible show wpAny _ _ (exec (Stmt.For _ _ _ [] _) _) _ _ _); (rename Fr _ _ _ _ => lF'); (with_unfolding_all refine' For_invVF lF' ?k1r2 ?k2r2 ?_; (case k1r2 => exact rfl); (case k2r2 => exact rfl); k_whole))
  k_with "exec For Name Subscript cons nil" => (k_here; (with_reducible show wpAny _ _ (exec (Stmt.For _ _ _ [] _) _) _ _ _); (rename Fr _ _ _ _ => lF'); (with_unfolding_all refine' For_invVF lF' ?k1r3 ?k2r3 ?_; (case k1r3 => exact rfl); (case k2r3 => exact rfl); k_whole))
  intro hB X' T' aO aG aP N0 nO nG nP a b c d M w0 w1 w2 w3 b0 b1 b2 b3 e0 e1 e2 e3 g0 g1 g2 g3 p0 p1 p2 p3 tS tH vB vW vI vT u h qa qb qc qd hw6 hb6 hM hMl hO hG hP F N
  have N1 : News h₀ L h ((aO, listOf #[.int (a : Int) e0, .int (b : Int) e1, .int (c : Int) e2, .int (d : Int) e3] nO) :: N0) := fun p hp => by
    rcases List.mem_cons.mp hp with rfl | hp
    · exact N _ hO
    · exact N _ hp
  have T0 := turnF w p loose mean mg mb L fa h₀ s hB X' T'
  dsimp only [lawPart, lawFor, forPart, lawEnv, lawA, lawFn, scopeOf, PySem.Challenge.pw_yh0007_01, lastOf, bodyOf, List.drop, List.take] at T0
  clear N
  dsimp only [frm] at F
  refine Box.mk ?_
  dsimp only [lawPart, lawFor, forPart, lawEnv, lawA, lawFn, scopeOf, PySem.Challenge.pw_yh0007_01, lastOf, bodyOf, List.drop, List.take]
  k_fold
  walk_at "steps to iter"
  rename Fr h₀ L _ _ => F1
  rename News h₀ L _ _ => N1
  have hw4 := at4_in6 hw6
  have hb4 := at4_in6 hb6
  with_unfolding_all refine iter_listUnr (lo := listOf #[.int (a : Int) e0, .int (b : Int) e1, .int (c : Int) e2, .int (d : Int) e3] nO) (vs := [.int (a : Int) e0, .int (b : Int) e1, .int (c : Int) e2, .int (d : Int) e3]) (by rfl) F1 N1 (List.Mem.head _) (by rfl) (by rfl) ?_
  intro I l1
  refine list_ind _ (fun i m news => ∃ (u : Str → Option Value) (t : Tok) (r : List (Addr × Obj)), m = frm [(Str.ofString "there", .str (lineS (runT (at4 w0 w1 w2 w3) (at4 b0 b1 b2 b3) (([a, b, c, d] : List Nat).take i)).1 M (runT (at4 w0 w1 w2 w3) (at4 b0 b1 b2 b3) (([a, b, c, d] : List Nat).take i)).2) t), (Str.ofString "order", .ref aO), (Str.ofString "brings", vB), (Str.ofString "wants", vW), (Str.ofString "ports", .ref aP), (Str.ofString "gifts", .ref aG), (Str.ofString "ink", vI), (Str.ofString "start", .str (lineS 0 M 21) tS)] u ∧ news = r ++ N0 ∧ ∀ p ∈ r ++ N0, @LT.lt Nat _ p.1 I) ?_ ?_ ?_ (List.Mem.head _)
  · rintro i v m1 news1 hv ⟨u1, t1, r, rfl, rfl, hI⟩ hlp R hR it h2 tk2 F2 N3
    obtain ⟨q, tq, rfl, hqi⟩ := ints_at4 hv
    have hq4 : q < 4 := by
      have hm := List.mem_of_getElem? hqi
      simp only [List.mem_cons, List.not_mem_nil, or_false] at hm
      omega
    have bnd := runT_bnd (w := (at4 w0 w1 w2 w3)) (b := (at4 b0 b1 b2 b3)) hb4 (([a, b, c, d] : List Nat).take i) (by rw [List.length_take]; exact Nat.min_le_right _ _)
    refine Box.out ?_
    refine box_mono (T0 I aG aP it (r ++ N0) nG nP _ _ q M w0 w1 w2 w3 b0 b1 b2 b3 g0 g1 g2 g3 p0 p1 p2 p3 tq t1 tk2 (.ref aO) vB vW vI (.str (lineS 0 M 21) tS) vT u1 h2 hq4 (hw4 q) (hb4 q) hM (by omega) F2 (sub_turn N3 hG hP)) ?_
    rintro fl s' ⟨rfl, zz⟩
    refine exE4 zz ?_
    clear zz
    rintro h' tk' u' t1 ⟨rfl, F', N'⟩
    have F9 := fr_frm F' [(Str.ofString "there", .str (lineS (stepT (at4 w0 w1 w2 w3) (at4 b0 b1 b2 b3) (runT (at4 w0 w1 w2 w3) (at4 b0 b1 b2 b3) (([a, b, c, d] : List Nat).take i)) q).1 M (stepT (at4 w0 w1 w2 w3) (at4 b0 b1 b2 b3) (runT (at4 w0 w1 w2 w3) (at4 b0 b1 b2 b3) (([a, b, c, d] : List Nat).take i)) q).2) t1), (Str.ofString "order", .ref aO), (Str.ofString "brings", vB), (Str.ofString "wants", vW), (Str.ofString "ports", .ref aP), (Str.ofString "gifts", .ref aG), (Str.ofString "ink", vI), (Str.ofString "start", .str (lineS 0 M 21) tS)] ⟨rfl, rfl, rfl, rfl, rfl, rfl, rfl, rfl, trivial⟩
    rw [← runT_snoc, ← take4 hqi] at F9
    exact UnrEnd.intro F9 N' (r ++ N0) (fun p hp => mem_turn hp) (fun p hp => Nat.ne_of_lt (hI p hp)) ⟨hlp, hR _ _ ⟨_, _, r, rfl, rfl, hI⟩ hlp⟩
  · rintro m1 news1 h2 tk2 ⟨u1, t1, r, rfl, rfl, hI⟩ F2 N3
    dsimp only
    k_steps
    show _ ∧ _
    exact ⟨rfl, exI4 (a2 := u1) (a3 := t1) ⟨rfl, F2, cb_drop N3 fun p hp => List.mem_append_right _ hp⟩⟩
  · exact ⟨_, _, [_], rfl, rfl, l1⟩
end Mine
end
section -- LQg
open PySem PySem.W PySem.Calls PyProof.Rows PySem.Spec
namespace Mine
theorem backS (w : World) (p : Program) (loose : List Str) (mean : ExcName → Option Value) (mg mb : Str → Option Value) (L fa : Nat) (h₀ : Heap) (s : Shared) :
    Below callerA h₀ [] h₀ → (hd.heap_39 w.params).In h₀ → Top p loose mean mg mb h₀ →
    ∀ (aO aG aP : Nat) (N0 : List (Addr × Obj)) (nO nG nP : Nat) (a b c d : Nat) (M : List Nat) (w0 w1 w2 w3 b0 b1 b2 b3 : Int) (e0 e1 e2 e3 g0 g1 g2 g3 p0 p1 p2 p3 tS tH : Tok) (vB vW vI vT : Value) (u : Str → Option Value) (h : Heap), a < 4 → b < 4 → c < 4 → d < 4 → In6 w0 ∧ In6 w1 ∧ In6 w2 ∧ In6 w3 → In6 b0 ∧ In6 b1 ∧ In6 b2 ∧ In6 b3 → Solid M → M.length ≤ 100 → (aO, listOf #[.int (a : Int) e0, .int (b : Int) e1, .int (c : Int) e2, .int (d : Int) e3] nO) ∈ N0 → (aG, listOf #[.str (blanks b0) g0, .str (blanks b1) g1, .str (blanks b2) g2, .str (blanks b3) g3] nG) ∈ N0 → (aP, listOf #[.int w0 p0, .int w1 p1, .int w2 p2, .int w3 p3] nP) ∈ N0 →
      Fr h₀ L h (frm [(Str.ofString "there", vT), (Str.ofString "order", .ref aO), (Str.ofString "brings", vB), (Str.ofString "wants", vW), (Str.ofString "ports", .ref aP), (Str.ofString "gifts", .ref aG), (Str.ofString "ink", vI), (Str.ofString "start", .str (lineS 0 M 21) tS)] u) → News h₀ L h N0 →
      Box (wpAny (model PySem.Challenge.rw_yh0007_01.row.prog w) (lawA L fa) (execs (lawPart 15 2) (lawEnv L fa)) (fun f s' => Hold (f = .next ∧ ∃ h' tk' u' t1, s' = { s with heap := h', toks := tk' } ∧ Fr h₀ L h' (frm [(Str.ofString "back", .str (lineS (runT (at4 b0 b1 b2 b3) (at4 w0 w1 w2 w3) [d, c, b, a]).1 M (runT (at4 b0 b1 b2 b3) (at4 w0 w1 w2 w3) [d, c, b, a]).2) t1), (Str.ofString "there", vT), (Str.ofString "order", .ref aO), (Str.ofString "brings", vB), (Str.ofString "wants", vW), (Str.ofString "ports", .ref aP), (Str.ofString "gifts", .ref aG), (Str.ofString "ink", vI), (Str.ofString "start", .str (lineS 0 M 21) tS)] u') ∧ News h₀ L h' N0)) (fun _ _ => False) { s with heap := h, toks := tH }) := by
  w_top off
  k_fill
  k_with_none
  k_with "andf" => first | exact And.left (by with_reducible assumption) | exact And.left (And.right (by with_reducible assumption)) | exact And.left (And.right (And.right (by with_reducible assumption))) | exact And.left (And.right (And.right (And.right (by with_reducible assumption)))) | exact And.left (And.right (And.right (And.right (And.right (by with_reducible assumption))))) | exact And.left (And.right (And.right (And.right (And.right (And.right (by with_reducible assumption)))))) | exact And.right (by with_reducible assumption) | exact And.right (And.right (by with_reducible assumption)) | exact And.right (And.right (And.right (by with_reducible assumption)))
  k_with "lt" => first | with_reducible assumption | exact And.left (by with_reducible assumption) | exact And.left (And.right (by with_reducible assumption)) | exact And.left (And.right (And.right (by with_reducible assumption))) | exact And.left (And.right (And.right (And.right (by with_reducible assumption)))) | exact And.left (And.right (And.right (And.right (And.right (by with_reducible assumption))))) | exact And.left (And.right (And.right (And.right (And.right (And.right (by with_reducible assumption)))))) | (refine Nat.lt_trans (by with_reducible assumption) ?_; k_extra "lt")
  k_with "ne" => first | with_reducible assumption | exact Ne.symm (by with_reducible assumption) | (refine Nat.ne_of_lt ?_; k_extra "lt") | (refine Nat.ne_of_gt ?_; k_extra "lt") | k_extra "andf" | (refine Ne.symm ?_; k_extra "andf") | (refine Nat.ne_of_lt ?_; k_extra "lt2") | (refine Nat.ne_of_gt ?_; k_extra "lt2")
  k_with "lt2" => first | exact Nat.lt_trans (And.left (by with_reducible assumption)) (by with_reducible assumption) | exact Nat.lt_trans (And.left (And.right (by with_reducible assumption))) (by with_reducible assumption) | exact Nat.lt_trans (And.left (And.right (And.right (by with_reducible assumption)))) (by with_reducible assumption) | exact Nat.lt_trans (And.left (And.right (And.right (And.right (by with_reducible assumption))))) (by with_reducible assumption) | exact Nat.lt_trans (And.left (And.right (And.right (And.right (And.right (by with_reducible assumption)))))) (by with_reducible assumption) | exact Nat.lt_trans (And.left (And.right (And.right (And.right (And.right (And.right (by with_reducible assumption))))))) (by with_reducible assumption) | exact Nat.lt_trans (And.left (And.right (And.right (And.right (And.right (And.right (And.right (by with_reducible assumption)))))))) (by with_reducible assumption) | exact Nat.lt_trans (And.left (And.right (And.right (And.right (And.right (And.right (And.right (And.right (by with_reducible assumption))))))))) (by with_reducible assumption) | exact Nat.lt_trans (And.left (And.right (And.right (And.right (And.right (And.right (And.right (And.right (And.right (by with_reducible assumption)))))))))) (by with_reducible assumption) | exact Nat.lt_trans (And.left (And.right (And.right (And.right (And.right (And.right (And.right (And.right (And.right (And.right (by with_reducible assumption))))))))))) (by with_reducible assumption)
  k_with "omega" => first | safely (k_dflt (k_extra "om")) | safely (k_dflt lia)
  k_with "om" => first | with_reducible assumption | ((with_reducible show (_ : Nat) < _); first | exact Nat.lt_succ_self _ | decide | exact ltNl (by with_reducible assumption) (by rfl) | exact ltNl (And.left (by with_reducible assumption)) (by rfl) | exact ltNl (And.right (by with_reducible assumption)) (by rfl) | k_extra "lt") | ((with_reducible show (_ : Nat) ≤ _); first | exact Nat.le_refl _ | decide | exact leNl (by with_reducible assumption) (by rfl) | exact leNl (And.left (by with_reducible assumption)) (by rfl) | exact leNl (And.right (by with_reducible assumption)) (by rfl) | exact leNl2 (by with_reducible assumption) (by rfl) | exact leNl2 (And.left (by with_reducible assumption)) (by rfl) | exact leNl2 (And.right (by with_reducible assumption)) (by rfl) | (refine Nat.le_of_lt ?_; k_extra "lt")) | ((with_reducible show (_ : Int) < _); first | decide | k_extra "andf" | exact ltIl (by with_reducible assumption) (by rfl) | exact ltIl (And.left (by with_reducible assumption)) (by rfl) | exact ltIl (And.right (by with_reducible assumption)) (by rfl) | exact loIt (by with_reducible assumption) (by rfl) | exact loIt (And.left (by with_reducible assumption)) (by rfl) | exact loIt (And.right (by with_reducible assumption)) (by rfl) | exact loP (by with_reducible assumption) | exact loP (And.left (by with_reducible assumption)) | exact loP (And.right (by with_reducible assumption)) | exact hiP (by with_reducible assumption) (by rfl) | exact hiP (And.left (by with_reducible assumption)) (by rfl) | exact hiP (And.right (by with_reducible assumption)) (by rfl)) | ((with_reducible show (_ : Int) ≤ _); first | decide | k_extra "andf" | exact leIl (by with_reducible assumption) (by rfl) | exact leIl (And.left (by with_reducible assumption)) (by rfl) | exact leIl (And.right (by with_reducible assumption)) (by rfl) | exact leIl2 (by with_reducible assumption) (by rfl) | exact leIl2 (And.left (by with_reducible assumption)) (by rfl) | exact leIl2 (And.right (by with_reducible assumption)) (by rfl) | exact loI (by with_reducible assumption) (by rfl) | exact loI (And.left (by with_reducible assumption)) (by rfl) | exact loI (And.right (by with_reducible assumption)) (by rfl) | exact Int.le_of_lt (by with_reducible assumption)) | ((with_reducible show (_ : Nat) ≠ _); k_extra "ne")
  k_with "steps to iter" => repeat' (first | (k_unfold; (try dsimp only)) | (k_end; wrow_close) | ((fail_if_success (with_reducible show wpAny _ _ (pyIter (Value.ref _)) _ _ _)); (first | walk1 | (dsimp only; walk1) | (leave1; walk_say "STEP leave1"; try dsimp only))) | fail "no step")
  k_with "exec For" => (k_here; (with_reducible show wpAny _ _ (exec (Stmt.For _ _ _ [] _) _) _ _ _); (rename Fr _ _ _ _ => lF'); (with_unfolding_all refine' For_invVF lF' ?k1r1 ?k2r1 ?_; (case k1r1 => exact rfl); (case k2r1 => exact rfl); k_whole))
  k_with "exec For Name Name cons nil" => (k_here; (with_reducible show wpAny _ _ (exec (Stmt.For _ _ _ [] _) _) _ _ _); (rename Fr _ _ _ _ => lF'); (with_unfolding_all refine' For_invVF lF' ?k1r2 ?k2r2 ?_; (case k1r2 => exact rfl); (case k2r2 => exact rfl); k_whole))
  k_with "exec For Name Subscript cons nil" => (k_here; (with_reducible show wpAny _ _ (exec (Stmt.For _ _ _ [] _) _) _ _ _); (rename Fr _ _ _ _ => lF'); (with_unfolding_all refine' For_invVF lF' ?k1r3 ?k2r3 ?_; (case k1r3 => exact rfl); (case k2r3 => exact rfl); k_whole))
  intro hB X' T' aO aG aP N0 nO nG nP a b c d M w0 w1 w2 w3 b0 b1 b2 b3 e0 e1 e2 e3 g0 g1 g2 g3 p0 p1 p2 p3 tS tH vB vW vI vT u h qa qb qc qd hw6 hb6 hM hMl hO hG hP F N
  have N1 : News h₀ L h ((aO, listOf #[.int (a : Int) e0, .int (b : Int) e1, .int (c : Int) e2, .int (d : Int) e3] nO) :: N0) := fun p hp => by
    rcases List.mem_cons.mp hp with rfl | hp
    · exact N _ hO
    · exact N _ hp
  have T0 := turnG w p loose mean mg mb L fa h₀ s hB X' T'
  dsimp only [lawPart, lawFor, forPart, lawEnv, lawA, lawFn, scopeOf, PySem.Challenge.pw_yh0007_01, lastOf, bodyOf, List.drop, List.take] at T0
  clear N
  dsimp only [frm] at F
  refine Box.mk ?_
  dsimp only [lawPart, lawFor, forPart, lawEnv, lawA, lawFn, scopeOf, PySem.Challenge.pw_yh0007_01, lastOf, bodyOf, List.drop, List.take]
  k_fold
  walk_at "steps to iter"
  rename Fr h₀ L _ _ => F1
  rename News h₀ L _ _ => N1
  have hw4 := at4_in6 hw6
  have hb4 := at4_in6 hb6
  with_unfolding_all refine iter_listUnr (lo := listOf #[.int (d : Int) e3, .int (c : Int) e2, .int (b : Int) e1, .int (a : Int) e0] 0) (vs := [.int (d : Int) e3, .int (c : Int) e2, .int (b : Int) e1, .int (a : Int) e0]) (by rfl) F1 N1 (List.Mem.head _) (by rfl) (by rfl) ?_
  intro I l1
  refine list_ind _ (fun i m news => ∃ (u : Str → Option Value) (t : Tok) (r : List (Addr × Obj)), m = frm [(Str.ofString "back", .str (lineS (runT (at4 b0 b1 b2 b3) (at4 w0 w1 w2 w3) (([d, c, b, a] : List Nat).take i)).1 M (runT (at4 b0 b1 b2 b3) (at4 w0 w1 w2 w3) (([d, c, b, a] : List Nat).take i)).2) t), (Str.ofString "there", vT), (Str.ofString "order", .ref aO), (Str.ofString "brings", vB), (Str.ofString "wants", vW), (Str.ofString "ports", .ref aP), (Str.ofString "gifts", .ref aG), (Str.ofString "ink", vI), (Str.ofString "start", .str (lineS 0 M 21) tS)] u ∧ news = r ++ N0 ∧ ∀ p ∈ r ++ N0, @LT.lt Nat _ p.1 I) ?_ ?_ ?_ (List.Mem.head _)
  · rintro i v m1 news1 hv ⟨u1, t1, r, rfl, rfl, hI⟩ hlp R hR it h2 tk2 F2 N3
    obtain ⟨q, tq, rfl, hqi⟩ := ints_at4 hv
    have hq4 : q < 4 := by
      have hm := List.mem_of_getElem? hqi
      simp only [List.mem_cons, List.not_mem_nil, or_false] at hm
      omega
    have bnd := runT_bnd (w := (at4 b0 b1 b2 b3)) (b := (at4 w0 w1 w2 w3)) hw4 (([d, c, b, a] : List Nat).take i) (by rw [List.length_take]; exact Nat.min_le_right _ _)
    refine Box.out ?_
    refine box_mono (T0 I aG aP it (r ++ N0) nG nP _ _ q M w0 w1 w2 w3 b0 b1 b2 b3 g0 g1 g2 g3 p0 p1 p2 p3 tq t1 tk2 (.ref aO) vB vW vI (.str (lineS 0 M 21) tS) vT u1 h2 hq4 (hw4 q) (hb4 q) hM (by omega) F2 (sub_turn N3 hG hP)) ?_
    rintro fl s' ⟨rfl, zz⟩
    refine exE4 zz ?_
    clear zz
    rintro h' tk' u' t1 ⟨rfl, F', N'⟩
    have F9 := fr_frm F' [(Str.ofString "back", .str (lineS (stepT (at4 b0 b1 b2 b3) (at4 w0 w1 w2 w3) (runT (at4 b0 b1 b2 b3) (at4 w0 w1 w2 w3) (([d, c, b, a] : List Nat).take i)) q).1 M (stepT (at4 b0 b1 b2 b3) (at4 w0 w1 w2 w3) (runT (at4 b0 b1 b2 b3) (at4 w0 w1 w2 w3) (([d, c, b, a] : List Nat).take i)) q).2) t1), (Str.ofString "there", vT), (Str.ofString "order", .ref aO), (Str.ofString "brings", vB), (Str.ofString "wants", vW), (Str.ofString "ports", .ref aP), (Str.ofString "gifts", .ref aG), (Str.ofString "ink", vI), (Str.ofString "start", .str (lineS 0 M 21) tS)] ⟨rfl, rfl, rfl, rfl, rfl, rfl, rfl, rfl, rfl, trivial⟩
    rw [← runT_snoc, ← take4 hqi] at F9
    exact UnrEnd.intro F9 N' (r ++ N0) (fun p hp => mem_turn hp) (fun p hp => Nat.ne_of_lt (hI p hp)) ⟨hlp, hR _ _ ⟨_, _, r, rfl, rfl, hI⟩ hlp⟩
  · rintro m1 news1 h2 tk2 ⟨u1, t1, r, rfl, rfl, hI⟩ F2 N3
    dsimp only
    k_steps
    show _ ∧ _
    exact ⟨rfl, exI4 (a2 := u1) (a3 := t1) ⟨rfl, F2, cb_drop N3 fun p hp => List.mem_append_right _ hp⟩⟩
  · exact ⟨_, _, [_, _], rfl, rfl, l1⟩
end Mine
end
section -- LR
open PySem PySem.W PySem.Calls PyProof.Rows PySem.Spec
namespace Mine
theorem purseS (w : World) (p : Program) (loose : List Str) (mean : ExcName → Option Value) (mg mb : Str → Option Value) (L fa : Nat) (h₀ : Heap) (s : Shared) :
    Below callerA h₀ [] h₀ → (hd.heap_39 w.params).In h₀ → Top p loose mean mg mb h₀ →
    ∀ (N0 : List (Addr × Obj)) (P : Int) (aB aW aG aP : Nat) (X1 Y1 X2 Y2 : Nat) (M : List Nat) (T : Str) (w0 w1 w2 w3 b0 b1 b2 b3 : Int) (y0 y1 y2 y3 z0 z1 z2 z3 t0 t1 t2 tH : Tok) (vO vS : Value) (u : Str → Option Value) (h : Heap), purseP [w0, w1, w2, w3] [b0, b1, b2, b3] (upto 24) = P →
      Fr h₀ L h (frm [(Str.ofString "back", .str (lineS X2 M Y2) t2), (Str.ofString "there", .str (lineS X1 M Y1) t1), (Str.ofString "order", vO), (Str.ofString "brings", .ref aB), (Str.ofString "wants", .ref aW), (Str.ofString "ports", .ref aP), (Str.ofString "gifts", .ref aG), (Str.ofString "ink", .str T t0), (Str.ofString "start", vS)] u) → News h₀ L h ((aB, LCg.lst [.int b0 y0, .int b1 y1, .int b2 y2, .int b3 y3]) :: (aW, LCg.lst [.int w0 z0, .int w1 z1, .int w2 z2, .int w3 z3]) :: N0) →
      Box (wpAny (model PySem.Challenge.rw_yh0007_01.row.prog w) (lawA L fa) (execs (lawPart 17 2) (lawEnv L fa)) (fun f s' => Hold (f = .next ∧ ∃ h' tk' u' ta tp, s' = { s with heap := h', toks := tk' } ∧ Fr h₀ L h' (frm [(Str.ofString "ahead", .int (P + (b0 + (b1 + (b2 + (b3 + 0)))) - (w0 + (w1 + (w2 + (w3 + 0))))) ta), (Str.ofString "purse", .int P tp), (Str.ofString "back", .str (lineS X2 M Y2) t2), (Str.ofString "there", .str (lineS X1 M Y1) t1), (Str.ofString "ink", .str T t0)] u') ∧ News h₀ L h' ((aB, LCg.lst [.int b0 y0, .int b1 y1, .int b2 y2, .int b3 y3]) :: (aW, LCg.lst [.int w0 z0, .int w1 z1, .int w2 z2, .int w3 z3]) :: N0))) (fun _ _ => False) { s with heap := h, toks := tH }) := by
  w_top off
  k_fill
  k_with_none
  k_with "andf" => first | exact And.left (by with_reducible assumption) | exact And.left (And.right (by with_reducible assumption)) | exact And.left (And.right (And.right (by with_reducible assumption))) | exact And.left (And.right (And.right (And.right (by with_reducible assumption)))) | exact And.left (And.right (And.right (And.right (And.right (by with_reducible assumption))))) | exact And.left (And.right (And.right (And.right (And.right (And.right (by with_reducible assumption)))))) | exact And.right (by with_reducible assumption) | exact And.right (And.right (by with_reducible assumption)) | exact And.right (And.right (And.right (by with_reducible assumption)))
  k_with "lt" => first | with_reducible assumption | exact And.left (by with_reducible assumption) | exact And.left (And.right (by with_reducible assumption)) | exact And.left (And.right (And.right (by with_reducible assumption))) | exact And.left (And.right (And.right (And.right (by with_reducible assumption)))) | exact And.left (And.right (And.right (And.right (And.right (by with_reducible assumption))))) | exact And.left (And.right (And.right (And.right (And.right (And.right (by with_reducible assumption)))))) | (refine Nat.lt_trans (by with_reducible assumption) ?_; k_extra "lt")
  k_with "ne" => first | with_reducible assumption | exact Ne.symm (by with_reducible assumption) | (refine Nat.ne_of_lt ?_; k_extra "lt") | (refine Nat.ne_of_gt ?_; k_extra "lt") | k_extra "andf" | (refine Ne.symm ?_; k_extra "andf") | (refine Nat.ne_of_lt ?_; k_extra "lt2") | (refine Nat.ne_of_gt ?_; k_extra "lt2")
  k_with "lt2" => first | exact Nat.lt_trans (And.left (by with_reducible assumption)) (by with_reducible assumption) | exact Nat.lt_trans (And.left (And.right (by with_reducible assumption))) (by with_reducible assumption) | exact Nat.lt_trans (And.left (And.right (And.right (by with_reducible assumption)))) (by with_reducible assumption) | exact Nat.lt_trans (And.left (And.right (And.right (And.right (by with_reducible assumption))))) (by with_reducible assumption) | exact Nat.lt_trans (And.left (And.right (And.right (And.right (And.right (by with_reducible assumption)))))) (by with_reducible assumption) | exact Nat.lt_trans (And.left (And.right (And.right (And.right (And.right (And.right (by with_reducible assumption))))))) (by with_reducible assumption) | exact Nat.lt_trans (And.left (And.right (And.right (And.right (And.right (And.right (And.right (by with_reducible assumption)))))))) (by with_reducible assumption) | exact Nat.lt_trans (And.left (And.right (And.right (And.right (And.right (And.right (And.right (And.right (by with_reducible assumption))))))))) (by with_reducible assumption) | exact Nat.lt_trans (And.left (And.right (And.right (And.right (And.right (And.right (And.right (And.right (And.right (by with_reducible assumption)))))))))) (by with_reducible assumption) | exact Nat.lt_trans (And.left (And.right (And.right (And.right (And.right (And.right (And.right (And.right (And.right (And.right (by with_reducible assumption))))))))))) (by with_reducible assumption)
  k_with "omega" => first | safely (k_dflt (k_extra "om")) | safely (k_dflt lia)
  k_with "om" => first | with_reducible assumption | ((with_reducible show (_ : Nat) < _); first | exact Nat.lt_succ_self _ | decide | exact ltNl (by with_reducible assumption) (by rfl) | exact ltNl (And.left (by with_reducible assumption)) (by rfl) | exact ltNl (And.right (by with_reducible assumption)) (by rfl) | k_extra "lt") | ((with_reducible show (_ : Nat) ≤ _); first | exact Nat.le_refl _ | decide | exact leNl (by with_reducible assumption) (by rfl) | exact leNl (And.left (by with_reducible assumption)) (by rfl) | exact leNl (And.right (by with_reducible assumption)) (by rfl) | exact leNl2 (by with_reducible assumption) (by rfl) | exact leNl2 (And.left (by with_reducible assumption)) (by rfl) | exact leNl2 (And.right (by with_reducible assumption)) (by rfl) | (refine Nat.le_of_lt ?_; k_extra "lt")) | ((with_reducible show (_ : Int) < _); first | decide | k_extra "andf" | exact ltIl (by with_reducible assumption) (by rfl) | exact ltIl (And.left (by with_reducible assumption)) (by rfl) | exact ltIl (And.right (by with_reducible assumption)) (by rfl) | exact loIt (by with_reducible assumption) (by rfl) | exact loIt (And.left (by with_reducible assumption)) (by rfl) | exact loIt (And.right (by with_reducible assumption)) (by rfl) | exact loP (by with_reducible assumption) | exact loP (And.left (by with_reducible assumption)) | exact loP (And.right (by with_reducible assumption)) | exact hiP (by with_reducible assumption) (by rfl) | exact hiP (And.left (by with_reducible assumption)) (by rfl) | exact hiP (And.right (by with_reducible assumption)) (by rfl)) | ((with_reducible show (_ : Int) ≤ _); first | decide | k_extra "andf" | exact leIl (by with_reducible assumption) (by rfl) | exact leIl (And.left (by with_reducible assumption)) (by rfl) | exact leIl (And.right (by with_reducible assumption)) (by rfl) | exact leIl2 (by with_reducible assumption) (by rfl) | exact leIl2 (And.left (by with_reducible assumption)) (by rfl) | exact leIl2 (And.right (by with_reducible assumption)) (by rfl) | exact loI (by with_reducible assumption) (by rfl) | exact loI (And.left (by with_reducible assumption)) (by rfl) | exact loI (And.right (by with_reducible assumption)) (by rfl) | exact Int.le_of_lt (by with_reducible assumption)) | ((with_reducible show (_ : Nat) ≠ _); k_extra "ne")
  k_with "call ref" => (k_here; (with_reducible show wpAny _ _ (call (Value.ref 128) _) _ _ _); k_dflt (refine' hold_of ?_))
  intro hB X' T' N0 P aB aW aG aP X1 Y1 X2 Y2 M T w0 w1 w2 w3 b0 b1 b2 b3 y0 y1 y2 y3 z0 z1 z2 z3 t0 t1 t2 tH vO vS u h hP F N
  refine Box.mk ?_
  dsimp only [lawPart, lawFor, forPart, lawEnv, lawA, lawFn, scopeOf, PySem.Challenge.pw_yh0007_01, lastOf, bodyOf, List.drop, List.take]
  k_fold
  dsimp only [frm] at F
  k_steps
  unfold Hold
  refine' C_purse w p loose mean mg mb aW aB [.int w0 z0, .int w1 z1, .int w2 z2, .int w3 z3] [.int b0 y0, .int b1 y1, .int b2 y2, .int b3 y3] [w0, w1, w2, w3] [b0, b1, b2, b3] (.cons _ _ (.cons _ _ (.cons _ _ (.cons _ _ .nil)))) (.cons _ _ (.cons _ _ (.cons _ _ (.cons _ _ .nil)))) rfl rfl _ _ _ _ _ _ _ _ _ _ _ _ _ _ _ _ _ ?k1 F X' T' ?kK ?kd ?ku ?l1 ?l2 ?_
  case k1 => k_asm
  case kK => exact rfl
  case kd => ktr_room
  case ku => ktr_units
  case l1 => is_list
  case l2 => is_list
  intro t9 h9 tk9 F9 keep9
  have N9 := news_keep N keep9
  clear F N keep9
  dsimp only
  rw [hP]
  clear hP
  k_steps
  show _ ∧ _
  exact ⟨rfl, exI5 ⟨rfl, fr_frm (by assumption) _ ⟨rfl, rfl, rfl, rfl, rfl, trivial⟩, by assumption⟩⟩
end Mine
end
section -- LZ
open PySem PySem.W PySem.Calls PyProof.Rows PySem.Spec
namespace Mine
theorem retS (w : World) (p : Program) (loose : List Str) (mean : ExcName → Option Value) (mg mb : Str → Option Value) (L fa : Nat) (h₀ : Heap) (s : Shared) :
    Below callerA h₀ [] h₀ → (hd.heap_39 w.params).In h₀ → Top p loose mean mg mb h₀ →
    ∀ (N0 : List (Addr × Obj)) (P Z : Int) (X1 Y1 X2 Y2 : Nat) (M : List Nat) (T : Str) (ta tp t0 t1 t2 tH : Tok) (u : Str → Option Value) (h : Heap), T = ⟨M.toArray⟩ → T.length ≤ 100 → 0 ≤ P → P ≤ 21 → 0 ≤ Z → Z ≤ 21 →
      X1 = Z.toNat → Y1 = (21 - P).toNat → X2 = P.toNat → Y2 = (21 - Z).toNat →
      Fr h₀ L h (frm [(Str.ofString "ahead", .int Z ta), (Str.ofString "purse", .int P tp), (Str.ofString "back", .str (lineS X2 M Y2) t2), (Str.ofString "there", .str (lineS X1 M Y1) t1), (Str.ofString "ink", .str T t0)] u) → News h₀ L h N0 →
      Box (wpAny (model PySem.Challenge.rw_yh0007_01.row.prog w) (lawA L fa) (execs (lawPart 19 1) (lawEnv L fa)) (fun f s' => Hold (f = .ret (.bool true) ∧ ∃ h' tk' u', s' = { s with heap := h', toks := tk' } ∧ Fr h₀ L h' u' ∧ News h₀ L h' N0)) (fun _ _ => False) { s with heap := h, toks := tH }) := by
  w_top off
  k_fill
  k_with_none
  k_with "andf" => first | exact And.left (by with_reducible assumption) | exact And.left (And.right (by with_reducible assumption)) | exact And.left (And.right (And.right (by with_reducible assumption))) | exact And.left (And.right (And.right (And.right (by with_reducible assumption)))) | exact And.left (And.right (And.right (And.right (And.right (by with_reducible assumption))))) | exact And.left (And.right (And.right (And.right (And.right (And.right (by with_reducible assumption)))))) | exact And.right (by with_reducible assumption) | exact And.right (And.right (by with_reducible assumption)) | exact And.right (And.right (And.right (by with_reducible assumption)))
  k_with "lt" => first | with_reducible assumption | exact And.left (by with_reducible assumption) | exact And.left (And.right (by with_reducible assumption)) | exact And.left (And.right (And.right (by with_reducible assumption))) | exact And.left (And.right (And.right (And.right (by with_reducible assumption)))) | exact And.left (And.right (And.right (And.right (And.right (by with_reducible assumption))))) | exact And.left (And.right (And.right (And.right (And.right (And.right (by with_reducible assumption)))))) | (refine Nat.lt_trans (by with_reducible assumption) ?_; k_extra "lt")
  k_with "ne" => first | with_reducible assumption | exact Ne.symm (by with_reducible assumption) | (refine Nat.ne_of_lt ?_; k_extra "lt") | (refine Nat.ne_of_gt ?_; k_extra "lt") | k_extra "andf" | (refine Ne.symm ?_; k_extra "andf") | (refine Nat.ne_of_lt ?_; k_extra "lt2") | (refine Nat.ne_of_gt ?_; k_extra "lt2")
  k_with "lt2" => first | exact Nat.lt_trans (And.left (by with_reducible assumption)) (by with_reducible assumption) | exact Nat.lt_trans (And.left (And.right (by with_reducible assumption))) (by with_reducible assumption) | exact Nat.lt_trans (And.left (And.right (And.right (by with_reducible assumption)))) (by with_reducible assumption) | exact Nat.lt_trans (And.left (And.right (And.right (And.right (by with_reducible assumption))))) (by with_reducible assumption) | exact Nat.lt_trans (And.left (And.right (And.right (And.right (And.right (by with_reducible assumption)))))) (by with_reducible assumption) | exact Nat.lt_trans (And.left (And.right (And.right (And.right (And.right (And.right (by with_reducible assumption))))))) (by with_reducible assumption) | exact Nat.lt_trans (And.left (And.right (And.right (And.right (And.right (And.right (And.right (by with_reducible assumption)))))))) (by with_reducible assumption) | exact Nat.lt_trans (And.left (And.right (And.right (And.right (And.right (And.right (And.right (And.right (by with_reducible assumption))))))))) (by with_reducible assumption) | exact Nat.lt_trans (And.left (And.right (And.right (And.right (And.right (And.right (And.right (And.right (And.right (by with_reducible assumption)))))))))) (by with_reducible assumption) | exact Nat.lt_trans (And.left (And.right (And.right (And.right (And.right (And.right (And.right (And.right (And.right (And.right (by with_reducible assumption))))))))))) (by with_reducible assumption)
  k_with "omega" => first | safely (k_dflt (k_extra "om")) | safely (k_dflt lia)
  k_with "om" => first | with_reducible assumption | ((with_reducible show (_ : Nat) < _); first | exact Nat.lt_succ_self _ | decide | exact ltNl (by with_reducible assumption) (by rfl) | exact ltNl (And.left (by with_reducible assumption)) (by rfl) | exact ltNl (And.right (by with_reducible assumption)) (by rfl) | k_extra "lt") | ((with_reducible show (_ : Nat) ≤ _); first | exact Nat.le_refl _ | decide | exact leNl (by with_reducible assumption) (by rfl) | exact leNl (And.left (by with_reducible assumption)) (by rfl) | exact leNl (And.right (by with_reducible assumption)) (by rfl) | exact leNl2 (by with_reducible assumption) (by rfl) | exact leNl2 (And.left (by with_reducible assumption)) (by rfl) | exact leNl2 (And.right (by with_reducible assumption)) (by rfl) | (refine Nat.le_of_lt ?_; k_extra "lt")) | ((with_reducible show (_ : Int) < _); first | decide | k_extra "andf" | exact ltIl (by with_reducible assumption) (by rfl) | exact ltIl (And.left (by with_reducible assumption)) (by rfl) | exact ltIl (And.right (by with_reducible assumption)) (by rfl) | exact loIt (by with_reducible assumption) (by rfl) | exact loIt (And.left (by with_reducible assumption)) (by rfl) | exact loIt (And.right (by with_reducible assumption)) (by rfl) | exact loP (by with_reducible assumption) | exact loP (And.left (by with_reducible assumption)) | exact loP (And.right (by with_reducible assumption)) | exact hiP (by with_reducible assumption) (by rfl) | exact hiP (And.left (by with_reducible assumption)) (by rfl) | exact hiP (And.right (by with_reducible assumption)) (by rfl)) | ((with_reducible show (_ : Int) ≤ _); first | decide | k_extra "andf" | exact leIl (by with_reducible assumption) (by rfl) | exact leIl (And.left (by with_reducible assumption)) (by rfl) | exact leIl (And.right (by with_reducible assumption)) (by rfl) | exact leIl2 (by with_reducible assumption) (by rfl) | exact leIl2 (And.left (by with_reducible assumption)) (by rfl) | exact leIl2 (And.right (by with_reducible assumption)) (by rfl) | exact loI (by with_reducible assumption) (by rfl) | exact loI (And.left (by with_reducible assumption)) (by rfl) | exact loI (And.right (by with_reducible assumption)) (by rfl) | exact Int.le_of_lt (by with_reducible assumption)) | ((with_reducible show (_ : Nat) ≠ _); k_extra "ne")
  intro hB X' T' N0 P Z X1 Y1 X2 Y2 M T ta tp t0 t1 t2 tH u h eT lT p0 p1 a0 a1 e1 e2 e3 e4 F NN
  have s1 := mul_lt (n := Z) (by omega) (by omega)
  have s2 := mul_lt (n := P) (by omega) (by omega)
  have s3 := mul_lt (n := 21 - Z) (by omega) (by omega)
  have s4 := mul_lt (n := 21 - P) (by omega) (by omega)
  have s5 : (Txt.mul (Str.ofString " ") Z ++ T).length < 2000 := app_lt s1 lT
  have s6 : (Txt.mul (Str.ofString " ") P ++ T).length < 2000 := app_lt s2 lT
  have hE1 := line_same Z (21 - P) M T X1 Y1 eT (by omega) (by omega) (by omega) (by omega) e1 e2
  have hE2 := line_same P (21 - Z) M T X2 Y2 eT (by omega) (by omega) (by omega) (by omega) e3 e4
  clear eT e1 e2 e3 e4
  refine Box.mk ?_
  dsimp only [lawPart, lawFor, forPart, lawEnv, lawA, lawFn, scopeOf, PySem.Challenge.pw_yh0007_01, lastOf, bodyOf, List.drop, List.take]
  k_fold
  dsimp only [frm] at F
  k_steps
  dsimp only
  rw [hE2]
  show _ ∧ _
  exact ⟨rfl, exI3 ⟨rfl, F, NN⟩⟩
end Mine
end
section -- LM
open PySem PySem.W PySem.Calls PyProof.Rows PySem.Spec
namespace Mine
theorem ints5 {vs : List Value} {cs : List Int} (h : IntsAre vs cs) (hl : cs.length = 5) : ∃ c0 c1 c2 c3 c4 t0 t1 t2 t3 t4, cs = [c0, c1, c2, c3, c4] ∧ vs = [.int c0 t0, .int c1 t1, .int c2 t2, .int c3 t3, .int c4 t4] := by
  refine len_e hl fun c0 s0 q0 l0 => len_e l0 fun c1 s1 q1 l1 => len_e l1 fun c2 s2 q2 l2 => len_e l2 fun c3 s3 q3 l3 => len_e l3 fun c4 s4 q4 l4 => ?_
  have qc := eq5 q0 q1 q2 q3 q4 (List.eq_nil_of_length_eq_zero l4)
  rw [qc] at h
  refine ints_e h fun t0 r0 e0 h0 => ints_e h0 fun t1 r1 e1 h1 => ints_e h1 fun t2 r2 e2 h2 => ints_e h2 fun t3 r3 e3 h3 => ints_e h3 fun t4 r4 e4 h4 => ?_
  exact exI5 (a0 := c0) (a1 := c1) (a2 := c2) (a3 := c3) (a4 := c4) (exI5 (a0 := t0) (a1 := t1) (a2 := t2) (a3 := t3) (a4 := t4) ⟨qc, eq5 e0 e1 e2 e3 e4 (ints_nil h4)⟩)
theorem txts4 {vs : List Value} {a b c d : Str} (h : TxtsAre vs [a, b, c, d]) : ∃ t0 t1 t2 t3, vs = [.str a t0, .str b t1, .str c t2, .str d t3] := by
  refine txts_e h fun t0 r0 e0 h0 => txts_e h0 fun t1 r1 e1 h1 => txts_e h1 fun t2 r2 e2 h2 => txts_e h2 fun t3 r3 e3 h3 => ?_
  exact exI4 (a0 := t0) (a1 := t1) (a2 := t2) (a3 := t3) (eq4 e0 e1 e2 e3 (txts_nil h3))
theorem arr_of {α : Type} {a : Array α} {l : List α} (h : a.toList = l) : a = l.toArray := by rw [← h]
theorem nm_ok : ∀ n ∈ [(0:Int), 1, 2, 3, 4, 5], ∀ b ∈ [(0:Int), 1, 2, 3, 4, 5], PyData.strOk (nmS n b) = true := by decide +kernel
theorem nm_ok' (c : Int) : PyData.strOk (nmS (wantC c) (bringC c)) = true := nm_ok _ (mem6x (wantC_lt c)) _ (mem6x (bringC_lt c))
theorem ink_self (i : Int) : inkT i = ⟨(inkM i).toArray⟩ := by
  unfold inkM
  cases inkT i
  rfl
theorem ink_facts (i : Int) (h : 0 ≤ i ∧ i < 4) : Solid (inkM i) ∧ (inkM i).length ≤ 100 ∧ (inkT i).length ≤ 100 := by
  rcases four h with rfl | rfl | rfl | rfl <;> (unfold Solid; decide +kernel)
theorem law2 : lawPart 2 18 = lawPart 2 3 ++ (lawPart 5 1 ++ (lawPart 6 1 ++ (lawPart 7 1 ++ (lawPart 8 1 ++ (lawPart 9 1 ++ (lawPart 10 1 ++ (lawPart 11 1 ++ (lawPart 12 1 ++ (lawPart 13 2 ++ (lawPart 15 2 ++ (lawPart 17 2 ++ lawPart 19 1))))))))))) := rfl
theorem mainS (w : World) (p : Program) (loose : List Str) (mean : ExcName → Option Value) (mg mb : Str → Option Value) (L fa : Nat) (h₀ : Heap) (s : Shared) :
    Below callerA h₀ [] h₀ → (hd.heap_39 w.params).In h₀ → Top p loose mean mg mb h₀ → CodeHd h₀ 132 130 →
    ∀ (D : Nat) (o3 o4 : Obj) (ys : List Value) (cs : List Int) (tH : Tok) (u : Str → Option Value) (h : Heap),
      o3.data = .cell (some (.ref D)) → o4.data = .cell none → 130 < L → (L + 1 + 1 + 1 + 1 ≠ D ∧ L + 1 + 1 + 1 ≠ D ∧ 130 ≠ D) → IntsAre ys cs → cs.length = 5 →
      Fr h₀ L h u → News h₀ L h [(D, LCg.lst ys), (L + 1 + 1 + 1 + 1, o4), (L + 1 + 1 + 1, o3), (130, tabObj #[])] →
      Box (wpAny (model PySem.Challenge.rw_yh0007_01.row.prog w) (lawA L fa) (execs (lawPart 2 18) (lawEnv L fa)) (fun f s' => Hold (f = .ret (.bool true) ∧ ∃ h' tk' u' pT, s' = { s with heap := h', toks := tk' } ∧ Fr h₀ L h' u' ∧ News h₀ L h' [(130, tabObj pT)])) (fun _ _ => False) { s with heap := h, toks := tH }) := by
  intro hB X' T' hCH D o3 o4 ys cs tH u h d3 d4 a1 a2 hys hlen F N
  obtain ⟨c0, c1, c2, c3, c4, t0, t1, t2, t3, t4, rfl, rfl⟩ := ints5 hys hlen
  rw [law2]
  refine execs_splitB _ _ _ (startS w p loose mean mg mb L fa h₀ s hB X' T' D o3 o4 _ _ tH u h d3 d4 a1 a2 hys hlen F N) ?_
  rintro _ zz
  refine exE5 zz ?_
  clear zz
  rintro h1 tk1 u1 tI tS ⟨rfl, F1, N1⟩
  have hi4 := fm (List.getD [c0, c1, c2, c3, c4] (Int.toNat 4) 0) 4
  revert F1 hi4
  generalize (List.getD [c0, c1, c2, c3, c4] (Int.toNat 4) 0).fmod 4 = i
  intro F1 hi4
  obtain ⟨hsol, hMl, hTl⟩ := ink_facts i hi4
  refine execs_splitB _ _ _ (fiveS w p loose mean mg mb L fa h₀ s hB X' T' D o3 o4 _ tk1 _ _ u1 h1 d3 d4 a1 a2 F1 N1) ?_
  rintro _ zz
  refine exE8 zz ?_
  clear zz
  rintro h2 tk2 u2 aH aP aG aN aR zz
  refine exE6 zz ?_
  clear zz
  rintro o5 nH nP nG nN nR ⟨rfl, d5, l1, l2, l3, l4, l5, F2, N2⟩
  refine execs_splitB _ _ _ (loop1 w p loose mean mg mb L fa h₀ s hB X' T' aH aP aG aN aR D o3 o5 nH nP nG nN nR _ _ tk2 _ _ u2 h2 d3 d5 a1 a2 l1 l2 l3 l4 l5 hys hlen F2 N2) ?_
  rintro _ zz
  refine exE8 zz ?_
  clear zz
  rintro h3 tk3 u3 hs ps gs ns rs zz
  refine exE7 zz ?_
  clear zz
  rintro mH mP mG mN mR es I ⟨rfl, F3, N3, hI, f⟩
  have hes : ∀ p ∈ es, @LT.lt Nat _ aR p.1 := fun p hp => Nat.lt_trans hI (f.h7 p hp)
  obtain ⟨i0, i1, i2, i3, eh⟩ := ints4 (a := 0) (b := 1) (c := 2) (d := 3) f.h1
  obtain ⟨j0, j1, j2, j3, ep⟩ := ints4 (a := wantC c0) (b := wantC c1) (c := wantC c2) (d := wantC c3) f.h2
  obtain ⟨g0, g1, g2, g3, eg⟩ := txts4 (a := blanks (bringC c0)) (b := blanks (bringC c1)) (c := blanks (bringC c2)) (d := blanks (bringC c3)) f.h3
  have hns : TxtsAre ns.toList [nmS (wantC c0) (bringC c0), nmS (wantC c1) (bringC c1), nmS (wantC c2) (bringC c2), nmS (wantC c3) (bringC c3)] := f.h4
  obtain ⟨n0, n1, n2, n3, en⟩ := txts4 hns
  have hrf := f.h5
  have hr4 := f.h6
  clear f
  refine execs_splitB _ _ _ (wantsS w p loose mean mg mb L fa h₀ s hB X' T' aH aP aG aN aR D o3 o5 es hs ps gs ns rs mH mP mG mN mR _ tk3 (.str (inkT i) tI) (.str (lineS 0 (inkM i) 21) tS) u3 h3 c0 c1 c2 c3 c4 t0 t1 t2 t3 t4 d3 d5 a1 a2 l1 l2 l3 l4 l5 hes rfl F3 N3) ?_
  rintro _ zz
  refine exE8 zz ?_
  clear zz
  rintro h4 tk4 u4 aW w0 w1 w2 w3 ⟨rfl, zW, F4, N4⟩
  refine execs_splitB _ _ _ (bringsS w p loose mean mg mb L fa h₀ s hB X' T' aW w0 w1 w2 w3 aH aP aG aN aR D o3 o5 es hs ps gs ns rs mH mP mG mN mR _ tk4 (.str (inkT i) tI) (.str (lineS 0 (inkM i) 21) tS) u4 h4 c0 c1 c2 c3 c4 t0 t1 t2 t3 t4 d3 d5 a1 a2 l1 l2 l3 l4 l5 hes rfl F4 N4) ?_
  rintro _ zz
  refine exE8 zz ?_
  clear zz
  rintro h5 tk5 u5 aB b0 b1 b2 b3 ⟨rfl, zB, F5, N5⟩
  refine execs_splitB _ _ _ (spell0S w p loose mean mg mb L fa h₀ s hB X' T' aW aB w0 w1 w2 w3 b0 b1 b2 b3 aH aP aG aN aR D o3 o5 es hs ps gs ns rs mH mP mG mN mR _ tk5 (.str (inkT i) tI) (.str (lineS 0 (inkM i) 21) tS) u5 h5 c0 c1 c2 c3 c4 t0 t1 t2 t3 t4 d3 d5 a1 a2 l1 l2 l3 l4 l5 hes F5 N5) ?_
  rintro _ zz
  refine exE5 zz ?_
  clear zz
  rintro h6 tk6 u6 aS nS ⟨rfl, F6, N6, s1, s2, s3, s4⟩
  refine execs_splitB _ _ _ (spelledS w p loose mean mg mb L fa h₀ s hB X' T' aS nS aW aB w0 w1 w2 w3 b0 b1 b2 b3 aH aP aG aN aR D o3 o5 es hs ps gs ns rs mH mP mG mN mR _ tk6 (.str (inkT i) tI) (.str (lineS 0 (inkM i) 21) tS) u6 h6 c0 c1 c2 c3 c4 t0 t1 t2 t3 t4 d3 d5 a1 a2 l1 l2 l3 l4 l5 hes s2 s1 s3 s4 F6 N6) ?_
  rintro _ zz
  refine exE5 zz ?_
  clear zz
  rintro h7 tk7 u7 sp nS' ⟨rfl, F7, N7, hsp⟩
  refine execs_splitB _ _ _ (cmpS w p loose mean mg mb L fa h₀ s hB X' T' aS sp nS' aW aB w0 w1 w2 w3 b0 b1 b2 b3 aH aP aG aN aR D o3 o5 es hs ps gs ns rs mH mP mG mN mR _ tk7 (.str (inkT i) tI) (.str (lineS 0 (inkM i) 21) tS) u7 h7 c0 c1 c2 c3 c4 t0 t1 t2 t3 t4 _ d3 d5 a1 a2 l1 l2 l3 l4 l5 hes rfl hns hsp ?ok hrf hr4 F7 N7) ?_
  case ok =>
    intro x hx
    simp only [List.mem_cons, List.not_mem_nil, or_false] at hx
    rcases hx with rfl | rfl | rfl | rfl <;> exact nm_ok' _
  rintro _ zz
  refine exE3 zz ?_
  clear zz
  rintro h8 tk8 u8 ⟨rfl, F8, N8⟩
  obtain rfl := arr_of eh
  obtain rfl := arr_of ep
  obtain rfl := arr_of eg
  obtain rfl := arr_of en
  have hw6 : In6 (wantC c0) ∧ In6 (wantC c1) ∧ In6 (wantC c2) ∧ In6 (wantC c3) := ⟨wantC_lt _, wantC_lt _, wantC_lt _, wantC_lt _⟩
  have hb6 : In6 (bringC c0) ∧ In6 (bringC c1) ∧ In6 (bringC c2) ∧ In6 (bringC c3) := ⟨bringC_lt _, bringC_lt _, bringC_lt _, bringC_lt _⟩
  have F9 := fr_frm F8 [(Str.ofString "brings", .ref aB), (Str.ofString "wants", .ref aW), (Str.ofString "hosts", .ref aH), (Str.ofString "ports", .ref aP), (Str.ofString "gifts", .ref aG), (Str.ofString "ink", .str (inkT i) tI), (Str.ofString "start", .str (lineS 0 (inkM i) 21) tS)] ⟨rfl, rfl, rfl, rfl, rfl, rfl, rfl, trivial⟩
  refine execs_splitB _ _ _ (sortS w p loose mean mg mb L fa h₀ s hB X' T' aB aW aN aG aP aH o5 mN mG mP mH Str.empty Str.empty Str.empty Str.empty (wantC c0) (wantC c1) (wantC c2) (wantC c3) (bringC c0) (bringC c1) (bringC c2) (bringC c3) n0 n1 n2 n3 i0 i1 i2 i3 j0 j1 j2 j3 g0 g1 g2 g3 b0 b1 b2 b3 w0 w1 w2 w3 tk8 _ _ _ h8 d5 a1 l1.2 l2 l3 l4 zW zB hCH hw6 hb6 F9 ?n9) ?_
  case n9 =>
    exact news_sub N8 ⟨.tail _ (.head _), .tail _ (.tail _ (.head _)), .tail _ (.tail _ (.tail _ (.tail _ (.head _)))), .tail _ (.tail _ (.tail _ (.tail _ (.tail _ (.head _))))), .tail _ (.tail _ (.tail _ (.tail _ (.tail _ (.tail _ (.head _)))))), .tail _ (.tail _ (.tail _ (.tail _ (.tail _ (.tail _ (.tail _ (.head _))))))), .tail _ (.tail _ (.tail _ (.tail _ (.tail _ (.tail _ (.tail _ (.tail _ (.tail _ (.head _))))))))), .tail _ (.tail _ (.tail _ (.tail _ (.tail _ (.tail _ (.tail _ (.tail _ (.tail _ (.tail _ (.tail _ (.head _))))))))))), trivial⟩
  rintro _ zz
  refine exE8 zz ?_
  clear zz
  rintro h10 tk10 u10 aO nO a b c zz
  refine exE6 zz ?_
  clear zz
  rintro d e0 e1 e2 e3 pT ⟨rfl, o, F10, N10⟩
  have F11 := fr_frm F10 [(Str.ofString "order", .ref aO), (Str.ofString "brings", .ref aB), (Str.ofString "wants", .ref aW), (Str.ofString "ports", .ref aP), (Str.ofString "gifts", .ref aG), (Str.ofString "ink", .str (inkT i) tI), (Str.ofString "start", .str (lineS 0 (inkM i) 21) tS)] ⟨rfl, rfl, rfl, rfl, rfl, rfl, rfl, trivial⟩
  refine execs_splitB _ _ _ (thereS w p loose mean mg mb L fa h₀ s hB X' T' aO aG aP _ nO mG mP a b c d (inkM i) (wantC c0) (wantC c1) (wantC c2) (wantC c3) (bringC c0) (bringC c1) (bringC c2) (bringC c3) e0 e1 e2 e3 g0 g1 g2 g3 j0 j1 j2 j3 tS tk10 _ _ _ .none _ h10 o.a4 o.b4 o.c4 o.d4 hw6 hb6 hsol hMl (.head _) (.tail _ (.tail _ (.tail _ (.head _)))) (.tail _ (.tail _ (.tail _ (.tail _ (.head _))))) F11 N10) ?_
  rintro _ zz
  refine exE4 zz ?_
  clear zz
  rintro h12 tk12 u12 q1 ⟨rfl, F12, N12⟩
  refine execs_splitB _ _ _ (backS w p loose mean mg mb L fa h₀ s hB X' T' aO aG aP _ nO mG mP a b c d (inkM i) (wantC c0) (wantC c1) (wantC c2) (wantC c3) (bringC c0) (bringC c1) (bringC c2) (bringC c3) e0 e1 e2 e3 g0 g1 g2 g3 j0 j1 j2 j3 tS tk12 _ _ _ _ _ h12 o.a4 o.b4 o.c4 o.d4 hw6 hb6 hsol hMl (.head _) (.tail _ (.tail _ (.tail _ (.head _)))) (.tail _ (.tail _ (.tail _ (.tail _ (.head _))))) F12 N12) ?_
  rintro _ zz
  refine exE4 zz ?_
  clear zz
  rintro h13 tk13 u13 q2 ⟨rfl, F13, N13⟩
  obtain ⟨P, hP⟩ : ∃ P, purseP [wantC c0, wantC c1, wantC c2, wantC c3] [bringC c0, bringC c1, bringC c2, bringC c3] (upto 24) = P := ⟨_, rfl⟩
  have E := law_end hw6 hb6 o hP
  refine execs_splitB _ _ _ (purseS w p loose mean mg mb L fa h₀ s hB X' T' [(130, tabObj pT)] P aB aW aG aP _ _ _ _ (inkM i) (inkT i) (wantC c0) (wantC c1) (wantC c2) (wantC c3) (bringC c0) (bringC c1) (bringC c2) (bringC c3) b0 b1 b2 b3 w0 w1 w2 w3 tI q1 q2 tk13 _ _ _ h13 hP F13 ?n14) ?_
  case n14 =>
    refine cb_drop N13 fun p hp => ?_
    rcases List.mem_cons.mp hp with rfl | hp
    · exact .tail _ (.head _)
    rcases List.mem_cons.mp hp with rfl | hp
    · exact .tail _ (.tail _ (.head _))
    rcases List.mem_cons.mp hp with rfl | hp
    · exact .tail _ (.tail _ (.tail _ (.tail _ (.tail _ (.head _)))))
    · exact nomatch hp
  rintro _ zz
  refine exE5 zz ?_
  clear zz
  rintro h14 tk14 u14 ta tp ⟨rfl, F14, N14⟩
  obtain ⟨E1, E2, E3, E4, E5, E6, E7, E8⟩ := E
  refine box_mono (retS w p loose mean mg mb L fa h₀ s hB X' T' _ P _ _ _ _ _ (inkM i) (inkT i) ta tp tI q1 q2 tk14 u14 h14 (ink_self i) hTl E1 E2 E3 E4 E5 E6 E7 E8 F14 N14) ?_
  rintro fl s' ⟨rfl, zz⟩
  refine exE3 zz ?_
  clear zz
  rintro h' tk' u' ⟨rfl, F', N'⟩
  exact ⟨rfl, exI4 (a0 := h') (a1 := tk') (a2 := u') (a3 := pT) ⟨rfl, F', cb_drop N' fun p hp => .tail _ (.tail _ hp)⟩⟩
end Mine
end
section -- LW
open PySem PySem.W PySem.Calls PyProof.Rows PySem.Spec
namespace Mine
theorem t0 : PySem.Challenge.rw_yh0007_01.Holds := hd (by
  k_with_none
  k_with "andf" => first | exact And.left (by with_reducible assumption) | exact And.left (And.right (by with_reducible assumption)) | exact And.left (And.right (And.right (by with_reducible assumption))) | exact And.left (And.right (And.right (And.right (by with_reducible assumption)))) | exact And.left (And.right (And.right (And.right (And.right (by with_reducible assumption))))) | exact And.left (And.right (And.right (And.right (And.right (And.right (by with_reducible assumption)))))) | exact And.right (by with_reducible assumption) | exact And.right (And.right (by with_reducible assumption)) | exact And.right (And.right (And.right (by with_reducible assumption)))
  k_with "lt" => first | with_reducible assumption | exact And.left (by with_reducible assumption) | exact And.left (And.right (by with_reducible assumption)) | exact And.left (And.right (And.right (by with_reducible assumption))) | exact And.left (And.right (And.right (And.right (by with_reducible assumption)))) | exact And.left (And.right (And.right (And.right (And.right (by with_reducible assumption))))) | exact And.left (And.right (And.right (And.right (And.right (And.right (by with_reducible assumption)))))) | (refine Nat.lt_trans (by with_reducible assumption) ?_; k_extra "lt")
  k_with "ne" => first | with_reducible assumption | exact Ne.symm (by with_reducible assumption) | (refine Nat.ne_of_lt ?_; k_extra "lt") | (refine Nat.ne_of_gt ?_; k_extra "lt") | k_extra "andf" | (refine Ne.symm ?_; k_extra "andf") | (refine Nat.ne_of_lt ?_; k_extra "lt2") | (refine Nat.ne_of_gt ?_; k_extra "lt2")
  k_with "lt2" => first | exact Nat.lt_trans (And.left (by with_reducible assumption)) (by with_reducible assumption) | exact Nat.lt_trans (And.left (And.right (by with_reducible assumption))) (by with_reducible assumption) | exact Nat.lt_trans (And.left (And.right (And.right (by with_reducible assumption)))) (by with_reducible assumption) | exact Nat.lt_trans (And.left (And.right (And.right (And.right (by with_reducible assumption))))) (by with_reducible assumption) | exact Nat.lt_trans (And.left (And.right (And.right (And.right (And.right (by with_reducible assumption)))))) (by with_reducible assumption) | exact Nat.lt_trans (And.left (And.right (And.right (And.right (And.right (And.right (by with_reducible assumption))))))) (by with_reducible assumption) | exact Nat.lt_trans (And.left (And.right (And.right (And.right (And.right (And.right (And.right (by with_reducible assumption)))))))) (by with_reducible assumption) | exact Nat.lt_trans (And.left (And.right (And.right (And.right (And.right (And.right (And.right (And.right (by with_reducible assumption))))))))) (by with_reducible assumption) | exact Nat.lt_trans (And.left (And.right (And.right (And.right (And.right (And.right (And.right (And.right (And.right (by with_reducible assumption)))))))))) (by with_reducible assumption) | exact Nat.lt_trans (And.left (And.right (And.right (And.right (And.right (And.right (And.right (And.right (And.right (And.right (by with_reducible assumption))))))))))) (by with_reducible assumption)
  k_with "omega" => first | safely (k_dflt (k_extra "om")) | safely (k_dflt lia)
  k_with "om" => first | with_reducible assumption | ((with_reducible show (_ : Nat) < _); first | exact Nat.lt_succ_self _ | decide | exact ltNl (by with_reducible assumption) (by rfl) | exact ltNl (And.left (by with_reducible assumption)) (by rfl) | exact ltNl (And.right (by with_reducible assumption)) (by rfl) | k_extra "lt") | ((with_reducible show (_ : Nat) ≤ _); first | exact Nat.le_refl _ | decide | exact leNl (by with_reducible assumption) (by rfl) | exact leNl (And.left (by with_reducible assumption)) (by rfl) | exact leNl (And.right (by with_reducible assumption)) (by rfl) | exact leNl2 (by with_reducible assumption) (by rfl) | exact leNl2 (And.left (by with_reducible assumption)) (by rfl) | exact leNl2 (And.right (by with_reducible assumption)) (by rfl) | (refine Nat.le_of_lt ?_; k_extra "lt")) | ((with_reducible show (_ : Int) < _); first | decide | k_extra "andf" | exact ltIl (by with_reducible assumption) (by rfl) | exact ltIl (And.left (by with_reducible assumption)) (by rfl) | exact ltIl (And.right (by with_reducible assumption)) (by rfl) | exact loIt (by with_reducible assumption) (by rfl) | exact loIt (And.left (by with_reducible assumption)) (by rfl) | exact loIt (And.right (by with_reducible assumption)) (by rfl) | exact loP (by with_reducible assumption) | exact loP (And.left (by with_reducible assumption)) | exact loP (And.right (by with_reducible assumption)) | exact hiP (by with_reducible assumption) (by rfl) | exact hiP (And.left (by with_reducible assumption)) (by rfl) | exact hiP (And.right (by with_reducible assumption)) (by rfl)) | ((with_reducible show (_ : Int) ≤ _); first | decide | k_extra "andf" | exact leIl (by with_reducible assumption) (by rfl) | exact leIl (And.left (by with_reducible assumption)) (by rfl) | exact leIl (And.right (by with_reducible assumption)) (by rfl) | exact leIl2 (by with_reducible assumption) (by rfl) | exact leIl2 (And.left (by with_reducible assumption)) (by rfl) | exact leIl2 (And.right (by with_reducible assumption)) (by rfl) | exact loI (by with_reducible assumption) (by rfl) | exact loI (And.left (by with_reducible assumption)) (by rfl) | exact loI (And.right (by with_reducible assumption)) (by rfl) | exact Int.le_of_lt (by with_reducible assumption)) | ((with_reducible show (_ : Nat) ≠ _); k_extra "ne")
  k_with "call builtin:sum" => (k_here; (with_reducible show wpAny _ _ (call (Value.builtin "sum") [Value.ref _]) _ _ _); (with_unfolding_all refine' sum_pick ?k0r0 ?k1r0 ?k2r0 ?k3r0 ?k4r0 ?_; (case k0r0 => with_unfolding_all rfl); (case k1r0 => k_asm); (case k2r0 => k_asm); (case k3r0 => is_list); (case k4r0 => l_ints); k_whole); intro h' tk' t' F' N'; (try k_sweep))
  k_with "steps to str.replace" => repeat' (first | (k_unfold; (try dsimp only)) | (k_end; wrow_close) | ((fail_if_success (with_reducible show wpAny _ _ (execs [_, _, _, _, _, _, _, _, _, _, _, _, _, _, _, _, _, _] _) _ _ _)); (first | walk1 | (dsimp only; walk1) | (leave1; walk_say "STEP leave1"; try dsimp only))) | fail "no step")
  w_strict (k_go0; (all_goals try k_fold))
  walk_at "steps to str.replace"
  dsimp only
  rename Fr _ _ _ _ => FX
  rename News _ _ _ _ => NX
  rename Below _ _ _ _ => BX
  rename CodeHd _ _ _ => CX
  rename Top _ _ _ _ _ _ => TX
  rename (hd.heap_39 _).In _ => XX
  rename IntsAre _ _ => IX
  rename _ ∧ _ => OX
  obtain ⟨_, z4, z3, _, _, z130⟩ := OX
  rename Obj.data _ = Data.cell (some (Value.ref _)) => dX
  rename Obj.data _ = Data.cell (bindC _ _ _ _) => q1
  clear q1
  rename Obj.data _ = Data.cell (bindC _ _ _ _) => q1
  clear q1
  rename Obj.data _ = Data.cell (bindC _ _ _ _) => q1
  clear q1
  rename Obj.data _ = Data.cell (bindC _ _ _ _) => q4
  rename 130 < _ => l0
  have T0 := @mainS
  dsimp only [lawPart, lawFor, forPart, lawEnv, lawA, lawFn, scopeOf, PySem.Challenge.pw_yh0007_01, lastOf, bodyOf, List.drop, List.take] at T0
  refine wpAny_mono (T0 _ _ _ _ _ _ _ _ _ _ BX XX TX CX _ _ _ _ _ _ _ _ dX q4 l0 ⟨z4, z3, z130⟩ IX (by rw [List.length_map, rangeKs_length]; rfl) FX (news_sub NX ⟨List.Mem.head _, List.Mem.tail _ (List.Mem.tail _ (List.Mem.head _)), List.Mem.tail _ (List.Mem.tail _ (List.Mem.tail _ (List.Mem.head _))), List.Mem.tail _ (List.Mem.tail _ (List.Mem.tail _ (List.Mem.tail _ (List.Mem.tail _ (List.Mem.tail _ (List.Mem.head _)))))), trivial⟩)).out ?_ (fun _ _ e => e.elim)
  rintro f s' ⟨rfl, zz⟩
  refine exE4 zz ?_
  clear zz
  rintro h' tk' u' pT ⟨rfl, F', N'⟩
  refine ⟨?_, GrownAt.of N' (List.Mem.head _), trivial⟩
  wrow_close)
end Mine
end
theorem PySem.Challenge.cw_yh0007_01_holds : PySem.Challenge.rw_yh0007_01.Holds :=
  Mine.t0
